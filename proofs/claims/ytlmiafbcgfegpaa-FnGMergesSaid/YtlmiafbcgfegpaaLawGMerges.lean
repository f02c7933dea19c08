/-
  The law FnGMerges. Conditions: none.
-/
import Derived.Test.YtlmiafbcgfegpaaYal
import Derived.Test.YtlmiafbcgfegpaaYis
import Derived.Test.YtlmiafbcgfegpaaCc
import Derived.Test.YtlmiafbcgfegpaaPm
set_option linter.unusedVariables false
set_option linter.unusedSimpArgs false
set_option linter.unusedSectionVars false
set_option maxRecDepth 100000
namespace Go.Proofs.Ytlmiafbcgfegpaa
open Go
def M_laws_FnGMerges (a00p : Option PA) (a00l : Nat) (a00c : Nat) (a01 : Int) (a02 : Bool) (a1p : Option PA) (a1l : Nat) (a1c : Nat) (a2p : Option PA) (a2l : Nat) (a2c : Nat) : M :=
  .alloc ty_impl_Make [.sl (a00p) (a00l) (a00c), .int .i64 (a01), .bool (a02)] fun n0 =>
  .bind none (.load (n0, 0) (.sl) fun s1 =>
    .load (n0, 1) (.int .i64) fun i2 =>
    .load (n0, 2) (.bool) fun b3 =>
    .call fn_laws_zzFits1 [.agg [.sl (s1.fst) (s1.snd.fst) (s1.snd.snd), .int .i64 (i2), .bool (b3)]] false [.c (.bool)] fun r4 =>
    .ite (!r4.fst)
    (.done .normal [.c (.tt)])
    (.ite (decide ((↑a1l : Int) > 2147483647))
      (.done .normal [.c (.tt)])
      (.done .normal [.c (.bool (decide ((↑a2l : Int) > 2147483647)))]))) [.c (.bool)] fun x5 =>
  .ite (x5.fst)
  (.done .ret [.c (.tt)])
  (.load (n0, 0) (.sl) fun s6 =>
    .load (n0, 1) (.int .i64) fun i7 =>
    .load (n0, 2) (.bool) fun b8 =>
    .call fn_laws_fits [.agg [.sl (s6.fst) (s6.snd.fst) (s6.snd.snd), .int .i64 (i7), .bool (b8)]] false [.c (.bool)] fun r9 =>
    .ite (!r9.fst)
    (.call fn_laws_alive [] false [.c (.bool)] fun r10 =>
      .done .ret [.c (.bool (r10.fst))])
    (.load (n0, 0) (.sl) fun s11 =>
      .load (n0, 1) (.int .i64) fun i12 =>
      .load (n0, 2) (.bool) fun b13 =>
      .load (n0, 0) (.sl) fun s14 =>
      .load (n0, 1) (.int .i64) fun i15 =>
      .load (n0, 2) (.bool) fun b16 =>
      .call fn_impl_GItems [.agg [.sl (s11.fst) (s11.snd.fst) (s11.snd.snd), .int .i64 (i12), .bool (b13)], .c (.sl (a1p) (a1l) (a1c))] false [.c (.sl)] fun r17 =>
      .held (n0, 0) (.sl (s14.fst) (s14.snd.fst) (s14.snd.snd)) <|
      .held (n0, 1) (.int .i64 (i15)) <|
      .held (n0, 2) (.bool (b16)) <|
      .call fn_impl_GItems [.agg [.sl (s14.fst) (s14.snd.fst) (s14.snd.snd), .int .i64 (i15), .bool (b16)], .c (.sl (a2p) (a2l) (a2c))] false [.c (.sl)] fun r18 =>
      .bind none (.load (n0, 0) (.sl) fun s19 =>
        .load (n0, 1) (.int .i64) fun i20 =>
        .load (n0, 2) (.bool) fun b21 =>
        .load (n0, 0) (.sl) fun s22 =>
        .load (n0, 1) (.int .i64) fun i23 =>
        .load (n0, 2) (.bool) fun b24 =>
        .both
        (.alloc ty_sl_impl_Item [.sl (a1p) (a1l) (a1c), .sl (a2p) (a2l) (a2c)] fun n25 =>
          .held (n0, 0) (.sl (s22.fst) (s22.snd.fst) (s22.snd.snd)) <|
          .held (n0, 1) (.int .i64 (i23)) <|
          .held (n0, 2) (.bool (b24)) <|
          .held (n0, 0) (.sl (s19.fst) (s19.snd.fst) (s19.snd.snd)) <|
          .held (n0, 1) (.int .i64 (i20)) <|
          .held (n0, 2) (.bool (b21)) <|
          .both
          (.call fn_slices_Concat_impl_Item_impl_Item [.c (.sl (some (n25, 0)) (2) (2))] false [.c (.sl)] fun r26 =>
            .held (n0, 0) (.sl (s22.fst) (s22.snd.fst) (s22.snd.snd)) <|
            .held (n0, 1) (.int .i64 (i23)) <|
            .held (n0, 2) (.bool (b24)) <|
            .held (n0, 0) (.sl (s19.fst) (s19.snd.fst) (s19.snd.snd)) <|
            .held (n0, 1) (.int .i64 (i20)) <|
            .held (n0, 2) (.bool (b21)) <|
            .both
            (.call fn_impl_GItems [.agg [.sl (s19.fst) (s19.snd.fst) (s19.snd.snd), .int .i64 (i20), .bool (b21)], .c (.sl (r26.fst.fst) (r26.fst.snd.fst) (r26.fst.snd.snd))] false [.c (.sl)] fun r27 =>
              .held (n0, 0) (.sl (s22.fst) (s22.snd.fst) (s22.snd.snd)) <|
              .held (n0, 1) (.int .i64 (i23)) <|
              .held (n0, 2) (.bool (b24)) <|
              .alloc ty_sl_impl_Item [.sl (r17.fst.fst) (r17.fst.snd.fst) (r17.fst.snd.snd), .sl (r18.fst.fst) (r18.fst.snd.fst) (r18.fst.snd.snd)] fun n28 =>
              .held (n0, 0) (.sl (s22.fst) (s22.snd.fst) (s22.snd.snd)) <|
              .held (n0, 1) (.int .i64 (i23)) <|
              .held (n0, 2) (.bool (b24)) <|
              .call fn_slices_Concat_impl_Item_impl_Item [.c (.sl (some (n28, 0)) (2) (2))] false [.c (.sl)] fun r29 =>
              .held (n0, 0) (.sl (s22.fst) (s22.snd.fst) (s22.snd.snd)) <|
              .held (n0, 1) (.int .i64 (i23)) <|
              .held (n0, 2) (.bool (b24)) <|
              .call fn_impl_GItems [.agg [.sl (s22.fst) (s22.snd.fst) (s22.snd.snd), .int .i64 (i23), .bool (b24)], .c (.sl (r29.fst.fst) (r29.fst.snd.fst) (r29.fst.snd.snd))] false [.c (.sl)] fun r30 =>
              .call fn_slices_Equal_impl_Item_impl_Item [.c (.sl (r27.fst.fst) (r27.fst.snd.fst) (r27.fst.snd.snd)), .c (.sl (r30.fst.fst) (r30.fst.snd.fst) (r30.fst.snd.snd))] false [.c (.bool)] fun r31 =>
              .ite (r31.fst)
              (.call fn_laws_alive [] false [.c (.bool)] fun r32 =>
                .done .normal [.c (.bool (r32.fst))])
              (.done .normal [.c (.ff)]))
            (.alloc ty_sl_impl_Item [.sl (r17.fst.fst) (r17.fst.snd.fst) (r17.fst.snd.snd), .sl (r18.fst.fst) (r18.fst.snd.fst) (r18.fst.snd.snd)] fun n33 =>
              .held (n0, 0) (.sl (s22.fst) (s22.snd.fst) (s22.snd.snd)) <|
              .held (n0, 1) (.int .i64 (i23)) <|
              .held (n0, 2) (.bool (b24)) <|
              .held (n0, 0) (.sl (s19.fst) (s19.snd.fst) (s19.snd.snd)) <|
              .held (n0, 1) (.int .i64 (i20)) <|
              .held (n0, 2) (.bool (b21)) <|
              .call fn_impl_GItems [.agg [.sl (s19.fst) (s19.snd.fst) (s19.snd.snd), .int .i64 (i20), .bool (b21)], .c (.sl (r26.fst.fst) (r26.fst.snd.fst) (r26.fst.snd.snd))] false [.c (.sl)] fun r34 =>
              .held (n0, 0) (.sl (s22.fst) (s22.snd.fst) (s22.snd.snd)) <|
              .held (n0, 1) (.int .i64 (i23)) <|
              .held (n0, 2) (.bool (b24)) <|
              .call fn_slices_Concat_impl_Item_impl_Item [.c (.sl (some (n33, 0)) (2) (2))] false [.c (.sl)] fun r35 =>
              .held (n0, 0) (.sl (s22.fst) (s22.snd.fst) (s22.snd.snd)) <|
              .held (n0, 1) (.int .i64 (i23)) <|
              .held (n0, 2) (.bool (b24)) <|
              .call fn_impl_GItems [.agg [.sl (s22.fst) (s22.snd.fst) (s22.snd.snd), .int .i64 (i23), .bool (b24)], .c (.sl (r35.fst.fst) (r35.fst.snd.fst) (r35.fst.snd.snd))] false [.c (.sl)] fun r36 =>
              .call fn_slices_Equal_impl_Item_impl_Item [.c (.sl (r34.fst.fst) (r34.fst.snd.fst) (r34.fst.snd.snd)), .c (.sl (r36.fst.fst) (r36.fst.snd.fst) (r36.fst.snd.snd))] false [.c (.bool)] fun r37 =>
              .ite (r37.fst)
              (.call fn_laws_alive [] false [.c (.bool)] fun r38 =>
                .done .normal [.c (.bool (r38.fst))])
              (.done .normal [.c (.ff)])))
          (.alloc ty_sl_impl_Item [.sl (r17.fst.fst) (r17.fst.snd.fst) (r17.fst.snd.snd), .sl (r18.fst.fst) (r18.fst.snd.fst) (r18.fst.snd.snd)] fun n39 =>
            .held (n0, 0) (.sl (s22.fst) (s22.snd.fst) (s22.snd.snd)) <|
            .held (n0, 1) (.int .i64 (i23)) <|
            .held (n0, 2) (.bool (b24)) <|
            .held (n0, 0) (.sl (s19.fst) (s19.snd.fst) (s19.snd.snd)) <|
            .held (n0, 1) (.int .i64 (i20)) <|
            .held (n0, 2) (.bool (b21)) <|
            .call fn_slices_Concat_impl_Item_impl_Item [.c (.sl (some (n25, 0)) (2) (2))] false [.c (.sl)] fun r40 =>
            .held (n0, 0) (.sl (s22.fst) (s22.snd.fst) (s22.snd.snd)) <|
            .held (n0, 1) (.int .i64 (i23)) <|
            .held (n0, 2) (.bool (b24)) <|
            .held (n0, 0) (.sl (s19.fst) (s19.snd.fst) (s19.snd.snd)) <|
            .held (n0, 1) (.int .i64 (i20)) <|
            .held (n0, 2) (.bool (b21)) <|
            .call fn_impl_GItems [.agg [.sl (s19.fst) (s19.snd.fst) (s19.snd.snd), .int .i64 (i20), .bool (b21)], .c (.sl (r40.fst.fst) (r40.fst.snd.fst) (r40.fst.snd.snd))] false [.c (.sl)] fun r41 =>
            .held (n0, 0) (.sl (s22.fst) (s22.snd.fst) (s22.snd.snd)) <|
            .held (n0, 1) (.int .i64 (i23)) <|
            .held (n0, 2) (.bool (b24)) <|
            .call fn_slices_Concat_impl_Item_impl_Item [.c (.sl (some (n39, 0)) (2) (2))] false [.c (.sl)] fun r42 =>
            .held (n0, 0) (.sl (s22.fst) (s22.snd.fst) (s22.snd.snd)) <|
            .held (n0, 1) (.int .i64 (i23)) <|
            .held (n0, 2) (.bool (b24)) <|
            .call fn_impl_GItems [.agg [.sl (s22.fst) (s22.snd.fst) (s22.snd.snd), .int .i64 (i23), .bool (b24)], .c (.sl (r42.fst.fst) (r42.fst.snd.fst) (r42.fst.snd.snd))] false [.c (.sl)] fun r43 =>
            .call fn_slices_Equal_impl_Item_impl_Item [.c (.sl (r41.fst.fst) (r41.fst.snd.fst) (r41.fst.snd.snd)), .c (.sl (r43.fst.fst) (r43.fst.snd.fst) (r43.fst.snd.snd))] false [.c (.bool)] fun r44 =>
            .ite (r44.fst)
            (.call fn_laws_alive [] false [.c (.bool)] fun r45 =>
              .done .normal [.c (.bool (r45.fst))])
            (.done .normal [.c (.ff)])))
        (.alloc ty_sl_impl_Item [.sl (r17.fst.fst) (r17.fst.snd.fst) (r17.fst.snd.snd), .sl (r18.fst.fst) (r18.fst.snd.fst) (r18.fst.snd.snd)] fun n46 =>
          .held (n0, 0) (.sl (s22.fst) (s22.snd.fst) (s22.snd.snd)) <|
          .held (n0, 1) (.int .i64 (i23)) <|
          .held (n0, 2) (.bool (b24)) <|
          .held (n0, 0) (.sl (s19.fst) (s19.snd.fst) (s19.snd.snd)) <|
          .held (n0, 1) (.int .i64 (i20)) <|
          .held (n0, 2) (.bool (b21)) <|
          .alloc ty_sl_impl_Item [.sl (a1p) (a1l) (a1c), .sl (a2p) (a2l) (a2c)] fun n47 =>
          .held (n0, 0) (.sl (s22.fst) (s22.snd.fst) (s22.snd.snd)) <|
          .held (n0, 1) (.int .i64 (i23)) <|
          .held (n0, 2) (.bool (b24)) <|
          .held (n0, 0) (.sl (s19.fst) (s19.snd.fst) (s19.snd.snd)) <|
          .held (n0, 1) (.int .i64 (i20)) <|
          .held (n0, 2) (.bool (b21)) <|
          .call fn_slices_Concat_impl_Item_impl_Item [.c (.sl (some (n47, 0)) (2) (2))] false [.c (.sl)] fun r48 =>
          .held (n0, 0) (.sl (s22.fst) (s22.snd.fst) (s22.snd.snd)) <|
          .held (n0, 1) (.int .i64 (i23)) <|
          .held (n0, 2) (.bool (b24)) <|
          .held (n0, 0) (.sl (s19.fst) (s19.snd.fst) (s19.snd.snd)) <|
          .held (n0, 1) (.int .i64 (i20)) <|
          .held (n0, 2) (.bool (b21)) <|
          .call fn_impl_GItems [.agg [.sl (s19.fst) (s19.snd.fst) (s19.snd.snd), .int .i64 (i20), .bool (b21)], .c (.sl (r48.fst.fst) (r48.fst.snd.fst) (r48.fst.snd.snd))] false [.c (.sl)] fun r49 =>
          .held (n0, 0) (.sl (s22.fst) (s22.snd.fst) (s22.snd.snd)) <|
          .held (n0, 1) (.int .i64 (i23)) <|
          .held (n0, 2) (.bool (b24)) <|
          .call fn_slices_Concat_impl_Item_impl_Item [.c (.sl (some (n46, 0)) (2) (2))] false [.c (.sl)] fun r50 =>
          .held (n0, 0) (.sl (s22.fst) (s22.snd.fst) (s22.snd.snd)) <|
          .held (n0, 1) (.int .i64 (i23)) <|
          .held (n0, 2) (.bool (b24)) <|
          .call fn_impl_GItems [.agg [.sl (s22.fst) (s22.snd.fst) (s22.snd.snd), .int .i64 (i23), .bool (b24)], .c (.sl (r50.fst.fst) (r50.fst.snd.fst) (r50.fst.snd.snd))] false [.c (.sl)] fun r51 =>
          .call fn_slices_Equal_impl_Item_impl_Item [.c (.sl (r49.fst.fst) (r49.fst.snd.fst) (r49.fst.snd.snd)), .c (.sl (r51.fst.fst) (r51.fst.snd.fst) (r51.fst.snd.snd))] false [.c (.bool)] fun r52 =>
          .ite (r52.fst)
          (.call fn_laws_alive [] false [.c (.bool)] fun r53 =>
            .done .normal [.c (.bool (r53.fst))])
          (.done .normal [.c (.ff)]))) [.c (.bool)] fun x54 =>
      .done .ret [.c (.bool (x54.fst))]))
theorem den_laws_FnGMerges (a00p : Option PA) (a00l : Nat) (a00c : Nat) (a01 : Int) (a02 : Bool) (a1p : Option PA) (a1l : Nat) (a1c : Nat) (a2p : Option PA) (a2l : Nat) (a2c : Nat) : denFn Try.prog Try.f6 [.agg [.sl a00p a00l a00c, .int .i64 a01, .bool a02], .c (.sl a1p a1l a1c), .c (.sl a2p a2l a2c)] = M_laws_FnGMerges a00p a00l a00c a01 a02 a1p a1l a1c a2p a2l a2c := by kernel_rfl
theorem hc_laws_FnGMerges (a00p : Option PA) (a00l : Nat) (a00c : Nat) (a01 : Int) (a02 : Bool) (a1p : Option PA) (a1l : Nat) (a1c : Nat) (a2p : Option PA) (a2l : Nat) (a2c : Nat) {h : H} {R : Value → H → Prop} (hw : wp Try.prog (M_laws_FnGMerges a00p a00l a00c a01 a02 a1p a1l a1c a2p a2l a2c) (Ret R) h) : HC Try.prog fn_laws_FnGMerges (List.map AV.val [.agg [.sl a00p a00l a00c, .int .i64 a01, .bool a02], .c (.sl a1p a1l a1c), .c (.sl a2p a2l a2c)]).toArray h R :=
  den_calls hmix Try.func6 (of_decide_eq_true rfl) (by rw [den_laws_FnGMerges]; exact hw)
section
variable {h : H} {f : PA} {ls : Value} {o : List Int}
set_option maxHeartbeats 1000000 in
theorem c_growX {c : Ck} {o : List Int} {op : Option PA} {on oc : Nat} (hr : Rdr c (op, on, oc) LN o) (hl : o.length ≤ 2147483647) {d : Int} {nl : Bool} (hd : d ≤ 128) {xs : List IV} {sp : Option PA} {n cap : Nat} (hx : Rdr c (sp, n, cap) LT xs) (hxl : xs.length ≤ 4294967294) {G : PA → Prop} (hG : Star [c] h G) :
    HT Try.prog fn_impl_grow [.agg [.sl op on oc, .int .i64 d, .bool nl], .c (.sl sp n cap)] false [.c .ptr] h fun r h' => ∃ post, (∃ (m : Nat) (f : PA), r = (some (m, 0), ()) ∧ post = [c, OcC f o, TG.MpC (beF f) o 1 (TG.dgOf d) (m, 0) (treeO o xs)]) ∧ St h G post h' := by
  apply hc_impl_grow
  unfold M_impl_grow
  have hn : n = xs.length := hx.1
  refine st_alloc (St.start hG) fun n0 _ S => ?_
  refine ld_sl S op on oc rfl (ld_sl S op on oc rfl (ld_int S rfl (ld_bool S rfl ?_)))
  refine st_callT S [.ck c] (fun G hG => c_before hr hl hG) ?_
  rintro _ _ _ ⟨f, rfl, rfl⟩ S
  dsimp only [List.cons_append, List.nil_append] at S
  refine st_held S rfl (st_held S rfl (st_held S rfl ?_))
  refine st_callT S [] (fun G hG => c_options hG) ?_
  rintro _ _ _ ⟨rfl, rfl⟩ S
  dsimp only [List.cons_append, List.nil_append] at S
  refine st_callT S [] (fun G hG => TG.c_New (lss_before hl) hd hG) ?_
  rintro _ _ _ ⟨m, rfl, rfl⟩ S
  dsimp only [List.cons_append, List.nil_append] at S
  have S := S.ats [.ck c, .ck (OcC f o), .mp (m, 0)]
  have S := S.only [.ck c, .ck (OcC f o), .mp (m, 0)]
  refine w_mid' (some 0) (fun _ h' => St h G [c, OcC f o, TG.MpC (beF f) o 1 (TG.dgOf d) (m, 0) (treeO o xs)] h') ?_ ?_
  · refine w_lp (fun r y h' => ∃ i : Nat, y = ((i : Int), ()) ∧ i + r = n ∧ St h G [c, OcC f o, TG.MpC (beF f) o 1 (TG.dgOf d) (m, 0) (treeO o (xs.take i))] h') n rfl ⟨0, rfl, by omega, S⟩ ?_
    clear S
    rintro r _ _ ⟨i, rfl, hi, S⟩
    by_cases hlt : i < n
    · obtain ⟨p, hp, hrd⟩ := hx.ptr (by omega)
      dsimp only at hp
      subst hp
      have hxi := List.getElem?_eq_getElem (show i < xs.length by omega)
      have htl := treeO_len o (xs.take i)
      have htl2 : (xs.take i).length ≤ i := List.length_take_le _ _
      simp only [Int.toNat_natCast, toNat_succ, toNat_succ2, toNat_pred]
      refine w_true (lt_t (by (first | omega | ((try dsimp only [Sh.T, Sh1.T]); omega)))) ?_
      repeat (first | refine w_nonnil ?_ | refine ld_int S rfl ?_ | refine ld_some S rfl ?_ | refine ld_ptr S _ rfl ?_ | refine ld_sls S rfl ?_ | refine ld_nil S rfl ?_ | refine ld_bool S rfl ?_ | refine st_store S (lt_ble rfl) fun _ S => ?_ | refine st_alloc S fun _ _ S => ?_ | refine st_held S rfl ?_ | refine w_guard (by (first | exact inK64 (by omega) (by omega) | omega | (constructor <;> omega) | ((try dsimp only [Sh.T, Sh1.T]); first | exact inK64 (by omega) (by omega) | omega | exact ⟨by decide, inK64 (by omega) (by omega)⟩ | trivial))) ?_ | refine bd_n rfl ?_ | refine bd_e rfl ?_ | refine bd_r ?_ | refine bd_p ?_ | refine ln_r ?_ | refine ln_e ?_ | refine w_true (b := true) rfl ?_ | refine w_false (b := false) rfl ?_ | refine w_guard (show noMeths _ _ by show _ = _; kernel_rfl) ?_ | refine w_item (S.rdr hrd) (by assumption) ?_ | refine h_item (S.rdr hrd) (by assumption) ?_ | refine w_num (S.rdr hro) (by assumption) ?_ | refine ld_sln S rfl ?_ | refine ld_sl S _ _ _ rfl ?_)
      refine st_callB S [.mp (m, 0)] (fun G hG hb => HT.re (args' := [.c (.addr (m, 0)), .agg [.int .i64 xs[i].1, .int .i64 xs[i].2]]) rfl <| TG.c_Set (x := xs[i]) (lss_before hl) (by omega) (hb (OcC f o) (by simp)) hG) ?_
      rintro _ _ _ ⟨rfl, rfl⟩ S
      dsimp only [List.cons_append, List.nil_append] at S
      have e : put (ltO o) (treeO o (xs.take i)) xs[i] = treeO o (xs.take (i + 1)) := by rw [take_snoc (by omega), treeO_snoc]
      rw [e] at S
      repeat (first | refine w_nonnil ?_ | refine ld_int S rfl ?_ | refine ld_some S rfl ?_ | refine ld_ptr S _ rfl ?_ | refine ld_sls S rfl ?_ | refine ld_nil S rfl ?_ | refine ld_bool S rfl ?_ | refine st_store S (lt_ble rfl) fun _ S => ?_ | refine st_alloc S fun _ _ S => ?_ | refine st_held S rfl ?_ | refine w_guard (by (first | exact inK64 (by omega) (by omega) | omega | (constructor <;> omega) | ((try dsimp only [Sh.T, Sh1.T]); first | exact inK64 (by omega) (by omega) | omega | exact ⟨by decide, inK64 (by omega) (by omega)⟩ | trivial))) ?_ | refine bd_n rfl ?_ | refine bd_e rfl ?_ | refine bd_r ?_ | refine bd_p ?_ | refine ln_r ?_ | refine ln_e ?_ | refine w_true (b := true) rfl ?_ | refine w_false (b := false) rfl ?_ | refine w_guard (show noMeths _ _ by show _ = _; kernel_rfl) ?_ | refine w_item (S.rdr hrd) (by assumption) ?_ | refine h_item (S.rdr hrd) (by assumption) ?_ | refine w_num (S.rdr hro) (by assumption) ?_ | refine ld_sln S rfl ?_ | refine ld_sl S _ _ _ rfl ?_)
      exact ln_n rfl (r - 1) ⟨i + 1, rfl, by omega, S.only [.ck c, .ck (OcC f o), .mp (m, 0)]⟩ (by omega)
    · rw [List.take_of_length_le (by omega)] at S
      exact w_false (lt_f (by (first | omega | ((try dsimp only [Sh.T, Sh1.T]); omega)))) (ln_e (md_e rfl S))
  · rintro _ _ S
    exact rt_1 rfl ⟨_, ⟨m, f, rfl, rfl⟩, S⟩
theorem c_GItemsX {c : Ck} {o : List Int} {op : Option PA} {on oc : Nat} (hr : Rdr c (op, on, oc) LN o) (hl : o.length ≤ 2147483647) {d : Int} {nl : Bool} (hd : d ≤ 128) {xs : List IV} {sp : Option PA} {n cap : Nat} (hx : Rdr c (sp, n, cap) LT xs) (hxl : xs.length ≤ 4294967294) {G : PA → Prop} (hG : Star [c] h G) :
    HT Try.prog fn_impl_GItems [.agg [.sl op on oc, .int .i64 d, .bool nl], .c (.sl sp n cap)] false [.c .sl] h fun r h' => ∃ post, (∃ s : SlT, r = (s, ()) ∧ OwnL LT s (treeO o xs) ∧ post = [c, SlC s LT.sz (LT.flat (treeO o xs))]) ∧ St h G post h' := by
  apply hc_impl_GItems
  unfold M_impl_GItems
  have htl := treeO_len o xs
  refine st_alloc (St.start hG) fun n0 _ S => ?_
  (refine ld_sl S op on oc rfl (ld_int S rfl (ld_bool S rfl ?_)))
  (refine st_callT S [.ck c] (fun G hG => c_growX hr hl hd hx hxl hG) ?_; rintro _ _ _ ⟨m, f, rfl, rfl⟩ S; dsimp only [List.cons_append, List.nil_append] at S)
  refine st_callV S [.mp (m, 0)] (args' := [.c (.addr (m, 0))]) rfl (fun G hG => c_Items (by omega) hG) ?_
  rintro _ _ _ ⟨s, rfl, hs, rfl⟩ S
  dsimp only [List.cons_append, List.nil_append] at S
  exact rt_1 rfl ⟨_, ⟨s, rfl, hs, rfl⟩, S.only [.ck c, .sl s]⟩
theorem cc_two {c : Ck} {s t : SlT} {xs ys : List IV} (h1 : Rdr c s LT xs) (h2 : Rdr c t LT ys) : ∀ (i : Nat) (u : SlT) (zs : List IV), [s, t][i]? = some u → [xs, ys][i]? = some zs → Rdr c u LT zs
  | 0, _, _, e1, e2 => by simp at e1 e2; subst e1; subst e2; exact h1
  | 1, _, _, e1, e2 => by simp at e1 e2; subst e1; subst e2; exact h2
  | _ + 2, _, _, e1, _ => by simp at e1
theorem cat_two (a b : List IV) : [a, b].flatten = a ++ b := by simp
set_option maxHeartbeats 4000000 in
theorem c_FnGMerges {hI : H} {o : List Int} {op : Option PA} {on oc : Nat} {d : Int} {nl : Bool} {xs : List IV} {sp : Option PA} {n cap : Nat} {ys : List IV} {sp2 : Option PA} {n2 cap2 : Nat} (hr : Rdr (BaC hI) (op, on, oc) LN o) (hx : Rdr (BaC hI) (sp, n, cap) LT xs) (hy : Rdr (BaC hI) (sp2, n2, cap2) LT ys) {G : PA → Prop} (hG : Star [BaC hI] h G) :
    HT Try.prog fn_laws_FnGMerges [.agg [.sl op on oc, .int .i64 d, .bool nl], .c (.sl sp n cap), .c (.sl sp2 n2 cap2)] false [.c .bool] h fun r h' => ∃ post, (r = (true, ()) ∧ post = [BaC hI]) ∧ St h G post h' := by
  apply hc_laws_FnGMerges
  unfold M_laws_FnGMerges
  have hn : n = xs.length := hx.1
  have hm : n2 = ys.length := hy.1
  have htl := treeO_len o xs
  have htl2 := treeO_len o ys
  have hno : on = o.length := hr.1
  refine st_alloc (St.start hG) fun n0 _ S => ?_
  refine w_mid' none (fun (y : SV [.c .bool]) h' => (y = (true, ()) ∨ y = (false, ()) ∧ on ≤ 2147483647 ∧ n ≤ 2147483647 ∧ n2 ≤ 2147483647) ∧ St h G [Ow (n0, 0) (List.map Cell.val [.sl op on oc, .int .i64 d, .bool nl]) 0, BaC hI] h') ?_ ?_
  · refine ld_sl S op on oc rfl (ld_int S rfl (ld_bool S rfl ?_))
    refine st_callT S [] (fun G hG => c_zzFits1 hG) ?_
    rintro _ _ _ ⟨rfl, rfl⟩ S
    dsimp only [List.cons_append, List.nil_append] at S
    by_cases hbo : on > 2147483647
    · exact w_true (by rw [decide_eq_false (by (first | omega | ((try dsimp only [Sh.T, Sh1.T]); omega)))]; rfl) (md_n rfl ⟨.inl rfl, S.only [.ow (n0, 0), .ck (BaC hI)]⟩)
    refine w_false (by rw [decide_eq_true (by (first | omega | ((try dsimp only [Sh.T, Sh1.T]); omega)))]; rfl) ?_
    by_cases hb0 : n > 2147483647
    · exact w_true (decide_eq_true (by omega)) (md_n rfl ⟨.inl rfl, S.only [.ow (n0, 0), .ck (BaC hI)]⟩)
    refine w_false (decide_eq_false (by omega)) ?_
    by_cases hb1 : n2 > 2147483647
    · exact md_n (x := (true, ())) (by rw [decide_eq_true (by omega)]; rfl) ⟨.inl rfl, S.only [.ow (n0, 0), .ck (BaC hI)]⟩
    exact md_n (x := (false, ())) (by rw [decide_eq_false (by omega)]; rfl) ⟨.inr ⟨rfl, by omega, by omega, by omega⟩, S.only [.ow (n0, 0), .ck (BaC hI)]⟩
  rintro _ _ ⟨rfl | ⟨rfl, hz0, hz1, hz2⟩, S⟩
  · exact w_true rfl (rt_1 rfl ⟨_, ⟨rfl, rfl⟩, S.only [.ck (BaC hI)]⟩)
  refine w_false rfl ?_
  refine ld_sl S op on oc rfl (ld_int S rfl (ld_bool S rfl ?_))
  refine st_callT S [] (fun G hG => c_fits hG) ?_
  rintro _ _ _ ⟨rfl, rfl⟩ S
  dsimp only [List.cons_append, List.nil_append] at S
  by_cases hf : d = 0 ∨ 2 ≤ d ∧ d ≤ 128
  case neg =>
    refine w_true (by rw [decide_eq_false hf]; rfl) ?_
    refine st_callT S [] (fun G hG => c_alive hG) ?_
    rintro _ _ _ ⟨rfl, rfl⟩ S
    dsimp only [List.cons_append, List.nil_append] at S
    exact rt_1 rfl ⟨_, ⟨rfl, rfl⟩, S.only [.ck (BaC hI)]⟩
  refine w_false (by rw [decide_eq_true hf]; rfl) ?_
  have hcl : (treeO o (xs ++ ys)).length ≤ xs.length + ys.length := by have := treeO_len o (xs ++ ys); rw [List.length_append] at this; exact this
  (refine ld_sl S op on oc rfl (ld_int S rfl (ld_bool S rfl ?_)))
  (refine ld_sl S op on oc rfl (ld_int S rfl (ld_bool S rfl ?_)))
  refine st_callT S [.ck (BaC hI)] (fun G hG => c_GItems hr (by omega) (by omega) hx (by omega) hG) ?_
  rintro _ _ _ ⟨s1, rfl, h1, rfl⟩ S
  dsimp only [List.cons_append, List.nil_append] at S
  refine st_held S rfl (st_held S rfl (st_held S rfl ?_))
  refine st_callT S [.ck (BaC hI)] (fun G hG => c_GItems hr (by omega) (by omega) hy (by omega) hG) ?_
  rintro _ _ _ ⟨s2, rfl, h2, rfl⟩ S
  dsimp only [List.cons_append, List.nil_append] at S
  have S := S.only [.ow (n0, 0), .ck (BaC hI), .sl s1, .sl s2]
  refine w_mid' none (fun (y : SV [.c .bool]) h' => y = (true, ()) ∧ St h G [BaC hI] h') ?_ (fun _ _ ⟨e, S⟩ => by subst e; exact rt_1 rfl ⟨_, ⟨rfl, rfl⟩, S⟩)
  · (refine ld_sl S op on oc rfl (ld_int S rfl (ld_bool S rfl ?_)))
    (refine ld_sl S op on oc rfl (ld_int S rfl (ld_bool S rfl ?_)))
    -- TREE
    refine w_both ?_ ?_
    · refine st_alloc S fun n25 _ S => ?_
      refine st_held S rfl ?_
      refine st_held S rfl ?_
      refine st_held S rfl ?_
      refine st_held S rfl ?_
      refine st_held S rfl ?_
      refine st_held S rfl ?_
      refine w_both ?_ ?_
      · have S := St.st_in (m := [Ow (n25, 0) (LS.flat [(sp, n, cap), (sp2, n2, cap2)]) 0, BaC hI]) (S.ats [.ow (n25, 0), .ck (BaC hI)])
        refine st_callT S [.ck (StC [Ow (n25, 0) (LS.flat [(sp, n, cap), (sp2, n2, cap2)]) 0, BaC hI])] (fun G hG => c_Concat (xss := [xs, ys]) (Rdr.st (i := 0) rfl (Rdr.ow (xs := [(sp, n, cap), (sp2, n2, cap2)]) rfl)) rfl (cc_two (Rdr.st (i := 1) rfl hx) (Rdr.st (i := 1) rfl hy)) (by simp) (by simp; omega) hG) ?_
        rintro _ _ _ ⟨r26, rfl, hr26, rfl⟩ S
        dsimp only [List.cons_append, List.nil_append] at S
        have S := St.st_out S
        dsimp only [List.cons_append, List.nil_append] at S
        rw [cat_two] at hr26 S
        refine st_held S rfl ?_
        refine st_held S rfl ?_
        refine st_held S rfl ?_
        refine st_held S rfl ?_
        refine st_held S rfl ?_
        refine st_held S rfl ?_
        refine w_both ?_ ?_
        · (have S := S.ats [.ck (BaC hI), .sl r26]; refine st_callT (l := StC [BaC hI, SlC r26 LT.sz (LT.flat (xs ++ ys))] :: _) (St.st_in (m := [_, _]) S) [.ck (StC [BaC hI, SlC r26 LT.sz (LT.flat (xs ++ ys))])] (fun G hG => c_GItemsX (Rdr.st (i := 0) rfl hr) (by omega) (by omega) (Rdr.st (i := 1) rfl hr26.rdr) (by simp; omega) hG) ?_)
          rintro _ _ _ ⟨r27, rfl, hr27, rfl⟩ S
          dsimp only [List.cons_append, List.nil_append] at S
          have S := St.st_out S
          dsimp only [List.cons_append, List.nil_append] at S
          refine st_held S rfl ?_
          refine st_held S rfl ?_
          refine st_held S rfl ?_
          refine st_alloc S fun n28 _ S => ?_
          refine st_held S rfl ?_
          refine st_held S rfl ?_
          refine st_held S rfl ?_
          have S := St.st_in (m := [Ow (n28, 0) (LS.flat [s1, s2]) 0, SlC s1 LT.sz (LT.flat (treeO o xs)), SlC s2 LT.sz (LT.flat (treeO o ys))]) (S.ats [.ow (n28, 0), .sl s1, .sl s2])
          refine st_callT S [.ck (StC [Ow (n28, 0) (LS.flat [s1, s2]) 0, SlC s1 LT.sz (LT.flat (treeO o xs)), SlC s2 LT.sz (LT.flat (treeO o ys))])] (fun G hG => c_Concat (xss := [treeO o xs, treeO o ys]) (Rdr.st (i := 0) rfl (Rdr.ow (xs := [s1, s2]) rfl)) rfl (cc_two (Rdr.st (i := 1) rfl h1.rdr) (Rdr.st (i := 2) rfl h2.rdr)) (by simp) (by simp; omega) hG) ?_
          rintro _ _ _ ⟨r29, rfl, hr29, rfl⟩ S
          dsimp only [List.cons_append, List.nil_append] at S
          have S := St.st_out S
          dsimp only [List.cons_append, List.nil_append] at S
          rw [cat_two] at hr29 S
          refine st_held S rfl ?_
          refine st_held S rfl ?_
          refine st_held S rfl ?_
          (have S := S.ats [.ck (BaC hI), .sl r29]; refine st_callT (l := StC [BaC hI, SlC r29 LT.sz (LT.flat (treeO o xs ++ treeO o ys))] :: _) (St.st_in (m := [_, _]) S) [.ck (StC [BaC hI, SlC r29 LT.sz (LT.flat (treeO o xs ++ treeO o ys))])] (fun G hG => c_GItemsX (Rdr.st (i := 0) rfl hr) (by omega) (by omega) (Rdr.st (i := 1) rfl hr29.rdr) (by simp; omega) hG) ?_)
          rintro _ _ _ ⟨r30, rfl, hr30, rfl⟩ S
          dsimp only [List.cons_append, List.nil_append] at S
          have S := St.st_out S
          dsimp only [List.cons_append, List.nil_append] at S
          rw [tree_merge] at hr30 S
          refine st_eqT S (.sl r27) (.sl r30) hr27.rdr hr30.rdr (by omega) fun _ S => w_true (by simp) ?_
          (refine st_callT S [] (fun G hG => c_alive hG) ?_; rintro _ _ _ ⟨rfl, rfl⟩ S; dsimp only [List.cons_append, List.nil_append] at S)
          exact md_n rfl ⟨rfl, S.only [.ck (BaC hI)]⟩
        · refine st_alloc S fun n33 _ S => ?_
          refine st_held S rfl ?_
          refine st_held S rfl ?_
          refine st_held S rfl ?_
          refine st_held S rfl ?_
          refine st_held S rfl ?_
          refine st_held S rfl ?_
          (have S := S.ats [.ck (BaC hI), .sl r26]; refine st_callT (l := StC [BaC hI, SlC r26 LT.sz (LT.flat (xs ++ ys))] :: _) (St.st_in (m := [_, _]) S) [.ck (StC [BaC hI, SlC r26 LT.sz (LT.flat (xs ++ ys))])] (fun G hG => c_GItemsX (Rdr.st (i := 0) rfl hr) (by omega) (by omega) (Rdr.st (i := 1) rfl hr26.rdr) (by simp; omega) hG) ?_)
          rintro _ _ _ ⟨r34, rfl, hr34, rfl⟩ S
          dsimp only [List.cons_append, List.nil_append] at S
          have S := St.st_out S
          dsimp only [List.cons_append, List.nil_append] at S
          refine st_held S rfl ?_
          refine st_held S rfl ?_
          refine st_held S rfl ?_
          have S := St.st_in (m := [Ow (n33, 0) (LS.flat [s1, s2]) 0, SlC s1 LT.sz (LT.flat (treeO o xs)), SlC s2 LT.sz (LT.flat (treeO o ys))]) (S.ats [.ow (n33, 0), .sl s1, .sl s2])
          refine st_callT S [.ck (StC [Ow (n33, 0) (LS.flat [s1, s2]) 0, SlC s1 LT.sz (LT.flat (treeO o xs)), SlC s2 LT.sz (LT.flat (treeO o ys))])] (fun G hG => c_Concat (xss := [treeO o xs, treeO o ys]) (Rdr.st (i := 0) rfl (Rdr.ow (xs := [s1, s2]) rfl)) rfl (cc_two (Rdr.st (i := 1) rfl h1.rdr) (Rdr.st (i := 2) rfl h2.rdr)) (by simp) (by simp; omega) hG) ?_
          rintro _ _ _ ⟨r35, rfl, hr35, rfl⟩ S
          dsimp only [List.cons_append, List.nil_append] at S
          have S := St.st_out S
          dsimp only [List.cons_append, List.nil_append] at S
          rw [cat_two] at hr35 S
          refine st_held S rfl ?_
          refine st_held S rfl ?_
          refine st_held S rfl ?_
          (have S := S.ats [.ck (BaC hI), .sl r35]; refine st_callT (l := StC [BaC hI, SlC r35 LT.sz (LT.flat (treeO o xs ++ treeO o ys))] :: _) (St.st_in (m := [_, _]) S) [.ck (StC [BaC hI, SlC r35 LT.sz (LT.flat (treeO o xs ++ treeO o ys))])] (fun G hG => c_GItemsX (Rdr.st (i := 0) rfl hr) (by omega) (by omega) (Rdr.st (i := 1) rfl hr35.rdr) (by simp; omega) hG) ?_)
          rintro _ _ _ ⟨r36, rfl, hr36, rfl⟩ S
          dsimp only [List.cons_append, List.nil_append] at S
          have S := St.st_out S
          dsimp only [List.cons_append, List.nil_append] at S
          rw [tree_merge] at hr36 S
          refine st_eqT S (.sl r34) (.sl r36) hr34.rdr hr36.rdr (by omega) fun _ S => w_true (by simp) ?_
          (refine st_callT S [] (fun G hG => c_alive hG) ?_; rintro _ _ _ ⟨rfl, rfl⟩ S; dsimp only [List.cons_append, List.nil_append] at S)
          exact md_n rfl ⟨rfl, S.only [.ck (BaC hI)]⟩
      · refine st_alloc S fun n39 _ S => ?_
        refine st_held S rfl ?_
        refine st_held S rfl ?_
        refine st_held S rfl ?_
        refine st_held S rfl ?_
        refine st_held S rfl ?_
        refine st_held S rfl ?_
        have S := St.st_in (m := [Ow (n25, 0) (LS.flat [(sp, n, cap), (sp2, n2, cap2)]) 0, BaC hI]) (S.ats [.ow (n25, 0), .ck (BaC hI)])
        refine st_callT S [.ck (StC [Ow (n25, 0) (LS.flat [(sp, n, cap), (sp2, n2, cap2)]) 0, BaC hI])] (fun G hG => c_Concat (xss := [xs, ys]) (Rdr.st (i := 0) rfl (Rdr.ow (xs := [(sp, n, cap), (sp2, n2, cap2)]) rfl)) rfl (cc_two (Rdr.st (i := 1) rfl hx) (Rdr.st (i := 1) rfl hy)) (by simp) (by simp; omega) hG) ?_
        rintro _ _ _ ⟨r40, rfl, hr40, rfl⟩ S
        dsimp only [List.cons_append, List.nil_append] at S
        have S := St.st_out S
        dsimp only [List.cons_append, List.nil_append] at S
        rw [cat_two] at hr40 S
        refine st_held S rfl ?_
        refine st_held S rfl ?_
        refine st_held S rfl ?_
        refine st_held S rfl ?_
        refine st_held S rfl ?_
        refine st_held S rfl ?_
        (have S := S.ats [.ck (BaC hI), .sl r40]; refine st_callT (l := StC [BaC hI, SlC r40 LT.sz (LT.flat (xs ++ ys))] :: _) (St.st_in (m := [_, _]) S) [.ck (StC [BaC hI, SlC r40 LT.sz (LT.flat (xs ++ ys))])] (fun G hG => c_GItemsX (Rdr.st (i := 0) rfl hr) (by omega) (by omega) (Rdr.st (i := 1) rfl hr40.rdr) (by simp; omega) hG) ?_)
        rintro _ _ _ ⟨r41, rfl, hr41, rfl⟩ S
        dsimp only [List.cons_append, List.nil_append] at S
        have S := St.st_out S
        dsimp only [List.cons_append, List.nil_append] at S
        refine st_held S rfl ?_
        refine st_held S rfl ?_
        refine st_held S rfl ?_
        have S := St.st_in (m := [Ow (n39, 0) (LS.flat [s1, s2]) 0, SlC s1 LT.sz (LT.flat (treeO o xs)), SlC s2 LT.sz (LT.flat (treeO o ys))]) (S.ats [.ow (n39, 0), .sl s1, .sl s2])
        refine st_callT S [.ck (StC [Ow (n39, 0) (LS.flat [s1, s2]) 0, SlC s1 LT.sz (LT.flat (treeO o xs)), SlC s2 LT.sz (LT.flat (treeO o ys))])] (fun G hG => c_Concat (xss := [treeO o xs, treeO o ys]) (Rdr.st (i := 0) rfl (Rdr.ow (xs := [s1, s2]) rfl)) rfl (cc_two (Rdr.st (i := 1) rfl h1.rdr) (Rdr.st (i := 2) rfl h2.rdr)) (by simp) (by simp; omega) hG) ?_
        rintro _ _ _ ⟨r42, rfl, hr42, rfl⟩ S
        dsimp only [List.cons_append, List.nil_append] at S
        have S := St.st_out S
        dsimp only [List.cons_append, List.nil_append] at S
        rw [cat_two] at hr42 S
        refine st_held S rfl ?_
        refine st_held S rfl ?_
        refine st_held S rfl ?_
        (have S := S.ats [.ck (BaC hI), .sl r42]; refine st_callT (l := StC [BaC hI, SlC r42 LT.sz (LT.flat (treeO o xs ++ treeO o ys))] :: _) (St.st_in (m := [_, _]) S) [.ck (StC [BaC hI, SlC r42 LT.sz (LT.flat (treeO o xs ++ treeO o ys))])] (fun G hG => c_GItemsX (Rdr.st (i := 0) rfl hr) (by omega) (by omega) (Rdr.st (i := 1) rfl hr42.rdr) (by simp; omega) hG) ?_)
        rintro _ _ _ ⟨r43, rfl, hr43, rfl⟩ S
        dsimp only [List.cons_append, List.nil_append] at S
        have S := St.st_out S
        dsimp only [List.cons_append, List.nil_append] at S
        rw [tree_merge] at hr43 S
        refine st_eqT S (.sl r41) (.sl r43) hr41.rdr hr43.rdr (by omega) fun _ S => w_true (by simp) ?_
        (refine st_callT S [] (fun G hG => c_alive hG) ?_; rintro _ _ _ ⟨rfl, rfl⟩ S; dsimp only [List.cons_append, List.nil_append] at S)
        exact md_n rfl ⟨rfl, S.only [.ck (BaC hI)]⟩
    · refine st_alloc S fun n46 _ S => ?_
      refine st_held S rfl ?_
      refine st_held S rfl ?_
      refine st_held S rfl ?_
      refine st_held S rfl ?_
      refine st_held S rfl ?_
      refine st_held S rfl ?_
      refine st_alloc S fun n47 _ S => ?_
      refine st_held S rfl ?_
      refine st_held S rfl ?_
      refine st_held S rfl ?_
      refine st_held S rfl ?_
      refine st_held S rfl ?_
      refine st_held S rfl ?_
      have S := St.st_in (m := [Ow (n47, 0) (LS.flat [(sp, n, cap), (sp2, n2, cap2)]) 0, BaC hI]) (S.ats [.ow (n47, 0), .ck (BaC hI)])
      refine st_callT S [.ck (StC [Ow (n47, 0) (LS.flat [(sp, n, cap), (sp2, n2, cap2)]) 0, BaC hI])] (fun G hG => c_Concat (xss := [xs, ys]) (Rdr.st (i := 0) rfl (Rdr.ow (xs := [(sp, n, cap), (sp2, n2, cap2)]) rfl)) rfl (cc_two (Rdr.st (i := 1) rfl hx) (Rdr.st (i := 1) rfl hy)) (by simp) (by simp; omega) hG) ?_
      rintro _ _ _ ⟨r48, rfl, hr48, rfl⟩ S
      dsimp only [List.cons_append, List.nil_append] at S
      have S := St.st_out S
      dsimp only [List.cons_append, List.nil_append] at S
      rw [cat_two] at hr48 S
      refine st_held S rfl ?_
      refine st_held S rfl ?_
      refine st_held S rfl ?_
      refine st_held S rfl ?_
      refine st_held S rfl ?_
      refine st_held S rfl ?_
      (have S := S.ats [.ck (BaC hI), .sl r48]; refine st_callT (l := StC [BaC hI, SlC r48 LT.sz (LT.flat (xs ++ ys))] :: _) (St.st_in (m := [_, _]) S) [.ck (StC [BaC hI, SlC r48 LT.sz (LT.flat (xs ++ ys))])] (fun G hG => c_GItemsX (Rdr.st (i := 0) rfl hr) (by omega) (by omega) (Rdr.st (i := 1) rfl hr48.rdr) (by simp; omega) hG) ?_)
      rintro _ _ _ ⟨r49, rfl, hr49, rfl⟩ S
      dsimp only [List.cons_append, List.nil_append] at S
      have S := St.st_out S
      dsimp only [List.cons_append, List.nil_append] at S
      refine st_held S rfl ?_
      refine st_held S rfl ?_
      refine st_held S rfl ?_
      have S := St.st_in (m := [Ow (n46, 0) (LS.flat [s1, s2]) 0, SlC s1 LT.sz (LT.flat (treeO o xs)), SlC s2 LT.sz (LT.flat (treeO o ys))]) (S.ats [.ow (n46, 0), .sl s1, .sl s2])
      refine st_callT S [.ck (StC [Ow (n46, 0) (LS.flat [s1, s2]) 0, SlC s1 LT.sz (LT.flat (treeO o xs)), SlC s2 LT.sz (LT.flat (treeO o ys))])] (fun G hG => c_Concat (xss := [treeO o xs, treeO o ys]) (Rdr.st (i := 0) rfl (Rdr.ow (xs := [s1, s2]) rfl)) rfl (cc_two (Rdr.st (i := 1) rfl h1.rdr) (Rdr.st (i := 2) rfl h2.rdr)) (by simp) (by simp; omega) hG) ?_
      rintro _ _ _ ⟨r50, rfl, hr50, rfl⟩ S
      dsimp only [List.cons_append, List.nil_append] at S
      have S := St.st_out S
      dsimp only [List.cons_append, List.nil_append] at S
      rw [cat_two] at hr50 S
      refine st_held S rfl ?_
      refine st_held S rfl ?_
      refine st_held S rfl ?_
      (have S := S.ats [.ck (BaC hI), .sl r50]; refine st_callT (l := StC [BaC hI, SlC r50 LT.sz (LT.flat (treeO o xs ++ treeO o ys))] :: _) (St.st_in (m := [_, _]) S) [.ck (StC [BaC hI, SlC r50 LT.sz (LT.flat (treeO o xs ++ treeO o ys))])] (fun G hG => c_GItemsX (Rdr.st (i := 0) rfl hr) (by omega) (by omega) (Rdr.st (i := 1) rfl hr50.rdr) (by simp; omega) hG) ?_)
      rintro _ _ _ ⟨r51, rfl, hr51, rfl⟩ S
      dsimp only [List.cons_append, List.nil_append] at S
      have S := St.st_out S
      dsimp only [List.cons_append, List.nil_append] at S
      rw [tree_merge] at hr51 S
      refine st_eqT S (.sl r49) (.sl r51) hr49.rdr hr51.rdr (by omega) fun _ S => w_true (by simp) ?_
      (refine st_callT S [] (fun G hG => c_alive hG) ?_; rintro _ _ _ ⟨rfl, rfl⟩ S; dsimp only [List.cons_append, List.nil_append] at S)
      exact md_n rfl ⟨rfl, S.only [.ck (BaC hI)]⟩
    -- END
end
end Go.Proofs.Ytlmiafbcgfegpaa
