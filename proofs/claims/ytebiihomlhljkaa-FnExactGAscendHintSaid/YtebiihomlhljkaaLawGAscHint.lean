/-
  The law FnExactGAscendHint. Conditions: none.
-/
import Derived.Test.YtebiihomlhljkaaYal
import Derived.Test.YtebiihomlhljkaaYah
set_option linter.unusedVariables false
set_option linter.unusedSimpArgs false
set_option linter.unusedSectionVars false
set_option maxRecDepth 100000
namespace Go.Proofs.Ytebiihomlhljkaa
open Go

def M_impl_GAscendHint (a00p : Option PA) (a00l : Nat) (a00c : Nat) (a01 : Int) (a02 : Bool) (a1p : Option PA) (a1l : Nat) (a1c : Nat) (a20 : Int) (a21 : Int) (a3 : Int) : M :=
  .alloc ty_impl_Make [.sl (a00p) (a00l) (a00c), .int .i64 (a01), .bool (a02)] fun n0 =>
  .alloc ty_impl_Item [.int .i64 (a20), .int .i64 (a21)] fun n1 =>
  .alloc ty_sl_impl_Item [.sl none (0) (0)] fun n2 =>
  .bind none (.load (n0, 0) (.sl) fun s3 =>
    .load (n0, 1) (.int .i64) fun i4 =>
    .load (n0, 2) (.bool) fun b5 =>
    .load (n1, 0) (.int .i64) fun i6 =>
    .load (n1, 1) (.int .i64) fun i7 =>
    .both
    (.call fn_impl_grow [.agg [.sl (s3.fst) (s3.snd.fst) (s3.snd.snd), .int .i64 (i4), .bool (b5)], .c (.sl (a1p) (a1l) (a1c))] false [.c (.ptr)] fun r8 =>
      .held (n1, 0) (.int .i64 (i6)) <|
      .held (n1, 1) (.int .i64 (i7)) <|
      .both
      (.call fn_impl_taker [.c (.addr (n2, 0)), .c (.int .i64 (a3))] false [.c (.raw)] fun r9 =>
        .held (n1, 0) (.int .i64 (i6)) <|
        .held (n1, 1) (.int .i64 (i7)) <|
        .alloc ty_btree_PathHint [.ff, .ff, .ff, .ff, .ff, .ff, .ff, .ff, .int .u8 (0), .int .u8 (0), .int .u8 (0), .int .u8 (0), .int .u8 (0), .int .u8 (0), .int .u8 (0), .int .u8 (0)] fun n10 =>
        .held (n1, 0) (.int .i64 (i6)) <|
        .held (n1, 1) (.int .i64 (i7)) <|
        .call fn_tg_AscendHint [.c (.ptr (r8.fst)), .agg [.int .i64 (i6), .int .i64 (i7)], .c (.raw (r9.fst)), .c (.addr (n10, 0))] true [] fun r11 =>
        .done .normal [])
      (.alloc ty_btree_PathHint [.ff, .ff, .ff, .ff, .ff, .ff, .ff, .ff, .int .u8 (0), .int .u8 (0), .int .u8 (0), .int .u8 (0), .int .u8 (0), .int .u8 (0), .int .u8 (0), .int .u8 (0)] fun n12 =>
        .held (n1, 0) (.int .i64 (i6)) <|
        .held (n1, 1) (.int .i64 (i7)) <|
        .call fn_impl_taker [.c (.addr (n2, 0)), .c (.int .i64 (a3))] false [.c (.raw)] fun r13 =>
        .held (n1, 0) (.int .i64 (i6)) <|
        .held (n1, 1) (.int .i64 (i7)) <|
        .call fn_tg_AscendHint [.c (.ptr (r8.fst)), .agg [.int .i64 (i6), .int .i64 (i7)], .c (.raw (r13.fst)), .c (.addr (n12, 0))] true [] fun r14 =>
        .done .normal []))
    (.alloc ty_btree_PathHint [.ff, .ff, .ff, .ff, .ff, .ff, .ff, .ff, .int .u8 (0), .int .u8 (0), .int .u8 (0), .int .u8 (0), .int .u8 (0), .int .u8 (0), .int .u8 (0), .int .u8 (0)] fun n15 =>
      .held (n1, 0) (.int .i64 (i6)) <|
      .held (n1, 1) (.int .i64 (i7)) <|
      .held (n0, 0) (.sl (s3.fst) (s3.snd.fst) (s3.snd.snd)) <|
      .held (n0, 1) (.int .i64 (i4)) <|
      .held (n0, 2) (.bool (b5)) <|
      .call fn_impl_grow [.agg [.sl (s3.fst) (s3.snd.fst) (s3.snd.snd), .int .i64 (i4), .bool (b5)], .c (.sl (a1p) (a1l) (a1c))] false [.c (.ptr)] fun r16 =>
      .held (n1, 0) (.int .i64 (i6)) <|
      .held (n1, 1) (.int .i64 (i7)) <|
      .call fn_impl_taker [.c (.addr (n2, 0)), .c (.int .i64 (a3))] false [.c (.raw)] fun r17 =>
      .held (n1, 0) (.int .i64 (i6)) <|
      .held (n1, 1) (.int .i64 (i7)) <|
      .call fn_tg_AscendHint [.c (.ptr (r16.fst)), .agg [.int .i64 (i6), .int .i64 (i7)], .c (.raw (r17.fst)), .c (.addr (n15, 0))] true [] fun r18 =>
      .done .normal [])) [] fun x19 =>
  .load (n2, 0) (.sl) fun s20 =>
  .done .ret [.c (.sl (s20.fst) (s20.snd.fst) (s20.snd.snd))]

theorem den_impl_GAscendHint (a00p : Option PA) (a00l : Nat) (a00c : Nat) (a01 : Int) (a02 : Bool) (a1p : Option PA) (a1l : Nat) (a1c : Nat) (a20 : Int) (a21 : Int) (a3 : Int) : denFn Try.prog Try.f49 [.agg [.sl a00p a00l a00c, .int .i64 a01, .bool a02], .c (.sl a1p a1l a1c), .agg [.int .i64 a20, .int .i64 a21], .c (.int .i64 a3)] = M_impl_GAscendHint a00p a00l a00c a01 a02 a1p a1l a1c a20 a21 a3 := by kernel_rfl
theorem hc_impl_GAscendHint (a00p : Option PA) (a00l : Nat) (a00c : Nat) (a01 : Int) (a02 : Bool) (a1p : Option PA) (a1l : Nat) (a1c : Nat) (a20 : Int) (a21 : Int) (a3 : Int) {h : H} {R : Value → H → Prop} (hw : wp Try.prog (M_impl_GAscendHint a00p a00l a00c a01 a02 a1p a1l a1c a20 a21 a3) (Ret R) h) : HC Try.prog fn_impl_GAscendHint (List.map AV.val [.agg [.sl a00p a00l a00c, .int .i64 a01, .bool a02], .c (.sl a1p a1l a1c), .agg [.int .i64 a20, .int .i64 a21], .c (.int .i64 a3)]).toArray h R :=
  den_calls hmix Try.func49 (of_decide_eq_true rfl) (by rw [den_impl_GAscendHint]; exact hw)

def M_laws_gAscendHint (a00p : Option PA) (a00l : Nat) (a00c : Nat) (a01 : Int) (a02 : Bool) (a1p : Option PA) (a1l : Nat) (a1c : Nat) (a20 : Int) (a21 : Int) (a3 : Int) : M :=
  .alloc ty_impl_Make [.sl (a00p) (a00l) (a00c), .int .i64 (a01), .bool (a02)] fun n0 =>
  .alloc ty_impl_Item [.int .i64 (a20), .int .i64 (a21)] fun n1 =>
  .load (n0, 0) (.sl) fun s2 =>
  .load (n0, 1) (.int .i64) fun i3 =>
  .load (n0, 2) (.bool) fun b4 =>
  .load (n1, 0) (.int .i64) fun i5 =>
  .load (n1, 1) (.int .i64) fun i6 =>
  .call fn_impl_GAscendHint [.agg [.sl (s2.fst) (s2.snd.fst) (s2.snd.snd), .int .i64 (i3), .bool (b4)], .c (.sl (a1p) (a1l) (a1c)), .agg [.int .i64 (i5), .int .i64 (i6)], .c (.int .i64 (a3))] false [.c (.sl)] fun r7 =>
  .load (n0, 0) (.sl) fun s8 =>
  .load (n0, 1) (.int .i64) fun i9 =>
  .load (n0, 2) (.bool) fun b10 =>
  .load (n1, 0) (.int .i64) fun i11 =>
  .load (n1, 1) (.int .i64) fun i12 =>
  .call fn_spec_GAscend [.agg [.sl (s8.fst) (s8.snd.fst) (s8.snd.snd), .int .i64 (i9), .bool (b10)], .c (.sl (a1p) (a1l) (a1c)), .agg [.int .i64 (i11), .int .i64 (i12)], .c (.int .i64 (a3))] false [.c (.sl)] fun r13 =>
  .call fn_slices_Equal_impl_Item_impl_Item [.c (.sl (r7.fst.fst) (r7.fst.snd.fst) (r7.fst.snd.snd)), .c (.sl (r13.fst.fst) (r13.fst.snd.fst) (r13.fst.snd.snd))] false [.c (.bool)] fun r14 =>
  .done .ret [.c (.bool (r14.fst))]

theorem den_laws_gAscendHint (a00p : Option PA) (a00l : Nat) (a00c : Nat) (a01 : Int) (a02 : Bool) (a1p : Option PA) (a1l : Nat) (a1c : Nat) (a20 : Int) (a21 : Int) (a3 : Int) : denFn Try.prog Try.f19 [.agg [.sl a00p a00l a00c, .int .i64 a01, .bool a02], .c (.sl a1p a1l a1c), .agg [.int .i64 a20, .int .i64 a21], .c (.int .i64 a3)] = M_laws_gAscendHint a00p a00l a00c a01 a02 a1p a1l a1c a20 a21 a3 := by kernel_rfl
theorem hc_laws_gAscendHint (a00p : Option PA) (a00l : Nat) (a00c : Nat) (a01 : Int) (a02 : Bool) (a1p : Option PA) (a1l : Nat) (a1c : Nat) (a20 : Int) (a21 : Int) (a3 : Int) {h : H} {R : Value → H → Prop} (hw : wp Try.prog (M_laws_gAscendHint a00p a00l a00c a01 a02 a1p a1l a1c a20 a21 a3) (Ret R) h) : HC Try.prog fn_laws_gAscendHint (List.map AV.val [.agg [.sl a00p a00l a00c, .int .i64 a01, .bool a02], .c (.sl a1p a1l a1c), .agg [.int .i64 a20, .int .i64 a21], .c (.int .i64 a3)]).toArray h R :=
  den_calls hmix Try.func19 (of_decide_eq_true rfl) (by rw [den_laws_gAscendHint]; exact hw)

def M_laws_FnExactGAscendHint (a00p : Option PA) (a00l : Nat) (a00c : Nat) (a01 : Int) (a02 : Bool) (a1p : Option PA) (a1l : Nat) (a1c : Nat) (a20 : Int) (a21 : Int) (a3 : Int) : M :=
  .alloc ty_impl_Make [.sl (a00p) (a00l) (a00c), .int .i64 (a01), .bool (a02)] fun n0 =>
  .alloc ty_impl_Item [.int .i64 (a20), .int .i64 (a21)] fun n1 =>
  .bind none (.load (n0, 0) (.sl) fun s2 =>
    .load (n0, 1) (.int .i64) fun i3 =>
    .load (n0, 2) (.bool) fun b4 =>
    .call fn_laws_zzFits1 [.agg [.sl (s2.fst) (s2.snd.fst) (s2.snd.snd), .int .i64 (i3), .bool (b4)]] false [.c (.bool)] fun r5 =>
    .ite (!r5.fst)
    (.done .normal [.c (.tt)])
    (.done .normal [.c (.bool (decide ((↑a1l : Int) > 2147483647)))])) [.c (.bool)] fun x6 =>
  .ite (x6.fst)
  (.done .ret [.c (.tt)])
  (.bind none (.call fn_laws_exMake [] false [.agg [.sl, .int .i64, .bool]] fun r7 =>
      .call fn_laws_exItems [] false [.c (.sl)] fun r8 =>
      .call fn_laws_gAscendHint [.agg [.sl (r7.fst.fst.fst) (r7.fst.fst.snd.fst) (r7.fst.fst.snd.snd), .int .i64 (r7.fst.snd.fst), .bool (r7.fst.snd.snd.fst)], .c (.sl (r8.fst.fst) (r8.fst.snd.fst) (r8.fst.snd.snd)), .agg [.int .i64 (4), .int .i64 (0)], .c (.int .i64 (2))] false [.c (.bool)] fun r9 =>
      .ite (r9.fst)
      (.load (n0, 1) (.int .i64) fun i10 =>
        .call fn_spec_Fits [.c (.int .i64 (i10))] false [.c (.bool)] fun r11 =>
        .ite (!r11.fst)
        (.done .normal [.c (.tt)])
        (.load (n0, 0) (.sl) fun s12 =>
          .load (n0, 1) (.int .i64) fun i13 =>
          .load (n0, 2) (.bool) fun b14 =>
          .load (n1, 0) (.int .i64) fun i15 =>
          .load (n1, 1) (.int .i64) fun i16 =>
          .call fn_laws_gAscendHint [.agg [.sl (s12.fst) (s12.snd.fst) (s12.snd.snd), .int .i64 (i13), .bool (b14)], .c (.sl (a1p) (a1l) (a1c)), .agg [.int .i64 (i15), .int .i64 (i16)], .c (.int .i64 (a3))] false [.c (.bool)] fun r17 =>
          .done .normal [.c (.bool (r17.fst))]))
      (.done .normal [.c (.ff)])) [.c (.bool)] fun x18 =>
    .done .ret [.c (.bool (x18.fst))])

theorem den_laws_FnExactGAscendHint (a00p : Option PA) (a00l : Nat) (a00c : Nat) (a01 : Int) (a02 : Bool) (a1p : Option PA) (a1l : Nat) (a1c : Nat) (a20 : Int) (a21 : Int) (a3 : Int) : denFn Try.prog Try.f4 [.agg [.sl a00p a00l a00c, .int .i64 a01, .bool a02], .c (.sl a1p a1l a1c), .agg [.int .i64 a20, .int .i64 a21], .c (.int .i64 a3)] = M_laws_FnExactGAscendHint a00p a00l a00c a01 a02 a1p a1l a1c a20 a21 a3 := by kernel_rfl
theorem hc_laws_FnExactGAscendHint (a00p : Option PA) (a00l : Nat) (a00c : Nat) (a01 : Int) (a02 : Bool) (a1p : Option PA) (a1l : Nat) (a1c : Nat) (a20 : Int) (a21 : Int) (a3 : Int) {h : H} {R : Value → H → Prop} (hw : wp Try.prog (M_laws_FnExactGAscendHint a00p a00l a00c a01 a02 a1p a1l a1c a20 a21 a3) (Ret R) h) : HC Try.prog fn_laws_FnExactGAscendHint (List.map AV.val [.agg [.sl a00p a00l a00c, .int .i64 a01, .bool a02], .c (.sl a1p a1l a1c), .agg [.int .i64 a20, .int .i64 a21], .c (.int .i64 a3)]).toArray h R :=
  den_calls hmix Try.func4 (of_decide_eq_true rfl) (by rw [den_laws_FnExactGAscendHint]; exact hw)


theorem firstO_len {I : Type} (xs : List I) (k : Int) : (firstO xs k).length ≤ xs.length := by
  unfold firstO
  split
  · exact Nat.le_refl _
  · exact List.length_take_le' _ _
section
variable {h : H}
set_option maxHeartbeats 2000000 in
theorem c_GAscendHintI {c : Ck} {o : List Int} {op : Option PA} {on oc : Nat} (hr : Rdr c (op, on, oc) LN o) (hl : o.length ≤ 2147483647) {d : Int} {nl : Bool} (hd : d ≤ 128) {xs : List IV} {sp : Option PA} {n cap : Nat} (hx : Rdr c (sp, n, cap) LT xs) (hxl : xs.length ≤ 2147483647) {x : IV} {k : Int} {G : PA → Prop} (hG : Star [c] h G) :
    HT Try.prog fn_impl_GAscendHint [.agg [.sl op on oc, .int .i64 d, .bool nl], .c (.sl sp n cap), .agg [.int .i64 x.1, .int .i64 x.2], .c (.int .i64 k)] false [.c .sl] h fun r h' => ∃ post, (∃ s : SlT, r = (s, ()) ∧ OwnL LT s (firstO (TG.fromO o (treeO o xs) x) k) ∧ post = [c, SlC s LT.sz (LT.flat (firstO (TG.fromO o (treeO o xs) x) k))]) ∧ St h G post h' := by
  apply hc_impl_GAscendHint
  unfold M_impl_GAscendHint
  have htl := treeO_len o xs
  refine st_alloc (St.start hG) fun n0 _ S => ?_
  refine st_alloc S fun n9 _ S => ?_
  refine st_alloc S fun n1 _ S => ?_
  refine w_mid' none (fun (_ : SV []) h' => ∃ a b : Nat, St h G [TkC (n1, 0) (a, 0) (b, 0) k (run (goN k) [] (TG.fromO o (treeO o xs) x)).1, c] h') ?_ ?_
  · (refine ld_sl S op on oc rfl (ld_int S rfl (ld_bool S rfl ?_)))
    refine ld_int S rfl (ld_int S rfl (w_both ?_ ?_))
    · (refine st_callT S [.ck c] (fun G hG => c_grow hr hl hd hx hxl hG) ?_; rintro _ _ _ ⟨m, f, rfl, rfl⟩ S; dsimp only [List.cons_append, List.nil_append] at S)
      have S := S.only [.ck c, .ck (OcC f o), .mp (m, 0), .ow (n9, 0), .ow (n1, 0)]
      refine st_held S rfl (st_held S rfl (w_both ?_ ?_))
      · refine st_callT S [] (fun G hG => c_taker (l := []) hG) ?_
        rintro _ _ _ ⟨a, b, rfl, rfl⟩ S
        dsimp only [List.cons_append, List.nil_append] at S
        refine st_held S rfl (st_held S rfl ?_)
        refine st_alloc S fun nh _ S => ?_
        have S : St h G (TG.HtC (some (nh, 0)) :: _) _ := St.ex_in (List.replicate 8 false, List.replicate 8 0) ⟨rfl, rfl, by simp⟩ S
        refine st_held S rfl (st_held S rfl ?_)
        have S := shut_tk (n := k) (acc := []) (s := (none, 0, 0)) ⟨rfl, Nat.le_refl _, .inl rfl⟩ ((sl_nil LT S).ats [.ow (n1, 0), .ow (a, 0), .ow (b, 0), .sl (none, 0, 0)])
        refine st_callB S [.ck (TkC (n1, 0) (a, 0) (b, 0) k []), .mp (m, 0), .ck (TG.HtC (some (nh, 0)))] (fun G hG hb => HT.re (args' := [.c (.addr (m, 0)), .agg [.int .i64 x.1, .int .i64 x.2], .c (.raw (tkF (a, 0) (b, 0))), .c (.ptr (some (nh, 0)))]) rfl <| TG.c_AscendHint (.inr (TG.hs_ok (nh, 0))) (lss_before hl) (cb_taker (n := k)) (by omega) (by simp; omega) (hb (OcC f o) (by simp)) hG) ?_
        rintro _ _ _ rfl S
        dsimp only [List.cons_append, List.nil_append] at S
        exact md_n rfl ⟨a, b, S.only [.ck (TkC (n1, 0) (a, 0) (b, 0) k (run (goN k) [] (TG.fromO o (treeO o xs) x)).1), .ck c]⟩
      · refine st_alloc S fun nh _ S => ?_
        have S : St h G (TG.HtC (some (nh, 0)) :: _) _ := St.ex_in (List.replicate 8 false, List.replicate 8 0) ⟨rfl, rfl, by simp⟩ S
        refine st_held S rfl (st_held S rfl ?_)
        refine st_callT S [] (fun G hG => c_taker (l := []) hG) ?_
        rintro _ _ _ ⟨a, b, rfl, rfl⟩ S
        dsimp only [List.cons_append, List.nil_append] at S
        refine st_held S rfl (st_held S rfl ?_)
        have S := shut_tk (n := k) (acc := []) (s := (none, 0, 0)) ⟨rfl, Nat.le_refl _, .inl rfl⟩ ((sl_nil LT S).ats [.ow (n1, 0), .ow (a, 0), .ow (b, 0), .sl (none, 0, 0)])
        refine st_callB S [.ck (TkC (n1, 0) (a, 0) (b, 0) k []), .mp (m, 0), .ck (TG.HtC (some (nh, 0)))] (fun G hG hb => HT.re (args' := [.c (.addr (m, 0)), .agg [.int .i64 x.1, .int .i64 x.2], .c (.raw (tkF (a, 0) (b, 0))), .c (.ptr (some (nh, 0)))]) rfl <| TG.c_AscendHint (.inr (TG.hs_ok (nh, 0))) (lss_before hl) (cb_taker (n := k)) (by omega) (by simp; omega) (hb (OcC f o) (by simp)) hG) ?_
        rintro _ _ _ rfl S
        dsimp only [List.cons_append, List.nil_append] at S
        exact md_n rfl ⟨a, b, S.only [.ck (TkC (n1, 0) (a, 0) (b, 0) k (run (goN k) [] (TG.fromO o (treeO o xs) x)).1), .ck c]⟩
    · refine st_alloc S fun nh _ S => ?_
      have S : St h G (TG.HtC (some (nh, 0)) :: _) _ := St.ex_in (List.replicate 8 false, List.replicate 8 0) ⟨rfl, rfl, by simp⟩ S
      refine st_held S rfl (st_held S rfl (st_held S rfl (st_held S rfl (st_held S rfl ?_))))
      (refine st_callT S [.ck c] (fun G hG => c_grow hr hl hd hx hxl hG) ?_; rintro _ _ _ ⟨m, f, rfl, rfl⟩ S; dsimp only [List.cons_append, List.nil_append] at S)
      refine st_held S rfl (st_held S rfl ?_)
      refine st_callT S [] (fun G hG => c_taker (l := []) hG) ?_
      rintro _ _ _ ⟨a, b, rfl, rfl⟩ S
      dsimp only [List.cons_append, List.nil_append] at S
      refine st_held S rfl (st_held S rfl ?_)
      have S := shut_tk (n := k) (acc := []) (s := (none, 0, 0)) ⟨rfl, Nat.le_refl _, .inl rfl⟩ ((sl_nil LT S).ats [.ow (n1, 0), .ow (a, 0), .ow (b, 0), .sl (none, 0, 0)])
      refine st_callB S [.ck (TkC (n1, 0) (a, 0) (b, 0) k []), .mp (m, 0), .ck (TG.HtC (some (nh, 0)))] (fun G hG hb => HT.re (args' := [.c (.addr (m, 0)), .agg [.int .i64 x.1, .int .i64 x.2], .c (.raw (tkF (a, 0) (b, 0))), .c (.ptr (some (nh, 0)))]) rfl <| TG.c_AscendHint (.inr (TG.hs_ok (nh, 0))) (lss_before hl) (cb_taker (n := k)) (by omega) (by simp; omega) (hb (OcC f o) (by simp)) hG) ?_
      rintro _ _ _ rfl S
      dsimp only [List.cons_append, List.nil_append] at S
      exact md_n rfl ⟨a, b, S.only [.ck (TkC (n1, 0) (a, 0) (b, 0) k (run (goN k) [] (TG.fromO o (treeO o xs) x)).1), .ck c]⟩
  rintro _ _ ⟨a, b, S⟩
  rw [run_first] at S
  obtain ⟨s, hs, S⟩ := open_tk S
  refine ld_sl S s.1 s.2.1 s.2.2 rfl ?_
  exact rt_1 rfl ⟨_, ⟨s, rfl, hs, rfl⟩, S.only [.ck c, .sl s]⟩
theorem c_gAscendHint {c : Ck} {o : List Int} {op : Option PA} {on oc : Nat} (hr : Rdr c (op, on, oc) LN o) (hl : o.length ≤ 2147483647) {d : Int} {nl : Bool} (hd : d ≤ 128) {xs : List IV} {sp : Option PA} {n cap : Nat} (hx : Rdr c (sp, n, cap) LT xs) (hxl : xs.length ≤ 2147483647) {x : IV} {k : Int} {G : PA → Prop} (hG : Star [c] h G) :
    HT Try.prog fn_laws_gAscendHint [.agg [.sl op on oc, .int .i64 d, .bool nl], .c (.sl sp n cap), .agg [.int .i64 x.1, .int .i64 x.2], .c (.int .i64 k)] false [.c .bool] h fun r h' => ∃ post, (r = (true, ()) ∧ post = [c]) ∧ St h G post h' := by
  apply hc_laws_gAscendHint
  unfold M_laws_gAscendHint
  have htl := treeO_len o xs
  have hfl := firstO_len (frO o (treeO o xs) x) k
  have hfr : (frO o (treeO o xs) x).length ≤ (treeO o xs).length := by unfold frO; rw [List.length_drop]; omega
  refine st_alloc (St.start hG) fun n0 _ S => ?_
  refine st_alloc S fun n1 _ S => ?_
  (refine ld_sl S op on oc rfl (ld_int S rfl (ld_bool S rfl ?_)))
  refine ld_int S rfl (ld_int S rfl ?_)
  refine st_callT S [.ck c] (fun G hG => c_GAscendHintI (x := x) hr hl hd hx hxl hG) ?_
  rintro _ _ _ ⟨s, rfl, hs, rfl⟩ S
  dsimp only [List.cons_append, List.nil_append] at S
  (refine ld_sl S op on oc rfl (ld_int S rfl (ld_bool S rfl ?_)))
  refine ld_int S rfl (ld_int S rfl ?_)
  refine st_callT S [.ck c] (fun G hG => c_GAscend (x := x) hr hl hx (by omega) hG) ?_
  rintro _ _ _ ⟨s2, t2, rfl, hs2, rfl⟩ S
  dsimp only [List.cons_append, List.nil_append] at S
  have e : TG.fromO o (treeO o xs) x = frO o (treeO o xs) x := rfl
  rw [e] at hs S
  refine st_eqT S (.sl s) (.sl t2) hs.rdr hs2 (by omega) fun _ S => ?_
  exact rt_1 rfl ⟨_, ⟨by simp, rfl⟩, S.only [.ck c]⟩
set_option maxHeartbeats 1000000 in
theorem c_FnExactGAscendHint {hI : H} {o : List Int} {op : Option PA} {on oc : Nat} (hr : Rdr (BaC hI) (op, on, oc) LN o) {d : Int} {nl : Bool} {xs : List IV} {sp : Option PA} {n cap : Nat} (hx : Rdr (BaC hI) (sp, n, cap) LT xs) {x : IV} {k : Int} {G : PA → Prop} (hG : Star [BaC hI] h G) :
    HT Try.prog fn_laws_FnExactGAscendHint [.agg [.sl op on oc, .int .i64 d, .bool nl], .c (.sl sp n cap), .agg [.int .i64 x.1, .int .i64 x.2], .c (.int .i64 k)] false [.c .bool] h fun r h' => ∃ post, (r = (true, ()) ∧ post = [BaC hI]) ∧ St h G post h' := by
  apply hc_laws_FnExactGAscendHint
  unfold M_laws_FnExactGAscendHint
  have hno : on = o.length := hr.1
  have hn : n = xs.length := hx.1
  refine st_alloc (St.start hG) fun n0 _ S => ?_
  refine st_alloc S fun n1 _ S => ?_
  refine w_mid' none (fun (y : SV [.c .bool]) h' => (y = (true, ()) ∨ y = (false, ()) ∧ on ≤ 2147483647 ∧ n ≤ 2147483647) ∧ St h G [Ow (n0, 0) (List.map Cell.val [.sl op on oc, .int .i64 d, .bool nl]) 0, Ow (n1, 0) (LT.cells x) 0, BaC hI] h') ?_ ?_
  · refine ld_sl S op on oc rfl (ld_int S rfl (ld_bool S rfl ?_))
    refine st_callT S [] (fun G hG => c_zzFits1 hG) ?_
    rintro _ _ _ ⟨rfl, rfl⟩ S
    dsimp only [List.cons_append, List.nil_append] at S
    by_cases hbo : on > 2147483647
    · exact w_true (by rw [decide_eq_false (by (first | omega | ((try dsimp only [Sh.T, Sh1.T]); omega)))]; rfl) (md_n rfl ⟨.inl rfl, S.only [.ow (n0, 0), .ow (n1, 0), .ck (BaC hI)]⟩)
    refine w_false (by rw [decide_eq_true (by (first | omega | ((try dsimp only [Sh.T, Sh1.T]); omega)))]; rfl) ?_
    by_cases hb0 : n > 2147483647
    · exact md_n (x := (true, ())) (by rw [decide_eq_true (by omega)]; rfl) ⟨.inl rfl, S.only [.ow (n0, 0), .ow (n1, 0), .ck (BaC hI)]⟩
    exact md_n (x := (false, ())) (by rw [decide_eq_false (by omega)]; rfl) ⟨.inr ⟨rfl, by omega, by omega⟩, S.only [.ow (n0, 0), .ow (n1, 0), .ck (BaC hI)]⟩
  rintro _ _ ⟨rfl | ⟨rfl, hz0, hz1⟩, S⟩
  · exact w_true rfl (rt_1 rfl ⟨_, ⟨rfl, rfl⟩, S.only [.ck (BaC hI)]⟩)
  refine w_false rfl ?_
  refine w_mid' none (fun (y : SV [.c .bool]) h' => y = (true, ()) ∧ St h G [BaC hI] h') ?_ (fun _ _ ⟨e, S⟩ => by subst e; exact rt_1 rfl ⟨_, ⟨rfl, rfl⟩, S⟩)
  refine st_callT S [] (fun G hG => c_exMake hG) ?_
  rintro _ _ _ ⟨rfl, rfl⟩ S
  dsimp only [List.cons_append, List.nil_append] at S
  refine st_callT S [] (fun G hG => c_exItems hG) ?_
  rintro _ _ _ ⟨ne, rfl, rfl⟩ S
  dsimp only [List.cons_append, List.nil_append] at S
  skip
  refine st_callT S [.ck (Ow (ne, 0) (LT.flat exI) 0)] (fun G hG => c_gAscendHint (o := []) (x := (4, 0)) (k := 2) Rdr.nil (by decide) (by decide) (Rdr.ow (xs := exI) rfl) (by decide) hG) ?_
  rintro _ _ _ ⟨rfl, rfl⟩ S
  dsimp only [List.cons_append, List.nil_append] at S
  refine w_true rfl (ld_int S rfl ?_)
  refine w_callT c_Fits ?_
  rintro _ _ ⟨rfl, rfl⟩
  by_cases hf : d = 0 ∨ 2 ≤ d ∧ d ≤ 128
  · refine w_false (by rw [decide_eq_true hf]; rfl) ?_
    refine ld_sl S op on oc rfl (ld_int S rfl (ld_bool S rfl ?_))
    refine ld_int S rfl (ld_int S rfl ?_)
    refine st_callT S [.ck (BaC hI)] (fun G hG => c_gAscendHint (x := x) hr (by omega) (by omega) hx (by omega) hG) ?_
    rintro _ _ _ ⟨rfl, rfl⟩ S
    dsimp only [List.cons_append, List.nil_append] at S
    exact md_n rfl ⟨rfl, S.only [.ck (BaC hI)]⟩
  · exact w_true (by rw [decide_eq_false hf]; rfl) (md_n rfl ⟨rfl, S.only [.ck (BaC hI)]⟩)
end
end Go.Proofs.Ytebiihomlhljkaa
