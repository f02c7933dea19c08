/-
  The law FnExactWAscend. Conditions: none.
-/
import Derived.Test.YtgniflegbdeokaaWgr
set_option linter.unusedVariables false
set_option linter.unusedSimpArgs false
set_option linter.unusedSectionVars false
set_option maxRecDepth 100000
namespace Go.Proofs.Ytgniflegbdeokaa
open Go
def M_laws_zzFits3 (a00 : ByteArray) (a01 : Int) : M :=
  .alloc ty_impl_Word [.str (a00), .int .i64 (a01)] fun n0 =>
  .load (n0, 0) (.str) fun i1 =>
  .ite (decide ((↑(ByteArray.size i1) : Int) > 2147483647))
  (.done .ret [.c (.ff)])
  (.done .ret [.c (.tt)])
theorem den_laws_zzFits3 (a00 : ByteArray) (a01 : Int) : denFn Try.prog Try.f41 [.agg [.str a00, .int .i64 a01]] = M_laws_zzFits3 a00 a01 := by kernel_rfl
theorem hc_laws_zzFits3 (a00 : ByteArray) (a01 : Int) {h : H} {R : Value → H → Prop} (hw : wp Try.prog (M_laws_zzFits3 a00 a01) (Ret R) h) : HC Try.prog fn_laws_zzFits3 (List.map AV.val [.agg [.str a00, .int .i64 a01]]).toArray h R :=
  den_calls hmix Try.func41 (of_decide_eq_true rfl) (by rw [den_laws_zzFits3]; exact hw)
def M_laws_zzFits2 (a0p : Option PA) (a0l : Nat) (a0c : Nat) : M :=
  .ite (decide ((↑a0l : Int) > 2147483647))
  (.done .ret [.c (.ff)])
  (.bind (some 0) (.loop [.c (.int .i64)] [.c (.int .i64 (0))] fun y0 =>
        .ite (decide (y0.fst < (↑a0l : Int)))
        (.nonnil (a0p) fun p1 =>
          .guard (((0 : Int) ≤ y0.fst) ∧ ((y0.fst : Int) < (↑a0l : Int))) <|
          .load (p1.fst, p1.snd + mulN (Int.toNat y0.fst) 2) (.str) fun i2 =>
          .load (p1.fst, p1.snd + mulN (Int.toNat y0.fst) 2 + 1) (.int .i64) fun i3 =>
          .alloc ty_impl_Word [.str ({ data := #[] }), .int .i64 (0)] fun n4 =>
          .store (n4, 0) (.str (i2)) <|
          .store (n4, 1) (.int .i64 (i3)) <|
          .load (n4, 0) (.str) fun i5 =>
          .load (n4, 1) (.int .i64) fun i6 =>
          .call fn_laws_zzFits3 [.agg [.str (i5), .int .i64 (i6)]] false [.c (.bool)] fun r7 =>
          .ite (!r7.fst)
          (.done .ret [.c (.ff)])
          (.guard (InK IntKind.i64 (y0.fst + 1)) <|
            .done .normal [.c (.int .i64 (y0.fst + 1))]))
        (.done (.exit 0) [])) [] fun x8 =>
    .done .ret [.c (.tt)])
theorem den_laws_zzFits2 (a0p : Option PA) (a0l : Nat) (a0c : Nat) : denFn Try.prog Try.f18 [.c (.sl a0p a0l a0c)] = M_laws_zzFits2 a0p a0l a0c := by kernel_rfl
theorem hc_laws_zzFits2 (a0p : Option PA) (a0l : Nat) (a0c : Nat) {h : H} {R : Value → H → Prop} (hw : wp Try.prog (M_laws_zzFits2 a0p a0l a0c) (Ret R) h) : HC Try.prog fn_laws_zzFits2 (List.map AV.val [.c (.sl a0p a0l a0c)]).toArray h R :=
  den_calls hmix Try.func18 (of_decide_eq_true rfl) (by rw [den_laws_zzFits2]; exact hw)
def M_laws_exWords  : M :=
  .alloc ty_impl_Word [.str ({ data := #[98] }), .int .i64 (1), .str ({ data := #[] }), .int .i64 (2), .str ({ data := #[97, 98] }), .int .i64 (3), .str ({ data := #[98] }), .int .i64 (4)] fun n0 =>
  .done .ret [.c (.sl (some (n0, 0)) (4) (4))]
theorem den_laws_exWords  : denFn Try.prog Try.f20 [] = M_laws_exWords  := by kernel_rfl
theorem hc_laws_exWords  {h : H} {R : Value → H → Prop} (hw : wp Try.prog (M_laws_exWords ) (Ret R) h) : HC Try.prog fn_laws_exWords (List.map AV.val []).toArray h R :=
  den_calls hmix Try.func20 (of_decide_eq_true rfl) (by rw [den_laws_exWords]; exact hw)
def M_impl_WAscend (a0 : Int) (a1p : Option PA) (a1l : Nat) (a1c : Nat) (a2 : ByteArray) (a3 : Int) : M :=
  .alloc ty_sl_impl_Word [.sl none (0) (0)] fun n0 =>
  .call fn_impl_growWords [.c (.int .i64 (a0)), .c (.sl (a1p) (a1l) (a1c))] false [.c (.ptr)] fun r1 =>
  .call fn_impl_words [.c (.addr (n0, 0)), .c (.int .i64 (a3))] false [.c (.raw)] fun r2 =>
  .call fn_mw_Ascend [.c (.ptr (r1.fst)), .c (.str (a2)), .c (.raw (r2.fst))] true [] fun r3 =>
  .load (n0, 0) (.sl) fun s4 =>
  .done .ret [.c (.sl (s4.fst) (s4.snd.fst) (s4.snd.snd))]
theorem den_impl_WAscend (a0 : Int) (a1p : Option PA) (a1l : Nat) (a1c : Nat) (a2 : ByteArray) (a3 : Int) : denFn Try.prog Try.f42 [.c (.int .i64 a0), .c (.sl a1p a1l a1c), .c (.str a2), .c (.int .i64 a3)] = M_impl_WAscend a0 a1p a1l a1c a2 a3 := by kernel_rfl
theorem hc_impl_WAscend (a0 : Int) (a1p : Option PA) (a1l : Nat) (a1c : Nat) (a2 : ByteArray) (a3 : Int) {h : H} {R : Value → H → Prop} (hw : wp Try.prog (M_impl_WAscend a0 a1p a1l a1c a2 a3) (Ret R) h) : HC Try.prog fn_impl_WAscend (List.map AV.val [.c (.int .i64 a0), .c (.sl a1p a1l a1c), .c (.str a2), .c (.int .i64 a3)]).toArray h R :=
  den_calls hmix Try.func42 (of_decide_eq_true rfl) (by rw [den_impl_WAscend]; exact hw)
def M_spec_First_impl_Word (a0p : Option PA) (a0l : Nat) (a0c : Nat) (a1 : Int) : M :=
  .bind none (.ite (decide (a1 < 1))
    (.done .normal [.c (.tt)])
    (.done .normal [.c (.bool (decide (a1 > (↑a0l : Int))))])) [.c (.bool)] fun x0 =>
  .ite (x0.fst)
  (.done .ret [.c (.sl (a0p) (a0l) (a0c))])
  (.guard (((0 : Int) ≤ a1) ∧ ((a1 : Int) ≤ (↑a0c : Int))) <|
    .done .ret [.c (.sl (slBase a0p a0c 0 2) (a1.toNat - 0) (a0c - 0))])
theorem den_spec_First_impl_Word (a0p : Option PA) (a0l : Nat) (a0c : Nat) (a1 : Int) : denFn Try.prog Try.f71 [.c (.sl a0p a0l a0c), .c (.int .i64 a1)] = M_spec_First_impl_Word a0p a0l a0c a1 := by kernel_rfl
theorem hc_spec_First_impl_Word (a0p : Option PA) (a0l : Nat) (a0c : Nat) (a1 : Int) {h : H} {R : Value → H → Prop} (hw : wp Try.prog (M_spec_First_impl_Word a0p a0l a0c a1) (Ret R) h) : HC Try.prog fn_spec_First_impl_Word (List.map AV.val [.c (.sl a0p a0l a0c), .c (.int .i64 a1)]).toArray h R :=
  den_calls hmix Try.func71 (of_decide_eq_true rfl) (by rw [den_spec_First_impl_Word]; exact hw)
def M_spec_WAscend (a0p : Option PA) (a0l : Nat) (a0c : Nat) (a1 : ByteArray) (a2 : Int) : M :=
  .call fn_spec_Words [.c (.sl (a0p) (a0l) (a0c))] false [.c (.sl)] fun r0 =>
  .call fn_spec_spot [.c (.sl (r0.fst.fst) (r0.fst.snd.fst) (r0.fst.snd.snd)), .c (.str (a1))] true [.c (.int .i64), .c (.bool)] fun r1 =>
  .guard (((0 : Int) ≤ r1.fst) ∧ ((r1.fst : Int) ≤ (↑r0.fst.snd.fst : Int))) <|
  .call fn_spec_First_impl_Word [.c (.sl (slBase r0.fst.fst r0.fst.snd.snd (Int.toNat r1.fst) 2) (r0.fst.snd.fst - Int.toNat r1.fst) (r0.fst.snd.snd - Int.toNat r1.fst)), .c (.int .i64 (a2))] false [.c (.sl)] fun r2 =>
  .done .ret [.c (.sl (r2.fst.fst) (r2.fst.snd.fst) (r2.fst.snd.snd))]
theorem den_spec_WAscend (a0p : Option PA) (a0l : Nat) (a0c : Nat) (a1 : ByteArray) (a2 : Int) : denFn Try.prog Try.f43 [.c (.sl a0p a0l a0c), .c (.str a1), .c (.int .i64 a2)] = M_spec_WAscend a0p a0l a0c a1 a2 := by kernel_rfl
theorem hc_spec_WAscend (a0p : Option PA) (a0l : Nat) (a0c : Nat) (a1 : ByteArray) (a2 : Int) {h : H} {R : Value → H → Prop} (hw : wp Try.prog (M_spec_WAscend a0p a0l a0c a1 a2) (Ret R) h) : HC Try.prog fn_spec_WAscend (List.map AV.val [.c (.sl a0p a0l a0c), .c (.str a1), .c (.int .i64 a2)]).toArray h R :=
  den_calls hmix Try.func43 (of_decide_eq_true rfl) (by rw [den_spec_WAscend]; exact hw)
def M_slices_Equal_impl_Word_impl_Word (a0p : Option PA) (a0l : Nat) (a0c : Nat) (a1p : Option PA) (a1l : Nat) (a1c : Nat) : M :=
  .ite ((↑a0l : Int) != (↑a1l : Int))
  (.done .ret [.c (.ff)])
  (.bind (some 0) (.loop [.c (.int .i64)] [.c (.int .i64 (0))] fun y0 =>
        .ite (decide (y0.fst < (↑a0l : Int)))
        (.nonnil (a0p) fun p1 =>
          .guard (((0 : Int) ≤ y0.fst) ∧ ((y0.fst : Int) < (↑a0l : Int))) <|
          .load (p1.fst, p1.snd + mulN (Int.toNat y0.fst) 2) (.str) fun i2 =>
          .load (p1.fst, p1.snd + mulN (Int.toNat y0.fst) 2 + 1) (.int .i64) fun i3 =>
          .nonnil (a1p) fun p4 =>
          .guard (((0 : Int) ≤ y0.fst) ∧ ((y0.fst : Int) < (↑a1l : Int))) <|
          .load (p4.fst, p4.snd + mulN (Int.toNat y0.fst) 2) (.str) fun i5 =>
          .load (p4.fst, p4.snd + mulN (Int.toNat y0.fst) 2 + 1) (.int .i64) fun i6 =>
          .ite (!(i2 == i5 && (i3 == i6 && true)))
          (.done .ret [.c (.ff)])
          (.guard (InK IntKind.i64 (y0.fst + 1)) <|
            .done .normal [.c (.int .i64 (y0.fst + 1))]))
        (.done (.exit 0) [])) [] fun x7 =>
    .done .ret [.c (.tt)])
theorem den_slices_Equal_impl_Word_impl_Word (a0p : Option PA) (a0l : Nat) (a0c : Nat) (a1p : Option PA) (a1l : Nat) (a1c : Nat) : denFn Try.prog Try.f44 [.c (.sl a0p a0l a0c), .c (.sl a1p a1l a1c)] = M_slices_Equal_impl_Word_impl_Word a0p a0l a0c a1p a1l a1c := by kernel_rfl
theorem hc_slices_Equal_impl_Word_impl_Word (a0p : Option PA) (a0l : Nat) (a0c : Nat) (a1p : Option PA) (a1l : Nat) (a1c : Nat) {h : H} {R : Value → H → Prop} (hw : wp Try.prog (M_slices_Equal_impl_Word_impl_Word a0p a0l a0c a1p a1l a1c) (Ret R) h) : HC Try.prog fn_slices_Equal_impl_Word_impl_Word (List.map AV.val [.c (.sl a0p a0l a0c), .c (.sl a1p a1l a1c)]).toArray h R :=
  den_calls hmix Try.func44 (of_decide_eq_true rfl) (by rw [den_slices_Equal_impl_Word_impl_Word]; exact hw)
def M_laws_wAscend (a0 : Int) (a1p : Option PA) (a1l : Nat) (a1c : Nat) (a2 : ByteArray) (a3 : Int) : M :=
  .call fn_impl_WAscend [.c (.int .i64 (a0)), .c (.sl (a1p) (a1l) (a1c)), .c (.str (a2)), .c (.int .i64 (a3))] false [.c (.sl)] fun r0 =>
  .call fn_spec_WAscend [.c (.sl (a1p) (a1l) (a1c)), .c (.str (a2)), .c (.int .i64 (a3))] false [.c (.sl)] fun r1 =>
  .call fn_slices_Equal_impl_Word_impl_Word [.c (.sl (r0.fst.fst) (r0.fst.snd.fst) (r0.fst.snd.snd)), .c (.sl (r1.fst.fst) (r1.fst.snd.fst) (r1.fst.snd.snd))] false [.c (.bool)] fun r2 =>
  .done .ret [.c (.bool (r2.fst))]
theorem den_laws_wAscend (a0 : Int) (a1p : Option PA) (a1l : Nat) (a1c : Nat) (a2 : ByteArray) (a3 : Int) : denFn Try.prog Try.f19 [.c (.int .i64 a0), .c (.sl a1p a1l a1c), .c (.str a2), .c (.int .i64 a3)] = M_laws_wAscend a0 a1p a1l a1c a2 a3 := by kernel_rfl
theorem hc_laws_wAscend (a0 : Int) (a1p : Option PA) (a1l : Nat) (a1c : Nat) (a2 : ByteArray) (a3 : Int) {h : H} {R : Value → H → Prop} (hw : wp Try.prog (M_laws_wAscend a0 a1p a1l a1c a2 a3) (Ret R) h) : HC Try.prog fn_laws_wAscend (List.map AV.val [.c (.int .i64 a0), .c (.sl a1p a1l a1c), .c (.str a2), .c (.int .i64 a3)]).toArray h R :=
  den_calls hmix Try.func19 (of_decide_eq_true rfl) (by rw [den_laws_wAscend]; exact hw)
def M_laws_FnExactWAscend (a0 : Int) (a1p : Option PA) (a1l : Nat) (a1c : Nat) (a2 : ByteArray) (a3 : Int) : M :=
  .bind none (.call fn_laws_zzFits2 [.c (.sl (a1p) (a1l) (a1c))] false [.c (.bool)] fun r0 =>
    .ite (!r0.fst)
    (.done .normal [.c (.tt)])
    (.done .normal [.c (.bool (decide ((↑a2.size : Int) > 2147483647)))])) [.c (.bool)] fun x1 =>
  .ite (x1.fst)
  (.done .ret [.c (.tt)])
  (.bind none (.call fn_laws_exWords [] false [.c (.sl)] fun r2 =>
      .call fn_laws_wAscend [.c (.int .i64 (2)), .c (.sl (r2.fst.fst) (r2.fst.snd.fst) (r2.fst.snd.snd)), .c (.str ({ data := #[98] })), .c (.int .i64 (2))] false [.c (.bool)] fun r3 =>
      .ite (r3.fst)
      (.call fn_spec_Fits [.c (.int .i64 (a0))] false [.c (.bool)] fun r4 =>
        .ite (r4.fst)
        (.ite (!decide (a0 > 0))
          (.done .normal [.c (.tt)])
          (.call fn_laws_wAscend [.c (.int .i64 (a0)), .c (.sl (a1p) (a1l) (a1c)), .c (.str (a2)), .c (.int .i64 (a3))] false [.c (.bool)] fun r5 =>
            .done .normal [.c (.bool (r5.fst))]))
        (.done .normal [.c (.tt)]))
      (.done .normal [.c (.ff)])) [.c (.bool)] fun x6 =>
    .done .ret [.c (.bool (x6.fst))])
theorem den_laws_FnExactWAscend (a0 : Int) (a1p : Option PA) (a1l : Nat) (a1c : Nat) (a2 : ByteArray) (a3 : Int) : denFn Try.prog Try.f6 [.c (.int .i64 a0), .c (.sl a1p a1l a1c), .c (.str a2), .c (.int .i64 a3)] = M_laws_FnExactWAscend a0 a1p a1l a1c a2 a3 := by kernel_rfl
theorem hc_laws_FnExactWAscend (a0 : Int) (a1p : Option PA) (a1l : Nat) (a1c : Nat) (a2 : ByteArray) (a3 : Int) {h : H} {R : Value → H → Prop} (hw : wp Try.prog (M_laws_FnExactWAscend a0 a1p a1l a1c a2 a3) (Ret R) h) : HC Try.prog fn_laws_FnExactWAscend (List.map AV.val [.c (.int .i64 a0), .c (.sl a1p a1l a1c), .c (.str a2), .c (.int .i64 a3)]).toArray h R :=
  den_calls hmix Try.func6 (of_decide_eq_true rfl) (by rw [den_laws_FnExactWAscend]; exact hw)
section
variable {h : H}
theorem c_zzFits3 {x : WV} {G : PA → Prop} (hG : Star [] h G) :
    HT Try.prog fn_laws_zzFits3 [.agg [.str x.1, .int .i64 x.2]] false [.c .bool] h fun r h' => ∃ post, ((∃ b : Bool, r = (b, ())) ∧ post = []) ∧ St h G post h' := by
  apply hc_laws_zzFits3
  unfold M_laws_zzFits3
  refine st_alloc (St.start hG) fun n0 _ S => ?_
  refine ld_str S rfl ?_
  by_cases hb : (x.1.size : Int) > 2147483647
  · first
    | exact w_true (decide_eq_true hb) (rt_1 rfl ⟨_, ⟨⟨_, rfl⟩, rfl⟩, S.drop⟩)
    | exact rt_1 rfl ⟨_, ⟨⟨_, rfl⟩, rfl⟩, S.drop⟩
  · first
    | exact w_false (decide_eq_false hb) (rt_1 rfl ⟨_, ⟨⟨_, rfl⟩, rfl⟩, S.drop⟩)
    | exact rt_1 rfl ⟨_, ⟨⟨_, rfl⟩, rfl⟩, S.drop⟩
theorem c_zzFits2 {c : Ck} {xs : List WV} {sp : Option PA} {n cap : Nat} (hx : Rdr c (sp, n, cap) LW xs) {G : PA → Prop} (hG : Star [c] h G) :
    HT Try.prog fn_laws_zzFits2 [.c (.sl sp n cap)] false [.c .bool] h fun r h' => ∃ post, ((∃ b : Bool, r = (b, ()) ∧ (b = true → n ≤ 2147483647)) ∧ post = [c]) ∧ St h G post h' := by
  apply hc_laws_zzFits2
  unfold M_laws_zzFits2
  have hn : n = xs.length := hx.1
  have S := St.start hG
  by_cases hbig : n > 2147483647
  · exact w_true (decide_eq_true (by omega)) (rt_1 rfl ⟨_, ⟨⟨false, rfl, fun e => by cases e⟩, rfl⟩, S⟩)
  refine w_false (decide_eq_false (by omega)) ?_
  refine w_bnd (w_lp (fun r y h' => ∃ i : Nat, y = ((i : Int), ()) ∧ i + r = n ∧ St h G [c] h') n rfl ⟨0, rfl, by omega, S⟩ ?_)
  clear S
  rintro r _ _ ⟨i, rfl, hi, S⟩
  by_cases hlt : i < n
  · obtain ⟨p, hp, hrd⟩ := hx.ptr (by omega)
    dsimp only at hp
    subst hp
    have hxi := List.getElem?_eq_getElem (show i < xs.length by omega)
    simp only [Int.toNat_natCast, toNat_succ, toNat_succ2, toNat_pred]
    refine w_true (lt_t (by (first | omega | ((try dsimp only [Sh.T, Sh1.T]); omega)))) (w_nonnil (w_guard ⟨by (first | omega | ((try dsimp only [Sh.T, Sh1.T]); omega)), by (first | omega | ((try dsimp only [Sh.T, Sh1.T]); omega))⟩ (w_word (S.rdr hrd) hxi ?_)))
    refine st_alloc S fun n4 _ S => ?_
    refine st_store S (lt_ble rfl) fun _ S => ?_
    refine st_store S (lt_ble rfl) fun _ S => ?_
    refine ld_str S rfl (ld_int S rfl ?_)
    refine st_callV S [] (args' := [.agg [.str xs[i].1, .int .i64 xs[i].2]]) rfl (fun G hG => c_zzFits3 hG) ?_
    rintro _ _ _ ⟨⟨b, rfl⟩, rfl⟩ S
    dsimp only [List.cons_append, List.nil_append] at S
    cases b with
    | false => exact w_true rfl (ln_r (bd_r (rt_1 rfl ⟨_, ⟨⟨false, rfl, fun e => by cases e⟩, rfl⟩, S.only [.ck c]⟩)))
    | true =>
      refine w_false rfl (w_guard (inK64 (by (first | omega | ((try dsimp only [Sh.T, Sh1.T]); omega))) (by (first | omega | ((try dsimp only [Sh.T, Sh1.T]); omega)))) ?_)
      exact ln_n rfl (r - 1) ⟨i + 1, rfl, by omega, S.only [.ck c]⟩ (by omega)
  · exact w_false (lt_f (by (first | omega | ((try dsimp only [Sh.T, Sh1.T]); omega)))) (ln_e (bd_e rfl (rt_1 rfl ⟨_, ⟨⟨true, rfl, fun _ => by omega⟩, rfl⟩, S⟩)))
def exW : List WV := [(⟨#[98]⟩, 1), (⟨#[]⟩, 2), (⟨#[97, 98]⟩, 3), (⟨#[98]⟩, 4)]
theorem c_exWords {G : PA → Prop} (hG : Star [] h G) : HT Try.prog fn_laws_exWords [] false [.c .sl] h fun r h' => ∃ post, (∃ n : Nat, r = ((some (n, 0), 4, 4), ()) ∧ post = [Ow (n, 0) (LW.flat exW) 0]) ∧ St h G post h' := by
  apply hc_laws_exWords
  unfold M_laws_exWords
  refine st_alloc (St.start hG) fun n _ S => ?_
  exact rt_1 rfl ⟨_, ⟨n, rfl, rfl⟩, S⟩
set_option maxHeartbeats 1000000 in
theorem c_WAscendI {c : Ck} {d : Int} (hd : d ≤ 536870912) {xs : List WV} {sp : Option PA} {n cap : Nat} (hx : Rdr c (sp, n, cap) LW xs) (hxl : xs.length ≤ 2147483647) {k : ByteArray} {m : Int} {G : PA → Prop} (hG : Star [c] h G) :
    HT Try.prog fn_impl_WAscend [.c (.int .i64 d), .c (.sl sp n cap), .c (.str k), .c (.int .i64 m)] false [.c .sl] h fun r h' => ∃ post, (∃ s : SlT, r = (s, ()) ∧ OwnL LW s (firstO (MW.fromO (treeW xs) k) m) ∧ post = [c, SlC s LW.sz (LW.flat (firstO (MW.fromO (treeW xs) k) m))]) ∧ St h G post h' := by
  apply hc_impl_WAscend
  unfold M_impl_WAscend
  have htl := treeW_len xs
  have hl2 : ([] : List WV).length + (treeW xs).length ≤ 4294967296 := by simp; omega
  refine st_alloc (St.start hG) fun n1 _ S => ?_
  refine st_callT S [.ck c] (fun G hG => c_growWords hd hx hxl hG) ?_
  rintro _ _ _ ⟨mp, rfl, rfl⟩ S
  dsimp only [List.cons_append, List.nil_append] at S
  refine st_callT S [.ow (n1, 0)] (fun G hG => c_words hG) ?_
  rintro _ _ _ ⟨fp, f0, f1, rfl, rfl⟩ S
  dsimp only [List.cons_append, List.nil_append] at S
  refine st_callV S [.ck (WrC (n1, 0) fp f0 f1 m []), .mp (mp, 0)] (args' := [.c (.addr (mp, 0)), .c (.str k), .c (.raw (wrF fp))]) rfl (fun G hG => MW.c_Ascend (cb_words (n := m)) hl2 hG) ?_
  rintro _ _ _ rfl S
  dsimp only [List.cons_append, List.nil_append] at S
  rw [run_first] at S
  obtain ⟨s, hs, S⟩ := open_wr S
  refine ld_sl S s.1 s.2.1 s.2.2 rfl ?_
  exact rt_1 rfl ⟨_, ⟨s, rfl, hs, rfl⟩, S.only [.ck c, .sl s]⟩
theorem c_FirstW {c : Ck} {xs : List WV} {sp : Option PA} {n cap : Nat} (hx : Rdr c (sp, n, cap) LW xs) {k : Int} :
    HT Try.prog fn_spec_First_impl_Word [.c (.sl sp n cap), .c (.int .i64 k)] false [.c .sl] h fun r h' => (∃ s : SlT, r = (s, ()) ∧ Rdr c s LW (firstO xs k)) ∧ h' = h := by
  apply hc_spec_First_impl_Word
  unfold M_spec_First_impl_Word
  have hn : n = xs.length := hx.1
  have hcap : n ≤ cap := hx.2.1
  by_cases h1 : k < 1 ∨ k > xs.length
  · have e : firstO xs k = xs := if_pos h1
    rw [e]
    have hb : decide (k < 1) = true ∨ decide (k < 1) = false ∧ decide (k > (n : Int)) = true := by
      by_cases h2 : k < 1
      · exact .inl (decide_eq_true h2)
      · exact .inr ⟨decide_eq_false h2, decide_eq_true (by omega)⟩
    rcases hb with hb | ⟨hb, hb2⟩
    · exact w_bnd (w_true hb (bd_n rfl (w_true rfl (rt_1 rfl ⟨⟨_, rfl, hx⟩, rfl⟩))))
    · exact w_bnd (w_false hb (bd_n (x := (true, ())) (by rw [hb2]; rfl) (w_true rfl (rt_1 rfl ⟨⟨_, rfl, hx⟩, rfl⟩))))
  · have e : firstO xs k = xs.take k.toNat := if_neg h1
    rw [e]
    refine w_bnd (w_false (decide_eq_false (by omega)) (bd_n (x := (false, ())) (by rw [decide_eq_false (show ¬ k > (n : Int) by omega)]; rfl) (w_false rfl (w_guard ⟨by omega, by omega⟩ (rt_1 rfl ⟨⟨_, rfl, ?_⟩, rfl⟩)))))
    have := hx.part 0 k.toNat (by omega)
    rw [List.drop_zero] at this
    exact this
theorem c_WAscendS {c : Ck} {xs : List WV} {sp : Option PA} {n cap : Nat} (hx : Rdr c (sp, n, cap) LW xs) (hxl : xs.length ≤ 2147483647) {k : ByteArray} {m : Int} {G : PA → Prop} (hG : Star [c] h G) :
    HT Try.prog fn_spec_WAscend [.c (.sl sp n cap), .c (.str k), .c (.int .i64 m)] false [.c .sl] h fun r h' => ∃ post, (∃ s t : SlT, r = (s, ()) ∧ Rdr (SlC t LW.sz (LW.flat (treeW xs))) s LW (firstO (MW.fromO (treeW xs) k) m) ∧ post = [c, SlC t LW.sz (LW.flat (treeW xs))]) ∧ St h G post h' := by
  apply hc_spec_WAscend
  unfold M_spec_WAscend
  have htl := treeW_len xs
  refine st_callT (St.start hG) [.ck c] (fun G hG => c_Words hx hxl hG) ?_
  rintro _ _ _ ⟨⟨tp, tn, tc⟩, rfl, ht, rfl⟩ S
  dsimp only [List.cons_append, List.nil_append] at S
  have htn : tn = (treeW xs).length := ht.1
  refine st_callV S [.sl (tp, tn, tc)] (args' := [.c (.sl tp tn tc), .c (.str k)]) rfl (fun G hG => c_spot (v := 0) ht.rdr (by omega) hG) ?_
  rintro _ _ _ ⟨rfl, rfl⟩ S
  dsimp only [List.cons_append, List.nil_append] at S
  have hpl := pos_le (lt := MW.lt) (treeW xs) (k, 0)
  have hp := ht.rdr.part (pos MW.lt (treeW xs) (k, 0)) (tn - pos MW.lt (treeW xs) (k, 0)) (by omega)
  have e : ((treeW xs).drop (pos MW.lt (treeW xs) (k, 0))).take (tn - pos MW.lt (treeW xs) (k, 0)) = MW.fromO (treeW xs) k := List.take_of_length_le (by simp; omega)
  rw [e] at hp
  refine w_guard ⟨by (first | omega | ((try dsimp only [Sh.T, Sh1.T]); omega)), by (first | omega | ((try dsimp only [Sh.T, Sh1.T]); omega))⟩ ?_
  refine w_callV (args' := [.c (.sl (slBase tp tc (pos MW.lt (treeW xs) (k, 0)) 2) (tn - pos MW.lt (treeW xs) (k, 0)) (tc - pos MW.lt (treeW xs) (k, 0))), .c (.int .i64 m)]) rfl (c_FirstW hp) ?_
  rintro _ _ ⟨⟨s, rfl, hs⟩, rfl⟩
  exact rt_1 rfl ⟨_, ⟨s, _, rfl, hs, rfl⟩, S.only [.ck c, .sl (tp, tn, tc)]⟩
theorem ba_refl (a : ByteArray) : (a == a) = true := by
  first
  | exact beq_self_eq_true a
  | (cases a with | mk d => show (d == d) = true; exact beq_self_eq_true d)
set_option maxHeartbeats 1000000 in
theorem c_EqualW {c : Ck} {xs : List WV} {sp tp : Option PA} {n m cn cm : Nat} (hx : Rdr c (sp, n, cn) LW xs) (hy : Rdr c (tp, m, cm) LW xs) (hl : xs.length ≤ 4294967296) {G : PA → Prop} (hG : Star [c] h G) :
    HT Try.prog fn_slices_Equal_impl_Word_impl_Word [.c (.sl sp n cn), .c (.sl tp m cm)] false [.c .bool] h fun r h' => ∃ post, (r = (true, ()) ∧ post = [c]) ∧ St h G post h' := by
  apply hc_slices_Equal_impl_Word_impl_Word
  unfold M_slices_Equal_impl_Word_impl_Word
  have hn : n = xs.length := hx.1
  have hm : m = xs.length := hy.1
  have S := St.start hG
  obtain rfl : n = m := by omega
  refine w_false (by simp) ?_
  refine w_bnd (w_lp (fun r y h' => ∃ i : Nat, y = ((i : Int), ()) ∧ i + r = n ∧ St h G [c] h') n rfl ⟨0, rfl, by omega, S⟩ ?_)
  clear S
  rintro r _ _ ⟨i, rfl, hi, S⟩
  by_cases hlt : i < n
  · obtain ⟨p, hp, hro⟩ := hx.ptr (by omega)
    obtain ⟨q, hq, hro2⟩ := hy.ptr (by omega)
    dsimp only at hp hq
    subst hp; subst hq
    have hxi := List.getElem?_eq_getElem (show i < xs.length by omega)
    simp only [Int.toNat_natCast, toNat_succ, toNat_succ2, toNat_pred]
    refine w_true (lt_t (by (first | omega | ((try dsimp only [Sh.T, Sh1.T]); omega)))) ?_
    refine w_nonnil (w_guard ⟨by (first | omega | ((try dsimp only [Sh.T, Sh1.T]); omega)), by (first | omega | ((try dsimp only [Sh.T, Sh1.T]); omega))⟩ (w_word (S.rdr hro) hxi ?_))
    refine w_nonnil (w_guard ⟨by (first | omega | ((try dsimp only [Sh.T, Sh1.T]); omega)), by (first | omega | ((try dsimp only [Sh.T, Sh1.T]); omega))⟩ (w_word (S.rdr hro2) hxi ?_))
    refine w_false (by simp [ba_refl]) ?_
    refine w_guard (inK64 (by (first | omega | ((try dsimp only [Sh.T, Sh1.T]); omega))) (by (first | omega | ((try dsimp only [Sh.T, Sh1.T]); omega)))) ?_
    exact ln_n rfl (r - 1) ⟨i + 1, rfl, by omega, S⟩ (by omega)
  · exact w_false (lt_f (by (first | omega | ((try dsimp only [Sh.T, Sh1.T]); omega)))) (ln_e (bd_e rfl (rt_1 rfl ⟨_, ⟨rfl, rfl⟩, S⟩)))
theorem firstO_lenW {I : Type} (xs : List I) (k : Int) : (firstO xs k).length ≤ xs.length := by
  unfold firstO
  split
  · exact Nat.le_refl _
  · exact List.length_take_le' _ _
theorem c_wAscend {c : Ck} {d : Int} (hd : d ≤ 536870912) {xs : List WV} {sp : Option PA} {n cap : Nat} (hx : Rdr c (sp, n, cap) LW xs) (hxl : xs.length ≤ 2147483647) {k : ByteArray} {m : Int} {G : PA → Prop} (hG : Star [c] h G) :
    HT Try.prog fn_laws_wAscend [.c (.int .i64 d), .c (.sl sp n cap), .c (.str k), .c (.int .i64 m)] false [.c .bool] h fun r h' => ∃ post, (r = (true, ()) ∧ post = [c]) ∧ St h G post h' := by
  apply hc_laws_wAscend
  unfold M_laws_wAscend
  have htl := treeW_len xs
  have hfl := firstO_lenW (MW.fromO (treeW xs) k) m
  have hfr : (MW.fromO (treeW xs) k).length ≤ (treeW xs).length := by unfold MW.fromO; rw [List.length_drop]; omega
  have hlen : (firstO (MW.fromO (treeW xs) k) m).length ≤ 4294967296 := by omega
  refine st_callT (St.start hG) [.ck c] (fun G hG => c_WAscendI hd hx hxl hG) ?_
  rintro _ _ _ ⟨s, rfl, hs, rfl⟩ S
  dsimp only [List.cons_append, List.nil_append] at S
  refine st_callT S [.ck c] (fun G hG => c_WAscendS hx hxl hG) ?_
  rintro _ _ _ ⟨s2, t2, rfl, hs2, rfl⟩ S
  dsimp only [List.cons_append, List.nil_append] at S
  have S := S.ats [.sl s, .sl t2]
  refine st_callT (l := StC [_, _] :: _) (St.st_in (m := [_, _]) S) [.ck (StC [SlC s LW.sz (LW.flat (firstO (MW.fromO (treeW xs) k) m)), SlC t2 LW.sz (LW.flat (treeW xs))])] (fun G hG => c_EqualW (Rdr.st (i := 0) rfl hs.rdr) (Rdr.st (i := 1) rfl hs2) hlen hG) ?_
  rintro _ _ _ ⟨rfl, rfl⟩ S
  dsimp only [List.cons_append, List.nil_append] at S
  exact rt_1 rfl ⟨_, ⟨rfl, rfl⟩, S.drop⟩
set_option maxHeartbeats 1000000 in
theorem c_FnExactWAscend {hI : H} {d : Int} {xs : List WV} {sp : Option PA} {n cap : Nat} (hx : Rdr (BaC hI) (sp, n, cap) LW xs) {k : ByteArray} {m : Int} {G : PA → Prop} (hG : Star [BaC hI] h G) :
    HT Try.prog fn_laws_FnExactWAscend [.c (.int .i64 d), .c (.sl sp n cap), .c (.str k), .c (.int .i64 m)] false [.c .bool] h fun r h' => ∃ post, (r = (true, ()) ∧ post = [BaC hI]) ∧ St h G post h' := by
  apply hc_laws_FnExactWAscend
  unfold M_laws_FnExactWAscend
  have hn : n = xs.length := hx.1
  refine w_mid' none (fun (y : SV [.c .bool]) h' => (y = (true, ()) ∨ y = (false, ()) ∧ n ≤ 2147483647) ∧ St h G [BaC hI] h') ?_ ?_
  · refine st_callT (St.start hG) [.ck (BaC hI)] (fun G hG => c_zzFits2 hx hG) ?_
    rintro _ _ _ ⟨⟨b, rfl, hb⟩, rfl⟩ S
    dsimp only [List.cons_append, List.nil_append] at S
    cases b with
    | false => exact w_true rfl (md_n rfl ⟨.inl rfl, S⟩)
    | true =>
      refine w_false rfl ?_
      by_cases hk : (k.size : Int) > 2147483647
      · exact md_n (x := (true, ())) (by rw [decide_eq_true hk]; rfl) ⟨.inl rfl, S⟩
      · exact md_n (x := (false, ())) (by rw [decide_eq_false hk]; rfl) ⟨.inr ⟨rfl, hb rfl⟩, S⟩
  rintro _ _ ⟨rfl | ⟨rfl, hz⟩, S⟩
  · exact w_true rfl (rt_1 rfl ⟨_, ⟨rfl, rfl⟩, S⟩)
  refine w_false rfl ?_
  refine w_mid' none (fun (y : SV [.c .bool]) h' => y = (true, ()) ∧ St h G [BaC hI] h') ?_ (fun _ _ ⟨e, S⟩ => by subst e; exact rt_1 rfl ⟨_, ⟨rfl, rfl⟩, S⟩)
  refine st_callT S [] (fun G hG => c_exWords hG) ?_
  rintro _ _ _ ⟨ne, rfl, rfl⟩ S
  dsimp only [List.cons_append, List.nil_append] at S
  refine st_callT S [.ow (ne, 0)] (fun G hG => c_wAscend (d := 2) (xs := exW) (by decide) (Rdr.ow (xs := exW) rfl) (by decide) hG) ?_
  rintro _ _ _ ⟨rfl, rfl⟩ S
  dsimp only [List.cons_append, List.nil_append] at S
  refine w_true rfl ?_
  refine w_callT c_Fits ?_
  rintro _ _ ⟨rfl, rfl⟩
  by_cases hf : d = 0 ∨ 2 ≤ d ∧ d ≤ 128
  · refine w_true (decide_eq_true hf) ?_
    by_cases h0 : d > 0
    · refine w_false (by rw [decide_eq_true h0]; rfl) ?_
      refine st_callT S [.ck (BaC hI)] (fun G hG => c_wAscend (by omega) hx (by omega) hG) ?_
      rintro _ _ _ ⟨rfl, rfl⟩ S
      dsimp only [List.cons_append, List.nil_append] at S
      exact md_n rfl ⟨rfl, S.only [.ck (BaC hI)]⟩
    · exact w_true (by rw [decide_eq_false h0]; rfl) (md_n rfl ⟨rfl, S.only [.ck (BaC hI)]⟩)
  · exact w_false (decide_eq_false hf) (md_n rfl ⟨rfl, S.only [.ck (BaC hI)]⟩)
end
end Go.Proofs.Ytgniflegbdeokaa
