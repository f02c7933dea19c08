/-
  The reference: ranks, places, setting, cutting. Conditions: none.
-/
import Derived.Test.YtegnpimlfphncaaIt
import Derived.Test.YtegnpimlfphncaaNm
set_option linter.unusedVariables false
set_option linter.unusedSimpArgs false
set_option linter.unusedSectionVars false
set_option maxRecDepth 100000
namespace Go.Proofs.Ytegnpimlfphncaa
open Go
def M_spec_Rank (a0p : Option PA) (a0l : Nat) (a0c : Nat) (a1 : Int) : M :=
  .ite ((↑a0l : Int) == 0)
  (.done .ret [.c (.int .i64 (a1))])
  (.guard (((↑a0l : Int) : Int) ≠ 0) <|
    .guard (InK IntKind.i64 (a1.tmod (↑a0l : Int) + (↑a0l : Int))) <|
    .guard (((↑a0l : Int) : Int) ≠ 0) <|
    .nonnil (a0p) fun p0 =>
    .guard (((0 : Int) ≤ (a1.tmod (↑a0l : Int) + (↑a0l : Int)).tmod (↑a0l : Int)) ∧ (((a1.tmod (↑a0l : Int) + (↑a0l : Int)).tmod (↑a0l : Int) : Int) < (↑a0l : Int))) <|
    .load (p0.fst, p0.snd + ((a1.tmod (↑a0l : Int) + (↑a0l : Int)).tmod (↑a0l : Int)).toNat) (.int .i64) fun i1 =>
    .done .ret [.c (.int .i64 (i1))])
theorem den_spec_Rank (a0p : Option PA) (a0l : Nat) (a0c : Nat) (a1 : Int) : denFn Try.prog Try.f62 [.c (.sl a0p a0l a0c), .c (.int .i64 a1)] = M_spec_Rank a0p a0l a0c a1 := by kernel_rfl
theorem hc_spec_Rank (a0p : Option PA) (a0l : Nat) (a0c : Nat) (a1 : Int) {h : H} {R : Value → H → Prop} (hw : wp Try.prog (M_spec_Rank a0p a0l a0c a1) (Ret R) h) : HC Try.prog fn_spec_Rank (List.map AV.val [.c (.sl a0p a0l a0c), .c (.int .i64 a1)]).toArray h R :=
  den_calls hmix Try.func62 (of_decide_eq_true rfl) (by rw [den_spec_Rank]; exact hw)
def M_spec_Before (a0p : Option PA) (a0l : Nat) (a0c : Nat) (a10 : Int) (a11 : Int) (a20 : Int) (a21 : Int) : M :=
  .alloc ty_impl_Item [.int .i64 (a10), .int .i64 (a11)] fun n0 =>
  .alloc ty_impl_Item [.int .i64 (a20), .int .i64 (a21)] fun n1 =>
  .load (n0, 0) (.int .i64) fun i2 =>
  .load (n1, 0) (.int .i64) fun i3 =>
  .call fn_spec_Rank [.c (.sl (a0p) (a0l) (a0c)), .c (.int .i64 (i2))] false [.c (.int .i64)] fun r4 =>
  .held (n1, 0) (.int .i64 (i3)) <|
  .call fn_spec_Rank [.c (.sl (a0p) (a0l) (a0c)), .c (.int .i64 (i3))] false [.c (.int .i64)] fun r5 =>
  .done .ret [.c (.bool (decide (r4.fst < r5.fst)))]
theorem den_spec_Before (a0p : Option PA) (a0l : Nat) (a0c : Nat) (a10 : Int) (a11 : Int) (a20 : Int) (a21 : Int) : denFn Try.prog Try.f43 [.c (.sl a0p a0l a0c), .agg [.int .i64 a10, .int .i64 a11], .agg [.int .i64 a20, .int .i64 a21]] = M_spec_Before a0p a0l a0c a10 a11 a20 a21 := by kernel_rfl
theorem hc_spec_Before (a0p : Option PA) (a0l : Nat) (a0c : Nat) (a10 : Int) (a11 : Int) (a20 : Int) (a21 : Int) {h : H} {R : Value → H → Prop} (hw : wp Try.prog (M_spec_Before a0p a0l a0c a10 a11 a20 a21) (Ret R) h) : HC Try.prog fn_spec_Before (List.map AV.val [.c (.sl a0p a0l a0c), .agg [.int .i64 a10, .int .i64 a11], .agg [.int .i64 a20, .int .i64 a21]]).toArray h R :=
  den_calls hmix Try.func43 (of_decide_eq_true rfl) (by rw [den_spec_Before]; exact hw)
def M_spec_Place (a0p : Option PA) (a0l : Nat) (a0c : Nat) (a1p : Option PA) (a1l : Nat) (a1c : Nat) (a20 : Int) (a21 : Int) : M :=
  .alloc ty_impl_Item [.int .i64 (a20), .int .i64 (a21)] fun n0 =>
  .bind (some 0) (.loop [.c (.int .i64)] [.c (.int .i64 (0))] fun y1 =>
      .bind none (.ite (decide (y1.fst < (↑a1l : Int)))
        (.nonnil (a1p) fun p2 =>
          .guard (((0 : Int) ≤ y1.fst) ∧ ((y1.fst : Int) < (↑a1l : Int))) <|
          .load (p2.fst, p2.snd + mulN (Int.toNat y1.fst) 2) (.int .i64) fun i3 =>
          .load (p2.fst, p2.snd + mulN (Int.toNat y1.fst) 2 + 1) (.int .i64) fun i4 =>
          .load (n0, 0) (.int .i64) fun i5 =>
          .load (n0, 1) (.int .i64) fun i6 =>
          .call fn_spec_Before [.c (.sl (a0p) (a0l) (a0c)), .agg [.int .i64 (i3), .int .i64 (i4)], .agg [.int .i64 (i5), .int .i64 (i6)]] false [.c (.bool)] fun r7 =>
          .done .normal [.c (.bool (r7.fst))])
        (.done .normal [.c (.ff)])) [.c (.bool)] fun x8 =>
      .ite (x8.fst)
      (.guard (InK IntKind.i64 (y1.fst + 1)) <|
        .done .normal [.c (.int .i64 (y1.fst + 1))])
      (.done (.exit 0) [.c (.int .i64 (y1.fst))])) [.c (.int .i64)] fun x9 =>
  .bind none (.ite (decide (x9.fst < (↑a1l : Int)))
    (.load (n0, 0) (.int .i64) fun i10 =>
      .load (n0, 1) (.int .i64) fun i11 =>
      .nonnil (a1p) fun p12 =>
      .guard (((0 : Int) ≤ x9.fst) ∧ ((x9.fst : Int) < (↑a1l : Int))) <|
      .load (p12.fst, p12.snd + mulN (Int.toNat x9.fst) 2) (.int .i64) fun i13 =>
      .load (p12.fst, p12.snd + mulN (Int.toNat x9.fst) 2 + 1) (.int .i64) fun i14 =>
      .call fn_spec_Before [.c (.sl (a0p) (a0l) (a0c)), .agg [.int .i64 (i10), .int .i64 (i11)], .agg [.int .i64 (i13), .int .i64 (i14)]] false [.c (.bool)] fun r15 =>
      .done .normal [.c (.bool (!r15.fst)), .c (.int .i64 (x9.fst))])
    (.done .normal [.c (.ff), .c (.int .i64 (x9.fst))])) [.c (.bool), .c (.int .i64)] fun x16 =>
  .done .ret [.c (.int .i64 (x16.snd.fst)), .c (.bool (x16.fst))]
theorem den_spec_Place (a0p : Option PA) (a0l : Nat) (a0c : Nat) (a1p : Option PA) (a1l : Nat) (a1c : Nat) (a20 : Int) (a21 : Int) : denFn Try.prog Try.f27 [.c (.sl a0p a0l a0c), .c (.sl a1p a1l a1c), .agg [.int .i64 a20, .int .i64 a21]] = M_spec_Place a0p a0l a0c a1p a1l a1c a20 a21 := by kernel_rfl
theorem hc_spec_Place (a0p : Option PA) (a0l : Nat) (a0c : Nat) (a1p : Option PA) (a1l : Nat) (a1c : Nat) (a20 : Int) (a21 : Int) {h : H} {R : Value → H → Prop} (hw : wp Try.prog (M_spec_Place a0p a0l a0c a1p a1l a1c a20 a21) (Ret R) h) : HC Try.prog fn_spec_Place (List.map AV.val [.c (.sl a0p a0l a0c), .c (.sl a1p a1l a1c), .agg [.int .i64 a20, .int .i64 a21]]).toArray h R :=
  den_calls hmix Try.func27 (of_decide_eq_true rfl) (by rw [den_spec_Place]; exact hw)
def M_spec_Put (a0p : Option PA) (a0l : Nat) (a0c : Nat) (a1p : Option PA) (a1l : Nat) (a1c : Nat) (a20 : Int) (a21 : Int) : M :=
  .alloc ty_impl_Item [.int .i64 (a20), .int .i64 (a21)] fun n0 =>
  .alloc ty_impl_Found [.int .i64 (0), .int .i64 (0), .ff] fun n1 =>
  .load (n0, 0) (.int .i64) fun i2 =>
  .load (n0, 1) (.int .i64) fun i3 =>
  .call fn_spec_Place [.c (.sl (a0p) (a0l) (a0c)), .c (.sl (a1p) (a1l) (a1c)), .agg [.int .i64 (i2), .int .i64 (i3)]] true [.c (.int .i64), .c (.bool)] fun r4 =>
  .alloc ty_impl_Item [] fun n5 =>
  .guard (((0 : Int) ≤ r4.fst) ∧ ((r4.fst : Int) ≤ (↑a1c : Int))) <|
  .append ty_impl_Item 2 16 [.int .i64 (0), .int .i64 (0)] ((some (n5, 0)), 0, 0) ((slBase a1p a1c 0 2), Int.toNat r4.fst - 0, a1c - 0) fun s6 =>
  .load (n0, 0) (.int .i64) fun i7 =>
  .load (n0, 1) (.int .i64) fun i8 =>
  .alloc ty_impl_Item [.int .i64 (i7), .int .i64 (i8)] fun n9 =>
  .append ty_impl_Item 2 16 [.int .i64 (0), .int .i64 (0)] ((s6.fst), s6.snd.fst, s6.snd.snd) ((some (n9, 0)), 1, 1) fun s10 =>
  .ite (r4.snd.fst)
  (.guard (InK IntKind.i64 (r4.fst + 1)) <|
    .guard (((0 : Int) ≤ r4.fst + 1) ∧ ((r4.fst + 1 : Int) ≤ (↑a1l : Int))) <|
    .nonnil (a1p) fun p11 =>
    .guard (((0 : Int) ≤ r4.fst) ∧ ((r4.fst : Int) < (↑a1l : Int))) <|
    .load (p11.fst, p11.snd + mulN (Int.toNat r4.fst) 2) (.int .i64) fun i12 =>
    .load (p11.fst, p11.snd + mulN (Int.toNat r4.fst) 2 + 1) (.int .i64) fun i13 =>
    .append ty_impl_Item 2 16 [.int .i64 (0), .int .i64 (0)] ((s10.fst), s10.snd.fst, s10.snd.snd) ((slBase a1p a1c (r4.fst + 1).toNat 2), a1l - (r4.fst + 1).toNat, a1c - (r4.fst + 1).toNat) fun s14 =>
    .held (p11.fst, p11.snd + mulN (Int.toNat r4.fst) 2) (.int .i64 (i12)) <|
    .held (p11.fst, p11.snd + mulN (Int.toNat r4.fst) 2 + 1) (.int .i64 (i13)) <|
    .store (n1, 0) (.int .i64 (i12)) <|
    .store (n1, 1) (.int .i64 (i13)) <|
    .store (n1, 2) (.tt) <|
    .load (n1, 0) (.int .i64) fun i15 =>
    .load (n1, 1) (.int .i64) fun i16 =>
    .load (n1, 2) (.bool) fun b17 =>
    .done .ret [.c (.sl (s14.fst) (s14.snd.fst) (s14.snd.snd)), .agg [.int .i64 (i15), .int .i64 (i16), .bool (b17)]])
  (.guard (((0 : Int) ≤ r4.fst) ∧ ((r4.fst : Int) ≤ (↑a1l : Int))) <|
    .append ty_impl_Item 2 16 [.int .i64 (0), .int .i64 (0)] ((s10.fst), s10.snd.fst, s10.snd.snd) ((slBase a1p a1c (Int.toNat r4.fst) 2), a1l - Int.toNat r4.fst, a1c - Int.toNat r4.fst) fun s18 =>
    .store (n1, 0) (.int .i64 (0)) <|
    .store (n1, 1) (.int .i64 (0)) <|
    .store (n1, 2) (.ff) <|
    .load (n1, 0) (.int .i64) fun i19 =>
    .load (n1, 1) (.int .i64) fun i20 =>
    .load (n1, 2) (.bool) fun b21 =>
    .done .ret [.c (.sl (s18.fst) (s18.snd.fst) (s18.snd.snd)), .agg [.int .i64 (i19), .int .i64 (i20), .bool (b21)]])
theorem den_spec_Put (a0p : Option PA) (a0l : Nat) (a0c : Nat) (a1p : Option PA) (a1l : Nat) (a1c : Nat) (a20 : Int) (a21 : Int) : denFn Try.prog Try.f42 [.c (.sl a0p a0l a0c), .c (.sl a1p a1l a1c), .agg [.int .i64 a20, .int .i64 a21]] = M_spec_Put a0p a0l a0c a1p a1l a1c a20 a21 := by kernel_rfl
theorem hc_spec_Put (a0p : Option PA) (a0l : Nat) (a0c : Nat) (a1p : Option PA) (a1l : Nat) (a1c : Nat) (a20 : Int) (a21 : Int) {h : H} {R : Value → H → Prop} (hw : wp Try.prog (M_spec_Put a0p a0l a0c a1p a1l a1c a20 a21) (Ret R) h) : HC Try.prog fn_spec_Put (List.map AV.val [.c (.sl a0p a0l a0c), .c (.sl a1p a1l a1c), .agg [.int .i64 a20, .int .i64 a21]]).toArray h R :=
  den_calls hmix Try.func42 (of_decide_eq_true rfl) (by rw [den_spec_Put]; exact hw)
def M_spec_Tree (a0p : Option PA) (a0l : Nat) (a0c : Nat) (a1p : Option PA) (a1l : Nat) (a1c : Nat) : M :=
  .bind (some 0) (.loop [.c (.int .i64), .c (.sl)] [.c (.int .i64 (0)), .c (.sl none (0) (0))] fun y0 =>
      .ite (decide (y0.fst < (↑a1l : Int)))
      (.nonnil (a1p) fun p1 =>
        .guard (((0 : Int) ≤ y0.fst) ∧ ((y0.fst : Int) < (↑a1l : Int))) <|
        .load (p1.fst, p1.snd + mulN (Int.toNat y0.fst) 2) (.int .i64) fun i2 =>
        .load (p1.fst, p1.snd + mulN (Int.toNat y0.fst) 2 + 1) (.int .i64) fun i3 =>
        .alloc ty_impl_Item [.int .i64 (0), .int .i64 (0)] fun n4 =>
        .store (n4, 0) (.int .i64 (i2)) <|
        .store (n4, 1) (.int .i64 (i3)) <|
        .load (n4, 0) (.int .i64) fun i5 =>
        .load (n4, 1) (.int .i64) fun i6 =>
        .call fn_spec_Put [.c (.sl (a0p) (a0l) (a0c)), .c (.sl (y0.snd.fst.fst) (y0.snd.fst.snd.fst) (y0.snd.fst.snd.snd)), .agg [.int .i64 (i5), .int .i64 (i6)]] true [.c (.sl), .agg [.int .i64, .int .i64, .bool]] fun r7 =>
        .guard (InK IntKind.i64 (y0.fst + 1)) <|
        .done .normal [.c (.int .i64 (y0.fst + 1)), .c (.sl (r7.fst.fst) (r7.fst.snd.fst) (r7.fst.snd.snd))])
      (.done (.exit 0) [.c (.sl (y0.snd.fst.fst) (y0.snd.fst.snd.fst) (y0.snd.fst.snd.snd))])) [.c (.sl)] fun x8 =>
  .done .ret [.c (.sl (x8.fst.fst) (x8.fst.snd.fst) (x8.fst.snd.snd))]
theorem den_spec_Tree (a0p : Option PA) (a0l : Nat) (a0c : Nat) (a1p : Option PA) (a1l : Nat) (a1c : Nat) : denFn Try.prog Try.f26 [.c (.sl a0p a0l a0c), .c (.sl a1p a1l a1c)] = M_spec_Tree a0p a0l a0c a1p a1l a1c := by kernel_rfl
theorem hc_spec_Tree (a0p : Option PA) (a0l : Nat) (a0c : Nat) (a1p : Option PA) (a1l : Nat) (a1c : Nat) {h : H} {R : Value → H → Prop} (hw : wp Try.prog (M_spec_Tree a0p a0l a0c a1p a1l a1c) (Ret R) h) : HC Try.prog fn_spec_Tree (List.map AV.val [.c (.sl a0p a0l a0c), .c (.sl a1p a1l a1c)]).toArray h R :=
  den_calls hmix Try.func26 (of_decide_eq_true rfl) (by rw [den_spec_Tree]; exact hw)
def M_spec_Fits (a0 : Int) : M :=
  .bind none (.ite (a0 == 0)
    (.done .normal [.c (.tt)])
    (.ite (decide (a0 ≥ 2))
      (.done .normal [.c (.bool (decide (a0 ≤ 128)))])
      (.done .normal [.c (.ff)]))) [.c (.bool)] fun x0 =>
  .done .ret [.c (.bool (x0.fst))]
theorem den_spec_Fits (a0 : Int) : denFn Try.prog Try.f9 [.c (.int .i64 a0)] = M_spec_Fits a0 := by kernel_rfl
theorem hc_spec_Fits (a0 : Int) {h : H} {R : Value → H → Prop} (hw : wp Try.prog (M_spec_Fits a0) (Ret R) h) : HC Try.prog fn_spec_Fits (List.map AV.val [.c (.int .i64 a0)]).toArray h R :=
  den_calls hmix Try.func9 (of_decide_eq_true rfl) (by rw [den_spec_Fits]; exact hw)
section
variable {h : H}
theorem rem_in {k n : Int} (hn : 0 < n) : 0 ≤ (k.tmod n + n).tmod n ∧ (k.tmod n + n).tmod n < n ∧ 0 < k.tmod n + n ∧ k.tmod n + n < 2 * n := by
  have h1 := Int.tmod_lt_of_pos k hn
  have h2 : -n < k.tmod n := by
    have := Int.lt_tmod_of_pos k hn
    omega
  have h3 : 0 < k.tmod n + n := by omega
  exact ⟨Int.tmod_nonneg _ (by omega), Int.tmod_lt_of_pos _ hn, h3, by omega⟩
theorem c_Rank {c : Ck} {o : List Int} {sp : Option PA} {n cap : Nat} (hr : Rdr c (sp, n, cap) LN o) (hl : o.length ≤ 2147483647) {k : Int} {G : PA → Prop} (hG : Star [c] h G) :
    HT Try.prog fn_spec_Rank [.c (.sl sp n cap), .c (.int .i64 k)] false [.c (.int .i64)] h fun x h' => x = (rk o k, ()) ∧ h' = h := by
  apply hc_spec_Rank
  unfold M_spec_Rank
  have S := St.start hG
  have hn : n = o.length := hr.1
  cases o with
  | nil =>
    subst hn
    exact w_true (beq_t rfl) (rt_1 rfl ⟨rfl, rfl⟩)
  | cons a o =>
    obtain ⟨p, hp, hro⟩ := hr.ptr (by simp)
    dsimp only at hp
    subst hp
    have hpos : 0 < n := by rw [hn]; simp
    obtain ⟨g1, g2, g3, g4⟩ := rem_in (k := k) (n := n) (by omega)
    refine w_false (beq_f (by omega)) (w_guard (by omega) (w_guard (inK64 (by omega) (by omega)) (w_guard (by omega) (w_nonnil (w_guard ⟨g1, g2⟩ ?_)))))
    have hlt : ((k.tmod n + n).tmod n).toNat < (a :: o).length := by rw [← hn]; omega
    refine w_num (S.rdr hro) (List.getElem?_eq_getElem hlt) (rt_1 rfl ⟨?_, rfl⟩)
    rw [rk, ← hn, List.getElem?_eq_getElem hlt]; rfl
theorem c_Before {c : Ck} {o : List Int} {sp : Option PA} {n cap : Nat} (hr : Rdr c (sp, n, cap) LN o) (hl : o.length ≤ 2147483647) {a b : IV} {G : PA → Prop} (hG : Star [c] h G) :
    HT Try.prog fn_spec_Before [.c (.sl sp n cap), .agg [.int .i64 a.1, .int .i64 a.2], .agg [.int .i64 b.1, .int .i64 b.2]] false [.c .bool] h fun x h' => ∃ post, (x = (ltO o a b, ()) ∧ post = [c]) ∧ St h G post h' := by
  apply hc_spec_Before
  unfold M_spec_Before
  have S := St.start hG
  repeat (first | refine w_nonnil ?_ | refine ld_int S rfl ?_ | refine ld_some S rfl ?_ | refine ld_ptr S _ rfl ?_ | refine ld_sls S rfl ?_ | refine ld_nil S rfl ?_ | refine ld_bool S rfl ?_ | refine st_store S (lt_ble rfl) fun _ S => ?_ | refine st_alloc S fun _ _ S => ?_ | refine st_held S rfl ?_ | refine w_guard (by (first | exact inK64 (by omega) (by omega) | omega | (constructor <;> omega) | ((try dsimp only [Sh.T, Sh1.T]); first | exact inK64 (by omega) (by omega) | omega | exact ⟨by decide, inK64 (by omega) (by omega)⟩ | trivial))) ?_ | refine bd_n rfl ?_ | refine bd_e rfl ?_ | refine bd_r ?_ | refine bd_p ?_ | refine ln_r ?_ | refine ln_e ?_ | refine w_true (b := true) rfl ?_ | refine w_false (b := false) rfl ?_ | refine w_guard (show noMeths _ _ by show _ = _; kernel_rfl) ?_ | refine w_item (S.rdr hrd) (by assumption) ?_ | refine h_item (S.rdr hrd) (by assumption) ?_ | refine w_num (S.rdr hro) (by assumption) ?_ | refine ld_sln S rfl ?_ | refine ld_sl S _ _ _ rfl ?_)
  refine st_callR S [.ck c] (fun G hG => c_Rank hr hl hG) ?_
  rintro _ rfl
  repeat (first | refine w_nonnil ?_ | refine ld_int S rfl ?_ | refine ld_some S rfl ?_ | refine ld_ptr S _ rfl ?_ | refine ld_sls S rfl ?_ | refine ld_nil S rfl ?_ | refine ld_bool S rfl ?_ | refine st_store S (lt_ble rfl) fun _ S => ?_ | refine st_alloc S fun _ _ S => ?_ | refine st_held S rfl ?_ | refine w_guard (by (first | exact inK64 (by omega) (by omega) | omega | (constructor <;> omega) | ((try dsimp only [Sh.T, Sh1.T]); first | exact inK64 (by omega) (by omega) | omega | exact ⟨by decide, inK64 (by omega) (by omega)⟩ | trivial))) ?_ | refine bd_n rfl ?_ | refine bd_e rfl ?_ | refine bd_r ?_ | refine bd_p ?_ | refine ln_r ?_ | refine ln_e ?_ | refine w_true (b := true) rfl ?_ | refine w_false (b := false) rfl ?_ | refine w_guard (show noMeths _ _ by show _ = _; kernel_rfl) ?_ | refine w_item (S.rdr hrd) (by assumption) ?_ | refine h_item (S.rdr hrd) (by assumption) ?_ | refine w_num (S.rdr hro) (by assumption) ?_ | refine ld_sln S rfl ?_ | refine ld_sl S _ _ _ rfl ?_)
  refine st_callR S [.ck c] (fun G hG => c_Rank hr hl hG) ?_
  rintro _ rfl
  exact rt_1 rfl ⟨_, ⟨rfl, rfl⟩, S.drop.drop⟩
theorem pos_eq {I : Type} {lt : I → I → Bool} {x : I} : ∀ {xs : List I} {i : Nat}, (∀ j a, j < i → xs[j]? = some a → lt a x = true) → i ≤ xs.length → (∀ a, xs[i]? = some a → lt a x = false) → pos lt xs x = i
  | [], i, _, h2, _ => by simp at h2; subst h2; rfl
  | a :: xs, 0, _, _, h3 => by simp [pos, h3 a rfl]
  | a :: xs, i + 1, h1, h2, h3 => by
    have ih := pos_eq (lt := lt) (x := x) (xs := xs) (i := i) (fun j b hj hb => h1 (j + 1) b (by omega) (by simpa using hb)) (by simpa using h2) (fun b hb => h3 b (by simpa using hb))
    have h0 := h1 0 a (by omega) rfl
    unfold pos at ih ⊢
    simp [h0, ih]
set_option maxHeartbeats 1000000 in
theorem c_Place {c : Ck} {o : List Int} {op : Option PA} {on oc : Nat} (hr : Rdr c (op, on, oc) LN o) (hl : o.length ≤ 2147483647) {xs : List IV} {sp : Option PA} {n cap : Nat} (hx : Rdr c (sp, n, cap) LT xs) (hxl : xs.length ≤ 4294967296) {x : IV} {G : PA → Prop} (hG : Star [c] h G) :
    HT Try.prog fn_spec_Place [.c (.sl op on oc), .c (.sl sp n cap), .agg [.int .i64 x.1, .int .i64 x.2]] true [.c (.int .i64), .c .bool] h fun r h' => ∃ post, (r = ((pos (ltO o) xs x : Int), (fnd (ltO o) xs x).isSome, ()) ∧ post = [c]) ∧ St h G post h' := by
  apply hc_spec_Place
  unfold M_spec_Place
  have hn : n = xs.length := hx.1
  refine st_alloc (St.start hG) fun n0 _ S => ?_
  refine w_bnd (w_lp (fun r y h' => ∃ i : Nat, y = ((i : Int), ()) ∧ i + r = n ∧ (∀ j a, j < i → xs[j]? = some a → ltO o a x = true) ∧ St h G [Ow (n0, 0) (LT.cells x) 0, c] h') n rfl ⟨0, rfl, by omega, fun j a hj => by omega, S⟩ ?_)
  rintro r _ _ ⟨i, rfl, hi, hb, S⟩
  have fin : ∀ h5, St h G [Ow (n0, 0) (LT.cells x) 0, c] h5 → pos (ltO o) xs x = i → wp Try.prog (.bind none (.ite (decide ((i : Int) < (↑n : Int)))
    (.load (n0, 0) (.int .i64) fun i10 =>
      .load (n0, 1) (.int .i64) fun i11 =>
      .nonnil (sp) fun p12 =>
      .guard (((0 : Int) ≤ (i : Int)) ∧ ((i : Int) < (↑n : Int))) <|
      .load (p12.fst, p12.snd + mulN (Int.toNat (i : Int)) 2) (.int .i64) fun i13 =>
      .load (p12.fst, p12.snd + mulN (Int.toNat (i : Int)) 2 + 1) (.int .i64) fun i14 =>
      .call fn_spec_Before [.c (.sl (op) (on) (oc)), .agg [.int .i64 (i10), .int .i64 (i11)], .agg [.int .i64 (i13), .int .i64 (i14)]] false [.c (.bool)] fun r15 =>
      .done .normal [.c (.bool (!r15.fst)), .c (.int .i64 (i : Int))])
    (.done .normal [.c (.ff), .c (.int .i64 (i : Int))])) [.c (.bool), .c (.int .i64)] fun x16 =>
  .done .ret [.c (.int .i64 (x16.snd.fst)), .c (.bool (x16.fst))]) (Ret (TR true [.c (.int .i64), .c .bool] fun r h' => ∃ post, (r = ((pos (ltO o) xs x : Int), (fnd (ltO o) xs x).isSome, ()) ∧ post = [c]) ∧ St h G post h')) h5 := by
    intro h5 S hpos
    by_cases hlt : i < n
    · obtain ⟨p, hp, hrd⟩ := hx.ptr (by omega)
      dsimp only at hp
      subst hp
      have hxi := List.getElem?_eq_getElem (show i < xs.length by omega)
      rw [Int.toNat_natCast]
      refine w_bnd (w_true (lt_t (by omega)) ?_)
      repeat (first | refine w_nonnil ?_ | refine ld_int S rfl ?_ | refine ld_some S rfl ?_ | refine ld_ptr S _ rfl ?_ | refine ld_sls S rfl ?_ | refine ld_nil S rfl ?_ | refine ld_bool S rfl ?_ | refine st_store S (lt_ble rfl) fun _ S => ?_ | refine st_alloc S fun _ _ S => ?_ | refine st_held S rfl ?_ | refine w_guard (by (first | exact inK64 (by omega) (by omega) | omega | (constructor <;> omega) | ((try dsimp only [Sh.T, Sh1.T]); first | exact inK64 (by omega) (by omega) | omega | exact ⟨by decide, inK64 (by omega) (by omega)⟩ | trivial))) ?_ | refine bd_n rfl ?_ | refine bd_e rfl ?_ | refine bd_r ?_ | refine bd_p ?_ | refine ln_r ?_ | refine ln_e ?_ | refine w_true (b := true) rfl ?_ | refine w_false (b := false) rfl ?_ | refine w_guard (show noMeths _ _ by show _ = _; kernel_rfl) ?_ | refine w_item (S.rdr hrd) (by assumption) ?_ | refine h_item (S.rdr hrd) (by assumption) ?_ | refine w_num (S.rdr hro) (by assumption) ?_ | refine ld_sln S rfl ?_ | refine ld_sl S _ _ _ rfl ?_)
      refine st_callT S [.ck c] (fun G hG => c_Before (a := x) hr hl hG) ?_
      rintro _ _ _ ⟨rfl, rfl⟩ S
      dsimp only [List.cons_append, List.nil_append] at S
      refine bd_n rfl (rt_n rfl rfl ⟨_, ⟨?_, rfl⟩, S.only [.ck c]⟩)
      rw [hpos]
      have : (fnd (ltO o) xs x).isSome = !ltO o x xs[i] := by
        unfold fnd
        rw [hpos, hxi]
        dsimp only
        cases hq2 : ltO o x xs[i] <;> simp [hq2]
      rw [this]
    · refine w_bnd (w_false (lt_f (by omega)) (bd_n rfl (rt_n rfl rfl ⟨_, ⟨?_, rfl⟩, S.only [.ck c]⟩)))
      rw [hpos]
      have : fnd (ltO o) xs x = none := by
        unfold fnd
        rw [hpos, List.getElem?_eq_none (by omega)]
      rw [this]; rfl
  by_cases hlt : i < n
  · obtain ⟨p, hp, hrd⟩ := hx.ptr (by omega)
    dsimp only at hp
    subst hp
    have hxi := List.getElem?_eq_getElem (show i < xs.length by omega)
    simp only [Int.toNat_natCast, toNat_succ, toNat_succ2, toNat_pred]
    refine w_bnd (w_true (lt_t (by (first | omega | ((try dsimp only [Sh.T, Sh1.T]); omega)))) ?_)
    repeat (first | refine w_nonnil ?_ | refine ld_int S rfl ?_ | refine ld_some S rfl ?_ | refine ld_ptr S _ rfl ?_ | refine ld_sls S rfl ?_ | refine ld_nil S rfl ?_ | refine ld_bool S rfl ?_ | refine st_store S (lt_ble rfl) fun _ S => ?_ | refine st_alloc S fun _ _ S => ?_ | refine st_held S rfl ?_ | refine w_guard (by (first | exact inK64 (by omega) (by omega) | omega | (constructor <;> omega) | ((try dsimp only [Sh.T, Sh1.T]); first | exact inK64 (by omega) (by omega) | omega | exact ⟨by decide, inK64 (by omega) (by omega)⟩ | trivial))) ?_ | refine bd_n rfl ?_ | refine bd_e rfl ?_ | refine bd_r ?_ | refine bd_p ?_ | refine ln_r ?_ | refine ln_e ?_ | refine w_true (b := true) rfl ?_ | refine w_false (b := false) rfl ?_ | refine w_guard (show noMeths _ _ by show _ = _; kernel_rfl) ?_ | refine w_item (S.rdr hrd) (by assumption) ?_ | refine h_item (S.rdr hrd) (by assumption) ?_ | refine w_num (S.rdr hro) (by assumption) ?_ | refine ld_sln S rfl ?_ | refine ld_sl S _ _ _ rfl ?_)
    refine st_callT S [.ck c] (fun G hG => c_Before (b := x) hr hl hG) ?_
    rintro _ _ _ ⟨rfl, rfl⟩ S
    dsimp only [List.cons_append, List.nil_append] at S
    have S := S.ats [.ow (n0, 0), .ck c]
    cases hq : ltO o xs[i] x with
    | true =>
      repeat (first | refine w_nonnil ?_ | refine ld_int S rfl ?_ | refine ld_some S rfl ?_ | refine ld_ptr S _ rfl ?_ | refine ld_sls S rfl ?_ | refine ld_nil S rfl ?_ | refine ld_bool S rfl ?_ | refine st_store S (lt_ble rfl) fun _ S => ?_ | refine st_alloc S fun _ _ S => ?_ | refine st_held S rfl ?_ | refine w_guard (by (first | exact inK64 (by omega) (by omega) | omega | (constructor <;> omega) | ((try dsimp only [Sh.T, Sh1.T]); first | exact inK64 (by omega) (by omega) | omega | exact ⟨by decide, inK64 (by omega) (by omega)⟩ | trivial))) ?_ | refine bd_n rfl ?_ | refine bd_e rfl ?_ | refine bd_r ?_ | refine bd_p ?_ | refine ln_r ?_ | refine ln_e ?_ | refine w_true (b := true) rfl ?_ | refine w_false (b := false) rfl ?_ | refine w_guard (show noMeths _ _ by show _ = _; kernel_rfl) ?_ | refine w_item (S.rdr hrd) (by assumption) ?_ | refine h_item (S.rdr hrd) (by assumption) ?_ | refine w_num (S.rdr hro) (by assumption) ?_ | refine ld_sln S rfl ?_ | refine ld_sl S _ _ _ rfl ?_)
      refine ln_n rfl (r - 1) ⟨i + 1, rfl, by omega, fun j a hj ha => ?_, S⟩ (by omega)
      by_cases hji : j = i
      · subst hji
        rw [hxi] at ha
        rw [← Option.some.inj ha]; exact hq
      · exact hb j a (by omega) ha
    | false =>
      refine bd_n rfl (w_false rfl (ln_e (bd_e rfl ?_)))
      exact fin _ S (pos_eq hb (by omega) fun a ha => by rw [hxi] at ha; rw [← Option.some.inj ha]; exact hq)
  · refine w_bnd (w_false (lt_f (by (first | omega | ((try dsimp only [Sh.T, Sh1.T]); omega)))) (bd_n rfl (w_false rfl (ln_e (bd_e rfl ?_)))))
    exact fin _ S (pos_eq hb (by omega) fun a ha => by rw [List.getElem?_eq_none (by omega)] at ha; cases ha)
set_option maxHeartbeats 1000000 in
theorem c_Put {c : Ck} {o : List Int} {op : Option PA} {on oc : Nat} (hr : Rdr c (op, on, oc) LN o) (hl : o.length ≤ 2147483647) {xs : List IV} {sp : Option PA} {n cap : Nat} (hx : Rdr c (sp, n, cap) LT xs) (hxl : xs.length ≤ 4294967296) {x : IV} {G : PA → Prop} (hG : Star [c] h G) :
    HT Try.prog fn_spec_Put [.c (.sl op on oc), .c (.sl sp n cap), .agg [.int .i64 x.1, .int .i64 x.2]] true [.c .sl, .agg [.int .i64, .int .i64, .bool]] h fun r h' => ∃ post, (∃ s : SlT, r = (s, fT (fnd (ltO o) xs x), ()) ∧ s.1.isSome = true ∧ s.2.1 = (put (ltO o) xs x).length ∧ s.2.1 ≤ s.2.2 ∧ post = [c, SlC s LT.sz (LT.flat (put (ltO o) xs x))]) ∧ St h G post h' := by
  apply hc_spec_Put
  unfold M_spec_Put
  have hn : n = xs.length := hx.1
  have hcap : n ≤ cap := hx.2.1
  have S := St.start hG
  repeat (first | refine w_nonnil ?_ | refine ld_int S rfl ?_ | refine ld_some S rfl ?_ | refine ld_ptr S _ rfl ?_ | refine ld_sls S rfl ?_ | refine ld_nil S rfl ?_ | refine ld_bool S rfl ?_ | refine st_store S (lt_ble rfl) fun _ S => ?_ | refine st_alloc S fun _ _ S => ?_ | refine st_held S rfl ?_ | refine w_guard (by (first | exact inK64 (by omega) (by omega) | omega | (constructor <;> omega) | ((try dsimp only [Sh.T, Sh1.T]); first | exact inK64 (by omega) (by omega) | omega | exact ⟨by decide, inK64 (by omega) (by omega)⟩ | trivial))) ?_ | refine bd_n rfl ?_ | refine bd_e rfl ?_ | refine bd_r ?_ | refine bd_p ?_ | refine ln_r ?_ | refine ln_e ?_ | refine w_true (b := true) rfl ?_ | refine w_false (b := false) rfl ?_ | refine w_guard (show noMeths _ _ by show _ = _; kernel_rfl) ?_ | refine w_item (S.rdr hrd) (by assumption) ?_ | refine h_item (S.rdr hrd) (by assumption) ?_ | refine w_num (S.rdr hro) (by assumption) ?_ | refine ld_sln S rfl ?_ | refine ld_sl S _ _ _ rfl ?_)
  refine st_callT S [.ck c] (fun G hG => c_Place (x := x) hr hl hx hxl hG) ?_
  rintro _ _ _ ⟨rfl, rfl⟩ S
  dsimp only [List.cons_append, List.nil_append] at S
  have hpl := pos_le (lt := ltO o) xs x
  have hpf : ∀ y, fnd (ltO o) xs x = some y → pos (ltO o) xs x < xs.length ∧ xs[pos (ltO o) xs x]? = some y := fun y hy => ⟨(fnd_some_lt hy).1, (fnd_some_lt hy).2.1⟩
  have hput : put (ltO o) xs x = xs.take (pos (ltO o) xs x) ++ [x] ++ xs.drop (pos (ltO o) xs x + if (fnd (ltO o) xs x).isSome then 1 else 0) := by unfold put; simp
  generalize hpos : pos (ltO o) xs x = i at *
  simp only [Int.toNat_natCast, toNat_succ, toNat_succ2, toNat_pred]
  have hsrc : ∀ {h5 : H} {F : PA → Prop}, c.p h5 F → RSl h5 (slBase sp cap 0 2, i - 0, cap - 0) LT.sz (LT.flat (xs.take i)) := by
    intro h5 F hc
    rcases Nat.eq_zero_or_pos xs.length with h0 | h0
    · have : i = 0 := by omega
      subst this
      exact rsl_nil _ _
    · obtain ⟨p, hp, hrd⟩ := hx.ptr h0
      have := rds_part (hrd h5 F hc) 0 i cap (cap - 0) (by omega) (by omega)
      dsimp only at hp
      rw [hp]
      rw [List.drop_zero] at this
      exact this
  have hsrc2 : ∀ {h5 : H} {F : PA → Prop} (b : Nat), b ≤ n → c.p h5 F → RSl h5 (slBase sp cap b 2, n - b, cap - b) LT.sz (LT.flat (xs.drop b)) := by
    intro h5 F b hb hc
    rcases Nat.eq_zero_or_pos xs.length with h0 | h0
    · have : xs = [] := List.length_eq_zero_iff.1 h0
      subst this
      have : n - b = 0 := by simp at hn; omega
      rw [this, List.drop_nil]
      exact rsl_nil _ _
    · obtain ⟨p, hp, hrd⟩ := hx.ptr h0
      have := rds_part (hrd h5 F hc) b (n - b) cap (cap - b) (by omega) (by omega)
      dsimp only at hp
      rw [hp]
      rw [List.take_of_length_le (by simp; omega)] at this
      exact this
  repeat (first | refine w_nonnil ?_ | refine ld_int S rfl ?_ | refine ld_some S rfl ?_ | refine ld_ptr S _ rfl ?_ | refine ld_sls S rfl ?_ | refine ld_nil S rfl ?_ | refine ld_bool S rfl ?_ | refine st_store S (lt_ble rfl) fun _ S => ?_ | refine st_alloc S fun _ _ S => ?_ | refine st_held S rfl ?_ | refine w_guard (by (first | exact inK64 (by omega) (by omega) | omega | (constructor <;> omega) | ((try dsimp only [Sh.T, Sh1.T]); first | exact inK64 (by omega) (by omega) | omega | exact ⟨by decide, inK64 (by omega) (by omega)⟩ | trivial))) ?_ | refine bd_n rfl ?_ | refine bd_e rfl ?_ | refine bd_r ?_ | refine bd_p ?_ | refine ln_r ?_ | refine ln_e ?_ | refine w_true (b := true) rfl ?_ | refine w_false (b := false) rfl ?_ | refine w_guard (show noMeths _ _ by show _ = _; kernel_rfl) ?_ | refine w_item (S.rdr hrd) (by assumption) ?_ | refine h_item (S.rdr hrd) (by assumption) ?_ | refine w_num (S.rdr hro) (by assumption) ?_ | refine ld_sln S rfl ?_ | refine ld_sl S _ _ _ rfl ?_)
  refine st_new (L := LT) (ys := xs.take i) (k := i - 0) S rfl rfl (by simp; omega) (by obtain ⟨F, hF⟩ := S.fct (.ck c); exact hsrc hF) ⟨by omega, by omega⟩ fun p1 c1 _ hc1 S => ?_
  repeat (first | refine w_nonnil ?_ | refine ld_int S rfl ?_ | refine ld_some S rfl ?_ | refine ld_ptr S _ rfl ?_ | refine ld_sls S rfl ?_ | refine ld_nil S rfl ?_ | refine ld_bool S rfl ?_ | refine st_store S (lt_ble rfl) fun _ S => ?_ | refine st_alloc S fun _ _ S => ?_ | refine st_held S rfl ?_ | refine w_guard (by (first | exact inK64 (by omega) (by omega) | omega | (constructor <;> omega) | ((try dsimp only [Sh.T, Sh1.T]); first | exact inK64 (by omega) (by omega) | omega | exact ⟨by decide, inK64 (by omega) (by omega)⟩ | trivial))) ?_ | refine bd_n rfl ?_ | refine bd_e rfl ?_ | refine bd_r ?_ | refine bd_p ?_ | refine ln_r ?_ | refine ln_e ?_ | refine w_true (b := true) rfl ?_ | refine w_false (b := false) rfl ?_ | refine w_guard (show noMeths _ _ by show _ = _; kernel_rfl) ?_ | refine w_item (S.rdr hrd) (by assumption) ?_ | refine h_item (S.rdr hrd) (by assumption) ?_ | refine w_num (S.rdr hro) (by assumption) ?_ | refine ld_sln S rfl ?_ | refine ld_sl S _ _ _ rfl ?_)
  refine st_app (L := LT) (n := i - 0) (c := c1) (k := 1) (xs := xs.take i) (ys := [x]) S rfl rfl (by simp; omega) hc1 rfl rfl (S.rsl (LT.flat [x]) 1 1 2 (fun i v h => by rw [Nat.zero_add]; exact h) rfl) ⟨by omega, by omega⟩ fun p2 c2 _ hc2 S => ?_
  have hlx : (xs.take i ++ [x]).length = i + 1 := by simp; omega
  cases hf : fnd (ltO o) xs x with
  | some y =>
    obtain ⟨hlt, hy⟩ := hpf y hf
    obtain ⟨p, hp, hrd⟩ := hx.ptr (by omega)
    dsimp only at hp
    subst hp
    refine w_true rfl ?_
    repeat (first | refine w_nonnil ?_ | refine ld_int S rfl ?_ | refine ld_some S rfl ?_ | refine ld_ptr S _ rfl ?_ | refine ld_sls S rfl ?_ | refine ld_nil S rfl ?_ | refine ld_bool S rfl ?_ | refine st_store S (lt_ble rfl) fun _ S => ?_ | refine st_alloc S fun _ _ S => ?_ | refine st_held S rfl ?_ | refine w_guard (by (first | exact inK64 (by omega) (by omega) | omega | (constructor <;> omega) | ((try dsimp only [Sh.T, Sh1.T]); first | exact inK64 (by omega) (by omega) | omega | exact ⟨by decide, inK64 (by omega) (by omega)⟩ | trivial))) ?_ | refine bd_n rfl ?_ | refine bd_e rfl ?_ | refine bd_r ?_ | refine bd_p ?_ | refine ln_r ?_ | refine ln_e ?_ | refine w_true (b := true) rfl ?_ | refine w_false (b := false) rfl ?_ | refine w_guard (show noMeths _ _ by show _ = _; kernel_rfl) ?_ | refine w_item (S.rdr hrd) (by assumption) ?_ | refine h_item (S.rdr hrd) (by assumption) ?_ | refine w_num (S.rdr hro) (by assumption) ?_ | refine ld_sln S rfl ?_ | refine ld_sl S _ _ _ rfl ?_)
    refine st_app (L := LT) (n := i - 0 + 1) (c := c2) (k := n - (i + 1)) (xs := xs.take i ++ [x]) (ys := xs.drop (i + 1)) S rfl rfl (by rw [hlx]; omega) hc2 rfl (by simp; omega) (by obtain ⟨F, hF⟩ := S.fct (.ck c); exact hsrc2 (i + 1) (by omega) hF) ⟨by omega, by omega⟩ fun p3 c3 _ hc3 S => ?_
    repeat (first | refine w_nonnil ?_ | refine ld_int S rfl ?_ | refine ld_some S rfl ?_ | refine ld_ptr S _ rfl ?_ | refine ld_sls S rfl ?_ | refine ld_nil S rfl ?_ | refine ld_bool S rfl ?_ | refine st_store S (lt_ble rfl) fun _ S => ?_ | refine st_alloc S fun _ _ S => ?_ | refine st_held S rfl ?_ | refine w_guard (by (first | exact inK64 (by omega) (by omega) | omega | (constructor <;> omega) | ((try dsimp only [Sh.T, Sh1.T]); first | exact inK64 (by omega) (by omega) | omega | exact ⟨by decide, inK64 (by omega) (by omega)⟩ | trivial))) ?_ | refine bd_n rfl ?_ | refine bd_e rfl ?_ | refine bd_r ?_ | refine bd_p ?_ | refine ln_r ?_ | refine ln_e ?_ | refine w_true (b := true) rfl ?_ | refine w_false (b := false) rfl ?_ | refine w_guard (show noMeths _ _ by show _ = _; kernel_rfl) ?_ | refine w_item (S.rdr hrd) (by assumption) ?_ | refine h_item (S.rdr hrd) (by assumption) ?_ | refine w_num (S.rdr hro) (by assumption) ?_ | refine ld_sln S rfl ?_ | refine ld_sl S _ _ _ rfl ?_)
    have hpl2 : (put (ltO o) xs x).length = i - 0 + 1 + (n - (i + 1)) := by rw [hput, hf]; simp; omega
    have S := (S.ats [.ow p3]).re p3 (LT.flat (put (ltO o) xs x)) ((c3 - (i - 0 + 1 + (n - (i + 1)))) * LT.sz) rfl (by rw [hput, hf]; rfl) rfl
    have S := S.close_sl (sz := LT.sz) hc3 (by rw [LT.flat_length, hpl2])
    exact rt_n rfl rfl ⟨_, ⟨(some p3, i - 0 + 1 + (n - (i + 1)), c3), rfl, rfl, hpl2.symm, hc3, rfl⟩, S.only [.ck c, .sl (some p3, i - 0 + 1 + (n - (i + 1)), c3)]⟩
  | none =>
    refine w_false rfl ?_
    repeat (first | refine w_nonnil ?_ | refine ld_int S rfl ?_ | refine ld_some S rfl ?_ | refine ld_ptr S _ rfl ?_ | refine ld_sls S rfl ?_ | refine ld_nil S rfl ?_ | refine ld_bool S rfl ?_ | refine st_store S (lt_ble rfl) fun _ S => ?_ | refine st_alloc S fun _ _ S => ?_ | refine st_held S rfl ?_ | refine w_guard (by (first | exact inK64 (by omega) (by omega) | omega | (constructor <;> omega) | ((try dsimp only [Sh.T, Sh1.T]); first | exact inK64 (by omega) (by omega) | omega | exact ⟨by decide, inK64 (by omega) (by omega)⟩ | trivial))) ?_ | refine bd_n rfl ?_ | refine bd_e rfl ?_ | refine bd_r ?_ | refine bd_p ?_ | refine ln_r ?_ | refine ln_e ?_ | refine w_true (b := true) rfl ?_ | refine w_false (b := false) rfl ?_ | refine w_guard (show noMeths _ _ by show _ = _; kernel_rfl) ?_ | refine w_item (S.rdr hrd) (by assumption) ?_ | refine h_item (S.rdr hrd) (by assumption) ?_ | refine w_num (S.rdr hro) (by assumption) ?_ | refine ld_sln S rfl ?_ | refine ld_sl S _ _ _ rfl ?_)
    refine st_app (L := LT) (n := i - 0 + 1) (c := c2) (k := n - i) (xs := xs.take i ++ [x]) (ys := xs.drop i) S rfl rfl (by rw [hlx]; omega) hc2 rfl (by simp; omega) (by obtain ⟨F, hF⟩ := S.fct (.ck c); exact hsrc2 i (by omega) hF) ⟨by omega, by omega⟩ fun p3 c3 _ hc3 S => ?_
    repeat (first | refine w_nonnil ?_ | refine ld_int S rfl ?_ | refine ld_some S rfl ?_ | refine ld_ptr S _ rfl ?_ | refine ld_sls S rfl ?_ | refine ld_nil S rfl ?_ | refine ld_bool S rfl ?_ | refine st_store S (lt_ble rfl) fun _ S => ?_ | refine st_alloc S fun _ _ S => ?_ | refine st_held S rfl ?_ | refine w_guard (by (first | exact inK64 (by omega) (by omega) | omega | (constructor <;> omega) | ((try dsimp only [Sh.T, Sh1.T]); first | exact inK64 (by omega) (by omega) | omega | exact ⟨by decide, inK64 (by omega) (by omega)⟩ | trivial))) ?_ | refine bd_n rfl ?_ | refine bd_e rfl ?_ | refine bd_r ?_ | refine bd_p ?_ | refine ln_r ?_ | refine ln_e ?_ | refine w_true (b := true) rfl ?_ | refine w_false (b := false) rfl ?_ | refine w_guard (show noMeths _ _ by show _ = _; kernel_rfl) ?_ | refine w_item (S.rdr hrd) (by assumption) ?_ | refine h_item (S.rdr hrd) (by assumption) ?_ | refine w_num (S.rdr hro) (by assumption) ?_ | refine ld_sln S rfl ?_ | refine ld_sl S _ _ _ rfl ?_)
    have hpl2 : (put (ltO o) xs x).length = i - 0 + 1 + (n - i) := by rw [hput, hf]; simp; omega
    have S := (S.ats [.ow p3]).re p3 (LT.flat (put (ltO o) xs x)) ((c3 - (i - 0 + 1 + (n - i))) * LT.sz) rfl (by rw [hput, hf]; rfl) rfl
    have S := S.close_sl (sz := LT.sz) hc3 (by rw [LT.flat_length, hpl2])
    exact rt_n rfl rfl ⟨_, ⟨(some p3, i - 0 + 1 + (n - i), c3), rfl, rfl, hpl2.symm, hc3, rfl⟩, S.only [.ck c, .sl (some p3, i - 0 + 1 + (n - i), c3)]⟩
def treeO (o : List Int) (l : List IV) : List IV := l.foldl (fun t x => put (ltO o) t x) []
theorem put_len_le {I : Type} {lt : I → I → Bool} (l : List I) (x : I) : (put lt l x).length ≤ l.length + 1 := by
  have := pos_le (lt := lt) l x
  unfold put
  simp; omega
theorem treeO_snoc (o : List Int) (l : List IV) (x : IV) : treeO o (l ++ [x]) = put (ltO o) (treeO o l) x := by simp [treeO]
theorem foldO_len (o : List Int) : ∀ (l t : List IV), (l.foldl (fun t x => put (ltO o) t x) t).length ≤ t.length + l.length
  | [], t => Nat.le_refl _
  | x :: l, t => by
    have ih := foldO_len o l (put (ltO o) t x)
    have := put_len_le (lt := ltO o) t x
    simp only [List.foldl_cons, List.length_cons]; omega
theorem treeO_len (o : List Int) (l : List IV) : (treeO o l).length ≤ l.length := by
  have := foldO_len o l []
  simpa [treeO] using this
theorem take_snoc {I : Type} {l : List I} {i : Nat} (h : i < l.length) : l.take (i + 1) = l.take i ++ [l[i]] := List.take_succ_eq_append_getElem h
def OwnL {I : Type} (L : Lay I) (s : SlT) (xs : List I) : Prop := s.2.1 = xs.length ∧ s.2.1 ≤ s.2.2 ∧ (xs = [] ∨ s.1.isSome = true)
theorem OwnL.rdr {I : Type} {L : Lay I} {s : SlT} {xs : List I} (h : OwnL L s xs) : Rdr (SlC s L.sz (L.flat xs)) s L xs := Rdr.sl h.1 h.2.1 h.2.2
theorem sl_nil {h h0 : H} {G0 : PA → Prop} {l : List Ck} {I : Type} (L : Lay I) (S : St h0 G0 l h) : St h0 G0 (SlC (none, 0, 0) L.sz (L.flat ([] : List I)) :: l) h :=
  S.turn (l := []) (l' := [_]) fun F hF => star_one (c := SlC (none, 0, 0) L.sz (L.flat ([] : List I))) ⟨Sl.nil _ _, fun x => ⟨fun hx => (hF x hx).elim, fun hx => hx.elim⟩⟩
set_option maxHeartbeats 1000000 in
theorem c_Tree {c : Ck} {o : List Int} {op : Option PA} {on oc : Nat} (hr : Rdr c (op, on, oc) LN o) (hl : o.length ≤ 2147483647) {xs : List IV} {sp : Option PA} {n cap : Nat} (hx : Rdr c (sp, n, cap) LT xs) (hxl : xs.length ≤ 4294967296) {G : PA → Prop} (hG : Star [c] h G) :
    HT Try.prog fn_spec_Tree [.c (.sl op on oc), .c (.sl sp n cap)] false [.c .sl] h fun r h' => ∃ post, (∃ s : SlT, r = (s, ()) ∧ OwnL LT s (treeO o xs) ∧ post = [c, SlC s LT.sz (LT.flat (treeO o xs))]) ∧ St h G post h' := by
  apply hc_spec_Tree
  unfold M_spec_Tree
  have hn : n = xs.length := hx.1
  have S := sl_nil LT (St.start hG)
  refine w_bnd (w_lp (fun r y h' => ∃ (i : Nat) (s : SlT), y = ((i : Int), s, ()) ∧ i + r = n ∧ OwnL LT s (treeO o (xs.take i)) ∧ St h G [c, SlC s LT.sz (LT.flat (treeO o (xs.take i)))] h') n rfl
    ⟨0, (none, 0, 0), rfl, by omega, ⟨rfl, Nat.le_refl _, .inl rfl⟩, S.pull1⟩ ?_)
  rintro r _ _ ⟨i, s, rfl, hi, hs, S⟩
  by_cases hlt : i < n
  · obtain ⟨p, hp, hrd⟩ := hx.ptr (by omega)
    dsimp only at hp
    subst hp
    have hxi := List.getElem?_eq_getElem (show i < xs.length by omega)
    have htl := treeO_len o (xs.take i)
    have htl2 : (xs.take i).length ≤ i := List.length_take_le _ _
    simp only [Int.toNat_natCast, toNat_succ, toNat_succ2, toNat_pred]
    refine w_true (lt_t (by (first | omega | ((try dsimp only [Sh.T, Sh1.T]); omega)))) ?_
    repeat (first | refine w_nonnil ?_ | refine ld_int S rfl ?_ | refine ld_some S rfl ?_ | refine ld_ptr S _ rfl ?_ | refine ld_sls S rfl ?_ | refine ld_nil S rfl ?_ | refine ld_bool S rfl ?_ | refine st_store S (lt_ble rfl) fun _ S => ?_ | refine st_alloc S fun _ _ S => ?_ | refine st_held S rfl ?_ | refine w_guard (by (first | exact inK64 (by omega) (by omega) | omega | (constructor <;> omega) | ((try dsimp only [Sh.T, Sh1.T]); first | exact inK64 (by omega) (by omega) | omega | exact ⟨by decide, inK64 (by omega) (by omega)⟩ | trivial))) ?_ | refine bd_n rfl ?_ | refine bd_e rfl ?_ | refine bd_r ?_ | refine bd_p ?_ | refine ln_r ?_ | refine ln_e ?_ | refine w_true (b := true) rfl ?_ | refine w_false (b := false) rfl ?_ | refine w_guard (show noMeths _ _ by show _ = _; kernel_rfl) ?_ | refine w_item (S.rdr hrd) (by assumption) ?_ | refine h_item (S.rdr hrd) (by assumption) ?_ | refine w_num (S.rdr hro) (by assumption) ?_ | refine ld_sln S rfl ?_ | refine ld_sl S _ _ _ rfl ?_)
    have S := (S.ats [.ck c, .sl s])
    refine st_callT (l := StC [c, SlC s LT.sz (LT.flat (treeO o (xs.take i)))] :: _) (St.st_in (m := [_, _]) S) [.ck (StC [c, SlC s LT.sz (LT.flat (treeO o (xs.take i)))])] (fun G hG => c_Put (x := xs[i]) (Rdr.st (i := 0) rfl hr) hl (Rdr.st (i := 1) rfl hs.rdr) (by omega) hG) ?_
    rintro _ _ _ ⟨s', rfl, g1, g2, g3, rfl⟩ S
    dsimp only [List.cons_append, List.nil_append] at S
    have S := St.st_out S
    dsimp only [List.cons_append, List.nil_append] at S
    repeat (first | refine w_nonnil ?_ | refine ld_int S rfl ?_ | refine ld_some S rfl ?_ | refine ld_ptr S _ rfl ?_ | refine ld_sls S rfl ?_ | refine ld_nil S rfl ?_ | refine ld_bool S rfl ?_ | refine st_store S (lt_ble rfl) fun _ S => ?_ | refine st_alloc S fun _ _ S => ?_ | refine st_held S rfl ?_ | refine w_guard (by (first | exact inK64 (by omega) (by omega) | omega | (constructor <;> omega) | ((try dsimp only [Sh.T, Sh1.T]); first | exact inK64 (by omega) (by omega) | omega | exact ⟨by decide, inK64 (by omega) (by omega)⟩ | trivial))) ?_ | refine bd_n rfl ?_ | refine bd_e rfl ?_ | refine bd_r ?_ | refine bd_p ?_ | refine ln_r ?_ | refine ln_e ?_ | refine w_true (b := true) rfl ?_ | refine w_false (b := false) rfl ?_ | refine w_guard (show noMeths _ _ by show _ = _; kernel_rfl) ?_ | refine w_item (S.rdr hrd) (by assumption) ?_ | refine h_item (S.rdr hrd) (by assumption) ?_ | refine w_num (S.rdr hro) (by assumption) ?_ | refine ld_sln S rfl ?_ | refine ld_sl S _ _ _ rfl ?_)
    have e : put (ltO o) (treeO o (xs.take i)) xs[i] = treeO o (xs.take (i + 1)) := by rw [take_snoc (by omega), treeO_snoc]
    rw [e] at S g2
    exact ln_n rfl (r - 1) ⟨i + 1, s', rfl, by omega, ⟨g2, g3, .inr g1⟩, S.only [.ck c, .sl s']⟩ (by omega)
  · refine w_false (lt_f (by (first | omega | ((try dsimp only [Sh.T, Sh1.T]); omega)))) (ln_e (bd_e rfl (rt_1 rfl ⟨_, ⟨s, rfl, ?_⟩, S⟩)))
    rw [List.take_of_length_le (by omega)] at hs ⊢
    exact ⟨hs, rfl⟩
theorem src_part {c : Ck} {xs : List IV} {sp : Option PA} {n cap : Nat} (hx : Rdr c (sp, n, cap) LT xs) {h5 : H} {F : PA → Prop} (b k : Nat) (hb : b + k ≤ n) (hc : c.p h5 F) : RSl h5 (slBase sp cap b 2, k, cap - b) LT.sz (LT.flat ((xs.drop b).take k)) := by
  have hn : n = xs.length := hx.1
  have hcap : n ≤ cap := hx.2.1
  rcases Nat.eq_zero_or_pos xs.length with h0 | h0
  · have : xs = [] := List.length_eq_zero_iff.1 h0
    subst this
    have : k = 0 := by omega
    subst this
    exact rsl_nil _ _
  · obtain ⟨p, hp, hrd⟩ := hx.ptr h0
    dsimp only at hp
    rw [hp]
    exact rds_part (hrd h5 F hc) b k cap (cap - b) (by omega) (by omega)
theorem c_Fits {d : Int} : HT Try.prog fn_spec_Fits [.c (.int .i64 d)] false [.c .bool] h fun x h' => x = (decide (d = 0 ∨ 2 ≤ d ∧ d ≤ 128), ()) ∧ h' = h := by
  apply hc_spec_Fits
  unfold M_spec_Fits
  by_cases h0 : d = 0
  · refine w_bnd (w_true (beq_t h0) (bd_n rfl (rt_1 rfl ⟨?_, rfl⟩)))
    rw [decide_eq_true (.inl h0)]
  · refine w_bnd (w_false (beq_f h0) ?_)
    by_cases h2 : 2 ≤ d
    · refine w_true (decide_eq_true h2) (bd_n rfl (rt_1 rfl ⟨?_, rfl⟩))
      congr 1
      exact decide_eq_decide.2 ⟨fun h => .inr ⟨h2, h⟩, fun h => (h.resolve_left h0).2⟩
    · refine w_false (decide_eq_false h2) (bd_n rfl (rt_1 rfl ⟨?_, rfl⟩))
      rw [decide_eq_false (fun h => h2 (h.resolve_left h0).1)]
end
end Go.Proofs.Ytegnpimlfphncaa
