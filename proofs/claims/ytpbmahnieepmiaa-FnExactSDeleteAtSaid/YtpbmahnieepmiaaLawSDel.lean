/-
  The law FnExactSDeleteAt. Conditions: none.
-/
import Derived.Test.YtpbmahnieepmiaaPgA
import Derived.Test.YtpbmahnieepmiaaLawSLoad
import Derived.Test.YtpbmahnieepmiaaTda
import Derived.Test.YtpbmahnieepmiaaPdms
set_option linter.unusedVariables false
set_option linter.unusedSimpArgs false
set_option linter.unusedSectionVars false
set_option maxRecDepth 100000
namespace Go.Proofs.Ytpbmahnieepmiaa
open Go
def M_slices_Equal_impl_Key_impl_Key (a0p : Option PA) (a0l : Nat) (a0c : Nat) (a1p : Option PA) (a1l : Nat) (a1c : Nat) : M :=
  .ite ((↑a0l : Int) != (↑a1l : Int))
  (.done .ret [.c (.ff)])
  (.bind (some 0) (.loop [.c (.int .i64)] [.c (.int .i64 (0))] fun y0 =>
        .ite (decide (y0.fst < (↑a0l : Int)))
        (.nonnil (a0p) fun p1 =>
          .guard (((0 : Int) ≤ y0.fst) ∧ ((y0.fst : Int) < (↑a0l : Int))) <|
          .load (p1.fst, p1.snd + mulN (Int.toNat y0.fst) 2) (.int .i64) fun i2 =>
          .load (p1.fst, p1.snd + mulN (Int.toNat y0.fst) 2 + 1) (.bool) fun b3 =>
          .nonnil (a1p) fun p4 =>
          .guard (((0 : Int) ≤ y0.fst) ∧ ((y0.fst : Int) < (↑a1l : Int))) <|
          .load (p4.fst, p4.snd + mulN (Int.toNat y0.fst) 2) (.int .i64) fun i5 =>
          .load (p4.fst, p4.snd + mulN (Int.toNat y0.fst) 2 + 1) (.bool) fun b6 =>
          .ite (!(i2 == i5 && (b3 == b6 && true)))
          (.done .ret [.c (.ff)])
          (.guard (InK IntKind.i64 (y0.fst + 1)) <|
            .done .normal [.c (.int .i64 (y0.fst + 1))]))
        (.done (.exit 0) [])) [] fun x7 =>
    .done .ret [.c (.tt)])
theorem den_slices_Equal_impl_Key_impl_Key (a0p : Option PA) (a0l : Nat) (a0c : Nat) (a1p : Option PA) (a1l : Nat) (a1c : Nat) : denFn Try.prog Try.f38 [.c (.sl a0p a0l a0c), .c (.sl a1p a1l a1c)] = M_slices_Equal_impl_Key_impl_Key a0p a0l a0c a1p a1l a1c := by kernel_rfl
theorem hc_slices_Equal_impl_Key_impl_Key (a0p : Option PA) (a0l : Nat) (a0c : Nat) (a1p : Option PA) (a1l : Nat) (a1c : Nat) {h : H} {R : Value → H → Prop} (hw : wp Try.prog (M_slices_Equal_impl_Key_impl_Key a0p a0l a0c a1p a1l a1c) (Ret R) h) : HC Try.prog fn_slices_Equal_impl_Key_impl_Key (List.map AV.val [.c (.sl a0p a0l a0c), .c (.sl a1p a1l a1c)]).toArray h R :=
  den_calls hmix Try.func38 (of_decide_eq_true rfl) (by rw [den_slices_Equal_impl_Key_impl_Key]; exact hw)
def M_impl_key (a0 : Int) (a1 : Bool) : M :=
  .alloc ty_impl_Key [.int .i64 (0), .ff] fun n0 =>
  .ite (!a1)
  (.store (n0, 0) (.int .i64 (0)) <|
    .store (n0, 1) (.ff) <|
    .load (n0, 0) (.int .i64) fun i1 =>
    .load (n0, 1) (.bool) fun b2 =>
    .done .ret [.agg [.int .i64 (i1), .bool (b2)]])
  (.store (n0, 0) (.int .i64 (a0)) <|
    .store (n0, 1) (.tt) <|
    .load (n0, 0) (.int .i64) fun i3 =>
    .load (n0, 1) (.bool) fun b4 =>
    .done .ret [.agg [.int .i64 (i3), .bool (b4)]])
theorem den_impl_key (a0 : Int) (a1 : Bool) : denFn Try.prog Try.f54 [.c (.int .i64 a0), .c (.bool a1)] = M_impl_key a0 a1 := by kernel_rfl
theorem hc_impl_key (a0 : Int) (a1 : Bool) {h : H} {R : Value → H → Prop} (hw : wp Try.prog (M_impl_key a0 a1) (Ret R) h) : HC Try.prog fn_impl_key (List.map AV.val [.c (.int .i64 a0), .c (.bool a1)]).toArray h R :=
  den_calls hmix Try.func54 (of_decide_eq_true rfl) (by rw [den_impl_key]; exact hw)
def M_laws_keyOf (a00 : Int) (a01 : Int) (a02 : Bool) : M :=
  .alloc ty_impl_Found [.int .i64 (a00), .int .i64 (a01), .bool (a02)] fun n0 =>
  .alloc ty_impl_Key [.int .i64 (0), .ff] fun n1 =>
  .load (n0, 0) (.int .i64) fun i2 =>
  .load (n0, 2) (.bool) fun b3 =>
  .store (n1, 0) (.int .i64 (i2)) <|
  .store (n1, 1) (.bool (b3)) <|
  .load (n1, 0) (.int .i64) fun i4 =>
  .load (n1, 1) (.bool) fun b5 =>
  .done .ret [.agg [.int .i64 (i4), .bool (b5)]]
theorem den_laws_keyOf (a00 : Int) (a01 : Int) (a02 : Bool) : denFn Try.prog Try.f57 [.agg [.int .i64 a00, .int .i64 a01, .bool a02]] = M_laws_keyOf a00 a01 a02 := by kernel_rfl
theorem hc_laws_keyOf (a00 : Int) (a01 : Int) (a02 : Bool) {h : H} {R : Value → H → Prop} (hw : wp Try.prog (M_laws_keyOf a00 a01 a02) (Ret R) h) : HC Try.prog fn_laws_keyOf (List.map AV.val [.agg [.int .i64 a00, .int .i64 a01, .bool a02]]).toArray h R :=
  den_calls hmix Try.func57 (of_decide_eq_true rfl) (by rw [den_laws_keyOf]; exact hw)
def M_laws_keysOf (a0p : Option PA) (a0l : Nat) (a0c : Nat) : M :=
  .bind (some 0) (.loop [.c (.int .i64), .c (.sl)] [.c (.int .i64 (0)), .c (.sl none (0) (0))] fun y0 =>
      .ite (decide (y0.fst < (↑a0l : Int)))
      (.nonnil (a0p) fun p1 =>
        .guard (((0 : Int) ≤ y0.fst) ∧ ((y0.fst : Int) < (↑a0l : Int))) <|
        .load (p1.fst, p1.snd + mulN (Int.toNat y0.fst) 3) (.int .i64) fun i2 =>
        .load (p1.fst, p1.snd + mulN (Int.toNat y0.fst) 3 + 1) (.int .i64) fun i3 =>
        .load (p1.fst, p1.snd + mulN (Int.toNat y0.fst) 3 + 2) (.bool) fun b4 =>
        .alloc ty_impl_Found [.int .i64 (0), .int .i64 (0), .ff] fun n5 =>
        .store (n5, 0) (.int .i64 (i2)) <|
        .store (n5, 1) (.int .i64 (i3)) <|
        .store (n5, 2) (.bool (b4)) <|
        .load (n5, 0) (.int .i64) fun i6 =>
        .load (n5, 1) (.int .i64) fun i7 =>
        .load (n5, 2) (.bool) fun b8 =>
        .call fn_laws_keyOf [.agg [.int .i64 (i6), .int .i64 (i7), .bool (b8)]] false [.agg [.int .i64, .bool]] fun r9 =>
        .alloc ty_impl_Key [.int .i64 (r9.fst.fst), .bool (r9.fst.snd.fst)] fun n10 =>
        .append ty_impl_Key 2 16 [.int .i64 (0), .ff] ((y0.snd.fst.fst), y0.snd.fst.snd.fst, y0.snd.fst.snd.snd) ((some (n10, 0)), 1, 1) fun s11 =>
        .guard (InK IntKind.i64 (y0.fst + 1)) <|
        .done .normal [.c (.int .i64 (y0.fst + 1)), .c (.sl (s11.fst) (s11.snd.fst) (s11.snd.snd))])
      (.done (.exit 0) [.c (.sl (y0.snd.fst.fst) (y0.snd.fst.snd.fst) (y0.snd.fst.snd.snd))])) [.c (.sl)] fun x12 =>
  .done .ret [.c (.sl (x12.fst.fst) (x12.fst.snd.fst) (x12.fst.snd.snd))]
theorem den_laws_keysOf (a0p : Option PA) (a0l : Nat) (a0c : Nat) : denFn Try.prog Try.f37 [.c (.sl a0p a0l a0c)] = M_laws_keysOf a0p a0l a0c := by kernel_rfl
theorem hc_laws_keysOf (a0p : Option PA) (a0l : Nat) (a0c : Nat) {h : H} {R : Value → H → Prop} (hw : wp Try.prog (M_laws_keysOf a0p a0l a0c) (Ret R) h) : HC Try.prog fn_laws_keysOf (List.map AV.val [.c (.sl a0p a0l a0c)]).toArray h R :=
  den_calls hmix Try.func37 (of_decide_eq_true rfl) (by rw [den_laws_keysOf]; exact hw)
def M_impl_SDeleteAt (a0p : Option PA) (a0l : Nat) (a0c : Nat) (a1p : Option PA) (a1l : Nat) (a1c : Nat) : M :=
  .call fn_impl_growSet [.c (.sl (a0p) (a0l) (a0c))] false [.c (.ptr)] fun r0 =>
  .bind (some 0) (.loop [.c (.int .i64), .c (.sl)] [.c (.int .i64 (0)), .c (.sl none (0) (0))] fun y1 =>
      .ite (decide (y1.fst < (↑a1l : Int)))
      (.nonnil (a1p) fun p2 =>
        .guard (((0 : Int) ≤ y1.fst) ∧ ((y1.fst : Int) < (↑a1l : Int))) <|
        .load (p2.fst, p2.snd + Int.toNat y1.fst) (.int .i64) fun i3 =>
        .call fn_set_DeleteAt [.c (.ptr (r0.fst)), .c (.int .i64 (i3))] true [.c (.int .i64), .c (.bool)] fun r4 =>
        .call fn_impl_key [.c (.int .i64 (r4.fst)), .c (.bool (r4.snd.fst))] false [.agg [.int .i64, .bool]] fun r5 =>
        .alloc ty_impl_Key [.int .i64 (r5.fst.fst), .bool (r5.fst.snd.fst)] fun n6 =>
        .append ty_impl_Key 2 16 [.int .i64 (0), .ff] ((y1.snd.fst.fst), y1.snd.fst.snd.fst, y1.snd.fst.snd.snd) ((some (n6, 0)), 1, 1) fun s7 =>
        .guard (InK IntKind.i64 (y1.fst + 1)) <|
        .done .normal [.c (.int .i64 (y1.fst + 1)), .c (.sl (s7.fst) (s7.snd.fst) (s7.snd.snd))])
      (.done (.exit 0) [.c (.sl (y1.snd.fst.fst) (y1.snd.fst.snd.fst) (y1.snd.fst.snd.snd))])) [.c (.sl)] fun x8 =>
  .call fn_set_Keys [.c (.ptr (r0.fst))] false [.c (.sl)] fun r9 =>
  .done .ret [.c (.sl (x8.fst.fst) (x8.fst.snd.fst) (x8.fst.snd.snd)), .c (.sl (r9.fst.fst) (r9.fst.snd.fst) (r9.fst.snd.snd))]
theorem den_impl_SDeleteAt (a0p : Option PA) (a0l : Nat) (a0c : Nat) (a1p : Option PA) (a1l : Nat) (a1c : Nat) : denFn Try.prog Try.f35 [.c (.sl a0p a0l a0c), .c (.sl a1p a1l a1c)] = M_impl_SDeleteAt a0p a0l a0c a1p a1l a1c := by kernel_rfl
theorem hc_impl_SDeleteAt (a0p : Option PA) (a0l : Nat) (a0c : Nat) (a1p : Option PA) (a1l : Nat) (a1c : Nat) {h : H} {R : Value → H → Prop} (hw : wp Try.prog (M_impl_SDeleteAt a0p a0l a0c a1p a1l a1c) (Ret R) h) : HC Try.prog fn_impl_SDeleteAt (List.map AV.val [.c (.sl a0p a0l a0c), .c (.sl a1p a1l a1c)]).toArray h R :=
  den_calls hmix Try.func35 (of_decide_eq_true rfl) (by rw [den_impl_SDeleteAt]; exact hw)
def M_laws_sDeleteAt (a0p : Option PA) (a0l : Nat) (a0c : Nat) (a1p : Option PA) (a1l : Nat) (a1c : Nat) : M :=
  .call fn_impl_SDeleteAt [.c (.sl (a0p) (a0l) (a0c)), .c (.sl (a1p) (a1l) (a1c))] true [.c (.sl), .c (.sl)] fun r0 =>
  .call fn_spec_Items [.c (.sl (a0p) (a0l) (a0c))] false [.c (.sl)] fun r1 =>
  .call fn_spec_GDeleteAt [.agg [.sl none (0) (0), .int .i64 (0), .ff], .c (.sl (r1.fst.fst) (r1.fst.snd.fst) (r1.fst.snd.snd)), .c (.sl (a1p) (a1l) (a1c))] true [.c (.sl), .c (.sl)] fun r2 =>
  .call fn_laws_keysOf [.c (.sl (r2.fst.fst) (r2.fst.snd.fst) (r2.fst.snd.snd))] false [.c (.sl)] fun r3 =>
  .call fn_spec_Keys [.c (.sl (r2.snd.fst.fst) (r2.snd.fst.snd.fst) (r2.snd.fst.snd.snd))] false [.c (.sl)] fun r4 =>
  .bind none (.call fn_slices_Equal_impl_Key_impl_Key [.c (.sl (r0.fst.fst) (r0.fst.snd.fst) (r0.fst.snd.snd)), .c (.sl (r3.fst.fst) (r3.fst.snd.fst) (r3.fst.snd.snd))] false [.c (.bool)] fun r5 =>
    .ite (r5.fst)
    (.call fn_slices_Equal_int_int [.c (.sl (r0.snd.fst.fst) (r0.snd.fst.snd.fst) (r0.snd.fst.snd.snd)), .c (.sl (r4.fst.fst) (r4.fst.snd.fst) (r4.fst.snd.snd))] false [.c (.bool)] fun r6 =>
      .done .normal [.c (.bool (r6.fst))])
    (.done .normal [.c (.ff)])) [.c (.bool)] fun x7 =>
  .done .ret [.c (.bool (x7.fst))]
theorem den_laws_sDeleteAt (a0p : Option PA) (a0l : Nat) (a0c : Nat) (a1p : Option PA) (a1l : Nat) (a1c : Nat) : denFn Try.prog Try.f17 [.c (.sl a0p a0l a0c), .c (.sl a1p a1l a1c)] = M_laws_sDeleteAt a0p a0l a0c a1p a1l a1c := by kernel_rfl
theorem hc_laws_sDeleteAt (a0p : Option PA) (a0l : Nat) (a0c : Nat) (a1p : Option PA) (a1l : Nat) (a1c : Nat) {h : H} {R : Value → H → Prop} (hw : wp Try.prog (M_laws_sDeleteAt a0p a0l a0c a1p a1l a1c) (Ret R) h) : HC Try.prog fn_laws_sDeleteAt (List.map AV.val [.c (.sl a0p a0l a0c), .c (.sl a1p a1l a1c)]).toArray h R :=
  den_calls hmix Try.func17 (of_decide_eq_true rfl) (by rw [den_laws_sDeleteAt]; exact hw)
def M_laws_FnExactSDeleteAt (a0p : Option PA) (a0l : Nat) (a0c : Nat) (a1p : Option PA) (a1l : Nat) (a1c : Nat) : M :=
  .bind none (.ite (decide ((↑a0l : Int) > 2147483647))
    (.done .normal [.c (.tt)])
    (.done .normal [.c (.bool (decide ((↑a1l : Int) > 2147483647)))])) [.c (.bool)] fun x0 =>
  .ite (x0.fst)
  (.done .ret [.c (.tt)])
  (.bind none (.alloc ty_int [.int .i64 (5), .int .i64 (3), .int .i64 (9), .int .i64 (3), .int .i64 (1)] fun n1 =>
      .call fn_laws_exPlaces [] false [.c (.sl)] fun r2 =>
      .call fn_laws_sDeleteAt [.c (.sl (some (n1, 0)) (5) (5)), .c (.sl (r2.fst.fst) (r2.fst.snd.fst) (r2.fst.snd.snd))] false [.c (.bool)] fun r3 =>
      .ite (r3.fst)
      (.call fn_laws_sDeleteAt [.c (.sl (a0p) (a0l) (a0c)), .c (.sl (a1p) (a1l) (a1c))] false [.c (.bool)] fun r4 =>
        .done .normal [.c (.bool (r4.fst))])
      (.done .normal [.c (.ff)])) [.c (.bool)] fun x5 =>
    .done .ret [.c (.bool (x5.fst))])
theorem den_laws_FnExactSDeleteAt (a0p : Option PA) (a0l : Nat) (a0c : Nat) (a1p : Option PA) (a1l : Nat) (a1c : Nat) : denFn Try.prog Try.f7 [.c (.sl a0p a0l a0c), .c (.sl a1p a1l a1c)] = M_laws_FnExactSDeleteAt a0p a0l a0c a1p a1l a1c := by kernel_rfl
theorem hc_laws_FnExactSDeleteAt (a0p : Option PA) (a0l : Nat) (a0c : Nat) (a1p : Option PA) (a1l : Nat) (a1c : Nat) {h : H} {R : Value → H → Prop} (hw : wp Try.prog (M_laws_FnExactSDeleteAt a0p a0l a0c a1p a1l a1c) (Ret R) h) : HC Try.prog fn_laws_FnExactSDeleteAt (List.map AV.val [.c (.sl a0p a0l a0c), .c (.sl a1p a1l a1c)]).toArray h R :=
  den_calls hmix Try.func7 (of_decide_eq_true rfl) (by rw [den_laws_FnExactSDeleteAt]; exact hw)
def LY : Lay (Option Int) where
  sz := 2
  cells x := [.int .i64 (x.getD 0), .bool x.isSome]
  len _ := rfl
  one _ _ hv := by simp at hv; rcases hv with rfl | rfl <;> rfl
  pos := by decide
def fK (x : Option IV) : Option Int := x.map (·.1)
def fKs (l : List (Option IV)) : List (Option Int) := l.map fK
theorem fKs_len (l : List (Option IV)) : (fKs l).length = l.length := List.length_map _
theorem fKs_snoc (l : List (Option IV)) (x : Option IV) : fKs (l ++ [x]) = fKs l ++ [fK x] := by unfold fKs; rw [List.map_append]; rfl
theorem atK_kL (l : List IV) (i : Int) : MS.atK (kL l) i = (atZ l i).map kS := by
  unfold MS.atK atZ kL
  split
  · rfl
  · rw [List.getElem?_map]
theorem eraseIdx_mapZ {I J : Type} (f : I → J) : ∀ (l : List I) (i : Nat), (l.map f).eraseIdx i = (l.eraseIdx i).map f
  | [], _ => rfl
  | _ :: _, 0 => rfl
  | a :: l, i + 1 => by
    show f a :: (l.map f).eraseIdx i = f a :: (l.eraseIdx i).map f
    rw [eraseIdx_mapZ f l i]
theorem cutK_kL (l : List IV) (i : Int) : MS.cutK (kL l) i = kL (cutZ l i) := by
  unfold MS.cutK cutZ kL
  split
  · rfl
  · exact eraseIdx_mapZ kS l i.toNat
section
variable {P : Program} {Q : Ex → List AV → H → Prop} {h h0 : H} {G0 : PA → Prop} {l : List Ck}
theorem w_ky {p : PA} {xs : List (Option Int)} (hr : rds h p (LY.flat xs)) {i : Nat} {x : Option Int} (hx : xs[i]? = some x) {m : Int → Bool → M}
    (hw : wp P (m (x.getD 0) x.isSome) Q h) : wp P (.load (p.1, p.2 + mulN i 2) (.int .i64) fun k => .load (p.1, p.2 + mulN i 2 + 1) .bool fun b => m k b) Q h := by
  have h0 := hr (i * 2 + 0) _ (LY.flat_get (j := 0) hx rfl)
  have h1 := hr (i * 2 + 1) _ (LY.flat_get (j := 1) hx rfl)
  rw [mulN_eq]
  exact w_int _ (by simpa [Nat.add_assoc] using h0) (w_bool _ (by simpa [Nat.add_assoc] using h1) hw)
theorem c_EqualKeys {c : Ck} {xs : List (Option Int)} {sp tp : Option PA} {n m cn cm : Nat} (hx : Rdr c (sp, n, cn) LY xs) (hy : Rdr c (tp, m, cm) LY xs) (hl : xs.length ≤ 4294967296) {G : PA → Prop} (hG : Star [c] h G) :
    HT Try.prog fn_slices_Equal_impl_Key_impl_Key [.c (.sl sp n cn), .c (.sl tp m cm)] false [.c .bool] h fun r h' => ∃ post, (r = (true, ()) ∧ post = [c]) ∧ St h G post h' := by
  apply hc_slices_Equal_impl_Key_impl_Key
  unfold M_slices_Equal_impl_Key_impl_Key
  have hn : n = xs.length := hx.1
  have hm : m = xs.length := hy.1
  have S := St.start hG
  have hnm : n = m := by omega
  subst hnm
  refine w_false (by simp) ?_
  refine w_bnd (w_lp (fun r y h' => ∃ i : Nat, y = ((i : Int), ()) ∧ i + r = n ∧ St h G [c] h') n rfl ⟨0, rfl, by omega, S⟩ ?_)
  rintro r _ _ ⟨i, rfl, hi, S⟩
  by_cases hlt : i < n
  · obtain ⟨p, hp, hro⟩ := hx.ptr (by omega)
    obtain ⟨q, hq, hro2⟩ := hy.ptr (by omega)
    dsimp only at hp hq
    subst hp; subst hq
    have hxi := List.getElem?_eq_getElem (show i < xs.length by omega)
    simp only [Int.toNat_natCast, toNat_succ, toNat_succ2, toNat_pred]
    refine w_true (lt_t (by (first | omega | ((try dsimp only [Sh.T, Sh1.T]); omega)))) ?_
    refine w_nonnil (w_guard ⟨by (first | omega | ((try dsimp only [Sh.T, Sh1.T]); omega)), by (first | omega | ((try dsimp only [Sh.T, Sh1.T]); omega))⟩ (w_ky (S.rdr hro) hxi ?_))
    refine w_nonnil (w_guard ⟨by (first | omega | ((try dsimp only [Sh.T, Sh1.T]); omega)), by (first | omega | ((try dsimp only [Sh.T, Sh1.T]); omega))⟩ (w_ky (S.rdr hro2) hxi ?_))
    refine w_false (by simp) ?_
    repeat (first | refine w_nonnil ?_ | refine ld_int S rfl ?_ | refine ld_some S rfl ?_ | refine ld_ptr S _ rfl ?_ | refine ld_sls S rfl ?_ | refine ld_nil S rfl ?_ | refine ld_bool S rfl ?_ | refine st_store S (lt_ble rfl) fun _ S => ?_ | refine st_alloc S fun _ _ S => ?_ | refine st_held S rfl ?_ | refine w_guard (by (first | exact inK64 (by omega) (by omega) | omega | (constructor <;> omega) | ((try dsimp only [Sh.T, Sh1.T]); first | exact inK64 (by omega) (by omega) | omega | exact ⟨by decide, inK64 (by omega) (by omega)⟩ | trivial))) ?_ | refine bd_n rfl ?_ | refine bd_e rfl ?_ | refine bd_r ?_ | refine bd_p ?_ | refine ln_r ?_ | refine ln_e ?_ | refine w_true (b := true) rfl ?_ | refine w_false (b := false) rfl ?_ | refine w_guard (show noMeths _ _ by show _ = _; kernel_rfl) ?_ | refine w_item (S.rdr hrd) (by assumption) ?_ | refine h_item (S.rdr hrd) (by assumption) ?_ | refine w_num (S.rdr hro) (by assumption) ?_ | refine ld_sln S rfl ?_ | refine ld_sl S _ _ _ rfl ?_)
    exact ln_n rfl (r - 1) ⟨i + 1, rfl, by omega, S⟩ (by omega)
  · exact w_false (lt_f (by (first | omega | ((try dsimp only [Sh.T, Sh1.T]); omega)))) (ln_e (bd_e rfl (rt_1 rfl ⟨_, ⟨rfl, rfl⟩, S⟩)))
theorem c_key {k : Int} {b : Bool} {G : PA → Prop} (hG : Star [] h G) :
    HT Try.prog fn_impl_key [.c (.int .i64 k), .c (.bool b)] false [.agg [.int .i64, .bool]] h fun r h' => ∃ post, (r = ((if b then k else 0, b, ()), ()) ∧ post = []) ∧ St h G post h' := by
  apply hc_impl_key
  unfold M_impl_key
  refine st_alloc (St.start hG) fun n0 _ S => ?_
  cases b with
  | true => exact w_false rfl (st_store S (lt_ble rfl) fun _ S => st_store S (lt_ble rfl) fun _ S => ld_int S rfl (ld_bool S rfl (rt_1 rfl ⟨_, ⟨rfl, rfl⟩, S.only []⟩)))
  | false => exact w_true rfl (st_store S (lt_ble rfl) fun _ S => st_store S (lt_ble rfl) fun _ S => ld_int S rfl (ld_bool S rfl (rt_1 rfl ⟨_, ⟨rfl, rfl⟩, S.only []⟩)))
theorem c_keyOf {x : Option IV} {G : PA → Prop} (hG : Star [] h G) :
    HT Try.prog fn_laws_keyOf [.agg [.int .i64 (x.getD (0, 0)).1, .int .i64 (x.getD (0, 0)).2, .bool x.isSome]] false [.agg [.int .i64, .bool]] h fun r h' => ∃ post, (r = (((fK x).getD 0, (fK x).isSome, ()), ()) ∧ post = []) ∧ St h G post h' := by
  apply hc_laws_keyOf
  unfold M_laws_keyOf
  refine st_alloc (St.start hG) fun n0 _ S => ?_
  refine st_alloc S fun n1 _ S => ?_
  refine ld_int S rfl (ld_bool S rfl (st_store S (lt_ble rfl) fun _ S => st_store S (lt_ble rfl) fun _ S => ld_int S rfl (ld_bool S rfl (rt_1 rfl ⟨_, ⟨?_, rfl⟩, S.only []⟩))))
  cases x <;> rfl
theorem c_keysOf {c : Ck} {xs : List (Option IV)} {sp : Option PA} {n cap : Nat} (hx : Rdr c (sp, n, cap) LF xs) (hxl : xs.length ≤ 4294967296) {G : PA → Prop} (hG : Star [c] h G) :
    HT Try.prog fn_laws_keysOf [.c (.sl sp n cap)] false [.c .sl] h fun r h' => ∃ post, (∃ s : SlT, r = (s, ()) ∧ OwnL LY s (fKs xs) ∧ post = [c, SlC s LY.sz (LY.flat (fKs xs))]) ∧ St h G post h' := by
  apply hc_laws_keysOf
  unfold M_laws_keysOf
  have hn : n = xs.length := hx.1
  have S := sl_nil LY (St.start hG)
  refine w_bnd (w_lp (fun r y h' => ∃ (i : Nat) (s : SlT), y = ((i : Int), s, ()) ∧ i + r = n ∧ OwnL LY s (fKs (xs.take i)) ∧ St h G [c, SlC s LY.sz (LY.flat (fKs (xs.take i)))] h') n rfl
    ⟨0, (none, 0, 0), rfl, by omega, ⟨rfl, Nat.le_refl _, .inl rfl⟩, S.pull1⟩ ?_)
  rintro r _ _ ⟨i, s, rfl, hi, hs, S⟩
  by_cases hlt : i < n
  · obtain ⟨p, hp, hrd⟩ := hx.ptr (by omega)
    dsimp only at hp
    subst hp
    have hxi := List.getElem?_eq_getElem (show i < xs.length by omega)
    have hsl : (fKs (xs.take i)).length = i := by rw [fKs_len, List.length_take]; omega
    obtain ⟨s1, s2, s3⟩ := s
    simp only [Int.toNat_natCast, toNat_succ, toNat_succ2, toNat_pred]
    refine w_true (lt_t (by (first | omega | ((try dsimp only [Sh.T, Sh1.T]); omega)))) (w_nonnil (w_guard ⟨by (first | omega | ((try dsimp only [Sh.T, Sh1.T]); omega)), by (first | omega | ((try dsimp only [Sh.T, Sh1.T]); omega))⟩ (w_fnd (S.rdr hrd) hxi ?_)))
    refine st_alloc S fun n5 _ S => ?_
    refine st_store S (lt_ble rfl) fun _ S => st_store S (lt_ble rfl) fun _ S => st_store S (lt_ble rfl) fun _ S => ld_int S rfl (ld_int S rfl (ld_bool S rfl ?_))
    refine st_callT S [] (fun G hG => c_keyOf (x := xs[i]) hG) ?_
    rintro _ _ _ ⟨rfl, rfl⟩ S
    dsimp only [List.cons_append, List.nil_append] at S
    refine st_alloc S fun n10 _ S => ?_
    refine st_apo (L := LY) (xs := fKs (xs.take i)) (y := fK xs[i]) S hs rfl rfl (S.rsl (LY.flat [_]) 1 1 2 (fun i v h => by rw [Nat.zero_add]; exact h) rfl) ⟨by omega, by omega⟩ fun s' _ hs' S => ?_
    rw [← fKs_snoc, ← take_snoc (by omega)] at S hs'
    refine w_guard (inK64 (by (first | omega | ((try dsimp only [Sh.T, Sh1.T]); omega))) (by (first | omega | ((try dsimp only [Sh.T, Sh1.T]); omega)))) ?_
    exact ln_n rfl (r - 1) ⟨i + 1, s', rfl, by omega, hs', S.only [.ck c, .sl s']⟩ (by omega)
  · refine w_false (lt_f (by (first | omega | ((try dsimp only [Sh.T, Sh1.T]); omega)))) (ln_e (bd_e rfl (rt_1 rfl ⟨_, ⟨s, rfl, ?_⟩, S⟩)))
    rw [List.take_of_length_le (by omega)] at hs ⊢
    exact ⟨hs, rfl⟩
theorem c_setDeleteAt {a0 : PA} {l : List IV} {i : Int} (hl : l.length ≤ 4294967296) {G : PA → Prop} (hG : Star [MS.MpC 0 31 a0 (kL l)] h G) :
    HT Try.prog fn_set_DeleteAt [.c (.addr a0), .c (.int .i64 i)] true [.c (.int .i64), .c .bool] h fun r h' => ∃ post, (r = ((fK (atZ l i)).getD 0, (fK (atZ l i)).isSome, ()) ∧ post = [MS.MpC 0 31 a0 (kL (cutZ l i))]) ∧ St h G post h' := by
  apply hc_set_DeleteAt
  unfold M_set_DeleteAt
  refine st_callT (St.start hG) [.mp a0] (fun G hG => MS.c_DeleteAt (by decide) (by rw [kL_len]; exact hl) hG) ?_
  rintro _ _ _ ⟨rfl, rfl⟩ S
  dsimp only [List.cons_append, List.nil_append] at S
  rw [atK_kL, cutK_kL] at *
  refine st_alloc S fun nz _ S => ?_
  refine rt_n rfl rfl ⟨_, ⟨?_, rfl⟩, S.only [.mp a0]⟩
  cases atZ l i <;> rfl
set_option maxHeartbeats 1000000 in
theorem c_SDeleteAt {c : Ck} {xs : List Int} {sp : Option PA} {n cap : Nat} (hx : Rdr c (sp, n, cap) LN xs) (hxl : xs.length ≤ 2147483647) {bs : List Int} {bp : Option PA} {bn bc : Nat} (hb : Rdr c (bp, bn, bc) LN bs) (hbl : bs.length ≤ 2147483647) {G : PA → Prop} (hG : Star [c] h G) :
    HT Try.prog fn_impl_SDeleteAt [.c (.sl sp n cap), .c (.sl bp bn bc)] true [.c .sl, .c .sl] h fun r h' => ∃ post, (∃ s s2 : SlT, r = (s, s2, ()) ∧ OwnL LY s (fKs (cutsF (setO xs) bs)) ∧ OwnL LN s2 (yO (cutsR (setO xs) bs)) ∧
      post = [c, SlC s LY.sz (LY.flat (fKs (cutsF (setO xs) bs))), SlC s2 LN.sz (LN.flat (yO (cutsR (setO xs) bs)))]) ∧ St h G post h' := by
  apply hc_impl_SDeleteAt
  unfold M_impl_SDeleteAt
  have hn : bn = bs.length := hb.1
  have htl := setO_len xs
  have S := St.start hG
  refine st_callT S [.ck c] (fun G hG => c_growSet hx hxl hG) ?_
  rintro _ _ _ ⟨m, rfl, rfl⟩ S
  dsimp only [List.cons_append, List.nil_append] at S
  have S := sl_nil LY S
  refine w_mid' (some 0) (fun (y : SV [.c .sl]) h' => ∃ s : SlT, y = (s, ()) ∧ OwnL LY s (fKs (cutsF (setO xs) bs)) ∧ St h G [c, MS.MpC 0 31 (m, 0) (kL (cutsR (setO xs) bs)), SlC s LY.sz (LY.flat (fKs (cutsF (setO xs) bs)))] h') ?_ ?_
  · refine w_lp (fun r y h' => ∃ (i : Nat) (s : SlT), y = ((i : Int), s, ()) ∧ i + r = bn ∧ OwnL LY s (fKs (cutsF (setO xs) (bs.take i))) ∧ St h G [c, MS.MpC 0 31 (m, 0) (kL (cutsR (setO xs) (bs.take i))), SlC s LY.sz (LY.flat (fKs (cutsF (setO xs) (bs.take i))))] h') bn rfl
      ⟨0, (none, 0, 0), rfl, by omega, ⟨rfl, Nat.le_refl _, .inl rfl⟩, S.only [.ck c, .mp (m, 0), .sl (none, 0, 0)]⟩ ?_
    clear S
    rintro r _ _ ⟨i, s, rfl, hi, hs, S⟩
    by_cases hlt : i < bn
    · obtain ⟨p, hp, hro⟩ := hb.ptr (by omega)
      dsimp only at hp
      subst hp
      have hxi := List.getElem?_eq_getElem (show i < bs.length by omega)
      have hsl : (fKs (cutsF (setO xs) (bs.take i))).length = i := by rw [fKs_len, cutsF_len, List.length_take]; omega
      have hrl := cutsR_len (setO xs) (bs.take i)
      obtain ⟨s1, s2, s3⟩ := s
      simp only [Int.toNat_natCast, toNat_succ, toNat_succ2, toNat_pred]
      refine w_true (lt_t (by (first | omega | ((try dsimp only [Sh.T, Sh1.T]); omega)))) (w_nonnil (w_guard ⟨by (first | omega | ((try dsimp only [Sh.T, Sh1.T]); omega)), by (first | omega | ((try dsimp only [Sh.T, Sh1.T]); omega))⟩ (w_num (S.rdr hro) hxi ?_)))
      refine st_callV S [.mp (m, 0)] (args' := [.c (.addr (m, 0)), .c (.int .i64 bs[i])]) rfl (fun G hG => c_setDeleteAt (by omega) hG) ?_
      rintro _ _ _ ⟨rfl, rfl⟩ S
      dsimp only [List.cons_append, List.nil_append] at S
      refine st_callT S [] (fun G hG => c_key hG) ?_
      rintro _ _ _ ⟨rfl, rfl⟩ S
      dsimp only [List.cons_append, List.nil_append] at S
      have ek : (if (fK (atZ (cutsR (setO xs) (bs.take i)) bs[i])).isSome = true then (fK (atZ (cutsR (setO xs) (bs.take i)) bs[i])).getD 0 else 0) = (fK (atZ (cutsR (setO xs) (bs.take i)) bs[i])).getD 0 := by
        cases fK (atZ (cutsR (setO xs) (bs.take i)) bs[i]) <;> rfl
      rw [ek]
      refine st_alloc S fun n6 _ S => ?_
      refine st_apo (L := LY) (xs := fKs (cutsF (setO xs) (bs.take i))) (y := fK (atZ (cutsR (setO xs) (bs.take i)) bs[i])) S hs rfl rfl (S.rsl (LY.flat [_]) 1 1 2 (fun i v h => by rw [Nat.zero_add]; exact h) rfl) ⟨by omega, by omega⟩ fun s' _ hs' S => ?_
      rw [← fKs_snoc, ← cutsF_snoc, ← take_snoc (by omega)] at hs'
      rw [← fKs_snoc, ← cutsF_snoc, ← cutsR_snoc, ← take_snoc (by omega)] at S
      refine w_guard (inK64 (by (first | omega | ((try dsimp only [Sh.T, Sh1.T]); omega))) (by (first | omega | ((try dsimp only [Sh.T, Sh1.T]); omega)))) ?_
      exact ln_n rfl (r - 1) ⟨i + 1, s', rfl, by omega, hs', S.only [.ck c, .mp (m, 0), .sl s']⟩ (by omega)
    · rw [List.take_of_length_le (by omega)] at hs S
      exact w_false (lt_f (by (first | omega | ((try dsimp only [Sh.T, Sh1.T]); omega)))) (ln_e (md_e rfl ⟨s, rfl, hs, S⟩))
  · rintro _ _ ⟨s, rfl, hs, S⟩
    have hrl := cutsR_len (setO xs) bs
    refine st_callV S [.mp (m, 0)] (args' := [.c (.addr (m, 0))]) rfl (fun G hG => c_setKeys (by omega) hG) ?_
    rintro _ _ _ ⟨s2, rfl, hs2, rfl⟩ S
    dsimp only [List.cons_append, List.nil_append] at S
    exact rt_n rfl rfl ⟨_, ⟨s, s2, rfl, hs, hs2, rfl⟩, S.only [.ck c, .sl s, .sl s2]⟩
set_option maxHeartbeats 1000000 in
theorem c_sDeleteAt {xs : List Int} {c : Ck} {sp : Option PA} {n cap : Nat} (hx : Rdr c (sp, n, cap) LN xs) (hxl : xs.length ≤ 2147483647) {bs : List Int} {bp : Option PA} {bn bc : Nat} (hb : Rdr c (bp, bn, bc) LN bs) (hbl : bs.length ≤ 2147483647) {G : PA → Prop} (hG : Star [c] h G) :
    HT Try.prog fn_laws_sDeleteAt [.c (.sl sp n cap), .c (.sl bp bn bc)] false [.c .bool] h fun r h' => ∃ post, (r = (true, ()) ∧ post = [c]) ∧ St h G post h' := by
  apply hc_laws_sDeleteAt
  unfold M_laws_sDeleteAt
  have htl := setO_len xs
  have hio := iO_len xs
  have hrl := cutsR_len (setO xs) bs
  refine st_callT (St.start hG) [.ck c] (fun G hG => c_SDeleteAt hx hxl hb hbl hG) ?_
  rintro _ _ _ ⟨s1, s2, rfl, h1, h2, rfl⟩ S
  dsimp only [List.cons_append, List.nil_append] at S
  refine st_callT S [.ck c] (fun G hG => c_specItems hx (by omega) hG) ?_
  rintro _ _ _ ⟨s3, rfl, hs3, rfl⟩ S
  dsimp only [List.cons_append, List.nil_append] at S
  (have S := S.ats [.ck c, .sl s3]; refine st_callT (l := StC [c, SlC s3 LT.sz (LT.flat (iO xs))] :: _) (St.st_in (m := [_, _]) S) [.ck (StC [c, SlC s3 LT.sz (LT.flat (iO xs))])] (fun G hG => c_GDeleteAt Rdr.nil (by decide) (Rdr.st (i := 1) rfl hs3.rdr) (by omega) (Rdr.st (i := 0) rfl hb) (by omega) hG) ?_)
  rintro _ _ _ ⟨t1, t2, rfl, g1, g2, rfl⟩ S
  dsimp only [List.cons_append, List.nil_append] at S
  have e : treeO [] (iO xs) = setO xs := rfl
  rw [e] at g1 g2 S
  have S := St.st_out S
  dsimp only [List.cons_append, List.nil_append] at S
  have S := S.only [.ck c, .sl s1, .sl s2, .sl t1, .sl t2]
  refine st_callT S [.sl t1] (fun G hG => c_keysOf g1.rdr (by rw [cutsF_len]; omega) hG) ?_
  rintro _ _ _ ⟨u1, rfl, k1, rfl⟩ S
  dsimp only [List.cons_append, List.nil_append] at S
  refine st_callT S [.sl t2] (fun G hG => c_specKeys g2.rdr (by omega) hG) ?_
  rintro _ _ _ ⟨u2, rfl, k2, rfl⟩ S
  dsimp only [List.cons_append, List.nil_append] at S
  refine w_bnd ?_
  (have S := S.ats [.sl s1, .sl u1]; refine st_callT (l := StC [SlC s1 LY.sz (LY.flat (fKs (cutsF (setO xs) bs))), SlC u1 LY.sz (LY.flat (fKs (cutsF (setO xs) bs)))] :: _) (St.st_in (m := [_, _]) S) [.ck (StC [SlC s1 LY.sz (LY.flat (fKs (cutsF (setO xs) bs))), SlC u1 LY.sz (LY.flat (fKs (cutsF (setO xs) bs)))])] (fun G hG => c_EqualKeys (Rdr.st (i := 0) rfl h1.rdr) (Rdr.st (i := 1) rfl k1.rdr) (by rw [fKs_len, cutsF_len]; omega) hG) ?_)
  rintro _ _ _ ⟨rfl, rfl⟩ S
  dsimp only [List.cons_append, List.nil_append] at S
  have S := St.st_out S
  dsimp only [List.cons_append, List.nil_append] at S
  refine w_true rfl ?_
  (have S := S.ats [.sl s2, .sl u2]; refine st_callT (l := StC [SlC s2 LN.sz (LN.flat (yO (cutsR (setO xs) bs))), SlC u2 LN.sz (LN.flat (yO (cutsR (setO xs) bs)))] :: _) (St.st_in (m := [_, _]) S) [.ck (StC [SlC s2 LN.sz (LN.flat (yO (cutsR (setO xs) bs))), SlC u2 LN.sz (LN.flat (yO (cutsR (setO xs) bs)))])] (fun G hG => c_EqualInts (Rdr.st (i := 0) rfl h2.rdr) (Rdr.st (i := 1) rfl k2.rdr) (by rw [yO_len]; omega) hG) ?_)
  rintro _ _ _ ⟨rfl, rfl⟩ S
  dsimp only [List.cons_append, List.nil_append] at S
  have S := St.st_out S
  dsimp only [List.cons_append, List.nil_append] at S
  exact bd_n rfl (rt_1 rfl ⟨_, ⟨by simp, rfl⟩, S.only [.ck c]⟩)
theorem c_FnExactSDeleteAt {hI : H} {xs : List Int} {sp : Option PA} {n cap : Nat} (hx : Rdr (BaC hI) (sp, n, cap) LN xs) {ks : List Int} {kp : Option PA} {kn kc : Nat} (hk : Rdr (BaC hI) (kp, kn, kc) LN ks) {G : PA → Prop} (hG : Star [BaC hI] h G) :
    HT Try.prog fn_laws_FnExactSDeleteAt [.c (.sl sp n cap), .c (.sl kp kn kc)] false [.c .bool] h fun r h' => ∃ post, (r = (true, ()) ∧ post = [BaC hI]) ∧ St h G post h' := by
  apply hc_laws_FnExactSDeleteAt
  unfold M_laws_FnExactSDeleteAt
  have hn : n = xs.length := hx.1
  have hkn : kn = ks.length := hk.1
  have S := St.start hG
  refine w_bnd ?_
  by_cases hbig : n > 2147483647
  · exact w_true (decide_eq_true (by omega)) (bd_n rfl (w_true rfl (rt_1 rfl ⟨_, ⟨rfl, rfl⟩, S⟩)))
  refine w_false (decide_eq_false (by omega)) (bd_n rfl ?_)
  by_cases hkbig : kn > 2147483647
  · exact w_true (decide_eq_true (by omega)) (rt_1 rfl ⟨_, ⟨rfl, rfl⟩, S⟩)
  refine w_false (decide_eq_false (by omega)) (w_bnd ?_)
  refine st_alloc S fun ne _ S => ?_
  have S := S.re (ne, 0) (LN.flat exS) 0 rfl rfl rfl
  refine st_callT S [] (fun G hG => c_exPlaces hG) ?_
  rintro _ _ _ ⟨n2, rfl, rfl⟩ S
  dsimp only [List.cons_append, List.nil_append] at S
  (have S := S.ats [.ow (ne, 0), .ow (n2, 0)]; refine st_callT (l := StC [Ow (ne, 0) (LN.flat exS) 0, Ow (n2, 0) (LN.flat [0, 2, 5, -1, 100]) 0] :: _) (St.st_in (m := [_, _]) S) [.ck (StC [Ow (ne, 0) (LN.flat exS) 0, Ow (n2, 0) (LN.flat [0, 2, 5, -1, 100]) 0])] (fun G hG => c_sDeleteAt (xs := exS) (bs := [0, 2, 5, -1, 100]) (Rdr.st (i := 0) rfl (Rdr.ow (xs := exS) rfl)) (by decide) (Rdr.st (i := 1) rfl (Rdr.ow (xs := [0, 2, 5, -1, 100]) rfl)) (by decide) hG) ?_)
  rintro _ _ _ ⟨rfl, rfl⟩ S
  dsimp only [List.cons_append, List.nil_append] at S
  have S := St.st_out S
  dsimp only [List.cons_append, List.nil_append] at S
  refine w_true rfl ?_
  refine st_callT S [.ck (BaC hI)] (fun G hG => c_sDeleteAt hx (by omega) hk (by omega) hG) ?_
  rintro _ _ _ ⟨rfl, rfl⟩ S
  dsimp only [List.cons_append, List.nil_append] at S
  exact bd_n rfl (rt_1 rfl ⟨_, ⟨rfl, rfl⟩, S.only [.ck (BaC hI)]⟩)
end
end Go.Proofs.Ytpbmahnieepmiaa
