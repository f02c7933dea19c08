/-
  The reference: lists turned, the items up to a key from the greatest down. Conditions: none.
-/
import Derived.Test.YtpbmahnieepmiaaTs
import Derived.Test.YtpbmahnieepmiaaRl
set_option linter.unusedVariables false
set_option linter.unusedSimpArgs false
set_option linter.unusedSectionVars false
set_option maxRecDepth 100000
namespace Go.Proofs.Ytpbmahnieepmiaa
open Go
def M_spec_Turned (a0p : Option PA) (a0l : Nat) (a0c : Nat) : M :=
  .guard (InK IntKind.i64 ((↑a0l : Int) - 1)) <|
  .bind (some 0) (.loop [.c (.int .i64), .c (.sl)] [.c (.int .i64 ((↑a0l : Int) - 1)), .c (.sl none (0) (0))] fun y0 =>
      .ite (decide (y0.fst ≥ 0))
      (.nonnil (a0p) fun p1 =>
        .guard (((0 : Int) ≤ y0.fst) ∧ ((y0.fst : Int) < (↑a0l : Int))) <|
        .load (p1.fst, p1.snd + mulN (Int.toNat y0.fst) 2) (.int .i64) fun i2 =>
        .load (p1.fst, p1.snd + mulN (Int.toNat y0.fst) 2 + 1) (.int .i64) fun i3 =>
        .alloc ty_impl_Item [.int .i64 (i2), .int .i64 (i3)] fun n4 =>
        .append ty_impl_Item 2 16 [.int .i64 (0), .int .i64 (0)] ((y0.snd.fst.fst), y0.snd.fst.snd.fst, y0.snd.fst.snd.snd) ((some (n4, 0)), 1, 1) fun s5 =>
        .guard (InK IntKind.i64 (y0.fst - 1)) <|
        .done .normal [.c (.int .i64 (y0.fst - 1)), .c (.sl (s5.fst) (s5.snd.fst) (s5.snd.snd))])
      (.done (.exit 0) [.c (.sl (y0.snd.fst.fst) (y0.snd.fst.snd.fst) (y0.snd.fst.snd.snd))])) [.c (.sl)] fun x6 =>
  .done .ret [.c (.sl (x6.fst.fst) (x6.fst.snd.fst) (x6.fst.snd.snd))]
theorem den_spec_Turned (a0p : Option PA) (a0l : Nat) (a0c : Nat) : denFn Try.prog Try.f82 [.c (.sl a0p a0l a0c)] = M_spec_Turned a0p a0l a0c := by kernel_rfl
theorem hc_spec_Turned (a0p : Option PA) (a0l : Nat) (a0c : Nat) {h : H} {R : Value → H → Prop} (hw : wp Try.prog (M_spec_Turned a0p a0l a0c) (Ret R) h) : HC Try.prog fn_spec_Turned (List.map AV.val [.c (.sl a0p a0l a0c)]).toArray h R :=
  den_calls hmix Try.func82 (of_decide_eq_true rfl) (by rw [den_spec_Turned]; exact hw)
def M_spec_Down (a0p : Option PA) (a0l : Nat) (a0c : Nat) (a1p : Option PA) (a1l : Nat) (a1c : Nat) (a20 : Int) (a21 : Int) : M :=
  .alloc ty_impl_Item [.int .i64 (a20), .int .i64 (a21)] fun n0 =>
  .bind (some 0) (.loop [.c (.int .i64)] [.c (.int .i64 (0))] fun y1 =>
      .bind none (.ite (decide (y1.fst < (↑a1l : Int)))
        (.load (n0, 0) (.int .i64) fun i2 =>
          .load (n0, 1) (.int .i64) fun i3 =>
          .nonnil (a1p) fun p4 =>
          .guard (((0 : Int) ≤ y1.fst) ∧ ((y1.fst : Int) < (↑a1l : Int))) <|
          .load (p4.fst, p4.snd + mulN (Int.toNat y1.fst) 2) (.int .i64) fun i5 =>
          .load (p4.fst, p4.snd + mulN (Int.toNat y1.fst) 2 + 1) (.int .i64) fun i6 =>
          .call fn_spec_Before [.c (.sl (a0p) (a0l) (a0c)), .agg [.int .i64 (i2), .int .i64 (i3)], .agg [.int .i64 (i5), .int .i64 (i6)]] false [.c (.bool)] fun r7 =>
          .done .normal [.c (.bool (!r7.fst))])
        (.done .normal [.c (.ff)])) [.c (.bool)] fun x8 =>
      .ite (x8.fst)
      (.guard (InK IntKind.i64 (y1.fst + 1)) <|
        .done .normal [.c (.int .i64 (y1.fst + 1))])
      (.done (.exit 0) [.c (.int .i64 (y1.fst))])) [.c (.int .i64)] fun x9 =>
  .guard (((0 : Int) ≤ x9.fst) ∧ ((x9.fst : Int) ≤ (↑a1c : Int))) <|
  .call fn_spec_Turned [.c (.sl (slBase a1p a1c 0 2) (Int.toNat x9.fst - 0) (a1c - 0))] false [.c (.sl)] fun r10 =>
  .done .ret [.c (.sl (r10.fst.fst) (r10.fst.snd.fst) (r10.fst.snd.snd))]
theorem den_spec_Down (a0p : Option PA) (a0l : Nat) (a0c : Nat) (a1p : Option PA) (a1l : Nat) (a1c : Nat) (a20 : Int) (a21 : Int) : denFn Try.prog Try.f53 [.c (.sl a0p a0l a0c), .c (.sl a1p a1l a1c), .agg [.int .i64 a20, .int .i64 a21]] = M_spec_Down a0p a0l a0c a1p a1l a1c a20 a21 := by kernel_rfl
theorem hc_spec_Down (a0p : Option PA) (a0l : Nat) (a0c : Nat) (a1p : Option PA) (a1l : Nat) (a1c : Nat) (a20 : Int) (a21 : Int) {h : H} {R : Value → H → Prop} (hw : wp Try.prog (M_spec_Down a0p a0l a0c a1p a1l a1c a20 a21) (Ret R) h) : HC Try.prog fn_spec_Down (List.map AV.val [.c (.sl a0p a0l a0c), .c (.sl a1p a1l a1c), .agg [.int .i64 a20, .int .i64 a21]]).toArray h R :=
  den_calls hmix Try.func53 (of_decide_eq_true rfl) (by rw [den_spec_Down]; exact hw)
def M_spec_GDescend (a00p : Option PA) (a00l : Nat) (a00c : Nat) (a01 : Int) (a02 : Bool) (a1p : Option PA) (a1l : Nat) (a1c : Nat) (a20 : Int) (a21 : Int) (a3 : Int) : M :=
  .alloc ty_impl_Make [.sl (a00p) (a00l) (a00c), .int .i64 (a01), .bool (a02)] fun n0 =>
  .alloc ty_impl_Item [.int .i64 (a20), .int .i64 (a21)] fun n1 =>
  .load (n0, 0) (.sl) fun s2 =>
  .load (n0, 0) (.sl) fun s3 =>
  .load (n1, 0) (.int .i64) fun i4 =>
  .load (n1, 1) (.int .i64) fun i5 =>
  .call fn_spec_Tree [.c (.sl (s3.fst) (s3.snd.fst) (s3.snd.snd)), .c (.sl (a1p) (a1l) (a1c))] false [.c (.sl)] fun r6 =>
  .held (n1, 0) (.int .i64 (i4)) <|
  .held (n1, 1) (.int .i64 (i5)) <|
  .held (n0, 0) (.sl (s2.fst) (s2.snd.fst) (s2.snd.snd)) <|
  .call fn_spec_Down [.c (.sl (s2.fst) (s2.snd.fst) (s2.snd.snd)), .c (.sl (r6.fst.fst) (r6.fst.snd.fst) (r6.fst.snd.snd)), .agg [.int .i64 (i4), .int .i64 (i5)]] false [.c (.sl)] fun r7 =>
  .call fn_spec_First [.c (.sl (r7.fst.fst) (r7.fst.snd.fst) (r7.fst.snd.snd)), .c (.int .i64 (a3))] false [.c (.sl)] fun r8 =>
  .done .ret [.c (.sl (r8.fst.fst) (r8.fst.snd.fst) (r8.fst.snd.snd))]
theorem den_spec_GDescend (a00p : Option PA) (a00l : Nat) (a00c : Nat) (a01 : Int) (a02 : Bool) (a1p : Option PA) (a1l : Nat) (a1c : Nat) (a20 : Int) (a21 : Int) (a3 : Int) : denFn Try.prog Try.f34 [.agg [.sl a00p a00l a00c, .int .i64 a01, .bool a02], .c (.sl a1p a1l a1c), .agg [.int .i64 a20, .int .i64 a21], .c (.int .i64 a3)] = M_spec_GDescend a00p a00l a00c a01 a02 a1p a1l a1c a20 a21 a3 := by kernel_rfl
theorem hc_spec_GDescend (a00p : Option PA) (a00l : Nat) (a00c : Nat) (a01 : Int) (a02 : Bool) (a1p : Option PA) (a1l : Nat) (a1c : Nat) (a20 : Int) (a21 : Int) (a3 : Int) {h : H} {R : Value → H → Prop} (hw : wp Try.prog (M_spec_GDescend a00p a00l a00c a01 a02 a1p a1l a1c a20 a21 a3) (Ret R) h) : HC Try.prog fn_spec_GDescend (List.map AV.val [.agg [.sl a00p a00l a00c, .int .i64 a01, .bool a02], .c (.sl a1p a1l a1c), .agg [.int .i64 a20, .int .i64 a21], .c (.int .i64 a3)]).toArray h R :=
  den_calls hmix Try.func34 (of_decide_eq_true rfl) (by rw [den_spec_GDescend]; exact hw)
section
variable {h : H}
def dnO (o : List Int) (l : List IV) (x : IV) : List IV := (l.take (up (ltO o) l x)).reverse
theorem dnO_len (o : List Int) (l : List IV) (x : IV) : (dnO o l x).length ≤ l.length := by unfold dnO; rw [List.length_reverse, List.length_take]; omega
set_option maxHeartbeats 1000000 in
theorem c_Turned {c : Ck} {xs : List IV} {sp : Option PA} {n cap : Nat} (hx : Rdr c (sp, n, cap) LT xs) (hxl : xs.length ≤ 2147483647) {G : PA → Prop} (hG : Star [c] h G) :
    HT Try.prog fn_spec_Turned [.c (.sl sp n cap)] false [.c .sl] h fun r h' => ∃ post, (∃ s : SlT, r = (s, ()) ∧ OwnL LT s xs.reverse ∧ post = [c, SlC s LT.sz (LT.flat xs.reverse)]) ∧ St h G post h' := by
  apply hc_spec_Turned
  unfold M_spec_Turned
  have hn : n = xs.length := hx.1
  have S := sl_nil LT (St.start hG)
  refine w_guard (inK64 (by (first | omega | ((try dsimp only [Sh.T, Sh1.T]); omega))) (by (first | omega | ((try dsimp only [Sh.T, Sh1.T]); omega)))) ?_
  refine w_bnd (w_lp (fun r y h' => ∃ (z : Int) (s : SlT) (D : List IV), y = (z, s, ()) ∧ z = (r : Int) - 1 ∧ r ≤ n ∧ xs.reverse = D ++ (xs.take r).reverse ∧ OwnL LT s D ∧ St h G [SlC s LT.sz (LT.flat D), c] h') n rfl
    ⟨_, (none, 0, 0), [], rfl, rfl, Nat.le_refl _, by rw [List.take_of_length_le (by omega)]; rfl, ⟨rfl, Nat.le_refl _, .inl rfl⟩, S⟩ ?_)
  rintro r _ _ ⟨z, s, D, rfl, hz, hi, hD, hs, S⟩
  have hDl : D.length + r = n := by
    have := congrArg List.length hD
    simp only [List.length_reverse, List.length_append, List.length_take] at this
    omega
  by_cases hlt : 0 < r
  · obtain ⟨i, rfl⟩ : ∃ i : Nat, z = i := ⟨z.toNat, by omega⟩
    obtain rfl : r = i + 1 := by omega
    obtain ⟨q, hq, hrd⟩ := hx.ptr (by omega)
    dsimp only at hq
    subst hq
    have hxi := List.getElem?_eq_getElem (show i < xs.length by omega)
    have hD1 : xs.reverse = (D ++ [xs[i]]) ++ (xs.take i).reverse := by rw [hD, rev_take hxi]; simp
    obtain ⟨s1, s2, s3⟩ := s
    refine w_true (decide_eq_true (by (first | omega | ((try dsimp only [Sh.T, Sh1.T]); omega)))) ?_
    simp only [Int.toNat_natCast, toNat_succ, toNat_succ2, toNat_pred]
    refine w_nonnil (w_guard ⟨by (first | omega | ((try dsimp only [Sh.T, Sh1.T]); omega)), by (first | omega | ((try dsimp only [Sh.T, Sh1.T]); omega))⟩ (w_item (S.rdr hrd) hxi ?_))
    refine st_alloc S fun n6 _ S => ?_
    refine st_apo (L := LT) (xs := D) (y := xs[i]) S hs rfl rfl (S.rsl (LT.flat [_]) 1 1 2 (fun i v h => by rw [Nat.zero_add]; exact h) rfl) ⟨by omega, by omega⟩ fun s' _ hs' S => ?_
    refine w_guard (inK64 (by (first | omega | ((try dsimp only [Sh.T, Sh1.T]); omega))) (by (first | omega | ((try dsimp only [Sh.T, Sh1.T]); omega)))) ?_
    exact ln_n rfl i ⟨_, s', _, rfl, rfl, by omega, hD1, hs', S.only [.sl s', .ck c]⟩ (by omega)
  · obtain rfl : r = 0 := by omega
    have e : xs.reverse = D := by rw [hD, List.take_zero, List.reverse_nil, List.append_nil]
    refine w_false (decide_eq_false (by (first | omega | ((try dsimp only [Sh.T, Sh1.T]); omega)))) (ln_e (bd_e rfl (rt_1 rfl ⟨_, ⟨s, rfl, by rw [e]; exact hs, rfl⟩, ?_⟩)))
    rw [e]; exact S.pull1
theorem up_app {x : IV} {o : List Int} {xs : List IV} (hs : Srt (ltO o) xs) {i : Nat} (h1 : ∀ j a, j < i → xs[j]? = some a → ltO o x a = false) (h2 : ∀ a, xs[i]? = some a → ltO o x a = true) (hi : i ≤ xs.length) : up (ltO o) xs x = i := by
  have hu := up_le (ordO o) xs x
  rcases Nat.lt_trichotomy (up (ltO o) xs x) i with h | h | h
  · have hy := List.getElem?_eq_getElem (show up (ltO o) xs x < xs.length by omega)
    have := h1 _ _ h hy
    have h3 := (up_spec (ordO o) hs (x := x) hy).1 this
    omega
  · exact h
  · have hy := List.getElem?_eq_getElem (show i < xs.length by omega)
    have h3 := (up_spec (ordO o) hs (x := x) hy).2 h
    rw [h2 _ hy] at h3; cases h3
set_option maxHeartbeats 1000000 in
theorem c_Down {c : Ck} {o : List Int} {op : Option PA} {on oc : Nat} (hr : Rdr c (op, on, oc) LN o) (hl : o.length ≤ 2147483647) {xs : List IV} {sp : Option PA} {n cap : Nat} (hx : Rdr c (sp, n, cap) LT xs) (hxl : xs.length ≤ 2147483647) (hsr : Srt (ltO o) xs) {x : IV} {G : PA → Prop} (hG : Star [c] h G) :
    HT Try.prog fn_spec_Down [.c (.sl op on oc), .c (.sl sp n cap), .agg [.int .i64 x.1, .int .i64 x.2]] false [.c .sl] h fun r h' => ∃ post, (∃ s : SlT, r = (s, ()) ∧ OwnL LT s (dnO o xs x) ∧ post = [c, SlC s LT.sz (LT.flat (dnO o xs x))]) ∧ St h G post h' := by
  apply hc_spec_Down
  unfold M_spec_Down
  have hn : n = xs.length := hx.1
  have hcap : n ≤ cap := hx.2.1
  refine st_alloc (St.start hG) fun n0 _ S => ?_
  refine w_mid' (some 0) (fun (y : SV [.c (.int .i64)]) h' => y = ((up (ltO o) xs x : Int), ()) ∧ St h G [c] h') ?_ ?_
  · refine w_lp (fun r y h' => ∃ i : Nat, y = ((i : Int), ()) ∧ i + r = n ∧ (∀ j a, j < i → xs[j]? = some a → ltO o x a = false) ∧ St h G [Ow (n0, 0) (LT.cells x) 0, c] h') n rfl ⟨0, rfl, by omega, fun j a hj => by omega, S⟩ ?_
    clear S
    rintro r _ _ ⟨i, rfl, hi, hb, S⟩
    by_cases hlt : i < n
    · obtain ⟨q, hq, hrd⟩ := hx.ptr (by omega)
      dsimp only at hq
      subst hq
      have hxi := List.getElem?_eq_getElem (show i < xs.length by omega)
      simp only [Int.toNat_natCast, toNat_succ, toNat_succ2, toNat_pred]
      refine w_mid' none (fun (y : SV [.c .bool]) h' => y = (!ltO o x xs[i], ()) ∧ St h G [Ow (n0, 0) (LT.cells x) 0, c] h') ?_ ?_
      · refine w_true (lt_t (by (first | omega | ((try dsimp only [Sh.T, Sh1.T]); omega)))) ?_
        refine ld_int S rfl (ld_int S rfl ?_)
        refine w_nonnil (w_guard ⟨by (first | omega | ((try dsimp only [Sh.T, Sh1.T]); omega)), by (first | omega | ((try dsimp only [Sh.T, Sh1.T]); omega))⟩ (w_item (S.rdr hrd) hxi ?_))
        refine st_callT S [.ck c] (fun G hG => c_Before (a := x) (b := xs[i]) hr hl hG) ?_
        rintro _ _ _ ⟨rfl, rfl⟩ S
        dsimp only [List.cons_append, List.nil_append] at S
        exact md_n rfl ⟨rfl, S.ats [.ow (n0, 0), .ck c]⟩
      clear S
      rintro _ _ ⟨rfl, S⟩
      cases hb2 : ltO o x xs[i] with
      | false =>
        refine w_true rfl (w_guard (inK64 (by (first | omega | ((try dsimp only [Sh.T, Sh1.T]); omega))) (by (first | omega | ((try dsimp only [Sh.T, Sh1.T]); omega)))) ?_)
        refine ln_n rfl (r - 1) ⟨i + 1, rfl, by omega, fun j a hj hja => ?_, S⟩ (by omega)
        by_cases hji : j < i
        · exact hb j a hji hja
        · obtain rfl : j = i := by omega
          rw [hxi] at hja
          rw [← Option.some.inj hja]; exact hb2
      | true =>
        refine w_false rfl (ln_e (md_e rfl ⟨?_, S.only [.ck c]⟩))
        rw [up_app hsr hb (fun a ha => by rw [hxi] at ha; rw [← Option.some.inj ha]; exact hb2) (by omega)]
    · refine w_bnd (w_false (lt_f (by (first | omega | ((try dsimp only [Sh.T, Sh1.T]); omega)))) (bd_n rfl (w_false rfl (ln_e (md_e rfl ⟨?_, S.only [.ck c]⟩)))))
      rw [up_app hsr hb (fun a ha => by rw [List.getElem?_eq_none (by omega)] at ha; cases ha) (by omega)]
  clear S
  rintro _ _ ⟨rfl, S⟩
  have hu := up_le (ordO o) xs x
  refine w_guard ⟨by (first | omega | ((try dsimp only [Sh.T, Sh1.T]); omega)), by (first | omega | ((try dsimp only [Sh.T, Sh1.T]); omega))⟩ ?_
  have hp := hx.part 0 (up (ltO o) xs x) (by omega)
  rw [List.drop_zero] at hp
  have hpl : (xs.take (up (ltO o) xs x)).length ≤ 2147483647 := by rw [List.length_take]; omega
  refine st_callV S [.ck c] (args' := [.c (.sl (slBase sp cap 0 2) (up (ltO o) xs x) (cap - 0))]) rfl (fun G hG => c_Turned hp hpl hG) ?_
  rintro _ _ _ ⟨s, rfl, hs, rfl⟩ S
  dsimp only [List.cons_append, List.nil_append] at S
  exact rt_1 rfl ⟨_, ⟨s, rfl, hs, rfl⟩, S⟩
theorem c_GDescend {c : Ck} {o : List Int} {op : Option PA} {on oc : Nat} (hr : Rdr c (op, on, oc) LN o) (hl : o.length ≤ 2147483647) {d : Int} {nl : Bool} {xs : List IV} {sp : Option PA} {n cap : Nat} (hx : Rdr c (sp, n, cap) LT xs) (hxl : xs.length ≤ 2147483647) {x : IV} {k : Int} {G : PA → Prop} (hG : Star [c] h G) :
    HT Try.prog fn_spec_GDescend [.agg [.sl op on oc, .int .i64 d, .bool nl], .c (.sl sp n cap), .agg [.int .i64 x.1, .int .i64 x.2], .c (.int .i64 k)] false [.c .sl] h fun r h' => ∃ post, (∃ s t : SlT, r = (s, ()) ∧ Rdr (SlC t LT.sz (LT.flat (dnO o (treeO o xs) x))) s LT (firstO (dnO o (treeO o xs) x) k) ∧ post = [c, SlC t LT.sz (LT.flat (dnO o (treeO o xs) x))]) ∧ St h G post h' := by
  apply hc_spec_GDescend
  unfold M_spec_GDescend
  have htl := treeO_len o xs
  refine st_alloc (St.start hG) fun n0 _ S => ?_
  refine st_alloc S fun n1 _ S => ?_
  refine ld_sl S op on oc rfl (ld_sl S op on oc rfl (ld_int S rfl (ld_int S rfl ?_)))
  refine st_callT S [.ck c] (fun G hG => c_Tree hr hl hx (by omega) hG) ?_
  rintro _ _ _ ⟨t, rfl, ht, rfl⟩ S
  dsimp only [List.cons_append, List.nil_append] at S
  refine st_held S rfl (st_held S rfl (st_held S rfl ?_))
  (have S := S.ats [.ck c, .sl t]; refine st_callT (l := StC [c, SlC t LT.sz (LT.flat (treeO o xs))] :: _) (St.st_in (m := [_, _]) S) [.ck (StC [c, SlC t LT.sz (LT.flat (treeO o xs))])] (fun G hG => c_Down (x := x) (Rdr.st (i := 0) rfl hr) hl (Rdr.st (i := 1) rfl ht.rdr) (by omega) (treeO_srt o xs) hG) ?_)
  rintro _ _ _ ⟨u, rfl, hu, rfl⟩ S
  dsimp only [List.cons_append, List.nil_append] at S
  have S := St.st_out S
  dsimp only [List.cons_append, List.nil_append] at S
  refine w_callT (c_First hu.rdr) ?_
  rintro _ _ ⟨⟨s, rfl, hs⟩, rfl⟩
  exact rt_1 rfl ⟨_, ⟨s, u, rfl, hs, rfl⟩, S.only [.ck c, .sl u]⟩
end
end Go.Proofs.Ytpbmahnieepmiaa
