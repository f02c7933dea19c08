/-
  Words: maps grown out of them, the reference's list. Conditions: none.
-/
import Derived.Test.YtgniflegbdeokaaWtk
set_option linter.unusedVariables false
set_option linter.unusedSimpArgs false
set_option linter.unusedSectionVars false
set_option maxRecDepth 100000
namespace Go.Proofs.Ytgniflegbdeokaa
open Go
def M_impl_growWords (a0 : Int) (a1p : Option PA) (a1l : Nat) (a1c : Nat) : M :=
  .call fn_NewMap_string_int [.c (.int .i64 (a0))] false [.c (.ptr)] fun r0 =>
  .bind (some 0) (.loop [.c (.int .i64)] [.c (.int .i64 (0))] fun y1 =>
      .ite (decide (y1.fst < (↑a1l : Int)))
      (.nonnil (a1p) fun p2 =>
        .guard (((0 : Int) ≤ y1.fst) ∧ ((y1.fst : Int) < (↑a1l : Int))) <|
        .load (p2.fst, p2.snd + mulN (Int.toNat y1.fst) 2) (.str) fun i3 =>
        .load (p2.fst, p2.snd + mulN (Int.toNat y1.fst) 2 + 1) (.int .i64) fun i4 =>
        .alloc ty_impl_Word [.str ({ data := #[] }), .int .i64 (0)] fun n5 =>
        .store (n5, 0) (.str (i3)) <|
        .store (n5, 1) (.int .i64 (i4)) <|
        .load (n5, 0) (.str) fun i6 =>
        .load (n5, 1) (.int .i64) fun i7 =>
        .call fn_mw_Set [.c (.ptr (r0.fst)), .c (.str (i6)), .c (.int .i64 (i7))] true [.c (.int .i64), .c (.bool)] fun r8 =>
        .guard (InK IntKind.i64 (y1.fst + 1)) <|
        .done .normal [.c (.int .i64 (y1.fst + 1))])
      (.done (.exit 0) [])) [] fun x9 =>
  .done .ret [.c (.ptr (r0.fst))]
theorem den_impl_growWords (a0 : Int) (a1p : Option PA) (a1l : Nat) (a1c : Nat) : denFn Try.prog Try.f66 [.c (.int .i64 a0), .c (.sl a1p a1l a1c)] = M_impl_growWords a0 a1p a1l a1c := by kernel_rfl
theorem hc_impl_growWords (a0 : Int) (a1p : Option PA) (a1l : Nat) (a1c : Nat) {h : H} {R : Value → H → Prop} (hw : wp Try.prog (M_impl_growWords a0 a1p a1l a1c) (Ret R) h) : HC Try.prog fn_impl_growWords (List.map AV.val [.c (.int .i64 a0), .c (.sl a1p a1l a1c)]).toArray h R :=
  den_calls hmix Try.func66 (of_decide_eq_true rfl) (by rw [den_impl_growWords]; exact hw)
def M_spec_WSet (a0p : Option PA) (a0l : Nat) (a0c : Nat) : M :=
  .bind (some 0) (.loop [.c (.int .i64), .c (.sl), .c (.sl), .c (.sl)] [.c (.int .i64 (0)), .c (.sl none (0) (0)), .c (.sl none (0) (0)), .c (.sl none (0) (0))] fun y0 =>
      .ite (decide (y0.fst < (↑a0l : Int)))
      (.nonnil (a0p) fun p1 =>
        .guard (((0 : Int) ≤ y0.fst) ∧ ((y0.fst : Int) < (↑a0l : Int))) <|
        .load (p1.fst, p1.snd + mulN (Int.toNat y0.fst) 2) (.str) fun i2 =>
        .load (p1.fst, p1.snd + mulN (Int.toNat y0.fst) 2 + 1) (.int .i64) fun i3 =>
        .alloc ty_impl_Word [.str ({ data := #[] }), .int .i64 (0)] fun n4 =>
        .store (n4, 0) (.str (i2)) <|
        .store (n4, 1) (.int .i64 (i3)) <|
        .load (n4, 0) (.str) fun i5 =>
        .call fn_spec_spot [.c (.sl (y0.snd.snd.snd.fst.fst) (y0.snd.snd.snd.fst.snd.fst) (y0.snd.snd.snd.fst.snd.snd)), .c (.str (i5))] true [.c (.int .i64), .c (.bool)] fun r6 =>
        .load (n4, 0) (.str) fun i7 =>
        .alloc ty_impl_Word [.str ({ data := #[] }), .int .i64 (0)] fun n8 =>
        .store (n8, 0) (.str (i7)) <|
        .store (n8, 1) (.int .i64 (0)) <|
        .alloc ty_impl_Word [] fun n9 =>
        .guard (((0 : Int) ≤ r6.fst) ∧ ((r6.fst : Int) ≤ (↑y0.snd.snd.snd.fst.snd.snd : Int))) <|
        .append ty_impl_Word 2 24 [.str ({ data := #[] }), .int .i64 (0)] ((some (n9, 0)), 0, 0) ((slBase y0.snd.snd.snd.fst.fst y0.snd.snd.snd.fst.snd.snd 0 2), Int.toNat r6.fst - 0, y0.snd.snd.snd.fst.snd.snd - 0) fun s10 =>
        .load (n4, 0) (.str) fun i11 =>
        .load (n4, 1) (.int .i64) fun i12 =>
        .alloc ty_impl_Word [.str (i11), .int .i64 (i12)] fun n13 =>
        .append ty_impl_Word 2 24 [.str ({ data := #[] }), .int .i64 (0)] ((s10.fst), s10.snd.fst, s10.snd.snd) ((some (n13, 0)), 1, 1) fun s14 =>
        .bind none (.ite (r6.snd.fst)
          (.nonnil (y0.snd.snd.snd.fst.fst) fun p15 =>
            .guard (((0 : Int) ≤ r6.fst) ∧ ((r6.fst : Int) < (↑y0.snd.snd.snd.fst.snd.fst : Int))) <|
            .load (p15.fst, p15.snd + mulN (Int.toNat r6.fst) 2 + 1) (.int .i64) fun i16 =>
            .store (n8, 1) (.int .i64 (i16)) <|
            .guard (InK IntKind.i64 (r6.fst + 1)) <|
            .done .normal [.c (.int .i64 (r6.fst + 1))])
          (.done .normal [.c (.int .i64 (r6.fst))])) [.c (.int .i64)] fun x17 =>
        .guard (((0 : Int) ≤ x17.fst) ∧ ((x17.fst : Int) ≤ (↑y0.snd.snd.snd.fst.snd.fst : Int))) <|
        .append ty_impl_Word 2 24 [.str ({ data := #[] }), .int .i64 (0)] ((s14.fst), s14.snd.fst, s14.snd.snd) ((slBase y0.snd.snd.snd.fst.fst y0.snd.snd.snd.fst.snd.snd (Int.toNat x17.fst) 2), y0.snd.snd.snd.fst.snd.fst - Int.toNat x17.fst, y0.snd.snd.snd.fst.snd.snd - Int.toNat x17.fst) fun s18 =>
        .load (n8, 0) (.str) fun i19 =>
        .load (n8, 1) (.int .i64) fun i20 =>
        .alloc ty_impl_Word [.str (i19), .int .i64 (i20)] fun n21 =>
        .append ty_impl_Word 2 24 [.str ({ data := #[] }), .int .i64 (0)] ((y0.snd.snd.fst.fst), y0.snd.snd.fst.snd.fst, y0.snd.snd.fst.snd.snd) ((some (n21, 0)), 1, 1) fun s22 =>
        .alloc ty_bool [.bool (r6.snd.fst)] fun n23 =>
        .append ty_bool 1 1 [.ff] ((y0.snd.fst.fst), y0.snd.fst.snd.fst, y0.snd.fst.snd.snd) ((some (n23, 0)), 1, 1) fun s24 =>
        .guard (InK IntKind.i64 (y0.fst + 1)) <|
        .done .normal [.c (.int .i64 (y0.fst + 1)), .c (.sl (s24.fst) (s24.snd.fst) (s24.snd.snd)), .c (.sl (s22.fst) (s22.snd.fst) (s22.snd.snd)), .c (.sl (s18.fst) (s18.snd.fst) (s18.snd.snd))])
      (.done (.exit 0) [.c (.sl (y0.snd.fst.fst) (y0.snd.fst.snd.fst) (y0.snd.fst.snd.snd)), .c (.sl (y0.snd.snd.fst.fst) (y0.snd.snd.fst.snd.fst) (y0.snd.snd.fst.snd.snd)), .c (.sl (y0.snd.snd.snd.fst.fst) (y0.snd.snd.snd.fst.snd.fst) (y0.snd.snd.snd.fst.snd.snd))])) [.c (.sl), .c (.sl), .c (.sl)] fun x25 =>
  .done .ret [.c (.sl (x25.snd.fst.fst) (x25.snd.fst.snd.fst) (x25.snd.fst.snd.snd)), .c (.sl (x25.fst.fst) (x25.fst.snd.fst) (x25.fst.snd.snd)), .c (.sl (x25.snd.snd.fst.fst) (x25.snd.snd.fst.snd.fst) (x25.snd.snd.fst.snd.snd))]
theorem den_spec_WSet (a0p : Option PA) (a0l : Nat) (a0c : Nat) : denFn Try.prog Try.f108 [.c (.sl a0p a0l a0c)] = M_spec_WSet a0p a0l a0c := by kernel_rfl
theorem hc_spec_WSet (a0p : Option PA) (a0l : Nat) (a0c : Nat) {h : H} {R : Value → H → Prop} (hw : wp Try.prog (M_spec_WSet a0p a0l a0c) (Ret R) h) : HC Try.prog fn_spec_WSet (List.map AV.val [.c (.sl a0p a0l a0c)]).toArray h R :=
  den_calls hmix Try.func108 (of_decide_eq_true rfl) (by rw [den_spec_WSet]; exact hw)
def M_spec_Words (a0p : Option PA) (a0l : Nat) (a0c : Nat) : M :=
  .call fn_spec_WSet [.c (.sl (a0p) (a0l) (a0c))] true [.c (.sl), .c (.sl), .c (.sl)] fun r0 =>
  .done .ret [.c (.sl (r0.snd.snd.fst.fst) (r0.snd.snd.fst.snd.fst) (r0.snd.snd.fst.snd.snd))]
theorem den_spec_Words (a0p : Option PA) (a0l : Nat) (a0c : Nat) : denFn Try.prog Try.f69 [.c (.sl a0p a0l a0c)] = M_spec_Words a0p a0l a0c := by kernel_rfl
theorem hc_spec_Words (a0p : Option PA) (a0l : Nat) (a0c : Nat) {h : H} {R : Value → H → Prop} (hw : wp Try.prog (M_spec_Words a0p a0l a0c) (Ret R) h) : HC Try.prog fn_spec_Words (List.map AV.val [.c (.sl a0p a0l a0c)]).toArray h R :=
  den_calls hmix Try.func69 (of_decide_eq_true rfl) (by rw [den_spec_Words]; exact hw)
section
variable {h : H}
set_option maxHeartbeats 1000000 in
theorem c_growWords {c : Ck} {d : Int} (hd : d ≤ 536870912) {xs : List WV} {sp : Option PA} {n cap : Nat} (hx : Rdr c (sp, n, cap) LW xs) (hxl : xs.length ≤ 2147483647) {G : PA → Prop} (hG : Star [c] h G) :
    HT Try.prog fn_impl_growWords [.c (.int .i64 d), .c (.sl sp n cap)] false [.c .ptr] h fun r h' => ∃ post, (∃ m : Nat, r = (some (m, 0), ()) ∧ post = [c, MW.MpC 0 (MW.dgOf d) (m, 0) (treeW xs)]) ∧ St h G post h' := by
  apply hc_impl_growWords
  unfold M_impl_growWords
  have hn : n = xs.length := hx.1
  have S := St.start hG
  refine st_callT S [] (fun G hG => MW.c_NewMap hd hG) ?_
  rintro _ _ _ ⟨m, rfl, rfl⟩ S
  dsimp only [List.cons_append, List.nil_append] at S
  have S := S.pull1
  refine w_bnd (w_lp (fun r y h' => ∃ i : Nat, y = ((i : Int), ()) ∧ i + r = n ∧ St h G [c, MW.MpC 0 (MW.dgOf d) (m, 0) (treeW (xs.take i))] h') n rfl ⟨0, rfl, by omega, S⟩ ?_)
  clear S
  rintro r _ _ ⟨i, rfl, hi, S⟩
  by_cases hlt : i < n
  · obtain ⟨p, hp, hrd⟩ := hx.ptr (by omega)
    dsimp only at hp
    subst hp
    have hxi := List.getElem?_eq_getElem (show i < xs.length by omega)
    have htl := treeW_len (xs.take i)
    have htl2 : (xs.take i).length ≤ i := List.length_take_le _ _
    simp only [Int.toNat_natCast, toNat_succ, toNat_succ2, toNat_pred]
    refine w_true (lt_t (by (first | omega | ((try dsimp only [Sh.T, Sh1.T]); omega)))) (w_nonnil (w_guard ⟨by (first | omega | ((try dsimp only [Sh.T, Sh1.T]); omega)), by (first | omega | ((try dsimp only [Sh.T, Sh1.T]); omega))⟩ (w_word (S.rdr hrd) hxi ?_)))
    refine st_alloc S fun n5 _ S => ?_
    refine st_store S (lt_ble rfl) fun _ S => ?_
    refine st_store S (lt_ble rfl) fun _ S => ?_
    refine ld_str S rfl (ld_int S rfl ?_)
    refine st_callV S [.mp (m, 0)] (args' := [.c (.addr (m, 0)), .c (.str xs[i].1), .c (.int .i64 xs[i].2)]) rfl (fun G hG => MW.c_Set (by omega) hG) ?_
    rintro _ _ _ ⟨rfl, rfl⟩ S
    dsimp only [List.cons_append, List.nil_append] at S
    refine w_guard (inK64 (by (first | omega | ((try dsimp only [Sh.T, Sh1.T]); omega))) (by (first | omega | ((try dsimp only [Sh.T, Sh1.T]); omega)))) ?_
    have e : put MW.lt (treeW (xs.take i)) (xs[i].1, xs[i].2) = treeW (xs.take (i + 1)) := by rw [take_snoc (by omega), treeW_snoc]
    rw [e] at S
    exact ln_n rfl (r - 1) ⟨i + 1, rfl, by omega, S.only [.ck c, .mp (m, 0)]⟩ (by omega)
  · refine w_false (lt_f (by (first | omega | ((try dsimp only [Sh.T, Sh1.T]); omega)))) (ln_e (bd_e rfl (rt_1 rfl ⟨_, ⟨m, rfl, ?_⟩, S⟩)))
    rw [List.take_of_length_le (by omega)]
set_option maxHeartbeats 4000000 in
theorem c_WSetT {c : Ck} {xs : List WV} {sp : Option PA} {n cap : Nat} (hx : Rdr c (sp, n, cap) LW xs) (hxl : xs.length ≤ 2147483647) {G : PA → Prop} (hG : Star [c] h G) :
    HT Try.prog fn_spec_WSet [.c (.sl sp n cap)] true [.c .sl, .c .sl, .c .sl] h fun r h' => ∃ post, (∃ s1 s2 s : SlT, r = (s1, s2, s, ()) ∧ OwnL LW s (treeW xs) ∧ post = [c, SlC s LW.sz (LW.flat (treeW xs))]) ∧ St h G post h' := by
  apply hc_spec_WSet
  unfold M_spec_WSet
  have hn : n = xs.length := hx.1
  have S := sl_nil LW (sl_nil LW (sl_nil LQ (St.start hG)))
  refine w_mid' (some 0) (fun (y : SV [.c .sl, .c .sl, .c .sl]) h' => ∃ b w s : SlT, y = (b, w, s, ()) ∧ OwnL LW s (treeW xs) ∧ St h G [c, SlC s LW.sz (LW.flat (treeW xs))] h') ?_ ?_
  · refine w_lp (fun r y h' => ∃ (i : Nat) (b w s : SlT) (bs : List Bool) (ws : List WV), y = ((i : Int), b, w, s, ()) ∧ i + r = n ∧ bs.length = i ∧ ws.length = i ∧ OwnL LQ b bs ∧ OwnL LW w ws ∧ OwnL LW s (treeW (xs.take i)) ∧ St h G [SlC s LW.sz (LW.flat (treeW (xs.take i))), SlC w LW.sz (LW.flat ws), SlC b LQ.sz (LQ.flat bs), c] h') n rfl
      ⟨0, (none, 0, 0), (none, 0, 0), (none, 0, 0), [], [], rfl, by omega, rfl, rfl, ⟨rfl, Nat.le_refl _, .inl rfl⟩, ⟨rfl, Nat.le_refl _, .inl rfl⟩, ⟨rfl, Nat.le_refl _, .inl rfl⟩, S⟩ ?_
    clear S
    rintro r _ _ ⟨i, b, w, s, bs, ws, rfl, hi, hbl, hwl, hb, hw, hs, S⟩
    by_cases hlt : i < n
    · obtain ⟨p, hp, hrd⟩ := hx.ptr (by omega)
      dsimp only at hp
      subst hp
      have hxi := List.getElem?_eq_getElem (show i < xs.length by omega)
      have htl := treeW_len (xs.take i)
      have htl2 : (xs.take i).length ≤ i := List.length_take_le _ _
      obtain ⟨b1, b2, b3⟩ := b
      obtain ⟨w1, w2, w3⟩ := w
      obtain ⟨s1, s2, s3⟩ := s
      have hs2 : s2 = (treeW (xs.take i)).length := hs.1
      have hs3 : s2 ≤ s3 := hs.2.1
      generalize htw : treeW (xs.take i) = t at *
      have e : put MW.lt t (xs[i].1, xs[i].2) = treeW (xs.take (i + 1)) := by rw [take_snoc (by omega), treeW_snoc, htw]
      simp only [Int.toNat_natCast, toNat_succ, toNat_succ2, toNat_pred]
      refine w_true (lt_t (by (first | omega | ((try dsimp only [Sh.T, Sh1.T]); omega)))) (w_nonnil (w_guard ⟨by (first | omega | ((try dsimp only [Sh.T, Sh1.T]); omega)), by (first | omega | ((try dsimp only [Sh.T, Sh1.T]); omega))⟩ (w_word (S.rdr hrd) hxi ?_)))
      refine st_alloc S fun n4 _ S => ?_
      refine st_store S (lt_ble rfl) fun _ S => ?_
      refine st_store S (lt_ble rfl) fun _ S => ?_
      refine ld_str S rfl ?_
      refine st_callV S [.sl (s1, s2, s3)] (args' := [.c (.sl s1 s2 s3), .c (.str xs[i].1)]) rfl (fun G hG => c_spot (v := xs[i].2) hs.rdr (by omega) hG) ?_
      rintro _ _ _ ⟨rfl, rfl⟩ S
      dsimp only [List.cons_append, List.nil_append] at S
      have hpl := pos_le (lt := MW.lt) t (xs[i].1, xs[i].2)
      have hput : put MW.lt t (xs[i].1, xs[i].2) = t.take (pos MW.lt t (xs[i].1, xs[i].2)) ++ [(xs[i].1, xs[i].2)] ++ t.drop (pos MW.lt t (xs[i].1, xs[i].2) + if (fnd MW.lt t (xs[i].1, xs[i].2)).isSome then 1 else 0) := by unfold put; simp
      have hpf : ∀ y, fnd MW.lt t (xs[i].1, xs[i].2) = some y → pos MW.lt t (xs[i].1, xs[i].2) < t.length ∧ t[pos MW.lt t (xs[i].1, xs[i].2)]? = some y := fun y hy => ⟨(fnd_some_lt hy).1, (fnd_some_lt hy).2.1⟩
      generalize hpos : pos MW.lt t (xs[i].1, xs[i].2) = j at *
      refine ld_str S rfl ?_
      refine st_alloc S fun n8 _ S => ?_
      refine st_store S (lt_ble rfl) fun _ S => ?_
      refine st_store S (lt_ble rfl) fun _ S => ?_
      refine st_alloc S fun n9 _ S => ?_
      simp only [Int.toNat_natCast, toNat_succ, toNat_succ2, toNat_pred]
      have hsrc : ∀ {h5 : H} {F : PA → Prop} (b k : Nat), b + k ≤ s2 → (SlC (s1, s2, s3) LW.sz (LW.flat t)).p h5 F → RSl h5 (slBase s1 s3 b 2, k, s3 - b) LW.sz (LW.flat ((t.drop b).take k)) := by
        intro h5 F b k hb hc
        rcases Nat.eq_zero_or_pos t.length with h0 | h0
        · have : t = [] := List.length_eq_zero_iff.1 h0
          subst this
          have : k = 0 := by simp at hs2; omega
          subst this
          exact rsl_nil _ _
        · obtain ⟨q, hq, hrd⟩ := hs.rdr.ptr h0
          dsimp only at hq
          subst hq
          exact rds_part (hrd h5 F hc) b k s3 (s3 - b) (by omega) (by omega)
      refine w_guard ⟨by (first | omega | ((try dsimp only [Sh.T, Sh1.T]); omega)), by (first | omega | ((try dsimp only [Sh.T, Sh1.T]); omega))⟩ ?_
      refine st_new (L := LW) (ys := t.take j) (k := j - 0) S rfl rfl (by simp; omega) (by obtain ⟨F, hF⟩ := S.fct (.sl (s1, s2, s3)); exact hsrc 0 j (by omega) hF) ⟨by omega, by omega⟩ fun p1 c1 _ hc1 S => ?_
      refine ld_str S rfl (ld_int S rfl ?_)
      refine st_alloc S fun n13 _ S => ?_
      refine st_app (L := LW) (n := j - 0) (c := c1) (k := 1) (xs := t.take j) (ys := [(xs[i].1, xs[i].2)]) S rfl rfl (by simp; omega) hc1 rfl rfl (S.rsl (LW.flat [(xs[i].1, xs[i].2)]) 1 1 2 (fun i v h => by rw [Nat.zero_add]; exact h) rfl) ⟨by omega, by omega⟩ fun p2 c2 _ hc2 S => ?_
      have hlx : (t.take j ++ [(xs[i].1, xs[i].2)]).length = j + 1 := by simp; omega
      refine w_mid' none (fun (y : SV [.c (.int .i64)]) h' => ∃ (e : Nat) (v : Int), y = ((e : Int), ()) ∧ e = j + (if (fnd MW.lt t (xs[i].1, xs[i].2)).isSome then 1 else 0) ∧ e ≤ s2 ∧ St h G [Ow p2 (LW.flat (t.take j ++ [(xs[i].1, xs[i].2)])) ((c2 - (j - 0 + 1)) * LW.sz), Ow (n8, 0) [.string xs[i].1, .int .i64 v] 0, SlC (s1, s2, s3) LW.sz (LW.flat t), SlC (w1, w2, w3) LW.sz (LW.flat ws), SlC (b1, b2, b3) LQ.sz (LQ.flat bs), c] h') ?_ ?_
      · cases hf : fnd MW.lt t (xs[i].1, xs[i].2) with
        | some y =>
          obtain ⟨hjl, hy⟩ := hpf y hf
          obtain ⟨q, hq, hrd2⟩ := hs.rdr.ptr (by omega)
          dsimp only at hq
          subst hq
          refine w_true rfl (w_nonnil (w_guard ⟨by (first | omega | ((try dsimp only [Sh.T, Sh1.T]); omega)), by (first | omega | ((try dsimp only [Sh.T, Sh1.T]); omega))⟩ ?_))
          have hrr := S.at (.sl (some q, s2, s3))
          refine w_int y.2 (wd_v (hrr.rdr hrd2) hy) ?_
          refine st_store S (lt_ble rfl) fun _ S => ?_
          refine w_guard (inK64 (by (first | omega | ((try dsimp only [Sh.T, Sh1.T]); omega))) (by (first | omega | ((try dsimp only [Sh.T, Sh1.T]); omega)))) ?_
          exact md_n rfl ⟨j + 1, _, rfl, rfl, by omega, S.only [.ow p2, .ow (n8, 0), .sl (some q, s2, s3), .sl (w1, w2, w3), .sl (b1, b2, b3), .ck c]⟩
        | none =>
          exact w_false rfl (md_n rfl ⟨j, _, rfl, rfl, by omega, S.only [.ow p2, .ow (n8, 0), .sl (s1, s2, s3), .sl (w1, w2, w3), .sl (b1, b2, b3), .ck c]⟩)
      clear S
      rintro _ _ ⟨e2, v, rfl, he2, hle, S⟩
      rw [← he2] at hput
      simp only [Int.toNat_natCast, toNat_succ, toNat_succ2, toNat_pred]
      refine w_guard ⟨by (first | omega | ((try dsimp only [Sh.T, Sh1.T]); omega)), by (first | omega | ((try dsimp only [Sh.T, Sh1.T]); omega))⟩ ?_
      refine st_app (L := LW) (n := j - 0 + 1) (c := c2) (k := s2 - e2) (xs := t.take j ++ [(xs[i].1, xs[i].2)]) (ys := t.drop e2) S rfl rfl (by rw [hlx]; omega) hc2 rfl (by simp; omega) (by
        obtain ⟨F, hF⟩ := S.fct (.sl (s1, s2, s3))
        have := hsrc e2 (s2 - e2) (by omega) hF
        rwa [List.take_of_length_le (by simp; omega)] at this) ⟨by omega, by omega⟩ fun p3 c3 _ hc3 S => ?_
      have hpl2 : (put MW.lt t (xs[i].1, xs[i].2)).length = j - 0 + 1 + (s2 - e2) := by rw [hput]; simp; omega
      have S := (S.at (.ow p3)).re p3 (LW.flat (put MW.lt t (xs[i].1, xs[i].2))) ((c3 - (j - 0 + 1 + (s2 - e2))) * LW.sz) rfl (by rw [hput]) rfl
      have S := S.close_sl (sz := LW.sz) hc3 (by rw [LW.flat_length, hpl2])
      have hs' : OwnL LW (some p3, j - 0 + 1 + (s2 - e2), c3) (put MW.lt t (xs[i].1, xs[i].2)) := ⟨hpl2.symm, hc3, .inr rfl⟩
      rw [e] at hs' S
      refine ld_str S rfl (ld_int S rfl ?_)
      refine st_alloc S fun n21 _ S => ?_
      have S := S.at (.sl (w1, w2, w3))
      refine st_apo (L := LW) (xs := ws) (y := (xs[i].1, v)) S hw rfl rfl (S.rsl (LW.flat [_]) 1 1 2 (fun i v h => by rw [Nat.zero_add]; exact h) rfl) ⟨by omega, by omega⟩ fun w' _ hw' S => ?_
      refine st_alloc S fun n23 _ S => ?_
      have S := S.at (.sl (b1, b2, b3))
      refine st_apo (L := LQ) (xs := bs) (y := (fnd MW.lt t (xs[i].1, xs[i].2)).isSome) S hb rfl rfl (S.rsl (LQ.flat [_]) 1 1 1 (fun i v h => by rw [Nat.zero_add]; exact h) rfl) ⟨by omega, by omega⟩ fun b' _ hb' S => ?_
      refine w_guard (inK64 (by (first | omega | ((try dsimp only [Sh.T, Sh1.T]); omega))) (by (first | omega | ((try dsimp only [Sh.T, Sh1.T]); omega)))) ?_
      exact ln_n rfl (r - 1) ⟨i + 1, b', w', (some p3, j - 0 + 1 + (s2 - e2), c3), _, _, rfl, by omega, by simp; omega, by simp; omega, hb', hw', hs', S.only [.sl (some p3, j - 0 + 1 + (s2 - e2), c3), .sl w', .sl b', .ck c]⟩ (by omega)
    · rw [List.take_of_length_le (by omega)] at hs S
      exact w_false (lt_f (by (first | omega | ((try dsimp only [Sh.T, Sh1.T]); omega)))) (ln_e (md_e rfl ⟨b, w, s, rfl, hs, S.only [.ck c, .sl s]⟩))
  · rintro _ _ ⟨b, w, s, rfl, hs, S⟩
    exact rt_n rfl rfl ⟨_, ⟨w, b, s, rfl, hs, rfl⟩, S⟩
theorem c_Words {c : Ck} {xs : List WV} {sp : Option PA} {n cap : Nat} (hx : Rdr c (sp, n, cap) LW xs) (hxl : xs.length ≤ 2147483647) {G : PA → Prop} (hG : Star [c] h G) :
    HT Try.prog fn_spec_Words [.c (.sl sp n cap)] false [.c .sl] h fun r h' => ∃ post, (∃ s : SlT, r = (s, ()) ∧ OwnL LW s (treeW xs) ∧ post = [c, SlC s LW.sz (LW.flat (treeW xs))]) ∧ St h G post h' := by
  apply hc_spec_Words
  unfold M_spec_Words
  refine st_callT (St.start hG) [.ck c] (fun G hG => c_WSetT hx hxl hG) ?_
  rintro _ _ _ ⟨s1, s2, s, rfl, hs, rfl⟩ S
  dsimp only [List.cons_append, List.nil_append] at S
  exact rt_1 rfl ⟨_, ⟨s, rfl, hs, rfl⟩, S⟩
end
end Go.Proofs.Ytgniflegbdeokaa
