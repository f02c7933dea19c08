/-
  Lists of items: cloned, turned. Conditions: none.
-/
import Derived.Test.YtkhpbcckaenmcaaVa
import Derived.Test.YtkhpbcckaenmcaaTk
set_option linter.unusedVariables false
set_option linter.unusedSimpArgs false
set_option linter.unusedSectionVars false
set_option maxRecDepth 100000
namespace Go.Proofs.Ytkhpbcckaenmcaa
open Go

def M_slices_Clone_impl_Item_impl_Item (a0p : Option PA) (a0l : Nat) (a0c : Nat) : M :=
  .ite (a0p.isNone)
  (.done .ret [.c (.sl none (0) (0))])
  (.alloc ty_impl_Item [] fun n0 =>
    .append ty_impl_Item 2 16 [.int .i64 (0), .int .i64 (0)] ((some (n0, 0)), 0, 0) ((a0p), a0l, a0c) fun s1 =>
    .done .ret [.c (.sl (s1.fst) (s1.snd.fst) (s1.snd.snd))])

theorem den_slices_Clone_impl_Item_impl_Item (a0p : Option PA) (a0l : Nat) (a0c : Nat) : denFn Try.prog Try.f72 [.c (.sl a0p a0l a0c)] = M_slices_Clone_impl_Item_impl_Item a0p a0l a0c := by kernel_rfl
theorem hc_slices_Clone_impl_Item_impl_Item (a0p : Option PA) (a0l : Nat) (a0c : Nat) {h : H} {R : Value → H → Prop} (hw : wp Try.prog (M_slices_Clone_impl_Item_impl_Item a0p a0l a0c) (Ret R) h) : HC Try.prog fn_slices_Clone_impl_Item_impl_Item (List.map AV.val [.c (.sl a0p a0l a0c)]).toArray h R :=
  den_calls hmix Try.func72 (of_decide_eq_true rfl) (by rw [den_slices_Clone_impl_Item_impl_Item]; exact hw)

def M_slices_Reverse_impl_Item_impl_Item (a0p : Option PA) (a0l : Nat) (a0c : Nat) : M :=
  .guard (InK IntKind.i64 ((↑a0l : Int) - 1)) <|
  .bind (some 0) (.loop [.c (.int .i64), .c (.int .i64)] [.c (.int .i64 ((↑a0l : Int) - 1)), .c (.int .i64 (0))] fun y0 =>
      .ite (decide (y0.snd.fst < y0.fst))
      (.nonnil (a0p) fun p1 =>
        .guard (((0 : Int) ≤ y0.fst) ∧ ((y0.fst : Int) < (↑a0l : Int))) <|
        .load (p1.fst, p1.snd + mulN (Int.toNat y0.fst) 2) (.int .i64) fun i2 =>
        .load (p1.fst, p1.snd + mulN (Int.toNat y0.fst) 2 + 1) (.int .i64) fun i3 =>
        .nonnil (a0p) fun p4 =>
        .guard (((0 : Int) ≤ y0.snd.fst) ∧ ((y0.snd.fst : Int) < (↑a0l : Int))) <|
        .load (p4.fst, p4.snd + mulN (Int.toNat y0.snd.fst) 2) (.int .i64) fun i5 =>
        .load (p4.fst, p4.snd + mulN (Int.toNat y0.snd.fst) 2 + 1) (.int .i64) fun i6 =>
        .nonnil (a0p) fun p7 =>
        .guard (((0 : Int) ≤ y0.snd.fst) ∧ ((y0.snd.fst : Int) < (↑a0l : Int))) <|
        .store (p7.fst, p7.snd + mulN (Int.toNat y0.snd.fst) 2) (.int .i64 (i2)) <|
        .store (p7.fst, p7.snd + mulN (Int.toNat y0.snd.fst) 2 + 1) (.int .i64 (i3)) <|
        .nonnil (a0p) fun p8 =>
        .guard (((0 : Int) ≤ y0.fst) ∧ ((y0.fst : Int) < (↑a0l : Int))) <|
        .store (p8.fst, p8.snd + mulN (Int.toNat y0.fst) 2) (.int .i64 (i5)) <|
        .store (p8.fst, p8.snd + mulN (Int.toNat y0.fst) 2 + 1) (.int .i64 (i6)) <|
        .guard (InK IntKind.i64 (y0.snd.fst + 1)) <|
        .guard (InK IntKind.i64 (y0.fst - 1)) <|
        .done .normal [.c (.int .i64 (y0.fst - 1)), .c (.int .i64 (y0.snd.fst + 1))])
      (.done (.exit 0) [])) [] fun x9 =>
  .done .ret []

theorem den_slices_Reverse_impl_Item_impl_Item (a0p : Option PA) (a0l : Nat) (a0c : Nat) : denFn Try.prog Try.f73 [.c (.sl a0p a0l a0c)] = M_slices_Reverse_impl_Item_impl_Item a0p a0l a0c := by kernel_rfl
theorem hc_slices_Reverse_impl_Item_impl_Item (a0p : Option PA) (a0l : Nat) (a0c : Nat) {h : H} {R : Value → H → Prop} (hw : wp Try.prog (M_slices_Reverse_impl_Item_impl_Item a0p a0l a0c) (Ret R) h) : HC Try.prog fn_slices_Reverse_impl_Item_impl_Item (List.map AV.val [.c (.sl a0p a0l a0c)]).toArray h R :=
  den_calls hmix Try.func73 (of_decide_eq_true rfl) (by rw [den_slices_Reverse_impl_Item_impl_Item]; exact hw)

def M_laws_turned (a0p : Option PA) (a0l : Nat) (a0c : Nat) : M :=
  .call fn_slices_Clone_impl_Item_impl_Item [.c (.sl (a0p) (a0l) (a0c))] false [.c (.sl)] fun r0 =>
  .call fn_slices_Reverse_impl_Item_impl_Item [.c (.sl (r0.fst.fst) (r0.fst.snd.fst) (r0.fst.snd.snd))] true [] fun r1 =>
  .done .ret [.c (.sl (r0.fst.fst) (r0.fst.snd.fst) (r0.fst.snd.snd))]

theorem den_laws_turned (a0p : Option PA) (a0l : Nat) (a0c : Nat) : denFn Try.prog Try.f41 [.c (.sl a0p a0l a0c)] = M_laws_turned a0p a0l a0c := by kernel_rfl
theorem hc_laws_turned (a0p : Option PA) (a0l : Nat) (a0c : Nat) {h : H} {R : Value → H → Prop} (hw : wp Try.prog (M_laws_turned a0p a0l a0c) (Ret R) h) : HC Try.prog fn_laws_turned (List.map AV.val [.c (.sl a0p a0l a0c)]).toArray h R :=
  den_calls hmix Try.func41 (of_decide_eq_true rfl) (by rw [den_laws_turned]; exact hw)


section
variable {P : Program} {Q : Ex → List AV → H → Prop} {h h0 : H} {G0 : PA → Prop} {l : List Ck}
theorem LT_set2 : ∀ (xs : List IV) (i : Nat) (a : IV), i < xs.length → ((LT.flat xs).set (i * 2) (.int .i64 a.1)).set (i * 2 + 1) (.int .i64 a.2) = LT.flat (xs.set i a)
  | [], _, _, h => by simp at h
  | x :: xs, 0, a, _ => rfl
  | x :: xs, i + 1, a, h => by
    have ih := LT_set2 xs i a (by simpa using h)
    show ((.int .i64 x.1 :: .int .i64 x.2 :: LT.flat xs : List Value).set ((i + 1) * 2) _).set ((i + 1) * 2 + 1) _ = .int .i64 x.1 :: .int .i64 x.2 :: LT.flat (xs.set i a)
    rw [← ih, show (i + 1) * 2 = i * 2 + 2 by omega]
    rfl
/-- An item laid. -/
theorem st_itT (s : St h0 G0 l h) {p : PA} {xs : List IV} {k : Nat} {l' : List Value → List Ck} [Fi l p (LT.flat xs) 0 k l'] {i : Nat} (hi : i < xs.length) {a b : Int} {m : M}
    (hw : ∀ h', St h0 G0 (l' (LT.flat (xs.set i (a, b)))) h' → wp P m Q h') : wp P (.store (p.1, p.2 + mulN i 2) (.int .i64 a) (.store (p.1, p.2 + mulN i 2 + 1) (.int .i64 b) m)) Q h := by
  have hk : oks h p (LT.flat xs).length := by
    obtain ⟨⟨G, h1, h2⟩, h3⟩ := s
    obtain ⟨c, F, B, e, o, _⟩ := Fi.ok (self := ‹Fi l p (LT.flat xs) 0 k l'›) h G h1
    intro j hj
    have := o.ok j (by omega)
    rw [e]; simpa using this
  rw [LT.flat_length] at hk
  have hk : oks h p (xs.length * 2) := hk
  have k0 : wok h (p.1, p.2 + mulN i 2) := by rw [mulN_eq]; exact hk (i * 2) (by omega)
  have k1 : wok h (p.1, p.2 + mulN i 2 + 1) := by rw [mulN_eq, Nat.add_assoc]; exact hk (i * 2 + 1) (by omega)
  refine w_store k0 (w_store (wok_wr k1) (hw _ ?_))
  refine s.change (a := p) (ws := LT.flat (xs.set i (a, b))) (by rw [LT.flat_length, LT.flat_length, List.length_set]) fun c e o => ?_
  have e' : c = p := by rw [e]; rfl
  subst e'
  have hl : (LT.flat xs).length = xs.length * 2 := LT.flat_length xs
  have o1 := o.one (i * 2) (.int .i64 a) (by rw [hl]; omega)
  have o2 := o1.one (i * 2 + 1) (.int .i64 b) (by rw [List.length_set, hl]; omega)
  rw [LT_set2 xs i (a, b) hi] at o2
  rw [mulN_eq, Nat.add_assoc]
  exact ⟨o2, (Fr.wr _ ⟨rfl, by simp, by simp; omega⟩).trans (Fr.wr _ ⟨rfl, by simp, by simp; omega⟩)⟩
end
section
variable {h : H}
theorem c_CloneItems {c : Ck} {xs : List IV} {sp : Option PA} {n cap : Nat} (hx : Rdr c (sp, n, cap) LT xs) (hxl : xs.length ≤ 4294967296) {G : PA → Prop} (hG : Star [c] h G) :
    HT Try.prog fn_slices_Clone_impl_Item_impl_Item [.c (.sl sp n cap)] false [.c .sl] h fun r h' => ∃ post, (∃ s : SlT, r = (s, ()) ∧ OwnL LT s xs ∧ post = [c, SlC s LT.sz (LT.flat xs)]) ∧ St h G post h' := by
  apply hc_slices_Clone_impl_Item_impl_Item
  unfold M_slices_Clone_impl_Item_impl_Item
  have hn : n = xs.length := hx.1
  have S := St.start hG
  cases sp with
  | none =>
    obtain rfl : xs = [] := by
      rcases hx.2.2 with h | ⟨p, hp, _⟩
      · exact h
      · cases hp
    exact w_true rfl (rt_1 rfl ⟨_, ⟨(none, 0, 0), rfl, ⟨rfl, Nat.le_refl _, .inl rfl⟩, rfl⟩, (sl_nil LT S).pull1⟩)
  | some p =>
    refine w_false rfl ?_
    refine st_alloc S fun n0 _ S => ?_
    obtain ⟨F, hF⟩ := S.fct (.ck c)
    refine st_new (L := LT) (ys := xs) S rfl rfl hn (hx.rsl hF) ⟨by omega, by omega⟩ fun p' c' _ hc S => ?_
    have S := S.close_sl (n := n) (c := c') (sz := LT.sz) hc (by rw [LT.flat_length, hn])
    exact rt_1 rfl ⟨_, ⟨_, rfl, ⟨hn, hc, .inr rfl⟩, rfl⟩, S.ats [.ck c, .sl (some p', n, c')]⟩
theorem rev_get {I : Type} {xs : List I} {k : Nat} (h : k < xs.length) : xs.reverse[k]? = xs[xs.length - 1 - k]? := List.getElem?_reverse h
set_option maxHeartbeats 1000000 in
theorem c_Reverse {xs : List IV} {s : SlT} (hs : OwnL LT s xs) (hxl : xs.length ≤ 4294967296) {G : PA → Prop} (hG : Star [SlC s LT.sz (LT.flat xs)] h G) :
    HT Try.prog fn_slices_Reverse_impl_Item_impl_Item [.c (.sl s.1 s.2.1 s.2.2)] true [] h fun r h' => ∃ post, post = [SlC s LT.sz (LT.flat xs.reverse)] ∧ St h G post h' := by
  apply hc_slices_Reverse_impl_Item_impl_Item
  unfold M_slices_Reverse_impl_Item_impl_Item
  have hn : s.2.1 = xs.length := hs.1
  have S := St.start hG
  refine w_guard (inK64 (by (first | omega | ((try dsimp only [Sh.T, Sh1.T]); omega))) (by (first | omega | ((try dsimp only [Sh.T, Sh1.T]); omega)))) ?_
  by_cases h0 : xs.length = 0
  · obtain rfl : xs = [] := List.length_eq_zero_iff.1 h0
    refine w_mid' (some 0) (fun _ h' => St h G [SlC s LT.sz (LT.flat [])] h') ?_ fun _ _ S => rt_n rfl rfl ⟨_, rfl, S⟩
    refine w_lp (fun r y h' => y = ((s.2.1 : Int) - 1, 0, ()) ∧ St h G [SlC s LT.sz (LT.flat [])] h') 0 rfl ⟨rfl, S⟩ ?_
    rintro r _ _ ⟨rfl, S⟩
    exact w_false (decide_eq_false (by (first | omega | ((try dsimp only [Sh.T, Sh1.T]); omega)))) (ln_e (md_e rfl S))
  · obtain ⟨p, n, c, rfl, hc, hl, S⟩ := S.open_sl (hs.2.2.resolve_left fun e => by subst e; exact h0 rfl)
    dsimp only at hn
    refine w_mid' (some 0) (fun _ h' => St h G [Ow p (LT.flat xs.reverse) ((c - n) * LT.sz)] h') ?_ fun _ _ S => rt_n rfl rfl ⟨_, rfl, S.close_sl hc (by rw [LT.flat_length, List.length_reverse, hn])⟩
    refine w_lp (fun r y h' => ∃ (i : Nat) (ys : List IV), y = ((n : Int) - 1 - i, (i : Int), ()) ∧ 2 * i + r = n + 1 ∧ ys.length = n ∧ (∀ k, k < n → ys[k]? = if k < i ∨ n ≤ k + i then xs[n - 1 - k]? else xs[k]?) ∧ St h G [Ow p (LT.flat ys) ((c - n) * LT.sz)] h') (n + 1) rfl
      ⟨0, xs, by simp, by omega, hn.symm, fun k hk => by rw [if_neg (by omega)], S⟩ ?_
    clear S
    rintro r _ _ ⟨i, ys, rfl, hr, hyl, hys, S⟩
    by_cases hlt : 2 * i + 1 < n
    · refine w_true (decide_eq_true (by (first | omega | ((try dsimp only [Sh.T, Sh1.T]); omega)))) ?_
      obtain ⟨a, ha⟩ : ∃ a, ys[n - 1 - i]? = some a := ⟨_, List.getElem?_eq_getElem (by omega)⟩
      obtain ⟨b, hb⟩ : ∃ b, ys[i]? = some b := ⟨_, List.getElem?_eq_getElem (by omega)⟩
      have ej : ((n : Int) - 1 - i).toNat = n - 1 - i := by omega
      refine w_nonnil (w_guard ⟨by (first | omega | ((try dsimp only [Sh.T, Sh1.T]); omega)), by (first | omega | ((try dsimp only [Sh.T, Sh1.T]); omega))⟩ ?_)
      dsimp only
      rw [ej, Int.toNat_natCast]
      refine w_item (S.rds (LT.flat ys) fun i v h => by rw [Nat.zero_add]; exact h) ha ?_
      refine w_nonnil (w_guard ⟨by (first | omega | ((try dsimp only [Sh.T, Sh1.T]); omega)), by (first | omega | ((try dsimp only [Sh.T, Sh1.T]); omega))⟩ ?_)
      refine w_item (S.rds (LT.flat ys) fun i v h => by rw [Nat.zero_add]; exact h) hb ?_
      refine w_nonnil (w_guard ⟨by (first | omega | ((try dsimp only [Sh.T, Sh1.T]); omega)), by (first | omega | ((try dsimp only [Sh.T, Sh1.T]); omega))⟩ ?_)
      refine st_itT S (by omega) fun _ S => ?_
      refine w_nonnil (w_guard ⟨by (first | omega | ((try dsimp only [Sh.T, Sh1.T]); omega)), by (first | omega | ((try dsimp only [Sh.T, Sh1.T]); omega))⟩ ?_)
      refine st_itT S (by rw [List.length_set]; omega) fun _ S => ?_
      refine w_guard (inK64 (by omega) (by omega)) (w_guard (inK64 (by omega) (by omega)) ?_)
      refine ln_n rfl (r - 2) ⟨i + 1, (ys.set i a).set (n - 1 - i) b, ?_, by omega, by simp [hyl], fun k hk => ?_, S⟩ (by omega)
      · rw [show (n : Int) - 1 - i - 1 = (n : Int) - 1 - ((i + 1 : Nat) : Int) by omega]; rfl
      · have h1 := hys (n - 1 - i) (by omega)
        rw [ha, if_neg (by omega)] at h1
        have h2 := hys i (by omega)
        rw [hb, if_neg (by omega)] at h2
        rw [List.getElem?_set, List.length_set]
        by_cases e1 : n - 1 - i = k
        · subst e1
          rw [if_pos rfl, if_pos (by omega), if_pos (by omega), h2]; congr 1; omega
        · rw [if_neg e1, List.getElem?_set]
          by_cases e2 : i = k
          · subst e2
            rw [if_pos rfl, if_pos (by omega), if_pos (by omega), h1]
          · rw [if_neg e2, hys k hk]
            by_cases e3 : k < i ∨ n ≤ k + i
            · rw [if_pos e3, if_pos (by omega)]
            · rw [if_neg e3, if_neg (by omega)]
    · refine w_false (decide_eq_false (by (first | omega | ((try dsimp only [Sh.T, Sh1.T]); omega)))) (ln_e (md_e rfl ?_))
      have e : ys = xs.reverse := by
        refine List.ext_getElem? fun k => ?_
        rcases Nat.lt_or_ge k n with hk | hk
        · rw [rev_get (by omega), hys k hk, ← hn]
          by_cases e3 : k < i ∨ n ≤ k + i
          · rw [if_pos e3]
          · rw [if_neg e3]; congr 1; omega
        · rw [List.getElem?_eq_none (by omega), List.getElem?_eq_none (by simp; omega)]
      rw [e] at S
      exact S
theorem c_turned {c : Ck} {xs : List IV} {sp : Option PA} {n cap : Nat} (hx : Rdr c (sp, n, cap) LT xs) (hxl : xs.length ≤ 4294967296) {G : PA → Prop} (hG : Star [c] h G) :
    HT Try.prog fn_laws_turned [.c (.sl sp n cap)] false [.c .sl] h fun r h' => ∃ post, (∃ s : SlT, r = (s, ()) ∧ OwnL LT s xs.reverse ∧ post = [SlC s LT.sz (LT.flat xs.reverse), c]) ∧ St h G post h' := by
  apply hc_laws_turned
  unfold M_laws_turned
  have S := St.start hG
  refine st_callT S [.ck c] (fun G hG => c_CloneItems hx hxl hG) ?_
  rintro _ _ _ ⟨s, rfl, hs, rfl⟩ S
  dsimp only [List.cons_append, List.nil_append] at S
  refine st_callT S [.sl s] (fun G hG => c_Reverse hs hxl hG) ?_
  rintro _ _ _ rfl S
  dsimp only [List.cons_append, List.nil_append] at S
  exact rt_1 rfl ⟨_, ⟨s, rfl, ⟨by rw [List.length_reverse]; exact hs.1, hs.2.1, hs.2.2.imp (fun e => by rw [e]; rfl) id⟩, rfl⟩, S⟩
end
end Go.Proofs.Ytkhpbcckaenmcaa
