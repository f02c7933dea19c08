/-
  Lists of keys: a copy, turned. Conditions: none.
-/
import Derived.Test.YtpbmahnieepmiaaVa
import Derived.Test.YtpbmahnieepmiaaBe
set_option linter.unusedVariables false
set_option linter.unusedSimpArgs false
set_option linter.unusedSectionVars false
set_option maxRecDepth 100000
namespace Go.Proofs.Ytpbmahnieepmiaa
open Go
def M_slices_Clone_int_int (a0p : Option PA) (a0l : Nat) (a0c : Nat) : M :=
  .ite (a0p.isNone)
  (.done .ret [.c (.sl none (0) (0))])
  (.alloc ty_int [] fun n0 =>
    .append ty_int 1 8 [.int .i64 (0)] ((some (n0, 0)), 0, 0) ((a0p), a0l, a0c) fun s1 =>
    .done .ret [.c (.sl (s1.fst) (s1.snd.fst) (s1.snd.snd))])
theorem den_slices_Clone_int_int (a0p : Option PA) (a0l : Nat) (a0c : Nat) : denFn Try.prog Try.f19 [.c (.sl a0p a0l a0c)] = M_slices_Clone_int_int a0p a0l a0c := by kernel_rfl
theorem hc_slices_Clone_int_int (a0p : Option PA) (a0l : Nat) (a0c : Nat) {h : H} {R : Value → H → Prop} (hw : wp Try.prog (M_slices_Clone_int_int a0p a0l a0c) (Ret R) h) : HC Try.prog fn_slices_Clone_int_int (List.map AV.val [.c (.sl a0p a0l a0c)]).toArray h R :=
  den_calls hmix Try.func19 (of_decide_eq_true rfl) (by rw [den_slices_Clone_int_int]; exact hw)
def M_slices_Reverse_int_int (a0p : Option PA) (a0l : Nat) (a0c : Nat) : M :=
  .guard (InK IntKind.i64 ((↑a0l : Int) - 1)) <|
  .bind (some 0) (.loop [.c (.int .i64), .c (.int .i64)] [.c (.int .i64 ((↑a0l : Int) - 1)), .c (.int .i64 (0))] fun y0 =>
      .ite (decide (y0.snd.fst < y0.fst))
      (.nonnil (a0p) fun p1 =>
        .guard (((0 : Int) ≤ y0.fst) ∧ ((y0.fst : Int) < (↑a0l : Int))) <|
        .load (p1.fst, p1.snd + Int.toNat y0.fst) (.int .i64) fun i2 =>
        .nonnil (a0p) fun p3 =>
        .guard (((0 : Int) ≤ y0.snd.fst) ∧ ((y0.snd.fst : Int) < (↑a0l : Int))) <|
        .load (p3.fst, p3.snd + Int.toNat y0.snd.fst) (.int .i64) fun i4 =>
        .nonnil (a0p) fun p5 =>
        .guard (((0 : Int) ≤ y0.snd.fst) ∧ ((y0.snd.fst : Int) < (↑a0l : Int))) <|
        .store (p5.fst, p5.snd + Int.toNat y0.snd.fst) (.int .i64 (i2)) <|
        .nonnil (a0p) fun p6 =>
        .guard (((0 : Int) ≤ y0.fst) ∧ ((y0.fst : Int) < (↑a0l : Int))) <|
        .store (p6.fst, p6.snd + Int.toNat y0.fst) (.int .i64 (i4)) <|
        .guard (InK IntKind.i64 (y0.snd.fst + 1)) <|
        .guard (InK IntKind.i64 (y0.fst - 1)) <|
        .done .normal [.c (.int .i64 (y0.fst - 1)), .c (.int .i64 (y0.snd.fst + 1))])
      (.done (.exit 0) [])) [] fun x7 =>
  .done .ret []
theorem den_slices_Reverse_int_int (a0p : Option PA) (a0l : Nat) (a0c : Nat) : denFn Try.prog Try.f45 [.c (.sl a0p a0l a0c)] = M_slices_Reverse_int_int a0p a0l a0c := by kernel_rfl
theorem hc_slices_Reverse_int_int (a0p : Option PA) (a0l : Nat) (a0c : Nat) {h : H} {R : Value → H → Prop} (hw : wp Try.prog (M_slices_Reverse_int_int a0p a0l a0c) (Ret R) h) : HC Try.prog fn_slices_Reverse_int_int (List.map AV.val [.c (.sl a0p a0l a0c)]).toArray h R :=
  den_calls hmix Try.func45 (of_decide_eq_true rfl) (by rw [den_slices_Reverse_int_int]; exact hw)
def M_laws_turned_int (a0p : Option PA) (a0l : Nat) (a0c : Nat) : M :=
  .call fn_slices_Clone_int_int [.c (.sl (a0p) (a0l) (a0c))] false [.c (.sl)] fun r0 =>
  .call fn_slices_Reverse_int_int [.c (.sl (r0.fst.fst) (r0.fst.snd.fst) (r0.fst.snd.snd))] true [] fun r1 =>
  .done .ret [.c (.sl (r0.fst.fst) (r0.fst.snd.fst) (r0.fst.snd.snd))]
theorem den_laws_turned_int (a0p : Option PA) (a0l : Nat) (a0c : Nat) : denFn Try.prog Try.f26 [.c (.sl a0p a0l a0c)] = M_laws_turned_int a0p a0l a0c := by kernel_rfl
theorem hc_laws_turned_int (a0p : Option PA) (a0l : Nat) (a0c : Nat) {h : H} {R : Value → H → Prop} (hw : wp Try.prog (M_laws_turned_int a0p a0l a0c) (Ret R) h) : HC Try.prog fn_laws_turned_int (List.map AV.val [.c (.sl a0p a0l a0c)]).toArray h R :=
  den_calls hmix Try.func26 (of_decide_eq_true rfl) (by rw [den_laws_turned_int]; exact hw)
section
variable {P : Program} {Q : Ex → List AV → H → Prop} {h h0 : H} {G0 : PA → Prop} {l : List Ck}
theorem LN_set : ∀ (xs : List Int) (i : Nat) (a : Int), (LN.flat xs).set i (.int .i64 a) = LN.flat (xs.set i a)
  | [], _, _ => rfl
  | _ :: _, 0, _ => rfl
  | x :: xs, i + 1, a => by
    show Value.int .i64 x :: (LN.flat xs).set i _ = Value.int .i64 x :: LN.flat (xs.set i a)
    rw [LN_set xs i a]
theorem st_num (s : St h0 G0 l h) {p : PA} {xs : List Int} {k : Nat} {l' : List Value → List Ck} [Fi l p (LN.flat xs) 0 k l'] {i : Nat} (hi : i < xs.length) {a : Int} {m : M}
    (hw : ∀ h', St h0 G0 (l' (LN.flat (xs.set i a))) h' → wp P m Q h') : wp P (.store (p.1, p.2 + i) (.int .i64 a) m) Q h := by
  haveI := fi_shift (l := l) (a := p) (vs := LN.flat xs) (k := k) (l' := l') i
  refine st_store s (a := (p.1, p.2 + i)) (j := i) (by rw [LN.flat_length]; show i < xs.length * 1; omega) fun h' S => hw h' ?_
  rw [show (Cell.int .i64 a).val = Value.int .i64 a from rfl, LN_set] at S
  exact S
end
section
variable {h : H}
theorem c_CloneInts {c : Ck} {xs : List Int} {sp : Option PA} {n cap : Nat} (hx : Rdr c (sp, n, cap) LN xs) (hxl : xs.length ≤ 4294967296) {G : PA → Prop} (hG : Star [c] h G) :
    HT Try.prog fn_slices_Clone_int_int [.c (.sl sp n cap)] false [.c .sl] h fun r h' => ∃ post, (∃ s : SlT, r = (s, ()) ∧ OwnL LN s xs ∧ post = [c, SlC s LN.sz (LN.flat xs)]) ∧ St h G post h' := by
  apply hc_slices_Clone_int_int
  unfold M_slices_Clone_int_int
  have hn : n = xs.length := hx.1
  have S := St.start hG
  cases sp with
  | none =>
    obtain rfl : xs = [] := by
      rcases hx.2.2 with h | ⟨p, hp, _⟩
      · exact h
      · cases hp
    exact w_true rfl (rt_1 rfl ⟨_, ⟨(none, 0, 0), rfl, ⟨rfl, Nat.le_refl _, .inl rfl⟩, rfl⟩, (sl_nil LN S).pull1⟩)
  | some p =>
    refine w_false rfl ?_
    refine st_alloc S fun n0 _ S => ?_
    obtain ⟨F, hF⟩ := S.fct (.ck c)
    refine st_new (L := LN) (ys := xs) S rfl rfl hn (hx.rsl hF) ⟨by omega, by omega⟩ fun p' c' _ hc S => ?_
    have S := S.close_sl (n := n) (c := c') (sz := LN.sz) hc (by rw [LN.flat_length, hn])
    exact rt_1 rfl ⟨_, ⟨_, rfl, ⟨hn, hc, .inr rfl⟩, rfl⟩, S.ats [.ck c, .sl (some p', n, c')]⟩
theorem rev_getN {I : Type} {xs : List I} {k : Nat} (h : k < xs.length) : xs.reverse[k]? = xs[xs.length - 1 - k]? := List.getElem?_reverse h
set_option maxHeartbeats 1000000 in
theorem c_ReverseInts {xs : List Int} {s : SlT} (hs : OwnL LN s xs) (hxl : xs.length ≤ 4294967296) {G : PA → Prop} (hG : Star [SlC s LN.sz (LN.flat xs)] h G) :
    HT Try.prog fn_slices_Reverse_int_int [.c (.sl s.1 s.2.1 s.2.2)] true [] h fun r h' => ∃ post, post = [SlC s LN.sz (LN.flat xs.reverse)] ∧ St h G post h' := by
  apply hc_slices_Reverse_int_int
  unfold M_slices_Reverse_int_int
  have hn : s.2.1 = xs.length := hs.1
  have S := St.start hG
  refine w_guard (inK64 (by (first | omega | ((try dsimp only [Sh.T, Sh1.T]); omega))) (by (first | omega | ((try dsimp only [Sh.T, Sh1.T]); omega)))) ?_
  by_cases h0 : xs.length = 0
  · obtain rfl : xs = [] := List.length_eq_zero_iff.1 h0
    refine w_mid' (some 0) (fun _ h' => St h G [SlC s LN.sz (LN.flat [])] h') ?_ fun _ _ S => rt_n rfl rfl ⟨_, rfl, S⟩
    refine w_lp (fun r y h' => y = ((s.2.1 : Int) - 1, 0, ()) ∧ St h G [SlC s LN.sz (LN.flat [])] h') 0 rfl ⟨rfl, S⟩ ?_
    rintro r _ _ ⟨rfl, S⟩
    exact w_false (decide_eq_false (by (first | omega | ((try dsimp only [Sh.T, Sh1.T]); omega)))) (ln_e (md_e rfl S))
  · obtain ⟨p, n, c, rfl, hc, hl, S⟩ := S.open_sl (hs.2.2.resolve_left fun e => by subst e; exact h0 rfl)
    dsimp only at hn
    refine w_mid' (some 0) (fun _ h' => St h G [Ow p (LN.flat xs.reverse) ((c - n) * LN.sz)] h') ?_ fun _ _ S => rt_n rfl rfl ⟨_, rfl, S.close_sl hc (by rw [LN.flat_length, List.length_reverse, hn])⟩
    refine w_lp (fun r y h' => ∃ (i : Nat) (ys : List Int), y = ((n : Int) - 1 - i, (i : Int), ()) ∧ 2 * i + r = n + 1 ∧ ys.length = n ∧ (∀ k, k < n → ys[k]? = if k < i ∨ n ≤ k + i then xs[n - 1 - k]? else xs[k]?) ∧ St h G [Ow p (LN.flat ys) ((c - n) * LN.sz)] h') (n + 1) rfl
      ⟨0, xs, by simp, by omega, hn.symm, fun k hk => by rw [if_neg (by omega)], S⟩ ?_
    clear S
    rintro r _ _ ⟨i, ys, rfl, hr, hyl, hys, S⟩
    by_cases hlt : 2 * i + 1 < n
    · refine w_true (decide_eq_true (by (first | omega | ((try dsimp only [Sh.T, Sh1.T]); omega)))) ?_
      obtain ⟨a, ha⟩ : ∃ a, ys[n - 1 - i]? = some a := ⟨_, List.getElem?_eq_getElem (by omega)⟩
      obtain ⟨b, hb⟩ : ∃ b, ys[i]? = some b := ⟨_, List.getElem?_eq_getElem (by omega)⟩
      have ej : ((n : Int) - 1 - i).toNat = n - 1 - i := by omega
      refine w_nonnil (w_guard ⟨by (first | omega | ((try dsimp only [Sh.T, Sh1.T]); omega)), by (first | omega | ((try dsimp only [Sh.T, Sh1.T]); omega))⟩ ?_)
      dsimp only
      rw [ej, Int.toNat_natCast]
      refine w_num (S.rds (LN.flat ys) fun i v h => by rw [Nat.zero_add]; exact h) ha ?_
      refine w_nonnil (w_guard ⟨by (first | omega | ((try dsimp only [Sh.T, Sh1.T]); omega)), by (first | omega | ((try dsimp only [Sh.T, Sh1.T]); omega))⟩ ?_)
      refine w_num (S.rds (LN.flat ys) fun i v h => by rw [Nat.zero_add]; exact h) hb ?_
      refine w_nonnil (w_guard ⟨by (first | omega | ((try dsimp only [Sh.T, Sh1.T]); omega)), by (first | omega | ((try dsimp only [Sh.T, Sh1.T]); omega))⟩ ?_)
      refine st_num S (by omega) fun _ S => ?_
      refine w_nonnil (w_guard ⟨by (first | omega | ((try dsimp only [Sh.T, Sh1.T]); omega)), by (first | omega | ((try dsimp only [Sh.T, Sh1.T]); omega))⟩ ?_)
      refine st_num S (by rw [List.length_set]; omega) fun _ S => ?_
      refine w_guard (inK64 (by omega) (by omega)) (w_guard (inK64 (by omega) (by omega)) ?_)
      refine ln_n rfl (r - 2) ⟨i + 1, (ys.set i a).set (n - 1 - i) b, ?_, by omega, by simp [hyl], fun k hk => ?_, S⟩ (by omega)
      · rw [show (n : Int) - 1 - i - 1 = (n : Int) - 1 - ((i + 1 : Nat) : Int) by omega]; rfl
      · have h1 := hys (n - 1 - i) (by omega)
        rw [ha, if_neg (by omega)] at h1
        have h2 := hys i (by omega)
        rw [hb, if_neg (by omega)] at h2
        rw [List.getElem?_set, List.length_set]
        by_cases e1 : n - 1 - i = k
        · subst e1
          rw [if_pos rfl, if_pos (by omega), if_pos (by omega), h2]; congr 1; omega
        · rw [if_neg e1, List.getElem?_set]
          by_cases e2 : i = k
          · subst e2
            rw [if_pos rfl, if_pos (by omega), if_pos (by omega), h1]
          · rw [if_neg e2, hys k hk]
            by_cases e3 : k < i ∨ n ≤ k + i
            · rw [if_pos e3, if_pos (by omega)]
            · rw [if_neg e3, if_neg (by omega)]
    · refine w_false (decide_eq_false (by (first | omega | ((try dsimp only [Sh.T, Sh1.T]); omega)))) (ln_e (md_e rfl ?_))
      have e : ys = xs.reverse := by
        refine List.ext_getElem? fun k => ?_
        rcases Nat.lt_or_ge k n with hk | hk
        · rw [rev_getN (by omega), hys k hk, ← hn]
          by_cases e3 : k < i ∨ n ≤ k + i
          · rw [if_pos e3]
          · rw [if_neg e3]; congr 1; omega
        · rw [List.getElem?_eq_none (by omega), List.getElem?_eq_none (by simp; omega)]
      rw [e] at S
      exact S
theorem c_turnedInts {c : Ck} {xs : List Int} {sp : Option PA} {n cap : Nat} (hx : Rdr c (sp, n, cap) LN xs) (hxl : xs.length ≤ 4294967296) {G : PA → Prop} (hG : Star [c] h G) :
    HT Try.prog fn_laws_turned_int [.c (.sl sp n cap)] false [.c .sl] h fun r h' => ∃ post, (∃ s : SlT, r = (s, ()) ∧ OwnL LN s xs.reverse ∧ post = [SlC s LN.sz (LN.flat xs.reverse), c]) ∧ St h G post h' := by
  apply hc_laws_turned_int
  unfold M_laws_turned_int
  have S := St.start hG
  refine st_callT S [.ck c] (fun G hG => c_CloneInts hx hxl hG) ?_
  rintro _ _ _ ⟨s, rfl, hs, rfl⟩ S
  dsimp only [List.cons_append, List.nil_append] at S
  refine st_callT S [.sl s] (fun G hG => c_ReverseInts hs hxl hG) ?_
  rintro _ _ _ rfl S
  dsimp only [List.cons_append, List.nil_append] at S
  exact rt_1 rfl ⟨_, ⟨s, rfl, ⟨by rw [List.length_reverse]; exact hs.1, hs.2.1, hs.2.2.imp (fun e => by rw [e]; rfl) id⟩, rfl⟩, S⟩
end
end Go.Proofs.Ytpbmahnieepmiaa
