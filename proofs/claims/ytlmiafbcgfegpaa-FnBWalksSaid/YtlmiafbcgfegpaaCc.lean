/-
  'slices.Grow' of nothing, 'slices.Concat' of lists of items. Conditions: none.
-/
import Derived.Test.YtlmiafbcgfegpaaSp
import Derived.Test.YtlmiafbcgfegpaaVa
import Derived.Test.YtlmiafbcgfegpaaTk
set_option linter.unusedVariables false
set_option linter.unusedSimpArgs false
set_option linter.unusedSectionVars false
set_option maxRecDepth 100000
namespace Go.Proofs.Ytlmiafbcgfegpaa
open Go
def M_slices_Grow_impl_Item_impl_Item (a0p : Option PA) (a0l : Nat) (a0c : Nat) (a1 : Int) : M :=
  .bind none (.ite (decide (a1 < 0))
    (.fail)
    (.done .normal [])) [] fun x0 =>
  .guard (InK IntKind.i64 ((↑a0c : Int) - (↑a0l : Int))) <|
  .guard (InK IntKind.i64 (a1 - ((↑a0c : Int) - (↑a0l : Int)))) <|
  .bind none (.ite (decide (a1 - ((↑a0c : Int) - (↑a0l : Int)) > 0))
    (.guard (((0 : Int) ≤ (↑a0c : Int)) ∧ (((↑a0c : Int) : Int) ≤ (↑a0c : Int))) <|
      .appendZ ty_impl_Item 2 16 [.int .i64 (0), .int .i64 (0)] ((slBase a0p a0c 0 2), (↑a0c : Int).toNat - 0, a0c - 0) (a1 - ((↑a0c : Int) - (↑a0l : Int))) fun s1 =>
      .guard (((0 : Int) ≤ (↑a0l : Int)) ∧ (((↑a0l : Int) : Int) ≤ (↑s1.snd.snd : Int))) <|
      .done .normal [.c (.sl (slBase s1.fst s1.snd.snd 0 2) ((↑a0l : Int).toNat - 0) (s1.snd.snd - 0))])
    (.done .normal [.c (.sl (a0p) (a0l) (a0c))])) [.c (.sl)] fun x2 =>
  .done .ret [.c (.sl (x2.fst.fst) (x2.fst.snd.fst) (x2.fst.snd.snd))]
theorem den_slices_Grow_impl_Item_impl_Item (a0p : Option PA) (a0l : Nat) (a0c : Nat) (a1 : Int) : denFn Try.prog Try.f35 [.c (.sl a0p a0l a0c), .c (.int .i64 a1)] = M_slices_Grow_impl_Item_impl_Item a0p a0l a0c a1 := by kernel_rfl
theorem hc_slices_Grow_impl_Item_impl_Item (a0p : Option PA) (a0l : Nat) (a0c : Nat) (a1 : Int) {h : H} {R : Value → H → Prop} (hw : wp Try.prog (M_slices_Grow_impl_Item_impl_Item a0p a0l a0c a1) (Ret R) h) : HC Try.prog fn_slices_Grow_impl_Item_impl_Item (List.map AV.val [.c (.sl a0p a0l a0c), .c (.int .i64 a1)]).toArray h R :=
  den_calls hmix Try.func35 (of_decide_eq_true rfl) (by rw [den_slices_Grow_impl_Item_impl_Item]; exact hw)
def M_slices_Concat_impl_Item_impl_Item (a0p : Option PA) (a0l : Nat) (a0c : Nat) : M :=
  .bind (some 0) (.loop [.c (.int .i64), .c (.int .i64)] [.c (.int .i64 (0)), .c (.int .i64 (0))] fun y0 =>
      .ite (decide (y0.fst < (↑a0l : Int)))
      (.nonnil (a0p) fun p1 =>
        .guard (((0 : Int) ≤ y0.fst) ∧ ((y0.fst : Int) < (↑a0l : Int))) <|
        .load (p1.fst, p1.snd + Int.toNat y0.fst) (.sl) fun s2 =>
        .guard (InK IntKind.i64 (y0.snd.fst + (↑s2.snd.fst : Int))) <|
        .bind none (.ite (decide (y0.snd.fst + (↑s2.snd.fst : Int) < 0))
          (.fail)
          (.done .normal [])) [] fun x3 =>
        .guard (InK IntKind.i64 (y0.fst + 1)) <|
        .done .normal [.c (.int .i64 (y0.fst + 1)), .c (.int .i64 (y0.snd.fst + (↑s2.snd.fst : Int)))])
      (.done (.exit 0) [.c (.int .i64 (y0.snd.fst))])) [.c (.int .i64)] fun x4 =>
  .call fn_slices_Grow_impl_Item_impl_Item [.c (.sl none (0) (0)), .c (.int .i64 (x4.fst))] false [.c (.sl)] fun r5 =>
  .bind (some 2) (.loop [.c (.int .i64), .c (.sl)] [.c (.int .i64 (0)), .c (.sl (r5.fst.fst) (r5.fst.snd.fst) (r5.fst.snd.snd))] fun y6 =>
      .ite (decide (y6.fst < (↑a0l : Int)))
      (.nonnil (a0p) fun p7 =>
        .guard (((0 : Int) ≤ y6.fst) ∧ ((y6.fst : Int) < (↑a0l : Int))) <|
        .load (p7.fst, p7.snd + Int.toNat y6.fst) (.sl) fun s8 =>
        .append ty_impl_Item 2 16 [.int .i64 (0), .int .i64 (0)] ((y6.snd.fst.fst), y6.snd.fst.snd.fst, y6.snd.fst.snd.snd) ((s8.fst), s8.snd.fst, s8.snd.snd) fun s9 =>
        .guard (InK IntKind.i64 (y6.fst + 1)) <|
        .done .normal [.c (.int .i64 (y6.fst + 1)), .c (.sl (s9.fst) (s9.snd.fst) (s9.snd.snd))])
      (.done (.exit 2) [.c (.sl (y6.snd.fst.fst) (y6.snd.fst.snd.fst) (y6.snd.fst.snd.snd))])) [.c (.sl)] fun x10 =>
  .done .ret [.c (.sl (x10.fst.fst) (x10.fst.snd.fst) (x10.fst.snd.snd))]
theorem den_slices_Concat_impl_Item_impl_Item (a0p : Option PA) (a0l : Nat) (a0c : Nat) : denFn Try.prog Try.f14 [.c (.sl a0p a0l a0c)] = M_slices_Concat_impl_Item_impl_Item a0p a0l a0c := by kernel_rfl
theorem hc_slices_Concat_impl_Item_impl_Item (a0p : Option PA) (a0l : Nat) (a0c : Nat) {h : H} {R : Value → H → Prop} (hw : wp Try.prog (M_slices_Concat_impl_Item_impl_Item a0p a0l a0c) (Ret R) h) : HC Try.prog fn_slices_Concat_impl_Item_impl_Item (List.map AV.val [.c (.sl a0p a0l a0c)]).toArray h R :=
  den_calls hmix Try.func14 (of_decide_eq_true rfl) (by rw [den_slices_Concat_impl_Item_impl_Item]; exact hw)
section
variable {P : Program} {Q : Ex → List AV → H → Prop} {h h0 : H} {G0 : PA → Prop} {l : List Ck}
theorem st_growZ (s : St h0 G0 l h) {e : TypeId} {sz byt : Nat} {z : List Cell} {k : Nat} {m : SlT → M} (hz : z.length = sz) (hk0 : 0 < k) (h1 : k ≤ 4294967296) (hsz : 0 < sz) (hb : byt ≤ 64)
    (hw : ∀ n c h', k ≤ c → St h0 G0 (Ow (n, 0) [] (c * sz) :: l) h' → wp P (m (some (n, 0), k, c)) Q h') : wp P (.appendZ e sz byt z (none, 0, 0) (k : Int) m) Q h := by
  have hkb : k * byt ≤ 4294967296 * 64 := Nat.mul_le_mul h1 hb
  refine ⟨by omega, by omega, ?_, ?_, ?_, [], ?_, .inl (Nat.zero_mul _), ?_, fun nc g1 g2 hgd => ?_⟩
  · have : ((k : Int) * (byt : Int)) = ((k * byt : Nat) : Int) := by simp
    rw [this]; omega
  · rw [Int.toNat_natCast]
    have := Nat.mul_pos hk0 hsz
    omega
  · show 0 < 0 + _
    rw [Int.toNat_natCast]; omega
  · simp
  · show growOk (0 + (k : Int).toNat) byt
    rw [Int.toNat_natCast, Nat.zero_add]
    exact ⟨by omega, by omega⟩
  · have S := s.new hgd [] ([] ++ zeros z (k : Int).toNat ++ zeros z (nc - (0 + (k : Int).toNat)))
    rw [Int.toNat_natCast] at *
    have hl : ([] ++ zeros z k ++ zeros z (nc - (0 + k))).length = nc * sz := by
      rw [List.nil_append, List.length_append, zeros_length, zeros_length, hz, ← Nat.add_mul]
      congr 1; omega
    rw [hl, List.nil_append] at S
    have := hw h.size nc _ (by omega) S
    simpa using this
end
section
variable {h : H}
theorem c_GrowNil {k : Nat} (hk : k ≤ 4294967296) {G : PA → Prop} (hG : Star [] h G) :
    HT Try.prog fn_slices_Grow_impl_Item_impl_Item [.c (.sl none 0 0), .c (.int .i64 k)] false [.c .sl] h fun r h' => ∃ post, (∃ s : SlT, r = (s, ()) ∧ OwnL LT s [] ∧ post = [SlC s LT.sz (LT.flat ([] : List IV))]) ∧ St h G post h' := by
  apply hc_slices_Grow_impl_Item_impl_Item
  unfold M_slices_Grow_impl_Item_impl_Item
  have S := St.start hG
  refine w_bnd (w_false (decide_eq_false (by omega)) (bd_n rfl (w_guard (inK64 (by (first | omega | ((try dsimp only [Sh.T, Sh1.T]); omega))) (by (first | omega | ((try dsimp only [Sh.T, Sh1.T]); omega)))) (w_guard (inK64 (by (first | omega | ((try dsimp only [Sh.T, Sh1.T]); omega))) (by (first | omega | ((try dsimp only [Sh.T, Sh1.T]); omega)))) ?_))))
  refine w_mid' none (fun (y : SV [.c .sl]) h' => ∃ s : SlT, y = (s, ()) ∧ OwnL LT s [] ∧ St h G [SlC s LT.sz (LT.flat ([] : List IV))] h') ?_ (fun _ _ ⟨s, e, g1, g2⟩ => by subst e; exact rt_1 rfl ⟨_, ⟨s, rfl, g1, rfl⟩, g2⟩)
  by_cases h0 : 0 < k
  · refine w_true (decide_eq_true (by (first | omega | ((try dsimp only [Sh.T, Sh1.T]); omega)))) (w_guard ⟨by (first | omega | ((try dsimp only [Sh.T, Sh1.T]); omega)), by (first | omega | ((try dsimp only [Sh.T, Sh1.T]); omega))⟩ ?_)
    rw [show ((k : Int) - (((0 : Nat) : Int) - ((0 : Nat) : Int))) = (k : Int) by omega]
    refine st_growZ S (sz := 2) rfl h0 hk (by decide) (by decide) fun n c _ hc S => ?_
    refine w_guard ⟨by (first | omega | ((try dsimp only [Sh.T, Sh1.T]); omega)), by (first | omega | ((try dsimp only [Sh.T, Sh1.T]); omega))⟩ ?_
    have S := S.close_sl (p := (n, 0)) (n := 0) (c := c) (sz := LT.sz) (vs := LT.flat ([] : List IV)) (Nat.zero_le _) rfl
    refine md_n rfl ⟨_, rfl, ?_, ?_⟩
    · dsimp only
      rw [slBase_zero]
      exact ⟨rfl, Nat.zero_le _, .inr rfl⟩
    · dsimp only
      rw [slBase_zero]
      exact S
  · refine w_false (decide_eq_false (by (first | omega | ((try dsimp only [Sh.T, Sh1.T]); omega)))) (md_n rfl ⟨(none, 0, 0), rfl, ⟨rfl, Nat.le_refl _, .inl rfl⟩, sl_nil LT S⟩)
end
def LS : Lay SlT where
  sz := 1
  cells s := [.slice (s.1.map PA.val) s.2.1 s.2.2]
  len _ := rfl
  one _ _ hv := by simp at hv; subst hv; rfl
  pos := by decide
section
variable {P : Program} {Q : Ex → List AV → H → Prop} {h h0 : H} {G0 : PA → Prop} {l : List Ck}
theorem w_hd {p : PA} {ss : List SlT} (hr : rds h p (LS.flat ss)) {i : Nat} {s : SlT} (hs : ss[i]? = some s) {m : SlT → M} (hw : wp P (m s) Q h) : wp P (.load (p.1, p.2 + i) .sl m) Q h := by
  refine w_sl s ?_ hw
  have := hr (i * 1 + 0) _ (LS.flat_get (j := 0) hs rfl)
  simpa using this
theorem st_apL {I : Type} {L : Lay I} (s : St h0 G0 l h) {d : SlT} {xs ys : List I} {r : List Ck} [Pk (.sl d) l (SlC d L.sz (L.flat xs)) r] (hd : OwnL L d xs) {e : TypeId} {byt sz : Nat} {z : List Cell} {src : SlT} {m : SlT → M}
    (hsz : sz = L.sz) (hz : z.length = L.sz) (hy : src.2.1 = ys.length) (hs : RSl h src L.sz (L.flat ys)) (hg : growOk (xs.length + ys.length) byt)
    (hw : ∀ d' h', OwnL L d' (xs ++ ys) → St h0 G0 (SlC d' L.sz (L.flat (xs ++ ys)) :: r) h' → wp P (m d') Q h') : wp P (.append e sz byt z d src m) Q h := by
  subst hsz
  refine st_append (s.at (.sl d)) hz hs (L.flat_one ys) (by rw [hd.1, hy]; exact hg) fun d' h' S hlen hsome => ?_
  rw [← L.flat_append] at S
  obtain ⟨F, ⟨_, h2, _⟩, _⟩ := S.fact
  refine hw d' h' ⟨by rw [hlen, hd.1, hy]; simp, h2, ?_⟩ S
  by_cases h0 : 0 < xs.length + ys.length
  · exact .inr (hsome (.inl (by rw [hd.1, hy]; exact h0)))
  · left
    have : (xs ++ ys).length = 0 := by rw [List.length_append]; omega
    exact List.length_eq_zero_iff.1 this
end
section
variable {h : H}
theorem flat_take {I : Type} {xss : List (List I)} {i : Nat} {xs : List I} (h : xss[i]? = some xs) : (xss.take (i + 1)).flatten = (xss.take i).flatten ++ xs := by
  obtain ⟨h1, h2⟩ := List.getElem?_eq_some_iff.1 h
  rw [List.take_succ_eq_append_getElem h1, h2]; simp
theorem flat_le {I : Type} (xss : List (List I)) (i : Nat) : (xss.take i).flatten.length ≤ xss.flatten.length := by
  have : xss.flatten = (xss.take i).flatten ++ (xss.drop i).flatten := by rw [← List.flatten_append, List.take_append_drop]
  rw [this, List.length_append]; omega
theorem src_of {I : Type} {L : Lay I} {c : Ck} {s : SlT} {xs : List I} (hr : Rdr c s L xs) {h : H} {F : PA → Prop} (hc : c.p h F) : RSl h s L.sz (L.flat xs) := by
  rcases Nat.eq_zero_or_pos xs.length with h0 | h0
  · obtain rfl := List.length_eq_zero_iff.1 h0
    have : s.2.1 = 0 := hr.1
    obtain ⟨s1, s2, s3⟩ := s
    dsimp only at this
    subst this
    exact rsl_nil _ _
  · obtain ⟨p, hp, hrd⟩ := hr.ptr h0
    exact ⟨by rw [L.flat_length]; exact congrArg (· * L.sz) hr.1.symm, .inr ⟨p, hp, hrd h F hc⟩⟩
set_option maxHeartbeats 1000000 in
theorem c_Concat {c : Ck} {ss : List SlT} {sp : Option PA} {n cap : Nat} (hS : Rdr c (sp, n, cap) LS ss) {xss : List (List IV)} (hsl : ss.length = xss.length) (hr : ∀ (i : Nat) (s : SlT) (xs : List IV), ss[i]? = some s → xss[i]? = some xs → Rdr c s LT xs) (hn2 : n ≤ 4294967296) (hl : xss.flatten.length ≤ 4294967296) {G : PA → Prop} (hG : Star [c] h G) :
    HT Try.prog fn_slices_Concat_impl_Item_impl_Item [.c (.sl sp n cap)] false [.c .sl] h fun r h' => ∃ post, (∃ s : SlT, r = (s, ()) ∧ OwnL LT s xss.flatten ∧ post = [c, SlC s LT.sz (LT.flat xss.flatten)]) ∧ St h G post h' := by
  apply hc_slices_Concat_impl_Item_impl_Item
  unfold M_slices_Concat_impl_Item_impl_Item
  have hn : n = ss.length := hS.1
  have S := St.start hG
  refine w_mid' (some 0) (fun (y : SV [.c (.int .i64)]) h' => y = ((xss.flatten.length : Int), ()) ∧ St h G [c] h') ?_ ?_
  · refine w_lp (fun r y h' => ∃ i : Nat, y = ((i : Int), ((xss.take i).flatten.length : Int), ()) ∧ i + r = n ∧ St h G [c] h') n rfl ⟨0, rfl, by omega, S⟩ ?_
    clear S
    rintro r _ _ ⟨i, rfl, hi, S⟩
    have hfl := flat_le xss i
    have hfl1 := flat_le xss (i + 1)
    by_cases hlt : i < n
    · obtain ⟨p, hp, hrd⟩ := hS.ptr (by omega)
      dsimp only at hp
      subst hp
      have hxi := List.getElem?_eq_getElem (show i < ss.length by omega)
      have hyi := List.getElem?_eq_getElem (show i < xss.length by omega)
      have hlen : (ss[i]).2.1 = (xss[i]).length := (hr i _ _ hxi hyi).1
      have hft := flat_take hyi
      rw [hft, List.length_append] at hfl1
      simp only [Int.toNat_natCast, toNat_succ, toNat_succ2, toNat_pred]
      refine w_true (lt_t (by (first | omega | ((try dsimp only [Sh.T, Sh1.T]); omega)))) (w_nonnil (w_guard ⟨by (first | omega | ((try dsimp only [Sh.T, Sh1.T]); omega)), by (first | omega | ((try dsimp only [Sh.T, Sh1.T]); omega))⟩ (w_hd (S.rdr hrd) hxi ?_)))
      refine w_guard (inK64 (by (first | omega | ((try dsimp only [Sh.T, Sh1.T]); omega))) (by (first | omega | ((try dsimp only [Sh.T, Sh1.T]); omega)))) (w_bnd (w_false (decide_eq_false (by (first | omega | ((try dsimp only [Sh.T, Sh1.T]); omega)))) (bd_n rfl (w_guard (inK64 (by (first | omega | ((try dsimp only [Sh.T, Sh1.T]); omega))) (by (first | omega | ((try dsimp only [Sh.T, Sh1.T]); omega)))) ?_))))
      refine ln_n rfl (r - 1) ⟨i + 1, ?_, by omega, S⟩ (by omega)
      rw [hft, List.length_append, ← hlen]; rfl
    · refine w_false (lt_f (by (first | omega | ((try dsimp only [Sh.T, Sh1.T]); omega)))) (ln_e (md_e rfl ⟨?_, S⟩))
      rw [List.take_of_length_le (by omega)]
  clear S
  rintro _ _ ⟨rfl, S⟩
  refine st_callT S [] (fun G hG => c_GrowNil hl hG) ?_
  rintro _ _ _ ⟨s0, rfl, hs0, rfl⟩ S
  dsimp only [List.cons_append, List.nil_append] at S
  refine w_mid' (some 2) (fun (y : SV [.c .sl]) h' => ∃ s : SlT, y = (s, ()) ∧ OwnL LT s xss.flatten ∧ St h G [c, SlC s LT.sz (LT.flat xss.flatten)] h') ?_ (fun _ _ ⟨s, e, g1, g2⟩ => by subst e; exact rt_1 rfl ⟨_, ⟨s, rfl, g1, rfl⟩, g2⟩)
  refine w_lp (fun r y h' => ∃ (i : Nat) (s : SlT), y = ((i : Int), s, ()) ∧ i + r = n ∧ OwnL LT s (xss.take i).flatten ∧ St h G [SlC s LT.sz (LT.flat (xss.take i).flatten), c] h') n rfl ⟨0, s0, rfl, by omega, hs0, S⟩ ?_
  clear S
  rintro r _ _ ⟨i, s, rfl, hi, hs, S⟩
  have hfl := flat_le xss i
  have hfl1 := flat_le xss (i + 1)
  by_cases hlt : i < n
  · obtain ⟨p, hp, hrd⟩ := hS.ptr (by omega)
    dsimp only at hp
    subst hp
    have hxi := List.getElem?_eq_getElem (show i < ss.length by omega)
    have hyi := List.getElem?_eq_getElem (show i < xss.length by omega)
    have hri := hr i _ _ hxi hyi
    have hft := flat_take hyi
    rw [hft, List.length_append] at hfl1
    obtain ⟨s1, s2, s3⟩ := s
    simp only [Int.toNat_natCast, toNat_succ, toNat_succ2, toNat_pred]
    refine w_true (lt_t (by (first | omega | ((try dsimp only [Sh.T, Sh1.T]); omega)))) (w_nonnil (w_guard ⟨by (first | omega | ((try dsimp only [Sh.T, Sh1.T]); omega)), by (first | omega | ((try dsimp only [Sh.T, Sh1.T]); omega))⟩ (w_hd (S.rdr hrd) hxi ?_)))
    refine st_apL (L := LT) (xs := (xss.take i).flatten) (ys := xss[i]) S hs rfl rfl hri.1 (by obtain ⟨F, hF⟩ := S.fct (.ck c); exact src_of hri hF) ⟨by omega, by omega⟩ fun s' _ hs' S => ?_
    rw [← hft] at hs' S
    refine w_guard (inK64 (by (first | omega | ((try dsimp only [Sh.T, Sh1.T]); omega))) (by (first | omega | ((try dsimp only [Sh.T, Sh1.T]); omega)))) ?_
    exact ln_n rfl (r - 1) ⟨i + 1, s', rfl, by omega, hs', S.only [.sl s', .ck c]⟩ (by omega)
  · rw [List.take_of_length_le (by omega)] at hs S
    exact w_false (lt_f (by (first | omega | ((try dsimp only [Sh.T, Sh1.T]); omega)))) (ln_e (md_e rfl ⟨s, rfl, hs, S.only [.ck c, .sl s]⟩))
end
end Go.Proofs.Ytlmiafbcgfegpaa
