/-
  The law FnBWalks. Conditions: none.
-/
import Derived.Test.YtlmiafbcgfegpaaZwe
import Derived.Test.YtlmiafbcgfegpaaLawBNews
import Derived.Test.YtlmiafbcgfegpaaYal
set_option linter.unusedVariables false
set_option linter.unusedSimpArgs false
set_option linter.unusedSectionVars false
set_option maxRecDepth 100000
namespace Go.Proofs.Ytlmiafbcgfegpaa
open Go
def M_laws_FnBWalks_1 (a0p : Option PA) (a0l : Nat) (a0c : Nat) : M :=
  .done .ret [.c (.bool ((↑a0l : Int) == 0))]
theorem den_laws_FnBWalks_1 (a0p : Option PA) (a0l : Nat) (a0c : Nat) : denFn Try.prog Try.f17 [.c (.sl a0p a0l a0c)] = M_laws_FnBWalks_1 a0p a0l a0c := by kernel_rfl
theorem hc_laws_FnBWalks_1 (a0p : Option PA) (a0l : Nat) (a0c : Nat) {h : H} {R : Value → H → Prop} (hw : wp Try.prog (M_laws_FnBWalks_1 a0p a0l a0c) (Ret R) h) : HC Try.prog fn_laws_FnBWalks_1 (List.map AV.val [.c (.sl a0p a0l a0c)]).toArray h R :=
  den_calls hmix Try.func17 (of_decide_eq_true rfl) (by rw [den_laws_FnBWalks_1]; exact hw)
def M_slices_IndexFunc_LL_impl_Item_impl_Item (a0p : Option PA) (a0l : Nat) (a0c : Nat) (a1 : Value) : M :=
  .bind (some 0) (.loop [.c (.int .i64)] [.c (.int .i64 (0))] fun y0 =>
      .ite (decide (y0.fst < (↑a0l : Int)))
      (.nonnil (a0p) fun p1 =>
        .guard (((0 : Int) ≤ y0.fst) ∧ ((y0.fst : Int) < (↑a0l : Int))) <|
        .load (p1.fst, p1.snd + Int.toNat y0.fst) (.sl) fun s2 =>
        .callv (a1) [.c (.sl (s2.fst) (s2.snd.fst) (s2.snd.snd))] false [.c (.bool)] fun r3 =>
        .ite (r3.fst)
        (.done .ret [.c (.int .i64 (y0.fst))])
        (.guard (InK IntKind.i64 (y0.fst + 1)) <|
          .done .normal [.c (.int .i64 (y0.fst + 1))]))
      (.done (.exit 0) [])) [] fun x4 =>
  .done .ret [.c (.int .i64 (-1))]
theorem den_slices_IndexFunc_LL_impl_Item_impl_Item (a0p : Option PA) (a0l : Nat) (a0c : Nat) (a1 : Value) : denFn Try.prog Try.f37 [.c (.sl a0p a0l a0c), .c (.raw a1)] = M_slices_IndexFunc_LL_impl_Item_impl_Item a0p a0l a0c a1 := by kernel_rfl
theorem hc_slices_IndexFunc_LL_impl_Item_impl_Item (a0p : Option PA) (a0l : Nat) (a0c : Nat) (a1 : Value) {h : H} {R : Value → H → Prop} (hw : wp Try.prog (M_slices_IndexFunc_LL_impl_Item_impl_Item a0p a0l a0c a1) (Ret R) h) : HC Try.prog fn_slices_IndexFunc_LL_impl_Item_impl_Item (List.map AV.val [.c (.sl a0p a0l a0c), .c (.raw a1)]).toArray h R :=
  den_calls hmix Try.func37 (of_decide_eq_true rfl) (by rw [den_slices_IndexFunc_LL_impl_Item_impl_Item]; exact hw)
def M_slices_ContainsFunc_LL_impl_Item_impl_Item (a0p : Option PA) (a0l : Nat) (a0c : Nat) (a1 : Value) : M :=
  .call fn_slices_IndexFunc_LL_impl_Item_impl_Item [.c (.sl (a0p) (a0l) (a0c)), .c (.raw (a1))] false [.c (.int .i64)] fun r0 =>
  .done .ret [.c (.bool (decide (r0.fst ≥ 0)))]
theorem den_slices_ContainsFunc_LL_impl_Item_impl_Item (a0p : Option PA) (a0l : Nat) (a0c : Nat) (a1 : Value) : denFn Try.prog Try.f16 [.c (.sl a0p a0l a0c), .c (.raw a1)] = M_slices_ContainsFunc_LL_impl_Item_impl_Item a0p a0l a0c a1 := by kernel_rfl
theorem hc_slices_ContainsFunc_LL_impl_Item_impl_Item (a0p : Option PA) (a0l : Nat) (a0c : Nat) (a1 : Value) {h : H} {R : Value → H → Prop} (hw : wp Try.prog (M_slices_ContainsFunc_LL_impl_Item_impl_Item a0p a0l a0c a1) (Ret R) h) : HC Try.prog fn_slices_ContainsFunc_LL_impl_Item_impl_Item (List.map AV.val [.c (.sl a0p a0l a0c), .c (.raw a1)]).toArray h R :=
  den_calls hmix Try.func16 (of_decide_eq_true rfl) (by rw [den_slices_ContainsFunc_LL_impl_Item_impl_Item]; exact hw)
def M_laws_sameLists_1 (a0p : Option PA) (a0l : Nat) (a0c : Nat) (a1p : Option PA) (a1l : Nat) (a1c : Nat) : M :=
  .call fn_slices_Equal_impl_Item_impl_Item [.c (.sl (a0p) (a0l) (a0c)), .c (.sl (a1p) (a1l) (a1c))] false [.c (.bool)] fun r0 =>
  .done .ret [.c (.bool (r0.fst))]
theorem den_laws_sameLists_1 (a0p : Option PA) (a0l : Nat) (a0c : Nat) (a1p : Option PA) (a1l : Nat) (a1c : Nat) : denFn Try.prog Try.f39 [.c (.sl a0p a0l a0c), .c (.sl a1p a1l a1c)] = M_laws_sameLists_1 a0p a0l a0c a1p a1l a1c := by kernel_rfl
theorem hc_laws_sameLists_1 (a0p : Option PA) (a0l : Nat) (a0c : Nat) (a1p : Option PA) (a1l : Nat) (a1c : Nat) {h : H} {R : Value → H → Prop} (hw : wp Try.prog (M_laws_sameLists_1 a0p a0l a0c a1p a1l a1c) (Ret R) h) : HC Try.prog fn_laws_sameLists_1 (List.map AV.val [.c (.sl a0p a0l a0c), .c (.sl a1p a1l a1c)]).toArray h R :=
  den_calls hmix Try.func39 (of_decide_eq_true rfl) (by rw [den_laws_sameLists_1]; exact hw)
def M_slices_EqualFunc_LL_impl_Item_impl_Item_impl_Item_impl_Item (a0p : Option PA) (a0l : Nat) (a0c : Nat) (a1p : Option PA) (a1l : Nat) (a1c : Nat) (a2 : Value) : M :=
  .ite ((↑a0l : Int) != (↑a1l : Int))
  (.done .ret [.c (.ff)])
  (.bind (some 0) (.loop [.c (.int .i64)] [.c (.int .i64 (0))] fun y0 =>
        .ite (decide (y0.fst < (↑a0l : Int)))
        (.nonnil (a0p) fun p1 =>
          .guard (((0 : Int) ≤ y0.fst) ∧ ((y0.fst : Int) < (↑a0l : Int))) <|
          .load (p1.fst, p1.snd + Int.toNat y0.fst) (.sl) fun s2 =>
          .nonnil (a1p) fun p3 =>
          .guard (((0 : Int) ≤ y0.fst) ∧ ((y0.fst : Int) < (↑a1l : Int))) <|
          .load (p3.fst, p3.snd + Int.toNat y0.fst) (.sl) fun s4 =>
          .callv (a2) [.c (.sl (s2.fst) (s2.snd.fst) (s2.snd.snd)), .c (.sl (s4.fst) (s4.snd.fst) (s4.snd.snd))] false [.c (.bool)] fun r5 =>
          .ite (!r5.fst)
          (.done .ret [.c (.ff)])
          (.guard (InK IntKind.i64 (y0.fst + 1)) <|
            .done .normal [.c (.int .i64 (y0.fst + 1))]))
        (.done (.exit 0) [])) [] fun x6 =>
    .done .ret [.c (.tt)])
theorem den_slices_EqualFunc_LL_impl_Item_impl_Item_impl_Item_impl_Item (a0p : Option PA) (a0l : Nat) (a0c : Nat) (a1p : Option PA) (a1l : Nat) (a1c : Nat) (a2 : Value) : denFn Try.prog Try.f38 [.c (.sl a0p a0l a0c), .c (.sl a1p a1l a1c), .c (.raw a2)] = M_slices_EqualFunc_LL_impl_Item_impl_Item_impl_Item_impl_Item a0p a0l a0c a1p a1l a1c a2 := by kernel_rfl
theorem hc_slices_EqualFunc_LL_impl_Item_impl_Item_impl_Item_impl_Item (a0p : Option PA) (a0l : Nat) (a0c : Nat) (a1p : Option PA) (a1l : Nat) (a1c : Nat) (a2 : Value) {h : H} {R : Value → H → Prop} (hw : wp Try.prog (M_slices_EqualFunc_LL_impl_Item_impl_Item_impl_Item_impl_Item a0p a0l a0c a1p a1l a1c a2) (Ret R) h) : HC Try.prog fn_slices_EqualFunc_LL_impl_Item_impl_Item_impl_Item_impl_Item (List.map AV.val [.c (.sl a0p a0l a0c), .c (.sl a1p a1l a1c), .c (.raw a2)]).toArray h R :=
  den_calls hmix Try.func38 (of_decide_eq_true rfl) (by rw [den_slices_EqualFunc_LL_impl_Item_impl_Item_impl_Item_impl_Item]; exact hw)
def M_laws_sameLists (a0p : Option PA) (a0l : Nat) (a0c : Nat) (a1p : Option PA) (a1l : Nat) (a1c : Nat) : M :=
  .call fn_slices_EqualFunc_LL_impl_Item_impl_Item_impl_Item_impl_Item [.c (.sl (a0p) (a0l) (a0c)), .c (.sl (a1p) (a1l) (a1c)), .c (.raw (Value.func (Fn.func fn_laws_sameLists_1) #[] #[]))] false [.c (.bool)] fun r0 =>
  .done .ret [.c (.bool (r0.fst))]
theorem den_laws_sameLists (a0p : Option PA) (a0l : Nat) (a0c : Nat) (a1p : Option PA) (a1l : Nat) (a1c : Nat) : denFn Try.prog Try.f18 [.c (.sl a0p a0l a0c), .c (.sl a1p a1l a1c)] = M_laws_sameLists a0p a0l a0c a1p a1l a1c := by kernel_rfl
theorem hc_laws_sameLists (a0p : Option PA) (a0l : Nat) (a0c : Nat) (a1p : Option PA) (a1l : Nat) (a1c : Nat) {h : H} {R : Value → H → Prop} (hw : wp Try.prog (M_laws_sameLists a0p a0l a0c a1p a1l a1c) (Ret R) h) : HC Try.prog fn_laws_sameLists (List.map AV.val [.c (.sl a0p a0l a0c), .c (.sl a1p a1l a1c)]).toArray h R :=
  den_calls hmix Try.func18 (of_decide_eq_true rfl) (by rw [den_laws_sameLists]; exact hw)
def M_laws_FnBWalks (a00p : Option PA) (a00l : Nat) (a00c : Nat) (a01 : Int) (a02 : Bool) (a1p : Option PA) (a1l : Nat) (a1c : Nat) : M :=
  .alloc ty_impl_Make [.sl (a00p) (a00l) (a00c), .int .i64 (a01), .bool (a02)] fun n0 =>
  .bind none (.load (n0, 0) (.sl) fun s1 =>
    .load (n0, 1) (.int .i64) fun i2 =>
    .load (n0, 2) (.bool) fun b3 =>
    .call fn_laws_zzFits1 [.agg [.sl (s1.fst) (s1.snd.fst) (s1.snd.snd), .int .i64 (i2), .bool (b3)]] false [.c (.bool)] fun r4 =>
    .ite (!r4.fst)
    (.done .normal [.c (.tt)])
    (.done .normal [.c (.bool (decide ((↑a1l : Int) > 2147483647)))])) [.c (.bool)] fun x5 =>
  .ite (x5.fst)
  (.done .ret [.c (.tt)])
  (.load (n0, 0) (.sl) fun s6 =>
    .load (n0, 1) (.int .i64) fun i7 =>
    .load (n0, 2) (.bool) fun b8 =>
    .call fn_laws_fits [.agg [.sl (s6.fst) (s6.snd.fst) (s6.snd.snd), .int .i64 (i7), .bool (b8)]] false [.c (.bool)] fun r9 =>
    .ite (!r9.fst)
    (.call fn_laws_aliveB [] false [.c (.bool)] fun r10 =>
      .done .ret [.c (.bool (r10.fst))])
    (.load (n0, 0) (.sl) fun s11 =>
      .load (n0, 1) (.int .i64) fun i12 =>
      .load (n0, 2) (.bool) fun b13 =>
      .call fn_impl_BWalk [.agg [.sl (s11.fst) (s11.snd.fst) (s11.snd.snd), .int .i64 (i12), .bool (b13)], .c (.sl (a1p) (a1l) (a1c))] false [.c (.sl)] fun r14 =>
      .bind none (.load (n0, 0) (.sl) fun s15 =>
        .call fn_slices_Concat_impl_Item_impl_Item [.c (.sl (r14.fst.fst) (r14.fst.snd.fst) (r14.fst.snd.snd))] false [.c (.sl)] fun r16 =>
        .held (n0, 0) (.sl (s15.fst) (s15.snd.fst) (s15.snd.snd)) <|
        .call fn_spec_Tree [.c (.sl (s15.fst) (s15.snd.fst) (s15.snd.snd)), .c (.sl (a1p) (a1l) (a1c))] false [.c (.sl)] fun r17 =>
        .call fn_slices_Equal_impl_Item_impl_Item [.c (.sl (r16.fst.fst) (r16.fst.snd.fst) (r16.fst.snd.snd)), .c (.sl (r17.fst.fst) (r17.fst.snd.fst) (r17.fst.snd.snd))] false [.c (.bool)] fun r18 =>
        .ite (r18.fst)
        (.call fn_slices_ContainsFunc_LL_impl_Item_impl_Item [.c (.sl (r14.fst.fst) (r14.fst.snd.fst) (r14.fst.snd.snd)), .c (.raw (Value.func (Fn.func fn_laws_FnBWalks_1) #[] #[]))] false [.c (.bool)] fun r19 =>
          .ite (!r19.fst)
          (.load (n0, 0) (.sl) fun s20 =>
            .load (n0, 1) (.int .i64) fun i21 =>
            .load (n0, 2) (.bool) fun b22 =>
            .call fn_impl_BWalkMut [.agg [.sl (s20.fst) (s20.snd.fst) (s20.snd.snd), .int .i64 (i21), .bool (b22)], .c (.sl (a1p) (a1l) (a1c))] false [.c (.sl)] fun r23 =>
            .call fn_laws_sameLists [.c (.sl (r23.fst.fst) (r23.fst.snd.fst) (r23.fst.snd.snd)), .c (.sl (r14.fst.fst) (r14.fst.snd.fst) (r14.fst.snd.snd))] false [.c (.bool)] fun r24 =>
            .ite (r24.fst)
            (.call fn_laws_aliveB [] false [.c (.bool)] fun r25 =>
              .done .normal [.c (.bool (r25.fst))])
            (.done .normal [.c (.ff)]))
          (.done .normal [.c (.ff)]))
        (.done .normal [.c (.ff)])) [.c (.bool)] fun x26 =>
      .done .ret [.c (.bool (x26.fst))]))
theorem den_laws_FnBWalks (a00p : Option PA) (a00l : Nat) (a00c : Nat) (a01 : Int) (a02 : Bool) (a1p : Option PA) (a1l : Nat) (a1c : Nat) : denFn Try.prog Try.f3 [.agg [.sl a00p a00l a00c, .int .i64 a01, .bool a02], .c (.sl a1p a1l a1c)] = M_laws_FnBWalks a00p a00l a00c a01 a02 a1p a1l a1c := by kernel_rfl
theorem hc_laws_FnBWalks (a00p : Option PA) (a00l : Nat) (a00c : Nat) (a01 : Int) (a02 : Bool) (a1p : Option PA) (a1l : Nat) (a1c : Nat) {h : H} {R : Value → H → Prop} (hw : wp Try.prog (M_laws_FnBWalks a00p a00l a00c a01 a02 a1p a1l a1c) (Ret R) h) : HC Try.prog fn_laws_FnBWalks (List.map AV.val [.agg [.sl a00p a00l a00c, .int .i64 a01, .bool a02], .c (.sl a1p a1l a1c)]).toArray h R :=
  den_calls hmix Try.func3 (of_decide_eq_true rfl) (by rw [den_laws_FnBWalks]; exact hw)
section
variable {Q : Ex → List AV → H → Prop} {h h0 : H} {G0 : PA → Prop} {l : List Ck}
theorem st_callvT (s : St h0 G0 l h) (qs : List Kq) {cs r m : List Ck} [Pks qs l cs r m] {fv : Value} {args : List AV} {tup : Bool} {ss : List Sh} {k : SV ss → M} {R : SV ss → List Ck → Prop}
    (hc : ∀ G, Star cs h G → callOf Try.prog fv (args.map AV.val).toArray h (TR tup ss fun x h' => ∃ post, R x post ∧ St h G post h'))
    (hw : ∀ x post h', R x post → St h0 G0 (post ++ r) h' → wp Try.prog (k x) Q h') : wp Try.prog (.callv fv args tup ss k) Q h := by
  obtain ⟨⟨G, h1, h2⟩, h3⟩ := s.perm (Pks.perm qs (m := m))
  obtain ⟨A, B, a1, a2, a3, a4⟩ := Star.split (l := cs) (m := r) h1
  refine w_callOf (hc A a1) fun v h' ⟨y, e, post, hR, hS⟩ => ?_
  refine ⟨y, e, hw y post h' hR ?_⟩
  obtain ⟨⟨C, c1, c2⟩, c3⟩ := hS
  have hB := a2.lt
  refine ⟨⟨un C B, Star.append c1 (a2.out c3 a3.symm) (fun x hC hx => (c2 x hC).elim (fun hA => a3 x hA hx) (fun hs => Nat.not_le_of_lt (hB x hx) hs)), fun x hx => ?_⟩,
    h3.then c3 fun x hx hA => (h2 x ((a4 x).2 (.inl hA))).elim id (fun hs => absurd hx (Nat.not_lt_of_le hs))⟩
  rcases hx with hC | hB'
  · rcases c2 x hC with hA | hs
    · exact h2 x ((a4 x).2 (.inl hA))
    · exact .inr (Nat.le_trans h3.size hs)
  · exact h2 x ((a4 x).2 (.inr hB'))
end
theorem LiL_get : ∀ {ss : List SlT} {xss : List (List IV)} {i : Nat} {s : SlT} {xs : List IV}, ss[i]? = some s → xss[i]? = some xs → (LiL ss xss)[i]? = some (SlC s LT.sz (LT.flat xs))
  | s :: ss, xs :: xss, 0, _, _, h1, h2 => by simp at h1 h2; subst h1; subst h2; rfl
  | s :: ss, xs :: xss, i + 1, _, _, h1, h2 => LiL_get (ss := ss) (xss := xss) (i := i) (by simpa using h1) (by simpa using h2)
  | [], _, _, _, _, h1, _ => by simp at h1
  | _ :: _, [], _, _, _, _, h2 => by simp at h2
def LlC (t : SlT) (ss : List SlT) (xss : List (List IV)) : Ck := StC [SlC t LS.sz (LS.flat ss), StC (LiL ss xss)]
section
variable {t : SlT} {ss : List SlT} {xss : List (List IV)}
theorem ll_hd (ht : OwnL LS t ss) : Rdr (LlC t ss xss) t LS ss := Rdr.st (i := 0) rfl ht.rdr
theorem ll_at (hd : HdOK ss xss) (i : Nat) (s : SlT) (xs : List IV) (hs : ss[i]? = some s) (hx : xss[i]? = some xs) : Rdr (LlC t ss xss) s LT xs :=
  Rdr.st (i := 1) rfl (Rdr.st (i := i) (LiL_get hs hx) (hd.2 i s xs hs hx).rdr)
end
def emF : Value := .func (.func fn_laws_FnBWalks_1) #[] #[]
def slF : Value := .func (.func fn_laws_sameLists_1) #[] #[]
section
variable {h : H}
theorem em_call {s : SlT} : callOf Try.prog emF (List.map AV.val [.c (.sl s.1 s.2.1 s.2.2)]).toArray h (TR false [.c .bool] fun r h' => r = (((s.2.1 : Int) == 0), ()) ∧ h' = h) := by
  refine ⟨by kernel_rfl, ?_⟩
  have e : (#[] ++ (List.map AV.val [.c (.sl s.1 s.2.1 s.2.2)]).toArray ++ #[] : Array Value) = (List.map AV.val [.c (.sl s.1 s.2.1 s.2.2)]).toArray := by simp
  rw [e]
  exact hc_laws_FnBWalks_1 _ _ _ (rt_1 rfl ⟨rfl, rfl⟩)
theorem c_noEmpty {c : Ck} {ss : List SlT} {sp : Option PA} {n cap : Nat} (hS : Rdr c (sp, n, cap) LS ss) (hne : ∀ s ∈ ss, s.2.1 ≠ 0) (hl : ss.length ≤ 4294967296) {G : PA → Prop} (hG : Star [c] h G) :
    HT Try.prog fn_slices_ContainsFunc_LL_impl_Item_impl_Item [.c (.sl sp n cap), .c (.raw emF)] false [.c .bool] h fun r h' => ∃ post, (r = (false, ()) ∧ post = [c]) ∧ St h G post h' := by
  have hI : ∀ {h : H} {G : PA → Prop}, Star [c] h G → HT Try.prog fn_slices_IndexFunc_LL_impl_Item_impl_Item [.c (.sl sp n cap), .c (.raw emF)] false [.c (.int .i64)] h fun r h' => ∃ post, (r = (-1, ()) ∧ post = [c]) ∧ St h G post h' := by
    intro h G hG
    apply hc_slices_IndexFunc_LL_impl_Item_impl_Item
    unfold M_slices_IndexFunc_LL_impl_Item_impl_Item
    have hn : n = ss.length := hS.1
    have S := St.start hG
    refine w_bnd (w_lp (fun r y h' => ∃ i : Nat, y = ((i : Int), ()) ∧ i + r = n ∧ St h G [c] h') n rfl ⟨0, rfl, by omega, S⟩ ?_)
    clear S
    rintro r _ _ ⟨i, rfl, hi, S⟩
    by_cases hlt : i < n
    · obtain ⟨p, hp, hrd⟩ := hS.ptr (by omega)
      dsimp only at hp
      subst hp
      have hxi := List.getElem?_eq_getElem (show i < ss.length by omega)
      have hz := hne _ (List.getElem_mem (show i < ss.length by omega))
      simp only [Int.toNat_natCast, toNat_succ, toNat_succ2, toNat_pred]
      refine w_true (lt_t (by (first | omega | ((try dsimp only [Sh.T, Sh1.T]); omega)))) (w_nonnil (w_guard ⟨by (first | omega | ((try dsimp only [Sh.T, Sh1.T]); omega)), by (first | omega | ((try dsimp only [Sh.T, Sh1.T]); omega))⟩ (w_hd (S.rdr hrd) hxi ?_)))
      refine w_callOf em_call fun v h' ⟨y, e, hy, hh⟩ => ?_
      subst hy; subst hh
      refine ⟨_, e, w_false (beq_f (by omega)) (w_guard (inK64 (by (first | omega | ((try dsimp only [Sh.T, Sh1.T]); omega))) (by (first | omega | ((try dsimp only [Sh.T, Sh1.T]); omega)))) ?_)⟩
      exact ln_n rfl (r - 1) ⟨i + 1, rfl, by omega, S⟩ (by omega)
    · exact w_false (lt_f (by (first | omega | ((try dsimp only [Sh.T, Sh1.T]); omega)))) (ln_e (bd_e rfl (rt_1 rfl ⟨_, ⟨rfl, rfl⟩, S⟩)))
  apply hc_slices_ContainsFunc_LL_impl_Item_impl_Item
  unfold M_slices_ContainsFunc_LL_impl_Item_impl_Item
  refine st_callT (St.start hG) [.ck c] (fun G hG => hI hG) ?_
  rintro _ _ _ ⟨rfl, rfl⟩ S
  dsimp only [List.cons_append, List.nil_append] at S
  exact rt_1 rfl ⟨_, ⟨rfl, rfl⟩, S⟩
theorem sl_call {c : Ck} {s t : SlT} {xs : List IV} (hx : Rdr c s LT xs) (hy : Rdr c t LT xs) (hl : xs.length ≤ 4294967296) {G : PA → Prop} (hG : Star [c] h G) :
    callOf Try.prog slF (List.map AV.val [.c (.sl s.1 s.2.1 s.2.2), .c (.sl t.1 t.2.1 t.2.2)]).toArray h (TR false [.c .bool] fun r h' => ∃ post, (r = (true, ()) ∧ post = [c]) ∧ St h G post h') := by
  refine ⟨by kernel_rfl, ?_⟩
  have e : (#[] ++ (List.map AV.val [.c (.sl s.1 s.2.1 s.2.2), .c (.sl t.1 t.2.1 t.2.2)]).toArray ++ #[] : Array Value) = (List.map AV.val [.c (.sl s.1 s.2.1 s.2.2), .c (.sl t.1 t.2.1 t.2.2)]).toArray := by simp
  rw [e]
  apply hc_laws_sameLists_1
  unfold M_laws_sameLists_1
  refine st_callT (St.start hG) [.ck c] (fun G hG => c_EqualItems hx hy hl hG) ?_
  rintro _ _ _ ⟨rfl, rfl⟩ S
  dsimp only [List.cons_append, List.nil_append] at S
  exact rt_1 rfl ⟨_, ⟨by simp, rfl⟩, S⟩
set_option maxHeartbeats 1000000 in
theorem c_sameLists {c : Ck} {ss ts : List SlT} {xss : List (List IV)} {sp tp : Option PA} {n m cap cbp : Nat} (hS : Rdr c (sp, n, cap) LS ss) (hT : Rdr c (tp, m, cbp) LS ts) (hsl : ss.length = xss.length) (htl : ts.length = xss.length)
    (h1 : ∀ (i : Nat) (s : SlT) (xs : List IV), ss[i]? = some s → xss[i]? = some xs → Rdr c s LT xs) (h2 : ∀ (i : Nat) (s : SlT) (xs : List IV), ts[i]? = some s → xss[i]? = some xs → Rdr c s LT xs)
    (hl : xss.length ≤ 4294967296) (hle : ∀ xs ∈ xss, xs.length ≤ 4294967296) {G : PA → Prop} (hG : Star [c] h G) :
    HT Try.prog fn_laws_sameLists [.c (.sl sp n cap), .c (.sl tp m cbp)] false [.c .bool] h fun r h' => ∃ post, (r = (true, ()) ∧ post = [c]) ∧ St h G post h' := by
  have hE : ∀ {h : H} {G : PA → Prop}, Star [c] h G → HT Try.prog fn_slices_EqualFunc_LL_impl_Item_impl_Item_impl_Item_impl_Item [.c (.sl sp n cap), .c (.sl tp m cbp), .c (.raw slF)] false [.c .bool] h fun r h' => ∃ post, (r = (true, ()) ∧ post = [c]) ∧ St h G post h' := by
    intro h G hG
    apply hc_slices_EqualFunc_LL_impl_Item_impl_Item_impl_Item_impl_Item
    unfold M_slices_EqualFunc_LL_impl_Item_impl_Item_impl_Item_impl_Item
    have hn : n = ss.length := hS.1
    have hm : m = ts.length := hT.1
    have hnm : n = m := by omega
    have S := St.start hG
    refine w_false (by subst hnm; simp) ?_
    refine w_bnd (w_lp (fun r y h' => ∃ i : Nat, y = ((i : Int), ()) ∧ i + r = n ∧ St h G [c] h') n rfl ⟨0, rfl, by omega, S⟩ ?_)
    clear S
    rintro r _ _ ⟨i, rfl, hi, S⟩
    by_cases hlt : i < n
    · obtain ⟨p, hp, hrd⟩ := hS.ptr (by omega)
      obtain ⟨q, hq, hrq⟩ := hT.ptr (by omega)
      dsimp only at hp hq
      subst hp; subst hq
      have hxi := List.getElem?_eq_getElem (show i < ss.length by omega)
      have hyi := List.getElem?_eq_getElem (show i < ts.length by omega)
      have hzi := List.getElem?_eq_getElem (show i < xss.length by omega)
      have hzl := hle _ (List.getElem_mem (show i < xss.length by omega))
      simp only [Int.toNat_natCast, toNat_succ, toNat_succ2, toNat_pred]
      refine w_true (lt_t (by (first | omega | ((try dsimp only [Sh.T, Sh1.T]); omega)))) (w_nonnil (w_guard ⟨by (first | omega | ((try dsimp only [Sh.T, Sh1.T]); omega)), by (first | omega | ((try dsimp only [Sh.T, Sh1.T]); omega))⟩ (w_hd (S.rdr hrd) hxi ?_)))
      refine w_nonnil (w_guard ⟨by (first | omega | ((try dsimp only [Sh.T, Sh1.T]); omega)), by (first | omega | ((try dsimp only [Sh.T, Sh1.T]); omega))⟩ (w_hd (S.rdr hrq) hyi ?_))
      refine st_callvT S [.ck c] (fun G hG => sl_call (h1 i _ _ hxi hzi) (h2 i _ _ hyi hzi) hzl hG) ?_
      rintro _ _ _ ⟨rfl, rfl⟩ S
      dsimp only [List.cons_append, List.nil_append] at S
      refine w_false rfl (w_guard (inK64 (by (first | omega | ((try dsimp only [Sh.T, Sh1.T]); omega))) (by (first | omega | ((try dsimp only [Sh.T, Sh1.T]); omega)))) ?_)
      exact ln_n rfl (r - 1) ⟨i + 1, rfl, by omega, S⟩ (by omega)
    · exact w_false (lt_f (by (first | omega | ((try dsimp only [Sh.T, Sh1.T]); omega)))) (ln_e (bd_e rfl (rt_1 rfl ⟨_, ⟨rfl, rfl⟩, S⟩)))
  apply hc_laws_sameLists
  unfold M_laws_sameLists
  refine st_callT (St.start hG) [.ck c] (fun G hG => hE hG) ?_
  rintro _ _ _ ⟨rfl, rfl⟩ S
  dsimp only [List.cons_append, List.nil_append] at S
  exact rt_1 rfl ⟨_, ⟨rfl, rfl⟩, S⟩
theorem c_aliveBB {G : PA → Prop} (hG : Star [] h G) : HT Try.prog fn_laws_aliveB [] false [.c .bool] h fun r h' => ∃ post, (r = (true, ()) ∧ post = []) ∧ St h G post h' := c_aliveB hG
end
theorem flat_len_le {α : Type} : ∀ {l : List (List α)} {xs : List α}, xs ∈ l → xs.length ≤ l.flatten.length
  | a :: l, xs, h => by
    rcases List.mem_cons.1 h with rfl | h
    · simp
    · have := flat_len_le h; rw [List.flatten_cons, List.length_append]; omega
theorem flat_len_ge {α : Type} : ∀ {l : List (List α)}, (∀ xs ∈ l, xs ≠ []) → l.length ≤ l.flatten.length
  | [], _ => Nat.le_refl _
  | a :: l, h => by
    have ih := flat_len_ge (l := l) (fun xs hx => h xs (by simp [hx]))
    have : 0 < a.length := List.length_pos_iff.2 (h a (by simp))
    rw [List.flatten_cons, List.length_append, List.length_cons]; omega
theorem hd_ne {ss : List SlT} {xss : List (List IV)} (hd : HdOK ss xss) (hne : ∀ xs ∈ xss, xs ≠ []) : ∀ s ∈ ss, s.2.1 ≠ 0 := by
  intro s hs
  obtain ⟨i, hi⟩ := List.mem_iff_getElem?.1 hs
  have hl := (List.getElem?_eq_some_iff.1 hi).1
  have hx := List.getElem?_eq_getElem (show i < xss.length by rw [← hd.1]; exact hl)
  have h1 := (hd.2 i _ _ hi hx).1
  have h2 : 0 < (xss[i]'(by rw [← hd.1]; exact hl)).length := List.length_pos_iff.2 (hne _ (List.getElem_mem _))
  omega
section
variable {h hI : H} {o : List Int} {op : Option PA} {on oc : Nat} {xs : List IV} {sp : Option PA} {n cap : Nat} {d : Int} {nl : Bool}
set_option maxHeartbeats 2000000 in
theorem c_FnBWalks (hr : Rdr (BaC hI) (op, on, oc) LN o) (hx : Rdr (BaC hI) (sp, n, cap) LT xs) {G : PA → Prop} (hG : Star [BaC hI] h G) :
    HT Try.prog fn_laws_FnBWalks [.agg [.sl op on oc, .int .i64 d, .bool nl], .c (.sl sp n cap)] false [.c .bool] h fun r h' => ∃ post, (r = (true, ()) ∧ post = [BaC hI]) ∧ St h G post h' := by
  apply hc_laws_FnBWalks
  unfold M_laws_FnBWalks
  have hn : n = xs.length := hx.1
  have htl := treeO_len o xs
  have hno : on = o.length := hr.1
  refine st_alloc (St.start hG) fun n0 _ S => ?_
  refine w_mid' none (fun (y : SV [.c .bool]) h' => (y = (true, ()) ∨ y = (false, ()) ∧ on ≤ 2147483647 ∧ n ≤ 2147483647) ∧ St h G [Ow (n0, 0) (List.map Cell.val [.sl op on oc, .int .i64 d, .bool nl]) 0, BaC hI] h') ?_ ?_
  · refine ld_sl S op on oc rfl (ld_int S rfl (ld_bool S rfl ?_))
    refine st_callT S [] (fun G hG => c_zzFits1 hG) ?_
    rintro _ _ _ ⟨rfl, rfl⟩ S
    dsimp only [List.cons_append, List.nil_append] at S
    by_cases hbo : on > 2147483647
    · exact w_true (by rw [decide_eq_false (by (first | omega | ((try dsimp only [Sh.T, Sh1.T]); omega)))]; rfl) (md_n rfl ⟨.inl rfl, S.only [.ow (n0, 0), .ck (BaC hI)]⟩)
    refine w_false (by rw [decide_eq_true (by (first | omega | ((try dsimp only [Sh.T, Sh1.T]); omega)))]; rfl) ?_
    by_cases hb0 : n > 2147483647
    · exact md_n (x := (true, ())) (by rw [decide_eq_true (by omega)]; rfl) ⟨.inl rfl, S.only [.ow (n0, 0), .ck (BaC hI)]⟩
    exact md_n (x := (false, ())) (by rw [decide_eq_false (by omega)]; rfl) ⟨.inr ⟨rfl, by omega, by omega⟩, S.only [.ow (n0, 0), .ck (BaC hI)]⟩
  rintro _ _ ⟨rfl | ⟨rfl, hz0, hz1⟩, S⟩
  · exact w_true rfl (rt_1 rfl ⟨_, ⟨rfl, rfl⟩, S.only [.ck (BaC hI)]⟩)
  refine w_false rfl ?_
  refine ld_sl S op on oc rfl (ld_int S rfl (ld_bool S rfl ?_))
  refine st_callT S [] (fun G hG => c_fits hG) ?_
  rintro _ _ _ ⟨rfl, rfl⟩ S
  dsimp only [List.cons_append, List.nil_append] at S
  by_cases hf : d = 0 ∨ 2 ≤ d ∧ d ≤ 128
  case neg =>
    refine w_true (by rw [decide_eq_false hf]; rfl) ?_
    refine st_callT S [] (fun G hG => c_aliveBB hG) ?_
    rintro _ _ _ ⟨rfl, rfl⟩ S
    dsimp only [List.cons_append, List.nil_append] at S
    exact rt_1 rfl ⟨_, ⟨rfl, rfl⟩, S.only [.ck (BaC hI)]⟩
  refine w_false (by rw [decide_eq_true hf]; rfl) ?_
  have hlo : o.length ≤ 2147483647 := by omega
  have hlx : xs.length ≤ 2147483647 := by omega
  have hd8 : d ≤ 128 := by omega
  have hlt : (treeO o xs).length ≤ 4294967296 := by omega
  (refine ld_sl S op on oc rfl (ld_int S rfl (ld_bool S rfl ?_)))
  refine st_callT S [.ck (BaC hI)] (fun G hG => c_BWalkI hr hlo hd8 hx hlx hG) ?_
  rintro _ _ _ ⟨t, ss, rfl, hfl, hne, ht, hdd, rfl⟩ S
  dsimp only [List.cons_append, List.nil_append] at S
  generalize hW : walkT o d xs = W at *
  have hWl := flat_len_ge hne
  rw [hfl] at hWl
  have S := St.st_in (m := [SlC t LS.sz (LS.flat ss), StC (LiL ss W)]) (S.ats [.sl t, .ck (StC (LiL ss W))])
  have S : St h G (LlC t ss W :: _) _ := S
  refine w_mid' none (fun (y : SV [.c .bool]) h' => y = (true, ()) ∧ St h G [BaC hI] h') ?_ (fun _ _ ⟨e, S⟩ => by subst e; exact rt_1 rfl ⟨_, ⟨rfl, rfl⟩, S⟩)
  refine ld_sl S op on oc rfl ?_
  refine st_callT S [.ck (LlC t ss W)] (fun G hG => c_Concat (ll_hd ht) hdd.1 (ll_at hdd) (by have h1 : t.2.1 = ss.length := ht.1; have h2 : ss.length = W.length := hdd.1; show t.2.1 ≤ 4294967296; rw [h1]; omega) (by rw [hfl]; exact hlt) hG) ?_
  rintro _ _ _ ⟨s1, rfl, hs1, rfl⟩ S
  dsimp only [List.cons_append, List.nil_append] at S
  rw [hfl] at hs1 S
  refine st_held S rfl ?_
  refine st_callT S [.ck (BaC hI)] (fun G hG => c_Tree hr hlo hx (by omega) hG) ?_
  rintro _ _ _ ⟨s2, rfl, hs2, rfl⟩ S
  dsimp only [List.cons_append, List.nil_append] at S
  refine st_eqT S (.sl s1) (.sl s2) hs1.rdr hs2.rdr hlt fun _ S => w_true (by simp) ?_
  refine st_callT S [.ck (LlC t ss W)] (fun G hG => c_noEmpty (ll_hd ht) (hd_ne hdd hne) (by have := hdd.1; omega) hG) ?_
  rintro _ _ _ ⟨rfl, rfl⟩ S
  dsimp only [List.cons_append, List.nil_append] at S
  refine w_true rfl ?_
  (refine ld_sl S op on oc rfl (ld_int S rfl (ld_bool S rfl ?_)))
  refine st_callT S [.ck (BaC hI)] (fun G hG => c_BWalkMutI hr hlo hd8 hx hlx hG) ?_
  rintro _ _ _ ⟨t2, ss2, rfl, _, _, ht2, hdd2, rfl⟩ S
  rw [hW] at hdd2 S
  dsimp only [List.cons_append, List.nil_append] at S
  have S := St.st_in (m := [SlC t2 LS.sz (LS.flat ss2), StC (LiL ss2 W)]) (S.ats [.sl t2, .ck (StC (LiL ss2 W))])
  have S : St h G (LlC t2 ss2 W :: _) _ := S
  have S := St.st_in (m := [LlC t2 ss2 W, LlC t ss W]) (S.ats [.ck (LlC t2 ss2 W), .ck (LlC t ss W)])
  refine st_callT S [.ck (StC [LlC t2 ss2 W, LlC t ss W])] (fun G hG => c_sameLists (Rdr.st (i := 0) rfl (ll_hd ht2)) (Rdr.st (i := 1) rfl (ll_hd ht)) hdd2.1 hdd.1 (fun i s xs h1 h2 => Rdr.st (i := 0) rfl (ll_at hdd2 i s xs h1 h2)) (fun i s xs h1 h2 => Rdr.st (i := 1) rfl (ll_at hdd i s xs h1 h2)) (by omega)
    (fun xs hx => by have := flat_len_le hx; rw [hfl] at this; omega) hG) ?_
  rintro _ _ _ ⟨rfl, rfl⟩ S
  dsimp only [List.cons_append, List.nil_append] at S
  refine w_true rfl ?_
  (refine st_callT S [] (fun G hG => c_aliveBB hG) ?_; rintro _ _ _ ⟨rfl, rfl⟩ S; dsimp only [List.cons_append, List.nil_append] at S)
  exact md_n rfl ⟨rfl, S.only [.ck (BaC hI)]⟩
end
end Go.Proofs.Ytlmiafbcgfegpaa
