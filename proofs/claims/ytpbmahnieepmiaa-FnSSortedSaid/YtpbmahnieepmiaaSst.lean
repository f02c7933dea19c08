/-
  Sets: one grown out of keys; items out of keys, keys out of items. Conditions: none.
-/
import Derived.Test.YtpbmahnieepmiaaPgR
import Derived.Test.YtpbmahnieepmiaaPgA
import Derived.Test.YtpbmahnieepmiaaVa
import Derived.Test.YtpbmahnieepmiaaSdms
set_option linter.unusedVariables false
set_option linter.unusedSimpArgs false
set_option linter.unusedSectionVars false
set_option maxRecDepth 100000
namespace Go.Proofs.Ytpbmahnieepmiaa
open Go
def M_impl_growSet (a0p : Option PA) (a0l : Nat) (a0c : Nat) : M :=
  .alloc ty_btree_Set_int [.int .u64 (0), .ptr none, .ptr none, .int .i64 (0), .int .i64 (0), .int .i64 (0), .int .i64 (0), .ff, .ff] fun n0 =>
  .bind (some 0) (.loop [.c (.int .i64)] [.c (.int .i64 (0))] fun y1 =>
      .ite (decide (y1.fst < (↑a0l : Int)))
      (.nonnil (a0p) fun p2 =>
        .guard (((0 : Int) ≤ y1.fst) ∧ ((y1.fst : Int) < (↑a0l : Int))) <|
        .load (p2.fst, p2.snd + Int.toNat y1.fst) (.int .i64) fun i3 =>
        .call fn_set_Insert [.c (.addr (n0, 0)), .c (.int .i64 (i3))] true [] fun r4 =>
        .guard (InK IntKind.i64 (y1.fst + 1)) <|
        .done .normal [.c (.int .i64 (y1.fst + 1))])
      (.done (.exit 0) [])) [] fun x5 =>
  .done .ret [.c (.addr (n0, 0))]
theorem den_impl_growSet (a0p : Option PA) (a0l : Nat) (a0c : Nat) : denFn Try.prog Try.f28 [.c (.sl a0p a0l a0c)] = M_impl_growSet a0p a0l a0c := by kernel_rfl
theorem hc_impl_growSet (a0p : Option PA) (a0l : Nat) (a0c : Nat) {h : H} {R : Value → H → Prop} (hw : wp Try.prog (M_impl_growSet a0p a0l a0c) (Ret R) h) : HC Try.prog fn_impl_growSet (List.map AV.val [.c (.sl a0p a0l a0c)]).toArray h R :=
  den_calls hmix Try.func28 (of_decide_eq_true rfl) (by rw [den_impl_growSet]; exact hw)
def M_impl_SLen (a0p : Option PA) (a0l : Nat) (a0c : Nat) : M :=
  .call fn_impl_growSet [.c (.sl (a0p) (a0l) (a0c))] false [.c (.ptr)] fun r0 =>
  .call fn_set_Len [.c (.ptr (r0.fst))] false [.c (.int .i64)] fun r1 =>
  .done .ret [.c (.int .i64 (r1.fst))]
theorem den_impl_SLen (a0p : Option PA) (a0l : Nat) (a0c : Nat) : denFn Try.prog Try.f27 [.c (.sl a0p a0l a0c)] = M_impl_SLen a0p a0l a0c := by kernel_rfl
theorem hc_impl_SLen (a0p : Option PA) (a0l : Nat) (a0c : Nat) {h : H} {R : Value → H → Prop} (hw : wp Try.prog (M_impl_SLen a0p a0l a0c) (Ret R) h) : HC Try.prog fn_impl_SLen (List.map AV.val [.c (.sl a0p a0l a0c)]).toArray h R :=
  den_calls hmix Try.func27 (of_decide_eq_true rfl) (by rw [den_impl_SLen]; exact hw)
section
variable {I J : Type} {lt : I → I → Bool} {lt' : J → J → Bool} {f : I → J}
theorem pos_map (hf : ∀ a b, lt' (f a) (f b) = lt a b) (l : List I) (x : I) : pos lt' (l.map f) (f x) = pos lt l x := by
  unfold pos
  rw [List.takeWhile_map, List.length_map]
  congr 2
  funext a
  exact hf a x
theorem fnd_map (hf : ∀ a b, lt' (f a) (f b) = lt a b) (l : List I) (x : I) : fnd lt' (l.map f) (f x) = (fnd lt l x).map f := by
  unfold fnd
  rw [pos_map hf, List.getElem?_map]
  cases l[pos lt l x]? with
  | none => rfl
  | some a =>
    simp only [Option.map_some, hf]
    cases lt x a <;> rfl
theorem put_map (hf : ∀ a b, lt' (f a) (f b) = lt a b) (l : List I) (x : I) : put lt' (l.map f) (f x) = (put lt l x).map f := by
  unfold put
  rw [pos_map hf, fnd_map hf, Option.isSome_map, List.map_append, List.map_cons, List.map_take, List.map_drop]
end
def kS (x : IV) : MS.KV := (x.1, ())
def kL (l : List IV) : List MS.KV := l.map kS
theorem lt_kS (a b : IV) : MS.lt (kS a) (kS b) = ltO [] a b := rfl
theorem kL_put (l : List IV) (k : Int) (v : Int) : put MS.lt (kL l) (k, ()) = kL (put (ltO []) l (k, v)) := put_map (f := kS) lt_kS l (k, v)
theorem kL_len (l : List IV) : (kL l).length = l.length := List.length_map _
def iO (ks : List Int) : List IV := ks.map fun k => (k, 0)
theorem iO_len (ks : List Int) : (iO ks).length = ks.length := List.length_map _
theorem iO_snoc {ks : List Int} {i : Nat} (h : i < ks.length) : iO (ks.take (i + 1)) = iO (ks.take i) ++ [(ks[i], 0)] := by rw [take_snoc h, iO, List.map_append]; rfl
def yO (xs : List IV) : List Int := xs.map fun x => x.1
theorem yO_len (xs : List IV) : (yO xs).length = xs.length := List.length_map _
def setO (ks : List Int) : List IV := treeO [] (iO ks)
theorem setO_len (ks : List Int) : (setO ks).length ≤ ks.length := by have := treeO_len [] (iO ks); rw [iO_len] at this; exact this
section
variable {h : H}
theorem c_Insert {a0 : PA} {iso : Int} {dg : Nat} {l : List MS.KV} {k : Int} (hl : l.length < 4294967295) {G : PA → Prop} (hG : Star [MS.MpC iso dg a0 l] h G) :
    HT Try.prog fn_set_Insert [.c (.addr a0), .c (.int .i64 k)] true [] h fun x h' => ∃ post, post = [MS.MpC iso dg a0 (put MS.lt l (k, ()))] ∧ St h G post h' := by
  apply hc_set_Insert
  unfold M_set_Insert
  refine st_callT (St.start hG) [.mp a0] (fun G hG => MS.c_Set (k := k) (v := ()) hl hG) ?_
  rintro _ _ _ ⟨rfl, rfl⟩ S
  dsimp only [List.cons_append, List.nil_append] at S
  exact rt_n rfl rfl ⟨_, rfl, S⟩
theorem c_growSet {c : Ck} {xs : List Int} {sp : Option PA} {n cap : Nat} (hx : Rdr c (sp, n, cap) LN xs) (hxl : xs.length ≤ 2147483647) {G : PA → Prop} (hG : Star [c] h G) :
    HT Try.prog fn_impl_growSet [.c (.sl sp n cap)] false [.c .ptr] h fun r h' => ∃ post, (∃ m, r = (some (m, 0), ()) ∧ post = [c, MS.MpC 0 31 (m, 0) (kL (setO xs))]) ∧ St h G post h' := by
  apply hc_impl_growSet
  unfold M_impl_growSet
  have hn : n = xs.length := hx.1
  refine st_alloc (St.start hG) fun m _ S => ?_
  have S := S.re (m, 0) (MS.mapC 0 none none 0 0 0 false false) 0 rfl rfl rfl
  have S := (MS.shut_map0 S (.inl ⟨rfl, rfl, rfl⟩)).ats [.ck c, .mp (m, 0)]
  refine w_bnd (w_lp (fun r y h' => ∃ i : Nat, y = ((i : Int), ()) ∧ i + r = n ∧ St h G [c, MS.MpC 0 31 (m, 0) (kL (setO (xs.take i)))] h') n rfl ⟨0, rfl, by omega, S⟩ ?_)
  clear S
  rintro r _ _ ⟨i, rfl, hi, S⟩
  by_cases hlt : i < n
  · obtain ⟨p, hp, hrd⟩ := hx.ptr (by omega)
    dsimp only at hp
    subst hp
    have hxi := List.getElem?_eq_getElem (show i < xs.length by omega)
    have hsl := setO_len (xs.take i)
    rw [List.length_take] at hsl
    simp only [Int.toNat_natCast, toNat_succ, toNat_succ2, toNat_pred]
    refine w_true (lt_t (by (first | omega | ((try dsimp only [Sh.T, Sh1.T]); omega)))) (w_nonnil (w_guard ⟨by (first | omega | ((try dsimp only [Sh.T, Sh1.T]); omega)), by (first | omega | ((try dsimp only [Sh.T, Sh1.T]); omega))⟩ (w_num (S.rdr hrd) hxi ?_)))
    refine st_callT S [.mp (m, 0)] (fun G hG => c_Insert (k := xs[i]) (by rw [kL_len]; omega) hG) ?_
    rintro _ _ _ rfl S
    dsimp only [List.cons_append, List.nil_append] at S
    have e : put MS.lt (kL (setO (xs.take i))) (xs[i], ()) = kL (setO (xs.take (i + 1))) := by rw [kL_put _ _ 0, setO, setO, iO_snoc (by omega), treeO_snoc]
    rw [e] at S
    refine w_guard (inK64 (by (first | omega | ((try dsimp only [Sh.T, Sh1.T]); omega))) (by (first | omega | ((try dsimp only [Sh.T, Sh1.T]); omega)))) ?_
    exact ln_n rfl (r - 1) ⟨i + 1, rfl, by omega, S.only [.ck c, .mp (m, 0)]⟩ (by omega)
  · rw [List.take_of_length_le (by omega)] at S
    exact w_false (lt_f (by (first | omega | ((try dsimp only [Sh.T, Sh1.T]); omega)))) (ln_e (bd_e rfl (rt_1 rfl ⟨_, ⟨m, rfl, rfl⟩, S⟩)))
theorem c_setLen {a0 : PA} {dg : Nat} {l : List MS.KV} {G : PA → Prop} (hG : Star [MS.MpC 0 dg a0 l] h G) :
    HT Try.prog fn_set_Len [.c (.addr a0)] false [.c (.int .i64)] h fun r h' => ∃ post, (r = ((l.length : Int), ()) ∧ post = [MS.MpC 0 dg a0 l]) ∧ St h G post h' := by
  have hL : ∀ {h : H} {G : PA → Prop}, Star [MS.MpC 0 dg a0 l] h G → HT Try.prog fn_ms_Len [.c (.addr a0)] false [.c (.int .i64)] h fun r h' => ∃ post, (r = ((l.length : Int), ()) ∧ post = [MS.MpC 0 dg a0 l]) ∧ St h G post h' := by
    intro h G hG
    apply hc_ms_Len
    unfold M_ms_Len
    rcases MS.open_map (St.start hG) with ⟨ctr, mn, mx, rfl, hg, S⟩ | ⟨ctr, n, b, t, rfl, hs, hv, hi, hg, S⟩
    · refine ld_int S rfl ?_
      exact rt_1 rfl ⟨_, ⟨rfl, rfl⟩, MS.shut_map0 S hg⟩
    · refine ld_int S rfl ?_
      exact rt_1 rfl ⟨_, ⟨rfl, rfl⟩, MS.shut_map S rfl rfl hs hv hi hg⟩
  apply hc_set_Len
  unfold M_set_Len
  refine st_callT (St.start hG) [.mp a0] (fun G hG => hL hG) ?_
  rintro _ _ _ ⟨rfl, rfl⟩ S
  dsimp only [List.cons_append, List.nil_append] at S
  exact rt_1 rfl ⟨_, ⟨rfl, rfl⟩, S⟩
theorem c_SLen {c : Ck} {xs : List Int} {sp : Option PA} {n cap : Nat} (hx : Rdr c (sp, n, cap) LN xs) (hxl : xs.length ≤ 2147483647) {G : PA → Prop} (hG : Star [c] h G) :
    HT Try.prog fn_impl_SLen [.c (.sl sp n cap)] false [.c (.int .i64)] h fun r h' => ∃ post, (r = (((setO xs).length : Int), ()) ∧ post = [c]) ∧ St h G post h' := by
  apply hc_impl_SLen
  unfold M_impl_SLen
  refine st_callT (St.start hG) [.ck c] (fun G hG => c_growSet hx hxl hG) ?_
  rintro _ _ _ ⟨m, rfl, rfl⟩ S
  dsimp only [List.cons_append, List.nil_append] at S
  refine st_callV S [.mp (m, 0)] (args' := [.c (.addr (m, 0))]) rfl (fun G hG => c_setLen hG) ?_
  rintro _ _ _ ⟨rfl, rfl⟩ S
  dsimp only [List.cons_append, List.nil_append] at S
  rw [kL_len]
  exact rt_1 rfl ⟨_, ⟨rfl, rfl⟩, S.only [.ck c]⟩
end
end Go.Proofs.Ytpbmahnieepmiaa
