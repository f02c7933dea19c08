/-
  The law FnSSorted. Conditions: none.
-/
import Derived.Test.YtpbmahnieepmiaaPgA
import Derived.Test.YtpbmahnieepmiaaLawSDesc
import Derived.Test.YtpbmahnieepmiaaLawSHeight
import Derived.Test.YtpbmahnieepmiaaTnj
import Derived.Test.YtpbmahnieepmiaaTui
import Derived.Test.YtpbmahnieepmiaaSso
import Derived.Test.YtpbmahnieepmiaaPl
set_option linter.unusedVariables false
set_option linter.unusedSimpArgs false
set_option linter.unusedSectionVars false
set_option maxRecDepth 100000
namespace Go.Proofs.Ytpbmahnieepmiaa
open Go
def M_impl_SScan (a0p : Option PA) (a0l : Nat) (a0c : Nat) (a1 : Int) : M :=
  .alloc ty_sl_int [.sl none (0) (0)] fun n0 =>
  .call fn_impl_growSet [.c (.sl (a0p) (a0l) (a0c))] false [.c (.ptr)] fun r1 =>
  .call fn_impl_taker_int [.c (.addr (n0, 0)), .c (.int .i64 (a1))] false [.c (.raw)] fun r2 =>
  .call fn_set_Scan [.c (.ptr (r1.fst)), .c (.raw (r2.fst))] true [] fun r3 =>
  .load (n0, 0) (.sl) fun s4 =>
  .done .ret [.c (.sl (s4.fst) (s4.snd.fst) (s4.snd.snd))]
theorem den_impl_SScan (a0p : Option PA) (a0l : Nat) (a0c : Nat) (a1 : Int) : denFn Try.prog Try.f24 [.c (.sl a0p a0l a0c), .c (.int .i64 a1)] = M_impl_SScan a0p a0l a0c a1 := by kernel_rfl
theorem hc_impl_SScan (a0p : Option PA) (a0l : Nat) (a0c : Nat) (a1 : Int) {h : H} {R : Value → H → Prop} (hw : wp Try.prog (M_impl_SScan a0p a0l a0c a1) (Ret R) h) : HC Try.prog fn_impl_SScan (List.map AV.val [.c (.sl a0p a0l a0c), .c (.int .i64 a1)]).toArray h R :=
  den_calls hmix Try.func24 (of_decide_eq_true rfl) (by rw [den_impl_SScan]; exact hw)
def M_impl_SReverse (a0p : Option PA) (a0l : Nat) (a0c : Nat) (a1 : Int) : M :=
  .alloc ty_sl_int [.sl none (0) (0)] fun n0 =>
  .call fn_impl_growSet [.c (.sl (a0p) (a0l) (a0c))] false [.c (.ptr)] fun r1 =>
  .call fn_impl_taker_int [.c (.addr (n0, 0)), .c (.int .i64 (a1))] false [.c (.raw)] fun r2 =>
  .call fn_set_Reverse [.c (.ptr (r1.fst)), .c (.raw (r2.fst))] true [] fun r3 =>
  .load (n0, 0) (.sl) fun s4 =>
  .done .ret [.c (.sl (s4.fst) (s4.snd.fst) (s4.snd.snd))]
theorem den_impl_SReverse (a0p : Option PA) (a0l : Nat) (a0c : Nat) (a1 : Int) : denFn Try.prog Try.f25 [.c (.sl a0p a0l a0c), .c (.int .i64 a1)] = M_impl_SReverse a0p a0l a0c a1 := by kernel_rfl
theorem hc_impl_SReverse (a0p : Option PA) (a0l : Nat) (a0c : Nat) (a1 : Int) {h : H} {R : Value → H → Prop} (hw : wp Try.prog (M_impl_SReverse a0p a0l a0c a1) (Ret R) h) : HC Try.prog fn_impl_SReverse (List.map AV.val [.c (.sl a0p a0l a0c), .c (.int .i64 a1)]).toArray h R :=
  den_calls hmix Try.func25 (of_decide_eq_true rfl) (by rw [den_impl_SReverse]; exact hw)
def M_laws_FnSSorted (a0p : Option PA) (a0l : Nat) (a0c : Nat) : M :=
  .ite (decide ((↑a0l : Int) > 2147483647))
  (.done .ret [.c (.tt)])
  (.call fn_slices_Clone_int_int [.c (.sl (a0p) (a0l) (a0c))] false [.c (.sl)] fun r0 =>
    .call fn_slices_Sort_int_int [.c (.sl (r0.fst.fst) (r0.fst.snd.fst) (r0.fst.snd.snd))] true [] fun r1 =>
    .call fn_slices_Compact_int_int [.c (.sl (r0.fst.fst) (r0.fst.snd.fst) (r0.fst.snd.snd))] false [.c (.sl)] fun r2 =>
    .bind none (.call fn_impl_SInsert [.c (.sl (a0p) (a0l) (a0c))] false [.c (.sl)] fun r3 =>
      .call fn_slices_Equal_int_int [.c (.sl (r3.fst.fst) (r3.fst.snd.fst) (r3.fst.snd.snd)), .c (.sl (r2.fst.fst) (r2.fst.snd.fst) (r2.fst.snd.snd))] false [.c (.bool)] fun r4 =>
      .ite (r4.fst)
      (.call fn_impl_SScan [.c (.sl (a0p) (a0l) (a0c)), .c (.int .i64 (0))] false [.c (.sl)] fun r5 =>
        .call fn_slices_Equal_int_int [.c (.sl (r5.fst.fst) (r5.fst.snd.fst) (r5.fst.snd.snd)), .c (.sl (r2.fst.fst) (r2.fst.snd.fst) (r2.fst.snd.snd))] false [.c (.bool)] fun r6 =>
        .ite (r6.fst)
        (.call fn_impl_SReverse [.c (.sl (a0p) (a0l) (a0c)), .c (.int .i64 (0))] false [.c (.sl)] fun r7 =>
          .call fn_laws_turned_int [.c (.sl (r2.fst.fst) (r2.fst.snd.fst) (r2.fst.snd.snd))] false [.c (.sl)] fun r8 =>
          .call fn_slices_Equal_int_int [.c (.sl (r7.fst.fst) (r7.fst.snd.fst) (r7.fst.snd.snd)), .c (.sl (r8.fst.fst) (r8.fst.snd.fst) (r8.fst.snd.snd))] false [.c (.bool)] fun r9 =>
          .ite (r9.fst)
          (.call fn_impl_SLen [.c (.sl (a0p) (a0l) (a0c))] false [.c (.int .i64)] fun r10 =>
            .ite (r10.fst == (↑r2.fst.snd.fst : Int))
            (.call fn_laws_aliveS [] false [.c (.bool)] fun r11 =>
              .done .normal [.c (.bool (r11.fst))])
            (.done .normal [.c (.ff)]))
          (.done .normal [.c (.ff)]))
        (.done .normal [.c (.ff)]))
      (.done .normal [.c (.ff)])) [.c (.bool)] fun x12 =>
    .done .ret [.c (.bool (x12.fst))])
theorem den_laws_FnSSorted (a0p : Option PA) (a0l : Nat) (a0c : Nat) : denFn Try.prog Try.f8 [.c (.sl a0p a0l a0c)] = M_laws_FnSSorted a0p a0l a0c := by kernel_rfl
theorem hc_laws_FnSSorted (a0p : Option PA) (a0l : Nat) (a0c : Nat) {h : H} {R : Value → H → Prop} (hw : wp Try.prog (M_laws_FnSSorted a0p a0l a0c) (Ret R) h) : HC Try.prog fn_laws_FnSSorted (List.map AV.val [.c (.sl a0p a0l a0c)]).toArray h R :=
  den_calls hmix Try.func8 (of_decide_eq_true rfl) (by rw [den_laws_FnSSorted]; exact hw)
theorem asc_ext : ∀ (l m : List Int), l.Pairwise (· < ·) → m.Pairwise (· < ·) → (∀ a, a ∈ l ↔ a ∈ m) → l = m
  | [], [], _, _, _ => rfl
  | [], b :: m, _, _, h => absurd ((h b).2 (by simp)) (by simp)
  | a :: l, [], _, _, h => absurd ((h a).1 (by simp)) (by simp)
  | a :: l, b :: m, h1, h2, h => by
    obtain ⟨a1, a2⟩ := List.pairwise_cons.1 h1
    obtain ⟨b1, b2⟩ := List.pairwise_cons.1 h2
    have hab : a = b := by
      rcases List.mem_cons.1 ((h a).1 (by simp)) with e | e
      · exact e
      · have q1 := b1 a e
        rcases List.mem_cons.1 ((h b).2 (by simp)) with e' | e'
        · exact e'.symm
        · have q2 := a1 b e'
          omega
    subst hab
    congr 1
    refine asc_ext l m a2 b2 fun c => ⟨fun hc => ?_, fun hc => ?_⟩
    · rcases List.mem_cons.1 ((h c).1 (by simp [hc])) with e | e
      · have := a1 c hc; omega
      · exact e
    · rcases List.mem_cons.1 ((h c).2 (by simp [hc])) with e | e
      · have := b1 c hc; omega
      · exact e
theorem setO_asc (ks : List Int) : (yO (setO ks)).Pairwise (· < ·) := by
  unfold yO
  rw [List.pairwise_map]
  refine (treeO_srt [] (iO ks)).imp fun {a b} h => ?_
  rw [ltO_nil] at h
  exact of_decide_eq_true h
theorem setO_mem (ks : List Int) : ∀ k, k ∈ yO (setO ks) ↔ k ∈ ks := by
  refine snoc_ind (P := fun ks => ∀ k, k ∈ yO (setO ks) ↔ k ∈ ks) (fun k => by simp [setO, iO, treeO, yO]) (fun ks x ih k => ?_) ks
  have e : setO (ks ++ [x]) = put (ltO []) (setO ks) (x, 0) := by unfold setO iO; rw [List.map_append]; exact treeO_snoc [] _ _
  rw [e]
  have hm := fun a => mem_put (ordO []) (treeO_srt [] (iO ks)) (x := (x, 0)) (a := a)
  have hm : ∀ a, a ∈ put (ltO []) (setO ks) (x, 0) ↔ a = (x, 0) ∨ (a ∈ setO ks ∧ (ltO [] a (x, 0) = true ∨ ltO [] (x, 0) a = true)) := hm
  have ihk := ih k
  constructor
  · intro h
    obtain ⟨a, ha, rfl⟩ := List.mem_map.1 h
    rcases (hm a).1 ha with rfl | ⟨h1, _⟩
    · simp
    · have := ihk.1 (List.mem_map.2 ⟨a, h1, rfl⟩)
      simp [this]
  · intro h
    by_cases hk : k = x
    · subst hk
      exact List.mem_map.2 ⟨(k, 0), (hm _).2 (.inl rfl), rfl⟩
    · have hks : k ∈ ks := by simpa [hk] using h
      obtain ⟨a, ha, hka⟩ := List.mem_map.1 (ihk.2 hks)
      refine List.mem_map.2 ⟨a, (hm a).2 (.inr ⟨ha, ?_⟩), hka⟩
      rw [ltO_nil, ltO_nil]
      have hne : a.1 ≠ x := fun e => hk (by rw [← hka]; exact e)
      rcases Int.lt_or_gt_of_ne hne with h1 | h1
      · exact .inl (decide_eq_true h1)
      · exact .inr (decide_eq_true h1)
theorem comp_sorted {zs : List Int} (hz : zs.Pairwise (· ≤ ·)) : ∀ m, m ≤ zs.length → (Lib.compactUpTo zs.toArray m).Pairwise (· < ·) ∧ ∀ a, a ∈ Lib.compactUpTo zs.toArray m ↔ a ∈ zs.take m
  | 0, _ => by simp [Lib.compactUpTo]
  | m + 1, hm => by
    obtain ⟨ih1, ih2⟩ := comp_sorted hz m (by omega)
    have hml : m < zs.length := by omega
    have eg : ∀ i, (h : i < zs.length) → zs.toArray[i]! = zs[i] := fun i h => by simp [h]
    have htk : zs.take (m + 1) = zs.take m ++ [zs[m]] := List.take_succ_eq_append_getElem hml
    rw [Lib.compactUpTo_succ, htk]
    by_cases hk : Lib.keeps zs.toArray m = true
    · rw [if_pos hk, eg m hml]
      refine ⟨List.pairwise_append.2 ⟨ih1, List.pairwise_singleton _ _, fun a ha b hb => ?_⟩, fun a => by rw [List.mem_append, List.mem_append, ih2]⟩
      obtain rfl : b = zs[m] := by simpa using hb
      obtain ⟨i, hi⟩ := List.mem_iff_getElem?.1 ((ih2 a).1 ha)
      obtain ⟨hil, hia⟩ := List.getElem?_eq_some_iff.1 hi
      have him : i < m := by rw [List.length_take] at hil; omega
      rw [List.getElem_take] at hia
      have hk2 : m = 0 ∨ zs.toArray[m]! ≠ zs.toArray[m - 1]! := of_decide_eq_true hk
      rw [eg m hml, eg (m - 1) (by omega)] at hk2
      have hne : zs[m] ≠ zs[m - 1] := hk2.resolve_left (by omega)
      have p1 := List.pairwise_iff_getElem.1 hz (m - 1) m (by omega) hml (by omega)
      have p2 : zs[i] ≤ zs[m - 1] := by
        rcases Nat.lt_or_ge i (m - 1) with h1 | h1
        · exact List.pairwise_iff_getElem.1 hz i (m - 1) (by omega) (by omega) h1
        · have : i = m - 1 := by omega
          subst this; exact Int.le_refl _
      show a < zs[m]
      omega
    · rw [if_neg hk, List.append_nil]
      refine ⟨ih1, fun a => ?_⟩
      have hk2 : ¬ (m = 0 ∨ zs.toArray[m]! ≠ zs.toArray[m - 1]!) := fun h => hk (decide_eq_true h)
      have hm0 : m ≠ 0 := fun h => hk2 (.inl h)
      rw [eg m hml, eg (m - 1) (by omega)] at hk2
      have heq : zs[m] = zs[m - 1] := Classical.byContradiction fun h => hk2 (.inr h)
      rw [ih2, List.mem_append]
      refine ⟨.inl, fun h => h.elim id fun h => ?_⟩
      obtain rfl : a = zs[m] := by simpa using h
      rw [heq]
      refine List.mem_iff_getElem?.2 ⟨m - 1, ?_⟩
      rw [List.getElem?_take, if_pos (by omega), List.getElem?_eq_getElem (by omega)]
theorem due_eq (ks : List Int) : Lib.compact (sortI ks) = yO (setO ks) := by
  have hz : (sortI ks).Pairwise (· ≤ ·) := by
    have := List.pairwise_mergeSort (le := fun x y : Int => decide (x ≤ y)) (fun a b c h1 h2 => by simp only [decide_eq_true_eq] at *; omega) (fun a b => by simp only [Bool.or_eq_true, decide_eq_true_eq]; omega) ks
    exact this.imp fun h => of_decide_eq_true h
  obtain ⟨h1, h2⟩ := comp_sorted hz (sortI ks).length (Nat.le_refl _)
  refine asc_ext _ _ h1 (setO_asc ks) fun a => ?_
  rw [setO_mem, show Lib.compact (sortI ks) = Lib.compactUpTo (sortI ks).toArray (sortI ks).length from rfl, h2, List.take_length]
  exact (List.mergeSort_perm ks _).mem_iff
section
variable {h : H}
theorem firstO_zero {I : Type} (xs : List I) : firstO xs 0 = xs := by unfold firstO; rw [if_pos (.inl (by decide))]
theorem c_setScan {a0 o f0 f1 : PA} {dg : Nat} {l : List MS.KV} {n : Int} (hl : l.length ≤ 4294967296) {G : PA → Prop} (hG : Star [Ow o [.slice none 0 0] 0, Ow f0 [.pointer (some o.val)] 0, Ow f1 [.int .i64 n] 0, MS.MpC 0 dg a0 l] h G) :
    HT Try.prog fn_set_Scan [.c (.addr a0), .c (.raw (tnF f0 f1))] true [] h fun x h' => ∃ post, (∃ s : SlT, OwnL LN s ((firstO (l) n).map (·.1)) ∧ post = [Ow o [.slice (s.1.map PA.val) s.2.1 s.2.2] 0, SlC s LN.sz (LN.flat ((firstO (l) n).map (·.1))), MS.MpC 0 dg a0 l]) ∧ St h G post h' := by
  apply hc_set_Scan
  unfold M_set_Scan
  refine st_alloc (St.start hG) fun fp _ S => ?_
  have S := shut_sc (S.ats [.ow o, .ow f0, .ow f1, .ow (fp, 0)])
  refine st_callV S [.ck (scC o (fp, 0) f0 f1 n []), .mp a0] (args' := [.c (.addr a0), .c (.raw (scF (fp, 0)))]) rfl (fun G hG => MS.c_Scan (cb_sc (n := n)) (by simpa using hl) hG) ?_
  rintro _ _ _ rfl S
  dsimp only [List.cons_append, List.nil_append] at S
  rw [run_first] at S
  obtain ⟨s, hs, S⟩ := open_sc S
  exact rt_n rfl rfl ⟨_, ⟨s, hs, rfl⟩, S.only [.ow o, .sl s, .mp a0]⟩
theorem c_SScan {c : Ck} {xs : List Int} {sp : Option PA} {n cap : Nat} (hx : Rdr c (sp, n, cap) LN xs) (hxl : xs.length ≤ 2147483647) {G : PA → Prop} (hG : Star [c] h G) :
    HT Try.prog fn_impl_SScan [.c (.sl sp n cap), .c (.int .i64 0)] false [.c .sl] h fun r h' => ∃ post, (∃ s : SlT, r = (s, ()) ∧ OwnL LN s (yO (setO xs)) ∧ post = [c, SlC s LN.sz (LN.flat (yO (setO xs)))]) ∧ St h G post h' := by
  apply hc_impl_SScan
  unfold M_impl_SScan
  have hsl := setO_len xs
  refine st_alloc (St.start hG) fun n0 _ S => ?_
  refine st_callT S [.ck c] (fun G hG => c_growSet hx hxl hG) ?_
  rintro _ _ _ ⟨m, rfl, rfl⟩ S
  dsimp only [List.cons_append, List.nil_append] at S
  refine st_callT S [] (fun G hG => c_tn (l := []) hG) ?_
  rintro _ _ _ ⟨f0, f1, rfl, rfl⟩ S
  dsimp only [List.cons_append, List.nil_append] at S
  refine st_callV S [.ow (n0, 0), .ow (f0, 0), .ow (f1, 0), .mp (m, 0)] (args' := [.c (.addr (m, 0)), .c (.raw (tnF (f0, 0) (f1, 0)))]) rfl (fun G hG => c_setScan (by rw [kL_len]; omega) hG) ?_
  rintro _ _ _ ⟨s, hs, rfl⟩ S
  dsimp only [List.cons_append, List.nil_append] at S
  have e : (firstO (kL (setO xs)) 0).map (·.1) = yO (setO xs) := by rw [firstO_zero]; exact kL_keys _
  rw [e] at S hs
  refine ld_sl S s.1 s.2.1 s.2.2 rfl ?_
  exact rt_1 rfl ⟨_, ⟨s, rfl, hs, rfl⟩, S.only [.ck c, .sl s]⟩
theorem c_setReverse {a0 o f0 f1 : PA} {dg : Nat} {l : List MS.KV} {n : Int} (hl : l.length ≤ 4294967296) {G : PA → Prop} (hG : Star [Ow o [.slice none 0 0] 0, Ow f0 [.pointer (some o.val)] 0, Ow f1 [.int .i64 n] 0, MS.MpC 0 dg a0 l] h G) :
    HT Try.prog fn_set_Reverse [.c (.addr a0), .c (.raw (tnF f0 f1))] true [] h fun x h' => ∃ post, (∃ s : SlT, OwnL LN s ((firstO (l.reverse) n).map (·.1)) ∧ post = [Ow o [.slice (s.1.map PA.val) s.2.1 s.2.2] 0, SlC s LN.sz (LN.flat ((firstO (l.reverse) n).map (·.1))), MS.MpC 0 dg a0 l]) ∧ St h G post h' := by
  apply hc_set_Reverse
  unfold M_set_Reverse
  refine st_alloc (St.start hG) fun fp _ S => ?_
  have S := shut_sr (S.ats [.ow o, .ow f0, .ow f1, .ow (fp, 0)])
  refine st_callV S [.ck (srC o (fp, 0) f0 f1 n []), .mp a0] (args' := [.c (.addr a0), .c (.raw (srF (fp, 0)))]) rfl (fun G hG => MS.c_Reverse (cb_sr (n := n)) (by simpa using hl) hG) ?_
  rintro _ _ _ rfl S
  dsimp only [List.cons_append, List.nil_append] at S
  rw [run_first] at S
  obtain ⟨s, hs, S⟩ := open_sr S
  exact rt_n rfl rfl ⟨_, ⟨s, hs, rfl⟩, S.only [.ow o, .sl s, .mp a0]⟩
theorem c_SReverse {c : Ck} {xs : List Int} {sp : Option PA} {n cap : Nat} (hx : Rdr c (sp, n, cap) LN xs) (hxl : xs.length ≤ 2147483647) {G : PA → Prop} (hG : Star [c] h G) :
    HT Try.prog fn_impl_SReverse [.c (.sl sp n cap), .c (.int .i64 0)] false [.c .sl] h fun r h' => ∃ post, (∃ s : SlT, r = (s, ()) ∧ OwnL LN s ((yO (setO xs)).reverse) ∧ post = [c, SlC s LN.sz (LN.flat ((yO (setO xs)).reverse))]) ∧ St h G post h' := by
  apply hc_impl_SReverse
  unfold M_impl_SReverse
  have hsl := setO_len xs
  refine st_alloc (St.start hG) fun n0 _ S => ?_
  refine st_callT S [.ck c] (fun G hG => c_growSet hx hxl hG) ?_
  rintro _ _ _ ⟨m, rfl, rfl⟩ S
  dsimp only [List.cons_append, List.nil_append] at S
  refine st_callT S [] (fun G hG => c_tn (l := []) hG) ?_
  rintro _ _ _ ⟨f0, f1, rfl, rfl⟩ S
  dsimp only [List.cons_append, List.nil_append] at S
  refine st_callV S [.ow (n0, 0), .ow (f0, 0), .ow (f1, 0), .mp (m, 0)] (args' := [.c (.addr (m, 0)), .c (.raw (tnF (f0, 0) (f1, 0)))]) rfl (fun G hG => c_setReverse (by rw [kL_len]; omega) hG) ?_
  rintro _ _ _ ⟨s, hs, rfl⟩ S
  dsimp only [List.cons_append, List.nil_append] at S
  have e : (firstO ((kL (setO xs)).reverse) 0).map (·.1) = (yO (setO xs)).reverse := by rw [firstO_zero]; rw [List.map_reverse, kL_keys]
  rw [e] at S hs
  refine ld_sl S s.1 s.2.1 s.2.2 rfl ?_
  exact rt_1 rfl ⟨_, ⟨s, rfl, hs, rfl⟩, S.only [.ck c, .sl s]⟩
theorem c_EqTwo {c d : Ck} {s t : SlT} {xs : List Int} (hs : Rdr c s LN xs) (ht : Rdr d t LN xs) (hl : xs.length ≤ 4294967296) {G : PA → Prop} (hG : Star [StC [c, d]] h G) :
    HT Try.prog fn_slices_Equal_int_int [.c (.sl s.1 s.2.1 s.2.2), .c (.sl t.1 t.2.1 t.2.2)] false [.c .bool] h fun r h' => ∃ post, (r = (true, ()) ∧ post = [StC [c, d]]) ∧ St h G post h' := by
  have := c_EqualInts (Rdr.st (l := [c, d]) (i := 0) rfl hs) (Rdr.st (l := [c, d]) (i := 1) rfl ht) hl hG
  refine HT.mono this fun x h' ⟨post, ⟨h1, h2⟩, h3⟩ => ⟨post, ⟨?_, h2⟩, h3⟩
  rw [h1]; simp
set_option maxHeartbeats 2000000 in
theorem c_FnSSorted {hI : H} {xs : List Int} {sp : Option PA} {n cap : Nat} (hx : Rdr (BaC hI) (sp, n, cap) LN xs) {G : PA → Prop} (hG : Star [BaC hI] h G) :
    HT Try.prog fn_laws_FnSSorted [.c (.sl sp n cap)] false [.c .bool] h fun r h' => ∃ post, (r = (true, ()) ∧ post = [BaC hI]) ∧ St h G post h' := by
  apply hc_laws_FnSSorted
  unfold M_laws_FnSSorted
  have hn : n = xs.length := hx.1
  have hsl := setO_len xs
  have hyl := yO_len (setO xs)
  have S := St.start hG
  by_cases hbig : n > 2147483647
  · exact w_true (decide_eq_true (by omega)) (rt_1 rfl ⟨_, ⟨rfl, rfl⟩, S⟩)
  refine w_false (decide_eq_false (by omega)) ?_
  refine st_callT S [.ck (BaC hI)] (fun G hG => c_CloneInts hx (by omega) hG) ?_
  rintro _ _ _ ⟨s0, rfl, hs0, rfl⟩ S
  dsimp only [List.cons_append, List.nil_append] at S
  refine st_callT S [.sl s0] (fun G hG => c_SortInts hs0 (by omega) hG) ?_
  rintro _ _ _ rfl S
  dsimp only [List.cons_append, List.nil_append] at S
  have hs1 : OwnL LN s0 (sortI xs) := ⟨by rw [sortI_len]; exact hs0.1, hs0.2.1, hs0.2.2.imp (fun e => by rw [e]; exact List.mergeSort_nil) id⟩
  refine st_callT S [.sl s0] (fun G hG => c_CompactInts hs1 (by rw [sortI_len]; omega) hG) ?_
  rintro _ _ _ ⟨t, rfl, ht, rfl⟩ S
  dsimp only [List.cons_append, List.nil_append] at S
  rw [due_eq] at ht S
  have htn : t.2.1 = (yO (setO xs)).length := ht.1
  refine w_mid' none (fun (y : SV [.c .bool]) h' => y = (true, ()) ∧ St h G [BaC hI] h') ?_ (fun _ _ ⟨e, S⟩ => by subst e; exact rt_1 rfl ⟨_, ⟨rfl, rfl⟩, S⟩)
  refine st_callT S [.ck (BaC hI)] (fun G hG => c_SInsert hx (by omega) hG) ?_
  rintro _ _ _ ⟨s3, rfl, hs3, rfl⟩ S
  dsimp only [List.cons_append, List.nil_append] at S
  have S := S.only [.ck (BaC hI), .sl t, .sl s3]
  (have S := S.ats [.sl s3, .sl t]; refine st_callT (l := StC [SlC s3 LN.sz (LN.flat (yO (setO xs))), SlC t LN.sz (LN.flat (yO (setO xs)))] :: _) (St.st_in (m := [_, _]) S) [.ck (StC [SlC s3 LN.sz (LN.flat (yO (setO xs))), SlC t LN.sz (LN.flat (yO (setO xs)))])] (fun G hG => c_EqTwo hs3.rdr ht.rdr (by omega) hG) ?_)
  rintro _ _ _ ⟨rfl, rfl⟩ S
  dsimp only [List.cons_append, List.nil_append] at S
  have S := St.st_out S
  dsimp only [List.cons_append, List.nil_append] at S
  refine w_true rfl ?_
  refine st_callT S [.ck (BaC hI)] (fun G hG => c_SScan hx (by omega) hG) ?_
  rintro _ _ _ ⟨s5, rfl, hs5, rfl⟩ S
  dsimp only [List.cons_append, List.nil_append] at S
  have S := S.only [.ck (BaC hI), .sl t, .sl s5]
  (have S := S.ats [.sl s5, .sl t]; refine st_callT (l := StC [SlC s5 LN.sz (LN.flat (yO (setO xs))), SlC t LN.sz (LN.flat (yO (setO xs)))] :: _) (St.st_in (m := [_, _]) S) [.ck (StC [SlC s5 LN.sz (LN.flat (yO (setO xs))), SlC t LN.sz (LN.flat (yO (setO xs)))])] (fun G hG => c_EqTwo hs5.rdr ht.rdr (by omega) hG) ?_)
  rintro _ _ _ ⟨rfl, rfl⟩ S
  dsimp only [List.cons_append, List.nil_append] at S
  have S := St.st_out S
  dsimp only [List.cons_append, List.nil_append] at S
  refine w_true rfl ?_
  refine st_callT S [.ck (BaC hI)] (fun G hG => c_SReverse hx (by omega) hG) ?_
  rintro _ _ _ ⟨s7, rfl, hs7, rfl⟩ S
  dsimp only [List.cons_append, List.nil_append] at S
  have S := S.only [.ck (BaC hI), .sl t, .sl s7]
  refine st_callT S [.sl t] (fun G hG => c_turnedInts ht.rdr (by omega) hG) ?_
  rintro _ _ _ ⟨s8, rfl, hs8, rfl⟩ S
  dsimp only [List.cons_append, List.nil_append] at S
  have S := S.only [.ck (BaC hI), .sl t, .sl s7, .sl s8]
  (have S := S.ats [.sl s7, .sl s8]; refine st_callT (l := StC [SlC s7 LN.sz (LN.flat (yO (setO xs)).reverse), SlC s8 LN.sz (LN.flat (yO (setO xs)).reverse)] :: _) (St.st_in (m := [_, _]) S) [.ck (StC [SlC s7 LN.sz (LN.flat (yO (setO xs)).reverse), SlC s8 LN.sz (LN.flat (yO (setO xs)).reverse)])] (fun G hG => c_EqTwo hs7.rdr hs8.rdr (by rw [List.length_reverse]; omega) hG) ?_)
  rintro _ _ _ ⟨rfl, rfl⟩ S
  dsimp only [List.cons_append, List.nil_append] at S
  have S := St.st_out S
  dsimp only [List.cons_append, List.nil_append] at S
  refine w_true rfl ?_
  refine st_callT S [.ck (BaC hI)] (fun G hG => c_SLen hx (by omega) hG) ?_
  rintro _ _ _ ⟨rfl, rfl⟩ S
  dsimp only [List.cons_append, List.nil_append] at S
  refine w_true (beq_t (by show ((setO xs).length : Int) = (t.2.1 : Int); rw [htn, hyl])) ?_
  refine st_callT S [] (fun G hG => c_aliveS hG) ?_
  rintro _ _ _ ⟨rfl, rfl⟩ S
  dsimp only [List.cons_append, List.nil_append] at S
  exact md_n rfl ⟨rfl, S.only [.ck (BaC hI)]⟩
end
end Go.Proofs.Ytpbmahnieepmiaa
