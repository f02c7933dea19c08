/-
  The thin package: the items of a map; ends popped. Lists of truth values; a list turned. Conditions: none.
-/
import Derived.Test.YtkhpbcckaenmcaaLawMScan
import Derived.Test.YtkhpbcckaenmcaaPqmi
set_option linter.unusedVariables false
set_option linter.unusedSimpArgs false
set_option linter.unusedSectionVars false
set_option maxRecDepth 100000
namespace Go.Proofs.Ytkhpbcckaenmcaa
open Go

def M_impl_entries (a0 : PA) : M :=
  .alloc ty_sl_impl_Item [.sl none (0) (0)] fun n0 =>
  .call fn_impl_pairs [.c (.addr (n0, 0)), .c (.int .i64 (0))] false [.c (.raw)] fun r1 =>
  .call fn_mi_Scan [.c (.addr a0), .c (.raw (r1.fst))] true [] fun r2 =>
  .load (n0, 0) (.sl) fun s3 =>
  .done .ret [.c (.sl (s3.fst) (s3.snd.fst) (s3.snd.snd))]

theorem den_impl_entries (a0 : PA) : denFn Try.prog Try.f65 [.c (.addr a0)] = M_impl_entries a0 := by kernel_rfl
theorem hc_impl_entries (a0 : PA) {h : H} {R : Value → H → Prop} (hw : wp Try.prog (M_impl_entries a0) (Ret R) h) : HC Try.prog fn_impl_entries (List.map AV.val [.c (.addr a0)]).toArray h R :=
  den_calls hmix Try.func65 (of_decide_eq_true rfl) (by rw [den_impl_entries]; exact hw)

def M_impl_MPops (a0 : Int) (a1p : Option PA) (a1l : Nat) (a1c : Nat) (a2p : Option PA) (a2l : Nat) (a2c : Nat) : M :=
  .call fn_impl_growMap [.c (.int .i64 (a0)), .c (.sl (a1p) (a1l) (a1c))] false [.c (.ptr)] fun r0 =>
  .bind (some 0) (.loop [.c (.int .i64), .c (.sl)] [.c (.int .i64 (0)), .c (.sl none (0) (0))] fun y1 =>
      .ite (decide (y1.fst < (↑a2l : Int)))
      (.nonnil (a2p) fun p2 =>
        .guard (((0 : Int) ≤ y1.fst) ∧ ((y1.fst : Int) < (↑a2l : Int))) <|
        .load (p2.fst, p2.snd + Int.toNat y1.fst) (.bool) fun b3 =>
        .bind none (.ite (b3)
          (.call fn_mi_PopMax [.c (.ptr (r0.fst))] true [.c (.int .i64), .c (.int .i64), .c (.bool)] fun r4 =>
            .call fn_impl_pair [.c (.int .i64 (r4.fst)), .c (.int .i64 (r4.snd.fst)), .c (.bool (r4.snd.snd.fst))] false [.agg [.int .i64, .int .i64, .bool]] fun r5 =>
            .alloc ty_impl_Found [.int .i64 (r5.fst.fst), .int .i64 (r5.fst.snd.fst), .bool (r5.fst.snd.snd.fst)] fun n6 =>
            .append ty_impl_Found 3 24 [.int .i64 (0), .int .i64 (0), .ff] ((y1.snd.fst.fst), y1.snd.fst.snd.fst, y1.snd.fst.snd.snd) ((some (n6, 0)), 1, 1) fun s7 =>
            .done .normal [.c (.sl (s7.fst) (s7.snd.fst) (s7.snd.snd))])
          (.call fn_mi_PopMin [.c (.ptr (r0.fst))] true [.c (.int .i64), .c (.int .i64), .c (.bool)] fun r8 =>
            .call fn_impl_pair [.c (.int .i64 (r8.fst)), .c (.int .i64 (r8.snd.fst)), .c (.bool (r8.snd.snd.fst))] false [.agg [.int .i64, .int .i64, .bool]] fun r9 =>
            .alloc ty_impl_Found [.int .i64 (r9.fst.fst), .int .i64 (r9.fst.snd.fst), .bool (r9.fst.snd.snd.fst)] fun n10 =>
            .append ty_impl_Found 3 24 [.int .i64 (0), .int .i64 (0), .ff] ((y1.snd.fst.fst), y1.snd.fst.snd.fst, y1.snd.fst.snd.snd) ((some (n10, 0)), 1, 1) fun s11 =>
            .done .normal [.c (.sl (s11.fst) (s11.snd.fst) (s11.snd.snd))])) [.c (.sl)] fun x12 =>
        .guard (InK IntKind.i64 (y1.fst + 1)) <|
        .done .normal [.c (.int .i64 (y1.fst + 1)), .c (.sl (x12.fst.fst) (x12.fst.snd.fst) (x12.fst.snd.snd))])
      (.done (.exit 0) [.c (.sl (y1.snd.fst.fst) (y1.snd.fst.snd.fst) (y1.snd.fst.snd.snd))])) [.c (.sl)] fun x13 =>
  .call fn_impl_entries [.c (.ptr (r0.fst))] false [.c (.sl)] fun r14 =>
  .done .ret [.c (.sl (x13.fst.fst) (x13.fst.snd.fst) (x13.fst.snd.snd)), .c (.sl (r14.fst.fst) (r14.fst.snd.fst) (r14.fst.snd.snd))]

theorem den_impl_MPops (a0 : Int) (a1p : Option PA) (a1l : Nat) (a1c : Nat) (a2p : Option PA) (a2l : Nat) (a2c : Nat) : denFn Try.prog Try.f42 [.c (.int .i64 a0), .c (.sl a1p a1l a1c), .c (.sl a2p a2l a2c)] = M_impl_MPops a0 a1p a1l a1c a2p a2l a2c := by kernel_rfl
theorem hc_impl_MPops (a0 : Int) (a1p : Option PA) (a1l : Nat) (a1c : Nat) (a2p : Option PA) (a2l : Nat) (a2c : Nat) {h : H} {R : Value → H → Prop} (hw : wp Try.prog (M_impl_MPops a0 a1p a1l a1c a2p a2l a2c) (Ret R) h) : HC Try.prog fn_impl_MPops (List.map AV.val [.c (.int .i64 a0), .c (.sl a1p a1l a1c), .c (.sl a2p a2l a2c)]).toArray h R :=
  den_calls hmix Try.func42 (of_decide_eq_true rfl) (by rw [den_impl_MPops]; exact hw)


/-- A truth value in a cell. -/
def LB : Lay Bool where
  sz := 1
  cells b := [.bool b]
  len _ := rfl
  one _ _ hv := by simp at hv; subst hv; rfl
  pos := by decide
/-- What is popped, and what is left. -/
def popX (l : List IV) (b : Bool) : Option IV := if b then l.getLast? else l.head?
def popL (l : List IV) (b : Bool) : List IV := if b then l.dropLast else l.tail
def popsR (l : List IV) (bs : List Bool) : List IV := bs.foldl popL l
def popsF : List IV → List Bool → List (Option IV)
  | _, [] => []
  | l, b :: bs => popX l b :: popsF (popL l b) bs
theorem popsR_snoc (l : List IV) (bs : List Bool) (b : Bool) : popsR l (bs ++ [b]) = popL (popsR l bs) b := by simp [popsR]
theorem popsF_snoc : ∀ (l : List IV) (bs : List Bool) (b : Bool), popsF l (bs ++ [b]) = popsF l bs ++ [popX (popsR l bs) b]
  | l, [], b => rfl
  | l, a :: bs, b => by
    show popX l a :: popsF (popL l a) (bs ++ [b]) = _
    rw [popsF_snoc]; rfl
theorem popsF_len : ∀ (l : List IV) (bs : List Bool), (popsF l bs).length = bs.length
  | _, [] => rfl
  | l, b :: bs => by show (popsF (popL l b) bs).length + 1 = _; rw [popsF_len]; rfl
theorem popL_len (l : List IV) (b : Bool) : (popL l b).length ≤ l.length := by
  unfold popL
  split <;> simp
theorem popsR_len (l : List IV) (bs : List Bool) : (popsR l bs).length ≤ l.length := by
  induction bs generalizing l with
  | nil => exact Nat.le_refl _
  | cons b bs ih => exact Nat.le_trans (ih (popL l b)) (popL_len l b)

section
variable {P : Program} {Q : Ex → List AV → H → Prop} {h : H}
theorem w_bl {p : PA} {xs : List Bool} (hr : rds h p (LB.flat xs)) {i : Nat} {x : Bool} (hx : xs[i]? = some x) {m : Bool → M} (hw : wp P (m x) Q h) : wp P (.load (p.1, p.2 + i) .bool m) Q h := by
  refine w_bool x ?_ hw
  have := hr (i * 1 + 0) _ (LB.flat_get (j := 0) hx rfl)
  simpa using this
theorem firstO_all {I : Type} (xs : List I) : firstO xs 0 = xs := by unfold firstO; rw [if_pos (.inl (by decide))]
theorem c_entries {m : Nat} {dg : Nat} {l : List IV} (hl : l.length ≤ 2147483647) {G : PA → Prop} (hG : Star [MI.MpC 0 dg (m, 0) l] h G) :
    HT Try.prog fn_impl_entries [.c (.addr (m, 0))] false [.c .sl] h fun r h' => ∃ post, (∃ s : SlT, r = (s, ()) ∧ OwnL LT s l ∧ post = [SlC s LT.sz (LT.flat l)]) ∧ St h G post h' := by
  apply hc_impl_entries
  unfold M_impl_entries
  refine st_alloc (St.start hG) fun n0 _ S => ?_
  refine st_callT S [.ow (n0, 0)] (fun G hG => c_pairs hG) ?_
  rintro _ _ _ ⟨fp, f0, f1, rfl, rfl⟩ S
  dsimp only [List.cons_append, List.nil_append] at S
  refine st_callV S [.ck (PrC (n0, 0) fp f0 f1 0 []), .mp (m, 0)] (args' := [.c (.addr (m, 0)), .c (.raw (prF fp))]) rfl (fun G hG => MI.c_Scan (cb_pairs (n := 0)) (by simp; omega) hG) ?_
  rintro _ _ _ rfl S
  dsimp only [List.cons_append, List.nil_append] at S
  rw [run_first, firstO_all] at S
  obtain ⟨s, hs, S⟩ := open_pr S
  refine ld_sl S s.1 s.2.1 s.2.2 rfl ?_
  exact rt_1 rfl ⟨_, ⟨s, rfl, hs, rfl⟩, S.only [.sl s]⟩
theorem opR_f (f : Option IV) : (if (MI.opR f).2.2.1 then some ((MI.opR f).1, (MI.opR f).2.1) else none) = f := by
  cases f <;> rfl
set_option maxHeartbeats 1000000 in
theorem c_MPops {c : Ck} {d : Int} (hd : d ≤ 536870912) {xs : List IV} {sp : Option PA} {n cap : Nat} (hx : Rdr c (sp, n, cap) LT xs) (hxl : xs.length ≤ 2147483647) {bs : List Bool} {bp : Option PA} {bn bc : Nat} (hb : Rdr c (bp, bn, bc) LB bs) (hbl : bs.length ≤ 2147483648) {G : PA → Prop} (hG : Star [c] h G) :
    HT Try.prog fn_impl_MPops [.c (.int .i64 d), .c (.sl sp n cap), .c (.sl bp bn bc)] true [.c .sl, .c .sl] h fun r h' => ∃ post, (∃ s s2 : SlT, r = (s, s2, ()) ∧ OwnL LF s (popsF (treeO [] xs) bs) ∧ OwnL LT s2 (popsR (treeO [] xs) bs) ∧
      post = [c, SlC s LF.sz (LF.flat (popsF (treeO [] xs) bs)), SlC s2 LT.sz (LT.flat (popsR (treeO [] xs) bs))]) ∧ St h G post h' := by
  apply hc_impl_MPops
  unfold M_impl_MPops
  have hn : bn = bs.length := hb.1
  have htl := treeO_len [] xs
  have S := St.start hG
  refine st_callT S [.ck c] (fun G hG => c_growMap hd hx hxl hG) ?_
  rintro _ _ _ ⟨m, rfl, rfl⟩ S
  dsimp only [List.cons_append, List.nil_append] at S
  have S := sl_nil LF S
  refine w_mid' (some 0) (fun (y : SV [.c .sl]) h' => ∃ s : SlT, y = (s, ()) ∧ OwnL LF s (popsF (treeO [] xs) bs) ∧ St h G [c, MI.MpC 0 (MI.dgOf d) (m, 0) (popsR (treeO [] xs) bs), SlC s LF.sz (LF.flat (popsF (treeO [] xs) bs))] h') ?_ ?_
  · refine w_lp (fun r y h' => ∃ (i : Nat) (s : SlT), y = ((i : Int), s, ()) ∧ i + r = bn ∧ OwnL LF s (popsF (treeO [] xs) (bs.take i)) ∧ St h G [c, MI.MpC 0 (MI.dgOf d) (m, 0) (popsR (treeO [] xs) (bs.take i)), SlC s LF.sz (LF.flat (popsF (treeO [] xs) (bs.take i)))] h') bn rfl
      ⟨0, (none, 0, 0), rfl, by omega, ⟨rfl, Nat.le_refl _, .inl rfl⟩, S.only [.ck c, .mp (m, 0), .sl (none, 0, 0)]⟩ ?_
    clear S
    rintro r _ _ ⟨i, s, rfl, hi, hs, S⟩
    by_cases hlt : i < bn
    · obtain ⟨p, hp, hro⟩ := hb.ptr (by omega)
      dsimp only at hp
      subst hp
      have hxi := List.getElem?_eq_getElem (show i < bs.length by omega)
      have hsl : (popsF (treeO [] xs) (bs.take i)).length = i := by rw [popsF_len, List.length_take]; omega
      have hrl := popsR_len (treeO [] xs) (bs.take i)
      obtain ⟨s1, s2, s3⟩ := s
      simp only [Int.toNat_natCast, toNat_succ, toNat_succ2, toNat_pred]
      refine w_true (lt_t (by (first | omega | ((try dsimp only [Sh.T, Sh1.T]); omega)))) (w_nonnil (w_guard ⟨by (first | omega | ((try dsimp only [Sh.T, Sh1.T]); omega)), by (first | omega | ((try dsimp only [Sh.T, Sh1.T]); omega))⟩ ?_))
      refine w_bl (S.rdr hro) hxi ?_
      refine w_mid' none (fun (y : SV [.c .sl]) h' => ∃ s : SlT, y = (s, ()) ∧ OwnL LF s (popsF (treeO [] xs) (bs.take (i + 1))) ∧ St h G [c, MI.MpC 0 (MI.dgOf d) (m, 0) (popsR (treeO [] xs) (bs.take (i + 1))), SlC s LF.sz (LF.flat (popsF (treeO [] xs) (bs.take (i + 1))))] h') ?_ ?_
      · rw [take_snoc (show i < bs.length by omega), popsF_snoc, popsR_snoc]
        generalize bs[i] = e at *
        cases e with
        | true =>
          refine w_true rfl ?_
          refine st_callV S [.mp (m, 0)] (args' := [.c (.addr (m, 0))]) rfl (fun G hG => MI.c_PopMax (by omega) hG) ?_
          rintro _ _ _ ⟨rfl, rfl⟩ S
          dsimp only [List.cons_append, List.nil_append] at S
          refine st_callT S [] (fun G hG => c_pair hG) ?_
          rintro _ _ _ ⟨rfl, rfl⟩ S
          rw [opR_f]
          dsimp only [List.cons_append, List.nil_append] at S
          refine st_alloc S fun n6 _ S => ?_
          refine st_apo (L := LF) (xs := popsF (treeO [] xs) (bs.take i)) (y := (popsR (treeO [] xs) (bs.take i)).getLast?) S hs rfl rfl (S.rsl (LF.flat [_]) 1 1 3 (fun i v h => by rw [Nat.zero_add]; exact h) rfl) ⟨by omega, by omega⟩ fun s' _ hs' S => ?_
          exact md_n rfl ⟨s', rfl, hs', S.only [.ck c, .mp (m, 0), .sl s']⟩
        | false =>
          refine w_false rfl ?_
          refine st_callV S [.mp (m, 0)] (args' := [.c (.addr (m, 0))]) rfl (fun G hG => MI.c_PopMin (by omega) hG) ?_
          rintro _ _ _ ⟨rfl, rfl⟩ S
          dsimp only [List.cons_append, List.nil_append] at S
          refine st_callT S [] (fun G hG => c_pair hG) ?_
          rintro _ _ _ ⟨rfl, rfl⟩ S
          rw [opR_f]
          dsimp only [List.cons_append, List.nil_append] at S
          refine st_alloc S fun n6 _ S => ?_
          refine st_apo (L := LF) (xs := popsF (treeO [] xs) (bs.take i)) (y := (popsR (treeO [] xs) (bs.take i)).head?) S hs rfl rfl (S.rsl (LF.flat [_]) 1 1 3 (fun i v h => by rw [Nat.zero_add]; exact h) rfl) ⟨by omega, by omega⟩ fun s' _ hs' S => ?_
          exact md_n rfl ⟨s', rfl, hs', S.only [.ck c, .mp (m, 0), .sl s']⟩
      · rintro _ _ ⟨s', rfl, hs', S⟩
        refine w_guard (inK64 (by (first | omega | ((try dsimp only [Sh.T, Sh1.T]); omega))) (by (first | omega | ((try dsimp only [Sh.T, Sh1.T]); omega)))) ?_
        exact ln_n rfl (r - 1) ⟨i + 1, s', rfl, by omega, hs', S⟩ (by omega)
    · rw [List.take_of_length_le (by omega)] at hs S
      exact w_false (lt_f (by (first | omega | ((try dsimp only [Sh.T, Sh1.T]); omega)))) (ln_e (md_e rfl ⟨s, rfl, hs, S⟩))
  · rintro _ _ ⟨s, rfl, hs, S⟩
    have hrl := popsR_len (treeO [] xs) bs
    refine st_callV S [.mp (m, 0)] (args' := [.c (.addr (m, 0))]) rfl (fun G hG => c_entries (by omega) hG) ?_
    rintro _ _ _ ⟨s2, rfl, hs2, rfl⟩ S
    dsimp only [List.cons_append, List.nil_append] at S
    exact rt_n rfl rfl ⟨_, ⟨s, s2, rfl, hs, hs2, rfl⟩, S.only [.ck c, .sl s, .sl s2]⟩
end
end Go.Proofs.Ytkhpbcckaenmcaa
