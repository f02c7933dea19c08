/-
  The reference: items deleted at indices. Conditions: none.
-/
import Derived.Test.YtpbmahnieepmiaaTd
import Derived.Test.YtpbmahnieepmiaaGc
set_option linter.unusedVariables false
set_option linter.unusedSimpArgs false
set_option linter.unusedSectionVars false
set_option maxRecDepth 100000
namespace Go.Proofs.Ytpbmahnieepmiaa
open Go
def M_spec_GDeleteAt (a00p : Option PA) (a00l : Nat) (a00c : Nat) (a01 : Int) (a02 : Bool) (a1p : Option PA) (a1l : Nat) (a1c : Nat) (a2p : Option PA) (a2l : Nat) (a2c : Nat) : M :=
  .alloc ty_impl_Make [.sl (a00p) (a00l) (a00c), .int .i64 (a01), .bool (a02)] fun n0 =>
  .load (n0, 0) (.sl) fun s1 =>
  .call fn_spec_Tree [.c (.sl (s1.fst) (s1.snd.fst) (s1.snd.snd)), .c (.sl (a1p) (a1l) (a1c))] false [.c (.sl)] fun r2 =>
  .bind (some 0) (.loop [.c (.int .i64), .c (.sl), .c (.sl)] [.c (.int .i64 (0)), .c (.sl none (0) (0)), .c (.sl (r2.fst.fst) (r2.fst.snd.fst) (r2.fst.snd.snd))] fun y3 =>
      .ite (decide (y3.fst < (↑a2l : Int)))
      (.nonnil (a2p) fun p4 =>
        .guard (((0 : Int) ≤ y3.fst) ∧ ((y3.fst : Int) < (↑a2l : Int))) <|
        .load (p4.fst, p4.snd + Int.toNat y3.fst) (.int .i64) fun i5 =>
        .alloc ty_impl_Found [.int .i64 (0), .int .i64 (0), .ff] fun n6 =>
        .call fn_spec_Cut [.c (.sl (y3.snd.snd.fst.fst) (y3.snd.snd.fst.snd.fst) (y3.snd.snd.fst.snd.snd)), .c (.int .i64 (i5))] true [.c (.sl), .agg [.int .i64, .int .i64, .bool]] fun r7 =>
        .store (n6, 0) (.int .i64 (r7.snd.fst.fst)) <|
        .store (n6, 1) (.int .i64 (r7.snd.fst.snd.fst)) <|
        .store (n6, 2) (.bool (r7.snd.fst.snd.snd.fst)) <|
        .load (n6, 0) (.int .i64) fun i8 =>
        .load (n6, 1) (.int .i64) fun i9 =>
        .load (n6, 2) (.bool) fun b10 =>
        .alloc ty_impl_Found [.int .i64 (i8), .int .i64 (i9), .bool (b10)] fun n11 =>
        .append ty_impl_Found 3 24 [.int .i64 (0), .int .i64 (0), .ff] ((y3.snd.fst.fst), y3.snd.fst.snd.fst, y3.snd.fst.snd.snd) ((some (n11, 0)), 1, 1) fun s12 =>
        .guard (InK IntKind.i64 (y3.fst + 1)) <|
        .done .normal [.c (.int .i64 (y3.fst + 1)), .c (.sl (s12.fst) (s12.snd.fst) (s12.snd.snd)), .c (.sl (r7.fst.fst) (r7.fst.snd.fst) (r7.fst.snd.snd))])
      (.done (.exit 0) [.c (.sl (y3.snd.fst.fst) (y3.snd.fst.snd.fst) (y3.snd.fst.snd.snd)), .c (.sl (y3.snd.snd.fst.fst) (y3.snd.snd.fst.snd.fst) (y3.snd.snd.fst.snd.snd))])) [.c (.sl), .c (.sl)] fun x13 =>
  .done .ret [.c (.sl (x13.fst.fst) (x13.fst.snd.fst) (x13.fst.snd.snd)), .c (.sl (x13.snd.fst.fst) (x13.snd.fst.snd.fst) (x13.snd.fst.snd.snd))]
theorem den_spec_GDeleteAt (a00p : Option PA) (a00l : Nat) (a00c : Nat) (a01 : Int) (a02 : Bool) (a1p : Option PA) (a1l : Nat) (a1c : Nat) (a2p : Option PA) (a2l : Nat) (a2c : Nat) : denFn Try.prog Try.f36 [.agg [.sl a00p a00l a00c, .int .i64 a01, .bool a02], .c (.sl a1p a1l a1c), .c (.sl a2p a2l a2c)] = M_spec_GDeleteAt a00p a00l a00c a01 a02 a1p a1l a1c a2p a2l a2c := by kernel_rfl
theorem hc_spec_GDeleteAt (a00p : Option PA) (a00l : Nat) (a00c : Nat) (a01 : Int) (a02 : Bool) (a1p : Option PA) (a1l : Nat) (a1c : Nat) (a2p : Option PA) (a2l : Nat) (a2c : Nat) {h : H} {R : Value → H → Prop} (hw : wp Try.prog (M_spec_GDeleteAt a00p a00l a00c a01 a02 a1p a1l a1c a2p a2l a2c) (Ret R) h) : HC Try.prog fn_spec_GDeleteAt (List.map AV.val [.agg [.sl a00p a00l a00c, .int .i64 a01, .bool a02], .c (.sl a1p a1l a1c), .c (.sl a2p a2l a2c)]).toArray h R :=
  den_calls hmix Try.func36 (of_decide_eq_true rfl) (by rw [den_spec_GDeleteAt]; exact hw)
def M_laws_exPlaces  : M :=
  .alloc ty_int [.int .i64 (0), .int .i64 (2), .int .i64 (5), .int .i64 (-1), .int .i64 (100)] fun n0 =>
  .done .ret [.c (.sl (some (n0, 0)) (5) (5))]
theorem den_laws_exPlaces  : denFn Try.prog Try.f18 [] = M_laws_exPlaces  := by kernel_rfl
theorem hc_laws_exPlaces  {h : H} {R : Value → H → Prop} (hw : wp Try.prog (M_laws_exPlaces ) (Ret R) h) : HC Try.prog fn_laws_exPlaces (List.map AV.val []).toArray h R :=
  den_calls hmix Try.func18 (of_decide_eq_true rfl) (by rw [den_laws_exPlaces]; exact hw)
def atZ (l : List IV) (i : Int) : Option IV := if i < 0 then none else l[i.toNat]?
def cutZ (l : List IV) (i : Int) : List IV := if i < 0 then l else l.eraseIdx i.toNat
def cutsR (l : List IV) (is : List Int) : List IV := is.foldl cutZ l
def cutsF : List IV → List Int → List (Option IV)
  | _, [] => []
  | l, i :: is => atZ l i :: cutsF (cutZ l i) is
theorem cutsR_snoc (l : List IV) (is : List Int) (i : Int) : cutsR l (is ++ [i]) = cutZ (cutsR l is) i := by simp [cutsR]
theorem cutsF_snoc : ∀ (l : List IV) (is : List Int) (i : Int), cutsF l (is ++ [i]) = cutsF l is ++ [atZ (cutsR l is) i]
  | l, [], b => rfl
  | l, a :: bs, b => by
    show atZ l a :: cutsF (cutZ l a) (bs ++ [b]) = _
    rw [cutsF_snoc]; rfl
theorem cutsF_len : ∀ (l : List IV) (bs : List Int), (cutsF l bs).length = bs.length
  | _, [] => rfl
  | l, b :: bs => by show (cutsF (cutZ l b) bs).length + 1 = _; rw [cutsF_len]; rfl
theorem cutZ_len (l : List IV) (i : Int) : (cutZ l i).length ≤ l.length := by
  unfold cutZ
  split
  · exact Nat.le_refl _
  · exact List.length_eraseIdx_le l _
theorem cutsR_len (l : List IV) (bs : List Int) : (cutsR l bs).length ≤ l.length := by
  induction bs generalizing l with
  | nil => exact Nat.le_refl _
  | cons b bs ih => exact Nat.le_trans (ih (cutZ l b)) (cutZ_len l b)
section
variable {h : H}
theorem atZ_out {l : List IV} {i : Int} (h : i < 0 ∨ (l.length : Int) ≤ i) : atZ l i = none ∧ cutZ l i = l := by
  unfold atZ cutZ
  by_cases hi : i < 0
  · rw [if_pos hi, if_pos hi]; exact ⟨rfl, rfl⟩
  · rw [if_neg hi, if_neg hi]
    have : l.length ≤ i.toNat := by omega
    exact ⟨List.getElem?_eq_none this, List.eraseIdx_of_length_le this⟩
set_option maxHeartbeats 1000000 in
theorem c_GDeleteAt {c : Ck} {o : List Int} {op : Option PA} {on oc : Nat} (hr : Rdr c (op, on, oc) LN o) (hl : o.length ≤ 2147483647) {xs : List IV} {sp : Option PA} {n cap : Nat} (hx : Rdr c (sp, n, cap) LT xs) (hxl : xs.length ≤ 2147483647) {dg : Int} {nl : Bool} {bs : List Int} {bp : Option PA} {bn bc : Nat} (hb : Rdr c (bp, bn, bc) LN bs) (hbl : bs.length ≤ 2147483648) {G : PA → Prop} (hG : Star [c] h G) :
    HT Try.prog fn_spec_GDeleteAt [.agg [.sl op on oc, .int .i64 dg, .bool nl], .c (.sl sp n cap), .c (.sl bp bn bc)] true [.c .sl, .c .sl] h fun r h' => ∃ post, (∃ s s2 : SlT, r = (s, s2, ()) ∧ OwnL LF s (cutsF (treeO o xs) bs) ∧ OwnL LT s2 (cutsR (treeO o xs) bs) ∧
      post = [c, SlC s LF.sz (LF.flat (cutsF (treeO o xs) bs)), SlC s2 LT.sz (LT.flat (cutsR (treeO o xs) bs))]) ∧ St h G post h' := by
  apply hc_spec_GDeleteAt
  unfold M_spec_GDeleteAt
  have hn : bn = bs.length := hb.1
  have htl := treeO_len o xs
  refine st_alloc (St.start hG) fun n0 _ S => ?_
  refine ld_sl S op on oc rfl ?_
  refine st_callT S [.ck c] (fun G hG => c_Tree hr hl hx (by omega) hG) ?_
  rintro _ _ _ ⟨t, rfl, ht, rfl⟩ S
  dsimp only [List.cons_append, List.nil_append] at S
  have S := sl_nil LF S
  refine w_mid' (some 0) (fun (y : SV [.c .sl, .c .sl]) h' => ∃ s s2 : SlT, y = (s, s2, ()) ∧ OwnL LF s (cutsF (treeO o xs) bs) ∧ OwnL LT s2 (cutsR (treeO o xs) bs) ∧ St h G [c, SlC s LF.sz (LF.flat (cutsF (treeO o xs) bs)), SlC s2 LT.sz (LT.flat (cutsR (treeO o xs) bs))] h') ?_
    (fun _ _ ⟨s, s2, e, h1, h2, S⟩ => by subst e; exact rt_n rfl rfl ⟨_, ⟨s, s2, rfl, h1, h2, rfl⟩, S⟩)
  refine w_lp (fun r y h' => ∃ (i : Nat) (s s2 : SlT), y = ((i : Int), s, s2, ()) ∧ i + r = bn ∧ OwnL LF s (cutsF (treeO o xs) (bs.take i)) ∧ OwnL LT s2 (cutsR (treeO o xs) (bs.take i)) ∧ St h G [c, SlC s LF.sz (LF.flat (cutsF (treeO o xs) (bs.take i))), SlC s2 LT.sz (LT.flat (cutsR (treeO o xs) (bs.take i)))] h') bn rfl
      ⟨0, (none, 0, 0), t, rfl, by omega, ⟨rfl, Nat.le_refl _, .inl rfl⟩, ht, S.only [.ck c, .sl (none, 0, 0), .sl t]⟩ ?_
  clear S
  rintro r _ _ ⟨i, s, t, rfl, hi, hs, ht, S⟩
  by_cases hlt : i < bn
  · obtain ⟨p, hp, hro⟩ := hb.ptr (by omega)
    dsimp only at hp
    subst hp
    have hxi := List.getElem?_eq_getElem (show i < bs.length by omega)
    have hsl : (cutsF (treeO o xs) (bs.take i)).length = i := by rw [cutsF_len, List.length_take]; omega
    have hrl := cutsR_len (treeO o xs) (bs.take i)
    obtain ⟨s1, s2, s3⟩ := s
    obtain ⟨t1, t2, t3⟩ := t
    have htn : t2 = (cutsR (treeO o xs) (bs.take i)).length := ht.1
    simp only [Int.toNat_natCast, toNat_succ, toNat_succ2, toNat_pred]
    refine w_true (lt_t (by (first | omega | ((try dsimp only [Sh.T, Sh1.T]); omega)))) ?_
    refine w_nonnil (w_guard ⟨by (first | omega | ((try dsimp only [Sh.T, Sh1.T]); omega)), by (first | omega | ((try dsimp only [Sh.T, Sh1.T]); omega))⟩ ?_)
    refine w_num (S.rdr hro) hxi ?_
    refine st_alloc S fun n6 _ S => ?_
    by_cases ho : bs[i] < 0 ∨ ((cutsR (treeO o xs) (bs.take i)).length : Int) ≤ bs[i]
    · obtain ⟨e1, e2⟩ := atZ_out ho
      refine st_callT S [.sl (t1, t2, t3)] (fun G hG => c_CutOut ht.rdr (by rcases ho with h | h; exact .inl h; exact .inr (by omega)) hG) ?_
      rintro _ _ _ ⟨rfl, rfl⟩ S
      dsimp only [List.cons_append, List.nil_append] at S
      refine st_store S (lt_ble rfl) fun _ S => ?_
      refine st_store S (lt_ble rfl) fun _ S => ?_
      refine st_store S (lt_ble rfl) fun _ S => ?_
      refine ld_int S rfl (ld_int S rfl (ld_bool S rfl ?_))
      refine st_alloc S fun n11 _ S => ?_
      refine st_apo (L := LF) (xs := cutsF (treeO o xs) (bs.take i)) (y := none) S hs rfl rfl (S.rsl (LF.flat [_]) 1 1 3 (fun i v h => by rw [Nat.zero_add]; exact h) rfl) ⟨by omega, by omega⟩ fun s' _ hs' S => ?_
      rw [← e1, ← cutsF_snoc, ← take_snoc (by omega)] at hs' S
      rw [← e2, ← cutsR_snoc, ← take_snoc (by omega)] at ht S
      refine w_guard (inK64 (by (first | omega | ((try dsimp only [Sh.T, Sh1.T]); omega))) (by (first | omega | ((try dsimp only [Sh.T, Sh1.T]); omega)))) ?_
      exact ln_n rfl (r - 1) ⟨i + 1, s', (t1, t2, t3), rfl, by omega, hs', ht, S.only [.ck c, .sl s', .sl (t1, t2, t3)]⟩ (by omega)
    · obtain ⟨j, hj⟩ : ∃ j : Nat, bs[i] = (j : Int) := ⟨bs[i].toNat, by omega⟩
      rw [hj] at ho ⊢
      have hjx := List.getElem?_eq_getElem (show j < (cutsR (treeO o xs) (bs.take i)).length by omega)
      refine st_callT S [.sl (t1, t2, t3)] (fun G hG => c_CutIn ht.rdr (by omega) hjx hG) ?_
      rintro _ _ _ ⟨t', rfl, ht', rfl⟩ S
      dsimp only [List.cons_append, List.nil_append] at S
      have e1 : atZ (cutsR (treeO o xs) (bs.take i)) bs[i] = some (cutsR (treeO o xs) (bs.take i))[j] := by
        unfold atZ; rw [hj, if_neg (by omega), Int.toNat_natCast, hjx]
      have e2 : cutZ (cutsR (treeO o xs) (bs.take i)) bs[i] = (cutsR (treeO o xs) (bs.take i)).eraseIdx j := by
        unfold cutZ; rw [hj, if_neg (by omega), Int.toNat_natCast]
      refine st_store S (lt_ble rfl) fun _ S => ?_
      refine st_store S (lt_ble rfl) fun _ S => ?_
      refine st_store S (lt_ble rfl) fun _ S => ?_
      refine ld_int S rfl (ld_int S rfl (ld_bool S rfl ?_))
      refine st_alloc S fun n11 _ S => ?_
      refine st_apo (L := LF) (xs := cutsF (treeO o xs) (bs.take i)) (y := some (cutsR (treeO o xs) (bs.take i))[j]) S hs rfl rfl (S.rsl (LF.flat [_]) 1 1 3 (fun i v h => by rw [Nat.zero_add]; exact h) rfl) ⟨by omega, by omega⟩ fun s' _ hs' S => ?_
      have S := S.only [.ck c, .sl s', .sl t']
      rw [← e1, ← cutsF_snoc, ← take_snoc (by omega)] at hs' S
      rw [← e2, ← cutsR_snoc, ← take_snoc (by omega)] at ht' S
      refine w_guard (inK64 (by (first | omega | ((try dsimp only [Sh.T, Sh1.T]); omega))) (by (first | omega | ((try dsimp only [Sh.T, Sh1.T]); omega)))) ?_
      exact ln_n rfl (r - 1) ⟨i + 1, s', t', rfl, by omega, hs', ht', S⟩ (by omega)
  · rw [List.take_of_length_le (by omega)] at hs ht S
    exact w_false (lt_f (by (first | omega | ((try dsimp only [Sh.T, Sh1.T]); omega)))) (ln_e (md_e rfl ⟨s, t, rfl, hs, ht, S⟩))
theorem c_exPlaces {G : PA → Prop} (hG : Star [] h G) : HT Try.prog fn_laws_exPlaces [] false [.c .sl] h fun r h' => ∃ post, (∃ n : Nat, r = ((some (n, 0), 5, 5), ()) ∧ post = [Ow (n, 0) (LN.flat [0, 2, 5, -1, 100]) 0]) ∧ St h G post h' := by
  apply hc_laws_exPlaces
  unfold M_laws_exPlaces
  refine st_alloc (St.start hG) fun n _ S => ?_
  exact rt_1 rfl ⟨_, ⟨n, rfl, rfl⟩, S⟩
end
end Go.Proofs.Ytpbmahnieepmiaa
