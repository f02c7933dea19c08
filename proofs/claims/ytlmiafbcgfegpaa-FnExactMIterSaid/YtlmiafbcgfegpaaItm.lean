/-
  The reference's iterator: moves, what they find, and which of it is told; lists of what was found compared where it is told. Conditions: none.
-/
import Derived.Test.YtlmiafbcgfegpaaTk
import Derived.Test.YtlmiafbcgfegpaaGc
set_option linter.unusedVariables false
set_option linter.unusedSimpArgs false
set_option linter.unusedSectionVars false
set_option maxRecDepth 100000
namespace Go.Proofs.Ytlmiafbcgfegpaa
open Go
def M_spec_Iter (a0p : Option PA) (a0l : Nat) (a0c : Nat) (a1p : Option PA) (a1l : Nat) (a1c : Nat) (a2p : Option PA) (a2l : Nat) (a2c : Nat) : M :=
  .bind (some 0) (.loop [.c (.int .i64), .c (.sl), .c (.sl), .c (.int .i64)] [.c (.int .i64 (0)), .c (.sl none (0) (0)), .c (.sl none (0) (0)), .c (.int .i64 (-1))] fun y0 =>
      .ite (decide (y0.fst < (↑a2l : Int)))
      (.nonnil (a2p) fun p1 =>
        .guard (((0 : Int) ≤ y0.fst) ∧ ((y0.fst : Int) < (↑a2l : Int))) <|
        .load (p1.fst, p1.snd + mulN (Int.toNat y0.fst) 3) (.int .i64) fun i2 =>
        .load (p1.fst, p1.snd + mulN (Int.toNat y0.fst) 3 + 1) (.int .i64) fun i3 =>
        .load (p1.fst, p1.snd + mulN (Int.toNat y0.fst) 3 + 2) (.int .i64) fun i4 =>
        .alloc ty_impl_Move [.int .i64 (0), .int .i64 (0), .int .i64 (0)] fun n5 =>
        .store (n5, 0) (.int .i64 (i2)) <|
        .store (n5, 1) (.int .i64 (i3)) <|
        .store (n5, 2) (.int .i64 (i4)) <|
        .load (n5, 0) (.int .i64) fun i6 =>
        .bind none (.ite (i6 == 2)
          (.done .normal [.c (.bool (i6 == 2))])
          (.done .normal [.c (.bool (i6 == 3))])) [.c (.bool)] fun x7 =>
        .bind none (.ite (x7.fst)
          (.bind none (.ite (decide (y0.snd.snd.snd.fst ≥ 0))
              (.done .normal [.c (.tt)])
              (.done .normal [.c (.bool ((↑a1l : Int) == 0))])) [.c (.bool)] fun x8 =>
            .bind none (.ite (decide (y0.snd.snd.snd.fst ≥ 0))
              (.load (n5, 0) (.int .i64) fun i9 =>
                .done .normal [.c (.bool (i9 == 2))])
              (.done .normal [.c (.ff)])) [.c (.bool)] fun x10 =>
            .bind none (.ite (x10.fst)
              (.guard (InK IntKind.i64 (y0.snd.snd.snd.fst + 1)) <|
                .done .normal [.c (.int .i64 (y0.snd.snd.snd.fst + 1))])
              (.bind none (.ite (decide (y0.snd.snd.snd.fst ≥ 0))
                  (.guard (InK IntKind.i64 (y0.snd.snd.snd.fst - 1)) <|
                    .done .normal [.c (.int .i64 (y0.snd.snd.snd.fst - 1))])
                  (.done .normal [.c (.int .i64 (y0.snd.snd.snd.fst))])) [.c (.int .i64)] fun x11 =>
                .done .normal [.c (.int .i64 (x11.fst))])) [.c (.int .i64)] fun x12 =>
            .done .normal [.c (.int .i64 (x12.fst)), .c (.bool (x8.fst))])
          (.bind none (.ite (i6 == 1)
              (.guard (InK IntKind.i64 ((↑a1l : Int) - 1)) <|
                .done .normal [.c (.int .i64 ((↑a1l : Int) - 1))])
              (.bind none (.ite (i6 == 4)
                  (.done .normal [.c (.bool (i6 == 4))])
                  (.done .normal [.c (.bool (i6 == 5))])) [.c (.bool)] fun x13 =>
                .bind none (.ite (x13.fst)
                  (.load (n5, 1) (.int .i64) fun i14 =>
                    .load (n5, 2) (.int .i64) fun i15 =>
                    .call fn_spec_Place [.c (.sl (a0p) (a0l) (a0c)), .c (.sl (a1p) (a1l) (a1c)), .agg [.int .i64 (i14), .int .i64 (i15)]] true [.c (.int .i64), .c (.bool)] fun r16 =>
                    .done .normal [.c (.int .i64 (r16.fst))])
                  (.done .normal [.c (.int .i64 (0))])) [.c (.int .i64)] fun x17 =>
                .done .normal [.c (.int .i64 (x17.fst))])) [.c (.int .i64)] fun x18 =>
            .done .normal [.c (.int .i64 (x18.fst)), .c (.tt)])) [.c (.int .i64), .c (.bool)] fun x19 =>
        .call fn_spec_At [.c (.sl (a1p) (a1l) (a1c)), .c (.int .i64 (x19.fst))] false [.agg [.int .i64, .int .i64, .bool]] fun r20 =>
        .alloc ty_impl_Found [.int .i64 (0), .int .i64 (0), .ff] fun n21 =>
        .store (n21, 0) (.int .i64 (r20.fst.fst)) <|
        .store (n21, 1) (.int .i64 (r20.fst.snd.fst)) <|
        .store (n21, 2) (.bool (r20.fst.snd.snd.fst)) <|
        .load (n21, 2) (.bool) fun b22 =>
        .bind none (.ite (!b22)
          (.done .normal [.c (.int .i64 (-1))])
          (.done .normal [.c (.int .i64 (x19.fst))])) [.c (.int .i64)] fun x23 =>
        .load (n21, 0) (.int .i64) fun i24 =>
        .load (n21, 1) (.int .i64) fun i25 =>
        .load (n21, 2) (.bool) fun b26 =>
        .alloc ty_impl_Found [.int .i64 (i24), .int .i64 (i25), .bool (b26)] fun n27 =>
        .append ty_impl_Found 3 24 [.int .i64 (0), .int .i64 (0), .ff] ((y0.snd.snd.fst.fst), y0.snd.snd.fst.snd.fst, y0.snd.snd.fst.snd.snd) ((some (n27, 0)), 1, 1) fun s28 =>
        .alloc ty_bool [.bool (x19.snd.fst)] fun n29 =>
        .append ty_bool 1 1 [.ff] ((y0.snd.fst.fst), y0.snd.fst.snd.fst, y0.snd.fst.snd.snd) ((some (n29, 0)), 1, 1) fun s30 =>
        .guard (InK IntKind.i64 (y0.fst + 1)) <|
        .done .normal [.c (.int .i64 (y0.fst + 1)), .c (.sl (s30.fst) (s30.snd.fst) (s30.snd.snd)), .c (.sl (s28.fst) (s28.snd.fst) (s28.snd.snd)), .c (.int .i64 (x23.fst))])
      (.done (.exit 0) [.c (.sl (y0.snd.fst.fst) (y0.snd.fst.snd.fst) (y0.snd.fst.snd.snd)), .c (.sl (y0.snd.snd.fst.fst) (y0.snd.snd.fst.snd.fst) (y0.snd.snd.fst.snd.snd))])) [.c (.sl), .c (.sl)] fun x31 =>
  .done .ret [.c (.sl (x31.snd.fst.fst) (x31.snd.fst.snd.fst) (x31.snd.fst.snd.snd)), .c (.sl (x31.fst.fst) (x31.fst.snd.fst) (x31.fst.snd.snd))]
theorem den_spec_Iter (a0p : Option PA) (a0l : Nat) (a0c : Nat) (a1p : Option PA) (a1l : Nat) (a1c : Nat) (a2p : Option PA) (a2l : Nat) (a2c : Nat) : denFn Try.prog Try.f43 [.c (.sl a0p a0l a0c), .c (.sl a1p a1l a1c), .c (.sl a2p a2l a2c)] = M_spec_Iter a0p a0l a0c a1p a1l a1c a2p a2l a2c := by kernel_rfl
theorem hc_spec_Iter (a0p : Option PA) (a0l : Nat) (a0c : Nat) (a1p : Option PA) (a1l : Nat) (a1c : Nat) (a2p : Option PA) (a2l : Nat) (a2c : Nat) {h : H} {R : Value → H → Prop} (hw : wp Try.prog (M_spec_Iter a0p a0l a0c a1p a1l a1c a2p a2l a2c) (Ret R) h) : HC Try.prog fn_spec_Iter (List.map AV.val [.c (.sl a0p a0l a0c), .c (.sl a1p a1l a1c), .c (.sl a2p a2l a2c)]).toArray h R :=
  den_calls hmix Try.func43 (of_decide_eq_true rfl) (by rw [den_spec_Iter]; exact hw)
def M_laws_sameMoves (a0p : Option PA) (a0l : Nat) (a0c : Nat) (a1p : Option PA) (a1l : Nat) (a1c : Nat) (a2p : Option PA) (a2l : Nat) (a2c : Nat) : M :=
  .ite ((↑a0l : Int) != (↑a1l : Int))
  (.done .ret [.c (.ff)])
  (.bind (some 0) (.loop [.c (.int .i64)] [.c (.int .i64 (0))] fun y0 =>
        .ite (decide (y0.fst < (↑a0l : Int)))
        (.bind none (.nonnil (a2p) fun p1 =>
            .guard (((0 : Int) ≤ y0.fst) ∧ ((y0.fst : Int) < (↑a2l : Int))) <|
            .load (p1.fst, p1.snd + Int.toNat y0.fst) (.bool) fun b2 =>
            .ite (b2)
            (.nonnil (a0p) fun p3 =>
              .guard (((0 : Int) ≤ y0.fst) ∧ ((y0.fst : Int) < (↑a0l : Int))) <|
              .load (p3.fst, p3.snd + mulN (Int.toNat y0.fst) 3) (.int .i64) fun i4 =>
              .load (p3.fst, p3.snd + mulN (Int.toNat y0.fst) 3 + 1) (.int .i64) fun i5 =>
              .load (p3.fst, p3.snd + mulN (Int.toNat y0.fst) 3 + 2) (.bool) fun b6 =>
              .nonnil (a1p) fun p7 =>
              .guard (((0 : Int) ≤ y0.fst) ∧ ((y0.fst : Int) < (↑a1l : Int))) <|
              .load (p7.fst, p7.snd + mulN (Int.toNat y0.fst) 3) (.int .i64) fun i8 =>
              .load (p7.fst, p7.snd + mulN (Int.toNat y0.fst) 3 + 1) (.int .i64) fun i9 =>
              .load (p7.fst, p7.snd + mulN (Int.toNat y0.fst) 3 + 2) (.bool) fun b10 =>
              .done .normal [.c (.bool (!(i4 == i8 && (i5 == i9 && true) && (b6 == b10 && true))))])
            (.done .normal [.c (.ff)])) [.c (.bool)] fun x11 =>
          .ite (x11.fst)
          (.done .ret [.c (.ff)])
          (.guard (InK IntKind.i64 (y0.fst + 1)) <|
            .done .normal [.c (.int .i64 (y0.fst + 1))]))
        (.done (.exit 0) [])) [] fun x12 =>
    .done .ret [.c (.tt)])
theorem den_laws_sameMoves (a0p : Option PA) (a0l : Nat) (a0c : Nat) (a1p : Option PA) (a1l : Nat) (a1c : Nat) (a2p : Option PA) (a2l : Nat) (a2c : Nat) : denFn Try.prog Try.f44 [.c (.sl a0p a0l a0c), .c (.sl a1p a1l a1c), .c (.sl a2p a2l a2c)] = M_laws_sameMoves a0p a0l a0c a1p a1l a1c a2p a2l a2c := by kernel_rfl
theorem hc_laws_sameMoves (a0p : Option PA) (a0l : Nat) (a0c : Nat) (a1p : Option PA) (a1l : Nat) (a1c : Nat) (a2p : Option PA) (a2l : Nat) (a2c : Nat) {h : H} {R : Value → H → Prop} (hw : wp Try.prog (M_laws_sameMoves a0p a0l a0c a1p a1l a1c a2p a2l a2c) (Ret R) h) : HC Try.prog fn_laws_sameMoves (List.map AV.val [.c (.sl a0p a0l a0c), .c (.sl a1p a1l a1c), .c (.sl a2p a2l a2c)]).toArray h R :=
  den_calls hmix Try.func44 (of_decide_eq_true rfl) (by rw [den_laws_sameMoves]; exact hw)
def M_laws_exMoves  : M :=
  .alloc ty_impl_Move [.int .i64 (1), .int .i64 (0), .int .i64 (0), .int .i64 (3), .int .i64 (0), .int .i64 (0), .int .i64 (4), .int .i64 (4), .int .i64 (0), .int .i64 (2), .int .i64 (0), .int .i64 (0), .int .i64 (5), .int .i64 (1), .int .i64 (0), .int .i64 (0), .int .i64 (0), .int .i64 (0)] fun n0 =>
  .done .ret [.c (.sl (some (n0, 0)) (6) (6))]
theorem den_laws_exMoves  : denFn Try.prog Try.f23 [] = M_laws_exMoves  := by kernel_rfl
theorem hc_laws_exMoves  {h : H} {R : Value → H → Prop} (hw : wp Try.prog (M_laws_exMoves ) (Ret R) h) : HC Try.prog fn_laws_exMoves (List.map AV.val []).toArray h R :=
  den_calls hmix Try.func23 (of_decide_eq_true rfl) (by rw [den_laws_exMoves]; exact hw)
def LD : Lay Bool where
  sz := 1
  cells b := [.bool b]
  len _ := rfl
  one _ _ hv := by simp at hv; subst hv; rfl
  pos := by decide
abbrev MV := Int × IV
def LM : Lay MV where
  sz := 3
  cells x := [.int .i64 x.1, .int .i64 x.2.1, .int .i64 x.2.2]
  len _ := rfl
  one _ _ hv := by simp at hv; rcases hv with rfl | rfl | rfl <;> rfl
  pos := by decide
def mvTo (o : List Int) (l : List IV) (a : Int) (m : MV) : Int :=
  if m.1 = 2 ∨ m.1 = 3 then (if 0 ≤ a then (if m.1 = 2 then a + 1 else a - 1) else a) else if m.1 = 1 then (l.length : Int) - 1 else if m.1 = 4 ∨ m.1 = 5 then (pos (ltO o) l m.2 : Int) else 0
def mvKn (l : List IV) (a : Int) (m : MV) : Bool := if m.1 = 2 ∨ m.1 = 3 then (if 0 ≤ a then true else (l.length : Int) == 0) else true
def mvAt (o : List Int) (l : List IV) (a : Int) (m : MV) : Int := if (atO l (mvTo o l a m)).isSome then mvTo o l a m else -1
def itAt (o : List Int) (l : List IV) (ms : List MV) : Int := ms.foldl (mvAt o l) (-1)
def itF (o : List Int) (l : List IV) : Int → List MV → List (Option IV)
  | _, [] => []
  | a, m :: ms => atO l (mvTo o l a m) :: itF o l (mvAt o l a m) ms
def itK (o : List Int) (l : List IV) : Int → List MV → List Bool
  | _, [] => []
  | a, m :: ms => mvKn l a m :: itK o l (mvAt o l a m) ms
section
variable {o : List Int} {l : List IV}
theorem itAt_snoc (ms : List MV) (m : MV) : itAt o l (ms ++ [m]) = mvAt o l (itAt o l ms) m := by simp [itAt]
theorem itF_snoc : ∀ (ms : List MV) (a : Int) (m : MV), itF o l a (ms ++ [m]) = itF o l a ms ++ [atO l (mvTo o l (ms.foldl (mvAt o l) a) m)]
  | [], _, _ => rfl
  | x :: ms, a, m => by
    show atO l (mvTo o l a x) :: itF o l (mvAt o l a x) (ms ++ [m]) = _
    rw [itF_snoc ms]; rfl
theorem itK_snoc : ∀ (ms : List MV) (a : Int) (m : MV), itK o l a (ms ++ [m]) = itK o l a ms ++ [mvKn l (ms.foldl (mvAt o l) a) m]
  | [], _, _ => rfl
  | x :: ms, a, m => by
    show mvKn l a x :: itK o l (mvAt o l a x) (ms ++ [m]) = _
    rw [itK_snoc ms]; rfl
theorem itF_len : ∀ (ms : List MV) (a : Int), (itF o l a ms).length = ms.length
  | [], _ => rfl
  | x :: ms, a => by show (itF o l (mvAt o l a x) ms).length + 1 = _; rw [itF_len ms]; rfl
theorem itK_len : ∀ (ms : List MV) (a : Int), (itK o l a ms).length = ms.length
  | [], _ => rfl
  | x :: ms, a => by show (itK o l (mvAt o l a x) ms).length + 1 = _; rw [itK_len ms]; rfl
theorem atO_some {i : Int} {x : IV} (h : atO l i = some x) : 0 ≤ i ∧ i < l.length := by
  unfold atO at h
  split at h
  · cases h
  · have := (List.getElem?_eq_some_iff.1 h).1
    omega
theorem mvAt_bd (a : Int) (m : MV) : -1 ≤ mvAt o l a m ∧ mvAt o l a m < l.length ∨ mvAt o l a m = -1 := by
  unfold mvAt
  cases h : atO l (mvTo o l a m) with
  | none => right; rfl
  | some x => left; have := atO_some h; simp; omega
theorem itAt_bd (ms : List MV) : -1 ≤ itAt o l ms ∧ (itAt o l ms < l.length ∨ itAt o l ms = -1) := by
  rcases List.eq_nil_or_concat ms with rfl | ⟨ms, m, rfl⟩
  · exact ⟨Int.le_refl _, .inr rfl⟩
  · rw [List.concat_eq_append, itAt_snoc]
    rcases mvAt_bd (o := o) (l := l) (itAt o l ms) m with h | h <;> omega
end
section
variable {P : Program} {Q : Ex → List AV → H → Prop} {h : H}
theorem w_bd {p : PA} {xs : List Bool} (hr : rds h p (LD.flat xs)) {i : Nat} {x : Bool} (hx : xs[i]? = some x) {m : Bool → M} (hw : wp P (m x) Q h) : wp P (.load (p.1, p.2 + i) .bool m) Q h := by
  refine w_bool x ?_ hw
  have := hr (i * 1 + 0) _ (LD.flat_get (j := 0) hx rfl)
  simpa using this
theorem w_mv {p : PA} {xs : List MV} (hr : rds h p (LM.flat xs)) {i : Nat} {x : MV} (hx : xs[i]? = some x) {m : Int → Int → Int → M}
    (hw : wp P (m x.1 x.2.1 x.2.2) Q h) : wp P (.load (p.1, p.2 + mulN i 3) (.int .i64) fun a => .load (p.1, p.2 + mulN i 3 + 1) (.int .i64) fun b => .load (p.1, p.2 + mulN i 3 + 2) (.int .i64) fun c => m a b c) Q h := by
  have h0 := hr (i * 3 + 0) _ (LM.flat_get (j := 0) hx rfl)
  have h1 := hr (i * 3 + 1) _ (LM.flat_get (j := 1) hx rfl)
  have h2 := hr (i * 3 + 2) _ (LM.flat_get (j := 2) hx rfl)
  rw [mulN_eq]
  exact w_int _ (by simpa [Nat.add_assoc] using h0) (w_int _ (by simpa [Nat.add_assoc] using h1) (w_int _ (by simpa [Nat.add_assoc] using h2) hw))
end
section
variable {h : H}
set_option maxHeartbeats 2000000 in
theorem c_specIter {c : Ck} {o : List Int} {op : Option PA} {on oc : Nat} (hr : Rdr c (op, on, oc) LN o) (hl : o.length ≤ 2147483647) {xs : List IV} {sp : Option PA} {n cap : Nat} (hx : Rdr c (sp, n, cap) LT xs) (hxl : xs.length ≤ 4294967296)
    {ms : List MV} {mp : Option PA} {mn mc : Nat} (hm : Rdr c (mp, mn, mc) LM ms) (hml : ms.length ≤ 2147483648) {G : PA → Prop} (hG : Star [c] h G) :
    HT Try.prog fn_spec_Iter [.c (.sl op on oc), .c (.sl sp n cap), .c (.sl mp mn mc)] true [.c .sl, .c .sl] h fun r h' => ∃ post, (∃ s t : SlT, r = (s, t, ()) ∧ OwnL LF s (itF o xs (-1) ms) ∧ OwnL LD t (itK o xs (-1) ms) ∧
      post = [c, SlC s LF.sz (LF.flat (itF o xs (-1) ms)), SlC t LD.sz (LD.flat (itK o xs (-1) ms))]) ∧ St h G post h' := by
  apply hc_spec_Iter
  unfold M_spec_Iter
  have hn : mn = ms.length := hm.1
  have hxn : n = xs.length := hx.1
  have S := sl_nil LD (sl_nil LF (St.start hG))
  refine w_mid' (some 0) (fun (y : SV [.c .sl, .c .sl]) h' => ∃ s t : SlT, y = (t, s, ()) ∧ OwnL LF s (itF o xs (-1) ms) ∧ OwnL LD t (itK o xs (-1) ms) ∧ St h G [c, SlC s LF.sz (LF.flat (itF o xs (-1) ms)), SlC t LD.sz (LD.flat (itK o xs (-1) ms))] h') ?_
    (fun _ _ ⟨s, t, e, h1, h2, S⟩ => by subst e; exact rt_n rfl rfl ⟨_, ⟨s, t, rfl, h1, h2, rfl⟩, S⟩)
  refine w_lp (fun r y h' => ∃ (i : Nat) (s t : SlT), y = ((i : Int), t, s, itAt o xs (ms.take i), ()) ∧ i + r = mn ∧ OwnL LF s (itF o xs (-1) (ms.take i)) ∧ OwnL LD t (itK o xs (-1) (ms.take i)) ∧
      St h G [c, StC [SlC s LF.sz (LF.flat (itF o xs (-1) (ms.take i)))], StC [EmC, SlC t LD.sz (LD.flat (itK o xs (-1) (ms.take i)))]] h') mn rfl
      ⟨0, (none, 0, 0), (none, 0, 0), rfl, by omega, ⟨rfl, Nat.le_refl _, .inl rfl⟩, ⟨rfl, Nat.le_refl _, .inl rfl⟩, ?_⟩ ?_
  · have S2 := St.st_in (m := [EmC, SlC (none, 0, 0) LD.sz (LD.flat [])]) (St.em_in S)
    have S3 := St.st_in (m := [SlC (none, 0, 0) LF.sz (LF.flat [])]) S2.pull1
    exact (show St h G [StC [SlC (none, 0, 0) LF.sz (LF.flat [])], StC [EmC, SlC (none, 0, 0) LD.sz (LD.flat [])], c] _ from S3).pull2
  clear S
  rintro r _ _ ⟨i, s, t, rfl, hi, hs, ht, S⟩
  have S : St h G [c, SlC s LF.sz (LF.flat (itF o xs (-1) (ms.take i))), StC [EmC, SlC t LD.sz (LD.flat (itK o xs (-1) (ms.take i)))]] _ := (St.st_out S.pull1).pull1
  by_cases hlt : i < mn
  · obtain ⟨p, hp, hro⟩ := hm.ptr (by omega)
    dsimp only at hp
    subst hp
    have hmi := List.getElem?_eq_getElem (show i < ms.length by omega)
    have hsl : (itF o xs (-1) (ms.take i)).length = i := by rw [itF_len, List.length_take]; omega
    have htl : (itK o xs (-1) (ms.take i)).length = i := by rw [itK_len, List.length_take]; omega
    have hbd := itAt_bd (o := o) (l := xs) (ms.take i)
    have htk := take_snoc (show i < ms.length by omega)
    generalize ha : itAt o xs (ms.take i) = a at *
    generalize hmv : ms[i] = mv at *
    simp only [Int.toNat_natCast, toNat_succ, toNat_succ2, toNat_pred]
    refine w_true (lt_t (by (first | omega | ((try dsimp only [Sh.T, Sh1.T]); omega)))) (w_nonnil (w_guard ⟨by (first | omega | ((try dsimp only [Sh.T, Sh1.T]); omega)), by (first | omega | ((try dsimp only [Sh.T, Sh1.T]); omega))⟩ (w_mv (S.rdr hro) hmi ?_)))
    refine st_alloc S fun n5 _ S => st_store S (lt_ble rfl) fun _ S => st_store S (lt_ble rfl) fun _ S => st_store S (lt_ble rfl) fun _ S => ld_int S rfl ?_
    have S : St h G [Ow (n5, 0) (LM.cells mv) 0, c, SlC s LF.sz (LF.flat (itF o xs (-1) (ms.take i))), StC [EmC, SlC t LD.sz (LD.flat (itK o xs (-1) (ms.take i)))]] _ := S
    refine w_mid' none (fun (y : SV [.c .bool]) h' => y = (decide (mv.1 = 2 ∨ mv.1 = 3), ()) ∧ St h G [Ow (n5, 0) (LM.cells mv) 0, c, SlC s LF.sz (LF.flat (itF o xs (-1) (ms.take i))), StC [EmC, SlC t LD.sz (LD.flat (itK o xs (-1) (ms.take i)))]] h') ?_ ?_
    · by_cases h2 : mv.1 = 2
      · exact w_true (beq_t h2) (md_n (x := (true, ())) (by rw [show (mv.1 == 2) = true from beq_t h2]; rfl) ⟨by rw [decide_eq_true (.inl h2)], S⟩)
      · refine w_false (beq_f h2) ?_
        by_cases h3 : mv.1 = 3
        · exact md_n (x := (true, ())) (by rw [show (mv.1 == 3) = true from beq_t h3]; rfl) ⟨by rw [decide_eq_true (.inr h3)], S⟩
        · exact md_n (x := (false, ())) (by rw [show (mv.1 == 3) = false from beq_f h3]; rfl) ⟨by rw [decide_eq_false (by omega)], S⟩
    clear S
    rintro _ _ ⟨rfl, S⟩
    refine w_mid' none (fun (y : SV [.c (.int .i64), .c .bool]) h' => y = (mvTo o xs a mv, mvKn xs a mv, ()) ∧ St h G [c, SlC s LF.sz (LF.flat (itF o xs (-1) (ms.take i))), StC [EmC, SlC t LD.sz (LD.flat (itK o xs (-1) (ms.take i)))]] h') ?_ ?_
    · by_cases h23 : mv.1 = 2 ∨ mv.1 = 3
      · refine w_true (decide_eq_true h23) ?_
        refine w_mid' none (fun (y : SV [.c .bool]) h' => y = (mvKn xs a mv, ()) ∧ St h G [Ow (n5, 0) (LM.cells mv) 0, c, SlC s LF.sz (LF.flat (itF o xs (-1) (ms.take i))), StC [EmC, SlC t LD.sz (LD.flat (itK o xs (-1) (ms.take i)))]] h') ?_ ?_
        · by_cases h0 : 0 ≤ a
          · exact w_true (decide_eq_true h0) (md_n rfl ⟨by unfold mvKn; rw [if_pos h23, if_pos h0], S⟩)
          · refine w_false (decide_eq_false h0) (md_n rfl ⟨?_, S⟩)
            unfold mvKn; rw [if_pos h23, if_neg h0, hxn]
        clear S
        rintro _ _ ⟨rfl, S⟩
        refine w_mid' none (fun (y : SV [.c .bool]) h' => y = (decide (0 ≤ a ∧ mv.1 = 2), ()) ∧ St h G [Ow (n5, 0) (LM.cells mv) 0, c, SlC s LF.sz (LF.flat (itF o xs (-1) (ms.take i))), StC [EmC, SlC t LD.sz (LD.flat (itK o xs (-1) (ms.take i)))]] h') ?_ ?_
        · by_cases h0 : 0 ≤ a
          · refine w_true (decide_eq_true h0) (ld_int S rfl ?_)
            by_cases h2 : mv.1 = 2
            · exact md_n (x := (true, ())) (by rw [show (mv.1 == 2) = true from beq_t h2]; rfl) ⟨by rw [decide_eq_true ⟨h0, h2⟩], S⟩
            · exact md_n (x := (false, ())) (by rw [show (mv.1 == 2) = false from beq_f h2]; rfl) ⟨by rw [decide_eq_false (fun h => h2 h.2)], S⟩
          · exact w_false (decide_eq_false h0) (md_n rfl ⟨by rw [decide_eq_false (fun h => h0 h.1)], S⟩)
        clear S
        rintro _ _ ⟨rfl, S⟩
        refine w_mid' none (fun (y : SV [.c (.int .i64)]) h' => y = (mvTo o xs a mv, ()) ∧ St h G [Ow (n5, 0) (LM.cells mv) 0, c, SlC s LF.sz (LF.flat (itF o xs (-1) (ms.take i))), StC [EmC, SlC t LD.sz (LD.flat (itK o xs (-1) (ms.take i)))]] h') ?_ (fun _ _ ⟨e, S⟩ => by subst e; exact md_n rfl ⟨rfl, S.drop⟩)
        by_cases h02 : 0 ≤ a ∧ mv.1 = 2
        · refine w_true (decide_eq_true h02) (w_guard (inK64 (by (first | omega | ((try dsimp only [Sh.T, Sh1.T]); omega))) (by (first | omega | ((try dsimp only [Sh.T, Sh1.T]); omega)))) (md_n rfl ⟨?_, S⟩))
          unfold mvTo; rw [if_pos h23, if_pos h02.1, if_pos h02.2]
        · refine w_false (decide_eq_false h02) ?_
          refine w_mid' none (fun (y : SV [.c (.int .i64)]) h' => y = (mvTo o xs a mv, ()) ∧ St h G [Ow (n5, 0) (LM.cells mv) 0, c, SlC s LF.sz (LF.flat (itF o xs (-1) (ms.take i))), StC [EmC, SlC t LD.sz (LD.flat (itK o xs (-1) (ms.take i)))]] h') ?_ (fun _ _ ⟨e, S⟩ => by subst e; exact md_n rfl ⟨rfl, S⟩)
          by_cases h0 : 0 ≤ a
          · refine w_true (decide_eq_true h0) (w_guard (inK64 (by (first | omega | ((try dsimp only [Sh.T, Sh1.T]); omega))) (by (first | omega | ((try dsimp only [Sh.T, Sh1.T]); omega)))) (md_n rfl ⟨?_, S⟩))
            unfold mvTo; rw [if_pos h23, if_pos h0, if_neg (fun h2 => h02 ⟨h0, h2⟩)]
          · refine w_false (decide_eq_false h0) (md_n rfl ⟨?_, S⟩)
            unfold mvTo; rw [if_pos h23, if_neg h0]
      · refine w_false (decide_eq_false h23) ?_
        have ek : mvKn xs a mv = true := by unfold mvKn; rw [if_neg h23]
        rw [ek]
        refine w_mid' none (fun (y : SV [.c (.int .i64)]) h' => y = (mvTo o xs a mv, ()) ∧ St h G [Ow (n5, 0) (LM.cells mv) 0, c, SlC s LF.sz (LF.flat (itF o xs (-1) (ms.take i))), StC [EmC, SlC t LD.sz (LD.flat (itK o xs (-1) (ms.take i)))]] h') ?_ (fun _ _ ⟨e, S⟩ => by subst e; exact md_n rfl ⟨rfl, S.drop⟩)
        by_cases h1 : mv.1 = 1
        · refine w_true (beq_t h1) (w_guard (inK64 (by (first | omega | ((try dsimp only [Sh.T, Sh1.T]); omega))) (by (first | omega | ((try dsimp only [Sh.T, Sh1.T]); omega)))) (md_n rfl ⟨?_, S⟩))
          unfold mvTo; rw [if_neg h23, if_pos h1, hxn]
        · refine w_false (beq_f h1) ?_
          refine w_mid' none (fun (y : SV [.c .bool]) h' => y = (decide (mv.1 = 4 ∨ mv.1 = 5), ()) ∧ St h G [Ow (n5, 0) (LM.cells mv) 0, c, SlC s LF.sz (LF.flat (itF o xs (-1) (ms.take i))), StC [EmC, SlC t LD.sz (LD.flat (itK o xs (-1) (ms.take i)))]] h') ?_ ?_
          · by_cases h2 : mv.1 = 4
            · exact w_true (beq_t h2) (md_n (x := (true, ())) (by rw [show (mv.1 == 4) = true from beq_t h2]; rfl) ⟨by rw [decide_eq_true (.inl h2)], S⟩)
            · refine w_false (beq_f h2) ?_
              by_cases h3 : mv.1 = 5
              · exact md_n (x := (true, ())) (by rw [show (mv.1 == 5) = true from beq_t h3]; rfl) ⟨by rw [decide_eq_true (.inr h3)], S⟩
              · exact md_n (x := (false, ())) (by rw [show (mv.1 == 5) = false from beq_f h3]; rfl) ⟨by rw [decide_eq_false (by omega)], S⟩
          clear S
          rintro _ _ ⟨rfl, S⟩
          refine w_mid' none (fun (y : SV [.c (.int .i64)]) h' => y = (mvTo o xs a mv, ()) ∧ St h G [Ow (n5, 0) (LM.cells mv) 0, c, SlC s LF.sz (LF.flat (itF o xs (-1) (ms.take i))), StC [EmC, SlC t LD.sz (LD.flat (itK o xs (-1) (ms.take i)))]] h') ?_ (fun _ _ ⟨e, S⟩ => by subst e; exact md_n rfl ⟨rfl, S⟩)
          by_cases h45 : mv.1 = 4 ∨ mv.1 = 5
          · refine w_true (decide_eq_true h45) (ld_int S rfl (ld_int S rfl ?_))
            refine st_callT S [.ck c] (fun G hG => c_Place (x := mv.2) hr hl hx hxl hG) ?_
            rintro _ _ _ ⟨rfl, rfl⟩ S
            dsimp only [List.cons_append, List.nil_append] at S
            refine md_n rfl ⟨?_, S.ats [.ow (n5, 0), .ck c]⟩
            unfold mvTo; rw [if_neg h23, if_neg h1, if_pos h45]
          · refine w_false (decide_eq_false h45) (md_n rfl ⟨?_, S⟩)
            unfold mvTo; rw [if_neg h23, if_neg h1, if_neg h45]
    clear S
    rintro _ _ ⟨rfl, S⟩
    refine st_callT S [.ck c] (fun G hG => c_At hx hxl (i := mvTo o xs a mv) hG) ?_
    rintro _ _ _ ⟨rfl, rfl⟩ S
    dsimp only [List.cons_append, List.nil_append] at S
    refine st_alloc S fun n21 _ S => st_store S (lt_ble rfl) fun _ S => st_store S (lt_ble rfl) fun _ S => st_store S (lt_ble rfl) fun _ S => ld_bool S rfl ?_
    have S : St h G [Ow (n21, 0) (LF.cells (atO xs (mvTo o xs a mv))) 0, c, SlC s LF.sz (LF.flat (itF o xs (-1) (ms.take i))), StC [EmC, SlC t LD.sz (LD.flat (itK o xs (-1) (ms.take i)))]] _ := S
    refine w_mid' none (fun (y : SV [.c (.int .i64)]) h' => y = (mvAt o xs a mv, ()) ∧ St h G [Ow (n21, 0) (LF.cells (atO xs (mvTo o xs a mv))) 0, c, SlC s LF.sz (LF.flat (itF o xs (-1) (ms.take i))), StC [EmC, SlC t LD.sz (LD.flat (itK o xs (-1) (ms.take i)))]] h') ?_ ?_
    · cases hat : atO xs (mvTo o xs a mv) with
      | none => exact w_true rfl (md_n rfl ⟨by unfold mvAt; rw [hat]; rfl, by rw [hat] at S; exact S⟩)
      | some x => exact w_false rfl (md_n rfl ⟨by unfold mvAt; rw [hat]; rfl, by rw [hat] at S; exact S⟩)
    clear S
    rintro _ _ ⟨rfl, S⟩
    have hF : itF o xs (-1) (ms.take i) ++ [atO xs (mvTo o xs a mv)] = itF o xs (-1) (ms.take (i + 1)) := by rw [htk, itF_snoc]; show _ = _ ++ [atO xs (mvTo o xs (itAt o xs (ms.take i)) mv)]; rw [ha]
    have hK : itK o xs (-1) (ms.take i) ++ [mvKn xs a mv] = itK o xs (-1) (ms.take (i + 1)) := by rw [htk, itK_snoc]; show _ = _ ++ [mvKn xs (itAt o xs (ms.take i)) mv]; rw [ha]
    have hA : mvAt o xs a mv = itAt o xs (ms.take (i + 1)) := by rw [htk, itAt_snoc, ha]
    obtain ⟨s1, s2, s3⟩ := s
    refine ld_int S rfl (ld_int S rfl (ld_bool S rfl ?_))
    refine st_alloc S fun n27 _ S => ?_
    refine st_apo (L := LF) (xs := itF o xs (-1) (ms.take i)) (y := atO xs (mvTo o xs a mv)) S hs rfl rfl (S.rsl (LF.flat [atO xs (mvTo o xs a mv)]) 1 1 3 (fun i v h => by rw [Nat.zero_add]; exact h) rfl) ⟨by omega, by omega⟩ fun s' _ hs' S => ?_
    rw [hF] at hs' S
    have S := St.st_in (m := [SlC s' LF.sz (LF.flat (itF o xs (-1) (ms.take (i + 1))))]) (S.at (.sl s'))
    have S := (S.only [.ck c, .ck (StC [SlC s' LF.sz (LF.flat (itF o xs (-1) (ms.take (i + 1))))]), .ck (StC [EmC, SlC t LD.sz (LD.flat (itK o xs (-1) (ms.take i)))])]).pull2
    have S : St h G [SlC t LD.sz (LD.flat (itK o xs (-1) (ms.take i))), EmC, c, StC [SlC s' LF.sz (LF.flat (itF o xs (-1) (ms.take (i + 1))))]] _ := (St.st_out S).pull1
    obtain ⟨t1, t2, t3⟩ := t
    refine st_alloc S fun n29 _ S => ?_
    refine st_apo (L := LD) (xs := itK o xs (-1) (ms.take i)) (y := mvKn xs a mv) S ht rfl rfl (S.rsl (LD.flat [mvKn xs a mv]) 1 1 1 (fun i v h => by rw [Nat.zero_add]; exact h) rfl) ⟨by omega, by omega⟩ fun t' _ ht' S => ?_
    rw [hK] at ht' S
    have S := St.st_in (m := [EmC, SlC t' LD.sz (LD.flat (itK o xs (-1) (ms.take (i + 1))))]) (St.em_in (S.at (.sl t')))
    refine w_guard (inK64 (by (first | omega | ((try dsimp only [Sh.T, Sh1.T]); omega))) (by (first | omega | ((try dsimp only [Sh.T, Sh1.T]); omega)))) ?_
    rw [hA]
    exact ln_n rfl (r - 1) ⟨i + 1, s', t', rfl, by omega, hs', ht', S.only [.ck c, .ck (StC [SlC s' LF.sz (LF.flat (itF o xs (-1) (ms.take (i + 1))))]), .ck (StC [EmC, SlC t' LD.sz (LD.flat (itK o xs (-1) (ms.take (i + 1))))])]⟩ (by omega)
  · rw [List.take_of_length_le (by omega)] at hs ht S
    have S : St h G [SlC t LD.sz (LD.flat (itK o xs (-1) ms)), c, SlC s LF.sz (LF.flat (itF o xs (-1) ms))] _ := (St.st_out S.pull2).drop
    exact w_false (lt_f (by (first | omega | ((try dsimp only [Sh.T, Sh1.T]); omega)))) (ln_e (md_e rfl ⟨s, t, rfl, hs, ht, S.ats [.ck c, .sl s, .sl t]⟩))
theorem c_sameMoves {c : Ck} {us bs : List (Option IV)} {ks : List Bool} {ap bp kp : Option PA} {an bn kn ac bc kc : Nat} (ha : Rdr c (ap, an, ac) LF us) (hb : Rdr c (bp, bn, bc) LF bs) (hk : Rdr c (kp, kn, kc) LD ks) (h1 : us.length = bs.length) (h2 : ks.length = us.length)
    (hs : ∀ i : Nat, ks[i]? = some true → us[i]? = bs[i]?) (hl : us.length ≤ 4294967296) {G : PA → Prop} (hG : Star [c] h G) :
    HT Try.prog fn_laws_sameMoves [.c (.sl ap an ac), .c (.sl bp bn bc), .c (.sl kp kn kc)] false [.c .bool] h fun r h' => ∃ post, (r = (true, ()) ∧ post = [c]) ∧ St h G post h' := by
  apply hc_laws_sameMoves
  unfold M_laws_sameMoves
  have ha1 : an = us.length := ha.1
  have hb1 : bn = bs.length := hb.1
  have hk1 : kn = ks.length := hk.1
  have S := St.start hG
  refine w_false (by rw [show an = bn by omega]; simp) ?_
  refine w_bnd (w_lp (fun r y h' => ∃ i : Nat, y = ((i : Int), ()) ∧ i + r = an ∧ St h G [c] h') an rfl ⟨0, rfl, by omega, S⟩ ?_)
  clear S
  rintro r _ _ ⟨i, rfl, hi, S⟩
  by_cases hlt : i < an
  · obtain ⟨p, hp, hra⟩ := ha.ptr (by omega)
    obtain ⟨q, hq, hrb⟩ := hb.ptr (by omega)
    obtain ⟨u, hu, hrk⟩ := hk.ptr (by omega)
    dsimp only at hp hq hu
    subst hp; subst hq; subst hu
    have hai := List.getElem?_eq_getElem (show i < us.length by omega)
    have hbi := List.getElem?_eq_getElem (show i < bs.length by omega)
    have hki := List.getElem?_eq_getElem (show i < ks.length by omega)
    simp only [Int.toNat_natCast, toNat_succ, toNat_succ2, toNat_pred]
    refine w_true (lt_t (by (first | omega | ((try dsimp only [Sh.T, Sh1.T]); omega)))) ?_
    refine w_mid' none (fun (y : SV [.c .bool]) h' => y = (false, ()) ∧ St h G [c] h') ?_ ?_
    · refine w_nonnil (w_guard ⟨by (first | omega | ((try dsimp only [Sh.T, Sh1.T]); omega)), by (first | omega | ((try dsimp only [Sh.T, Sh1.T]); omega))⟩ (w_bd (S.rdr hrk) hki ?_))
      cases hkv : ks[i] with
      | false => exact w_false rfl (md_n rfl ⟨rfl, S⟩)
      | true =>
        rw [hkv] at hki
        have he := hs i hki
        rw [hai, hbi] at he
        have he := Option.some.inj he
        refine w_true rfl ?_
        refine w_nonnil (w_guard ⟨by (first | omega | ((try dsimp only [Sh.T, Sh1.T]); omega)), by (first | omega | ((try dsimp only [Sh.T, Sh1.T]); omega))⟩ (w_fnd (S.rdr hra) hai ?_))
        refine w_nonnil (w_guard ⟨by (first | omega | ((try dsimp only [Sh.T, Sh1.T]); omega)), by (first | omega | ((try dsimp only [Sh.T, Sh1.T]); omega))⟩ (w_fnd (S.rdr hrb) hbi ?_))
        rw [he]
        exact md_n (x := (false, ())) (by simp; rfl) ⟨rfl, S⟩
    clear S
    rintro _ _ ⟨rfl, S⟩
    refine w_false rfl (w_guard (inK64 (by (first | omega | ((try dsimp only [Sh.T, Sh1.T]); omega))) (by (first | omega | ((try dsimp only [Sh.T, Sh1.T]); omega)))) ?_)
    exact ln_n rfl (r - 1) ⟨i + 1, rfl, by omega, S⟩ (by omega)
  · exact w_false (lt_f (by (first | omega | ((try dsimp only [Sh.T, Sh1.T]); omega)))) (ln_e (bd_e rfl (rt_1 rfl ⟨_, ⟨rfl, rfl⟩, S⟩)))
theorem c_exMoves {G : PA → Prop} (hG : Star [] h G) : HT Try.prog fn_laws_exMoves [] false [.c .sl] h fun r h' => ∃ post, (∃ n : Nat, r = ((some (n, 0), 6, 6), ()) ∧ post = [Ow (n, 0) (LM.flat [(1, 0, 0), (3, 0, 0), (4, 4, 0), (2, 0, 0), (5, 1, 0), (0, 0, 0)]) 0]) ∧ St h G post h' := by
  apply hc_laws_exMoves
  unfold M_laws_exMoves
  refine st_alloc (St.start hG) fun n _ S => ?_
  exact rt_1 rfl ⟨_, ⟨n, rfl, rfl⟩, S⟩
end
end Go.Proofs.Ytlmiafbcgfegpaa
