/-
  Words: their layout, the reference's sorted list of them. Conditions: none.
-/
import Derived.Test.YtgniflegbdeokaaIamw
import Derived.Test.YtgniflegbdeokaaSp
import Derived.Test.YtgniflegbdeokaaTk
set_option linter.unusedVariables false
set_option linter.unusedSimpArgs false
set_option linter.unusedSectionVars false
set_option maxRecDepth 100000
namespace Go.Proofs.Ytgniflegbdeokaa
open Go
def M_spec_spot (a0p : Option PA) (a0l : Nat) (a0c : Nat) (a1 : ByteArray) : M :=
  .bind (some 0) (.loop [.c (.int .i64)] [.c (.int .i64 (0))] fun y0 =>
      .bind none (.ite (decide (y0.fst < (↑a0l : Int)))
        (.nonnil (a0p) fun p1 =>
          .guard (((0 : Int) ≤ y0.fst) ∧ ((y0.fst : Int) < (↑a0l : Int))) <|
          .load (p1.fst, p1.snd + mulN (Int.toNat y0.fst) 2) (.str) fun i2 =>
          .done .normal [.c (.bool (Op.bytesLess (ByteArray.toList i2) a1.toList))])
        (.done .normal [.c (.ff)])) [.c (.bool)] fun x3 =>
      .ite (x3.fst)
      (.guard (InK IntKind.i64 (y0.fst + 1)) <|
        .done .normal [.c (.int .i64 (y0.fst + 1))])
      (.done (.exit 0) [.c (.int .i64 (y0.fst))])) [.c (.int .i64)] fun x4 =>
  .bind none (.ite (decide (x4.fst < (↑a0l : Int)))
    (.nonnil (a0p) fun p5 =>
      .guard (((0 : Int) ≤ x4.fst) ∧ ((x4.fst : Int) < (↑a0l : Int))) <|
      .load (p5.fst, p5.snd + mulN (Int.toNat x4.fst) 2) (.str) fun i6 =>
      .done .normal [.c (.bool (ByteArray.toList i6 == a1.toList)), .c (.int .i64 (x4.fst))])
    (.done .normal [.c (.ff), .c (.int .i64 (x4.fst))])) [.c (.bool), .c (.int .i64)] fun x7 =>
  .done .ret [.c (.int .i64 (x7.snd.fst)), .c (.bool (x7.fst))]
theorem den_spec_spot (a0p : Option PA) (a0l : Nat) (a0c : Nat) (a1 : ByteArray) : denFn Try.prog Try.f70 [.c (.sl a0p a0l a0c), .c (.str a1)] = M_spec_spot a0p a0l a0c a1 := by kernel_rfl
theorem hc_spec_spot (a0p : Option PA) (a0l : Nat) (a0c : Nat) (a1 : ByteArray) {h : H} {R : Value → H → Prop} (hw : wp Try.prog (M_spec_spot a0p a0l a0c a1) (Ret R) h) : HC Try.prog fn_spec_spot (List.map AV.val [.c (.sl a0p a0l a0c), .c (.str a1)]).toArray h R :=
  den_calls hmix Try.func70 (of_decide_eq_true rfl) (by rw [den_spec_spot]; exact hw)
abbrev WV := ByteArray × Int
def LW : Lay WV where
  sz := 2
  cells x := [.string x.1, .int .i64 x.2]
  len _ := rfl
  one _ _ hv := by simp at hv; rcases hv with rfl | rfl <;> rfl
  pos := by decide
def LQ : Lay Bool where
  sz := 1
  cells b := [.bool b]
  len _ := rfl
  one _ _ hv := by simp at hv; subst hv; rfl
  pos := by decide
theorem bl_tot : ∀ a b : List UInt8, Op.bytesLess a b = false → Op.bytesLess b a = false → a = b
  | [], [], _, _ => rfl
  | [], _ :: _, h, _ => by cases h
  | _ :: _, [], _, h => by cases h
  | a :: x, b :: y, h1, h2 => by
    have ih := bl_tot x y
    rw [MW.bl_cons, Bool.eq_false_iff] at h1 h2
    simp only [ne_eq, Bool.or_eq_true, decide_eq_true_eq, Bool.and_eq_true, beq_iff_eq, UInt8.lt_iff_toNat_lt, ← UInt8.toNat_inj, not_or, not_and, Bool.not_eq_true] at h1 h2
    have e : a.toNat = b.toNat := by omega
    rw [UInt8.toNat_inj.1 e, ih (h1.2 e) (h2.2 e.symm)]
theorem bl_eq (a b : List UInt8) (h : Op.bytesLess a b = false) : (a == b) = !Op.bytesLess b a := by
  cases hq : Op.bytesLess b a with
  | false => rw [bl_tot a b h hq]; simp
  | true =>
    have : a ≠ b := fun e => by subst e; rw [h] at hq; cases hq
    simp [this]
section
variable {Q : Ex → List AV → H → Prop} {h h0 : H} {G0 : PA → Prop} {l : List Ck}
theorem wd_k {p : PA} {xs : List WV} (hx : rds h p (LW.flat xs)) {i : Nat} {a : WV} (ha : xs[i]? = some a) : rd h (p.1, p.2 + mulN i 2) = some (.string a.1) := by
  have := hx (i * 2 + 0) _ (LW.flat_get (j := 0) ha rfl)
  rw [mulN_eq]; simpa [Nat.add_assoc] using this
theorem wd_v {p : PA} {xs : List WV} (hx : rds h p (LW.flat xs)) {i : Nat} {a : WV} (ha : xs[i]? = some a) : rd h (p.1, p.2 + mulN i 2 + 1) = some (.int .i64 a.2) := by
  have := hx (i * 2 + 1) _ (LW.flat_get (j := 1) ha rfl)
  rw [mulN_eq]; simpa [Nat.add_assoc] using this
theorem w_word {p : PA} {xs : List WV} (hr : rds h p (LW.flat xs)) {i : Nat} {x : WV} (hx : xs[i]? = some x) {m : ByteArray → Int → M}
    (hw : wp Try.prog (m x.1 x.2) Q h) : wp Try.prog (.load (p.1, p.2 + mulN i 2) .str fun k => .load (p.1, p.2 + mulN i 2 + 1) (.int .i64) fun v => m k v) Q h :=
  w_str x.1 (wd_k hr hx) (w_int x.2 (wd_v hr hx) hw)
end
theorem pos_not {I : Type} {lt : I → I → Bool} {x : I} : ∀ {xs : List I} {a : I}, xs[pos lt xs x]? = some a → lt a x = false
  | [], a, h => by simp at h
  | b :: xs, a, h => by
    cases hb : lt b x with
    | false =>
      have e : pos lt (b :: xs) x = 0 := by unfold pos; simp [hb]
      rw [e] at h
      simp at h
      rw [← h]; exact hb
    | true =>
      have e : pos lt (b :: xs) x = pos lt xs x + 1 := by unfold pos; simp [hb]
      rw [e] at h
      exact pos_not (by simpa using h)
def treeW (l : List WV) : List WV := l.foldl (fun t x => put MW.lt t x) []
theorem treeW_snoc (l : List WV) (x : WV) : treeW (l ++ [x]) = put MW.lt (treeW l) x := by simp [treeW]
theorem foldW_len : ∀ (l t : List WV), (l.foldl (fun t x => put MW.lt t x) t).length ≤ t.length + l.length
  | [], t => Nat.le_refl _
  | x :: l, t => by
    have ih := foldW_len l (put MW.lt t x)
    have := put_len_le (lt := MW.lt) t x
    simp only [List.foldl_cons, List.length_cons]; omega
theorem treeW_len (l : List WV) : (treeW l).length ≤ l.length := by
  have := foldW_len l []
  simpa [treeW] using this
section
variable {h : H}
set_option maxHeartbeats 1000000 in
theorem c_spot {c : Ck} {xs : List WV} {sp : Option PA} {n cap : Nat} (hx : Rdr c (sp, n, cap) LW xs) (hxl : xs.length ≤ 4294967296) {k : ByteArray} {v : Int} {G : PA → Prop} (hG : Star [c] h G) :
    HT Try.prog fn_spec_spot [.c (.sl sp n cap), .c (.str k)] true [.c (.int .i64), .c .bool] h fun r h' => ∃ post, (r = ((pos MW.lt xs (k, v) : Int), (fnd MW.lt xs (k, v)).isSome, ()) ∧ post = [c]) ∧ St h G post h' := by
  apply hc_spec_spot
  unfold M_spec_spot
  have hn : n = xs.length := hx.1
  have S := St.start hG
  refine w_mid' (some 0) (fun (y : SV [.c (.int .i64)]) h' => y = ((pos MW.lt xs (k, v) : Int), ()) ∧ St h G [c] h') ?_ ?_
  · refine w_lp (fun r y h' => ∃ i : Nat, y = ((i : Int), ()) ∧ i + r = n ∧ (∀ j a, j < i → xs[j]? = some a → MW.lt a (k, v) = true) ∧ St h G [c] h') n rfl ⟨0, rfl, by omega, fun j a hj => by omega, S⟩ ?_
    clear S
    rintro r _ _ ⟨i, rfl, hi, hb, S⟩
    by_cases hlt : i < n
    · obtain ⟨q, hq, hrd⟩ := hx.ptr (by omega)
      dsimp only at hq
      subst hq
      have hxi := List.getElem?_eq_getElem (show i < xs.length by omega)
      simp only [Int.toNat_natCast, toNat_succ, toNat_succ2, toNat_pred]
      refine w_mid' none (fun (y : SV [.c .bool]) h' => y = (MW.lt xs[i] (k, v), ()) ∧ St h G [c] h') ?_ ?_
      · refine w_true (lt_t (by (first | omega | ((try dsimp only [Sh.T, Sh1.T]); omega)))) (w_nonnil (w_guard ⟨by (first | omega | ((try dsimp only [Sh.T, Sh1.T]); omega)), by (first | omega | ((try dsimp only [Sh.T, Sh1.T]); omega))⟩ ?_))
        refine w_str xs[i].1 (wd_k (S.rdr hrd) hxi) ?_
        exact md_n rfl ⟨rfl, S⟩
      clear S
      rintro _ _ ⟨rfl, S⟩
      cases hb2 : MW.lt xs[i] (k, v) with
      | true =>
        refine w_true rfl (w_guard (inK64 (by (first | omega | ((try dsimp only [Sh.T, Sh1.T]); omega))) (by (first | omega | ((try dsimp only [Sh.T, Sh1.T]); omega)))) ?_)
        refine ln_n rfl (r - 1) ⟨i + 1, rfl, by omega, fun j a hj hja => ?_, S⟩ (by omega)
        by_cases hji : j < i
        · exact hb j a hji hja
        · obtain rfl : j = i := by omega
          rw [hxi] at hja
          rw [← Option.some.inj hja]; exact hb2
      | false =>
        refine w_false rfl (ln_e (md_e rfl ⟨?_, S⟩))
        rw [pos_eq hb (by omega) fun a ha => by rw [hxi] at ha; rw [← Option.some.inj ha]; exact hb2]
    · refine w_bnd (w_false (lt_f (by (first | omega | ((try dsimp only [Sh.T, Sh1.T]); omega)))) (bd_n rfl (w_false rfl (ln_e (md_e rfl ⟨?_, S⟩)))))
      rw [pos_eq hb (by omega) fun a ha => by rw [List.getElem?_eq_none (by omega)] at ha; cases ha]
  clear S
  rintro _ _ ⟨rfl, S⟩
  have hpl := pos_le (lt := MW.lt) xs (k, v)
  refine w_mid' none (fun (y : SV [.c .bool, .c (.int .i64)]) h' => y = ((fnd MW.lt xs (k, v)).isSome, (pos MW.lt xs (k, v) : Int), ()) ∧ St h G [c] h') ?_ (fun _ _ ⟨e, S⟩ => by subst e; exact rt_n rfl rfl ⟨_, ⟨rfl, rfl⟩, S⟩)
  by_cases hlt : pos MW.lt xs (k, v) < n
  · obtain ⟨q, hq, hrd⟩ := hx.ptr (by omega)
    dsimp only at hq
    subst hq
    obtain ⟨y, hy⟩ : ∃ y, xs[pos MW.lt xs (k, v)]? = some y := ⟨_, List.getElem?_eq_getElem (show pos MW.lt xs (k, v) < xs.length by omega)⟩
    have hnl : MW.lt y (k, v) = false := pos_not hy
    have hf : (fnd MW.lt xs (k, v)).isSome = !MW.lt (k, v) y := by
      unfold fnd
      rw [hy]
      dsimp only
      cases hq2 : MW.lt (k, v) y <;> simp [hq2]
    rw [hf]
    generalize pos MW.lt xs (k, v) = i at *
    simp only [Int.toNat_natCast, toNat_succ, toNat_succ2, toNat_pred]
    refine w_true (lt_t (by (first | omega | ((try dsimp only [Sh.T, Sh1.T]); omega)))) (w_nonnil (w_guard ⟨by (first | omega | ((try dsimp only [Sh.T, Sh1.T]); omega)), by (first | omega | ((try dsimp only [Sh.T, Sh1.T]); omega))⟩ ?_))
    refine w_str y.1 (wd_k (S.rdr hrd) hy) ?_
    refine md_n rfl ⟨?_, S⟩
    show (ByteArray.toList y.1 == k.toList, _) = _
    rw [bl_eq _ _ hnl]; rfl
  · refine w_false (lt_f (by (first | omega | ((try dsimp only [Sh.T, Sh1.T]); omega)))) (md_n rfl ⟨?_, S⟩)
    have : fnd MW.lt xs (k, v) = none := by
      unfold fnd
      rw [List.getElem?_eq_none (by omega)]
    rw [this]; rfl
end
end Go.Proofs.Ytgniflegbdeokaa
