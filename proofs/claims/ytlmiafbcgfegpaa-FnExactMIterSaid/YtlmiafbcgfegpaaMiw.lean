/-
  The thin package: the moves of an iterator over a map. Conditions: none.
-/
import Derived.Test.YtlmiafbcgfegpaaPgI
import Derived.Test.YtlmiafbcgfegpaaMiz
import Derived.Test.YtlmiafbcgfegpaaIm
import Derived.Test.YtlmiafbcgfegpaaItm
set_option linter.unusedVariables false
set_option linter.unusedSimpArgs false
set_option linter.unusedSectionVars false
set_option maxRecDepth 100000
namespace Go.Proofs.Ytlmiafbcgfegpaa.MI
open Go Go.Proofs.Ytlmiafbcgfegpaa
def M_impl_movedMap (a0 : PA) (a1p : Option PA) (a1l : Nat) (a1c : Nat) : M :=
  .bind (some 0) (.loop [.c (.int .i64), .c (.sl)] [.c (.int .i64 (0)), .c (.sl none (0) (0))] fun y0 =>
      .ite (decide (y0.fst < (↑a1l : Int)))
      (.nonnil (a1p) fun p1 =>
        .guard (((0 : Int) ≤ y0.fst) ∧ ((y0.fst : Int) < (↑a1l : Int))) <|
        .load (p1.fst, p1.snd + mulN (Int.toNat y0.fst) 3) (.int .i64) fun i2 =>
        .load (p1.fst, p1.snd + mulN (Int.toNat y0.fst) 3 + 1) (.int .i64) fun i3 =>
        .load (p1.fst, p1.snd + mulN (Int.toNat y0.fst) 3 + 2) (.int .i64) fun i4 =>
        .alloc ty_impl_Move [.int .i64 (0), .int .i64 (0), .int .i64 (0)] fun n5 =>
        .store (n5, 0) (.int .i64 (i2)) <|
        .store (n5, 1) (.int .i64 (i3)) <|
        .store (n5, 2) (.int .i64 (i4)) <|
        .load (n5, 0) (.int .i64) fun i6 =>
        .bind none (.ite (i6 == 1)
          (.call fn_ii_Last [.c (.addr a0)] false [.c (.bool)] fun r7 =>
            .done .normal [.c (.bool (r7.fst))])
          (.bind none (.ite (i6 == 2)
              (.call fn_ii_Next [.c (.addr a0)] false [.c (.bool)] fun r8 =>
                .done .normal [.c (.bool (r8.fst))])
              (.bind none (.ite (i6 == 3)
                  (.call fn_ii_Prev [.c (.addr a0)] false [.c (.bool)] fun r9 =>
                    .done .normal [.c (.bool (r9.fst))])
                  (.bind none (.ite (i6 == 4)
                      (.done .normal [.c (.bool (i6 == 4))])
                      (.done .normal [.c (.bool (i6 == 5))])) [.c (.bool)] fun x10 =>
                    .bind none (.ite (x10.fst)
                      (.load (n5, 1) (.int .i64) fun i11 =>
                        .call fn_ii_Seek [.c (.addr a0), .c (.int .i64 (i11))] false [.c (.bool)] fun r12 =>
                        .done .normal [.c (.bool (r12.fst))])
                      (.call fn_ii_First [.c (.addr a0)] false [.c (.bool)] fun r13 =>
                        .done .normal [.c (.bool (r13.fst))])) [.c (.bool)] fun x14 =>
                    .done .normal [.c (.bool (x14.fst))])) [.c (.bool)] fun x15 =>
                .done .normal [.c (.bool (x15.fst))])) [.c (.bool)] fun x16 =>
            .done .normal [.c (.bool (x16.fst))])) [.c (.bool)] fun x17 =>
        .call fn_ii_Key [.c (.addr a0)] false [.c (.int .i64)] fun r18 =>
        .call fn_ii_Value [.c (.addr a0)] false [.c (.int .i64)] fun r19 =>
        .call fn_impl_pair [.c (.int .i64 (r18.fst)), .c (.int .i64 (r19.fst)), .c (.bool (x17.fst))] false [.agg [.int .i64, .int .i64, .bool]] fun r20 =>
        .alloc ty_impl_Found [.int .i64 (r20.fst.fst), .int .i64 (r20.fst.snd.fst), .bool (r20.fst.snd.snd.fst)] fun n21 =>
        .append ty_impl_Found 3 24 [.int .i64 (0), .int .i64 (0), .ff] ((y0.snd.fst.fst), y0.snd.fst.snd.fst, y0.snd.fst.snd.snd) ((some (n21, 0)), 1, 1) fun s22 =>
        .guard (InK IntKind.i64 (y0.fst + 1)) <|
        .done .normal [.c (.int .i64 (y0.fst + 1)), .c (.sl (s22.fst) (s22.snd.fst) (s22.snd.snd))])
      (.done (.exit 0) [.c (.sl (y0.snd.fst.fst) (y0.snd.fst.snd.fst) (y0.snd.fst.snd.snd))])) [.c (.sl)] fun x23 =>
  .done .ret [.c (.sl (x23.fst.fst) (x23.fst.snd.fst) (x23.fst.snd.snd))]
theorem den_impl_movedMap (a0 : PA) (a1p : Option PA) (a1l : Nat) (a1c : Nat) : denFn Try.prog Try.f71 [.c (.addr a0), .c (.sl a1p a1l a1c)] = M_impl_movedMap a0 a1p a1l a1c := by kernel_rfl
theorem hc_impl_movedMap (a0 : PA) (a1p : Option PA) (a1l : Nat) (a1c : Nat) {h : H} {R : Value → H → Prop} (hw : wp Try.prog (M_impl_movedMap a0 a1p a1l a1c) (Ret R) h) : HC Try.prog fn_impl_movedMap (List.map AV.val [.c (.addr a0), .c (.sl a1p a1l a1c)]).toArray h R :=
  den_calls hmix Try.func71 (of_decide_eq_true rfl) (by rw [den_impl_movedMap]; exact hw)
section
variable {a tr : PA}
def MvQ (l : List IV) (a tr : PA) (V : Int → Bool → Bool → Bool → List (Nat × Int) → Prop) (rest : List Ck) (to : Int) (kn : Bool) (r : SV [.c .bool]) (post : List Ck) : Prop :=
  ∃ (sk ats ate : Bool) (fs : List (Nat × Int)) (x : IV), post = ItC a tr sk ats ate fs x :: rest ∧ V (if (atO l to).isSome then to else -1) sk ats ate fs ∧ (kn = true → (if r.1 then some x else none) = atO l to)
structure ItOps (o : List Int) (l : List IV) (a tr : PA) (T : H → (PA → Prop) → Prop) (V : Int → Bool → Bool → Bool → List (Nat × Int) → Prop) : Prop where
  step : ∀ {h0 : H} {G0 : PA → Prop} {L : List Ck} {h : H} {G : PA → Prop}, T h0 G0 → St h0 G0 L h → (∀ x, G x → G0 x ∨ h0.size ≤ x.1) → T h G
  first : ∀ {h : H} {G : PA → Prop} {p : Int} {sk ats ate : Bool} {fs : List (Nat × Int)} {x : IV}, T h G → V p sk ats ate fs → Star [ItC a tr sk ats ate fs x] h G →
    HT Try.prog fn_ii_First [.c (.addr a)] false [.c .bool] h fun r h' => ∃ post, MvQ l a tr V [] 0 true r post ∧ St h G post h'
  last : ∀ {h : H} {G : PA → Prop} {p : Int} {sk ats ate : Bool} {fs : List (Nat × Int)} {x : IV}, T h G → V p sk ats ate fs → Star [ItC a tr sk ats ate fs x] h G →
    HT Try.prog fn_ii_Last [.c (.addr a)] false [.c .bool] h fun r h' => ∃ post, MvQ l a tr V [] ((l.length : Int) - 1) true r post ∧ St h G post h'
  next : ∀ {h : H} {G : PA → Prop} {p : Int} {sk ats ate : Bool} {fs : List (Nat × Int)} {x : IV}, -1 ≤ p → T h G → V p sk ats ate fs → Star [ItC a tr sk ats ate fs x] h G →
    HT Try.prog fn_ii_Next [.c (.addr a)] false [.c .bool] h fun r h' => ∃ post, MvQ l a tr V [] (if 0 ≤ p then p + 1 else p) (if 0 ≤ p then true else (l.length : Int) == 0) r post ∧ St h G post h'
  prev : ∀ {h : H} {G : PA → Prop} {p : Int} {sk ats ate : Bool} {fs : List (Nat × Int)} {x : IV}, -1 ≤ p → T h G → V p sk ats ate fs → Star [ItC a tr sk ats ate fs x] h G →
    HT Try.prog fn_ii_Prev [.c (.addr a)] false [.c .bool] h fun r h' => ∃ post, MvQ l a tr V [] (if 0 ≤ p then p - 1 else p) (if 0 ≤ p then true else (l.length : Int) == 0) r post ∧ St h G post h'
  seek : ∀ {h : H} {G : PA → Prop} {p : Int} {sk ats ate : Bool} {fs : List (Nat × Int)} {x k : IV}, T h G → V p sk ats ate fs → Star [ItC a tr sk ats ate fs x] h G →
    HT Try.prog fn_ii_Seek [.c (.addr a), .c (.int .i64 k.1)] false [.c .bool] h fun r h' => ∃ post, MvQ l a tr V [] (pos (ltO o) l k : Int) true r post ∧ St h G post h'
end
section
variable {n : Nat} {F : (r : Nat) → Nat → BT IV r → Prop} {mn mx : Nat} {t : BT IV n} {a tr : PA}
def VI (F : (r : Nat) → Nat → BT IV r → Prop) (mn mx : Nat) (t : BT IV n) (p : Int) (sk _ats _ate : Bool) (fs : List (Nat × Int)) : Prop :=
  (fs = [] ∨ sk = true ∧ ∃ q, Pos F mn mx t fs q) ∧ (0 ≤ p → sk = true ∧ Pos F mn mx t fs p.toNat)
theorem atO_nat {l : List IV} (q : Nat) : atO l (q : Int) = l[q]? := by unfold atO; rw [if_neg (by omega), Int.toNat_natCast]
theorem mvq_of {rest : List Ck} {φ : Option Nat → Prop} {r : SV [.c .bool]} {post : List Ck} {to : Int} (h : MvR F mn mx t a tr rest φ r post) (hφ : ∀ s, φ s → (match s with | some q => to = (q : Int) | none => atO (flatB n t) to = none)) : MvQ (flatB n t) a tr (VI F mn mx t) rest to true r post := by
  obtain ⟨sk, ats, ate, fs, x, rfl, ⟨rfl, rfl, q, h1, h2, h3⟩ | ⟨rfl, rfl, h1⟩⟩ := h
  · have e : to = (q : Int) := hφ _ h1
    subst e
    have ea : atO (flatB n t) (q : Int) = some x := by rw [atO_nat, h3]
    refine ⟨true, ats, ate, fs, x, rfl, ?_, fun _ => by rw [ea]; rfl⟩
    rw [ea]
    exact ⟨.inr ⟨rfl, q, h2⟩, fun _ => ⟨rfl, by simpa using h2⟩⟩
  · have e : atO (flatB n t) to = none := hφ _ h1
    refine ⟨sk, ats, ate, [], x, rfl, ?_, fun _ => by rw [e]; rfl⟩
    rw [e]
    exact ⟨.inl rfl, fun h => absurd h (show ¬ (0 : Int) ≤ (-1 : Int) by decide)⟩
theorem mvq_un {rest : List Ck} {φ : Option Nat → Prop} {r : SV [.c .bool]} {post : List Ck} {to : Int} {kn : Bool} (h : MvR F mn mx t a tr rest φ r post) (hto : to < 0) (hk : kn = false) : MvQ (flatB n t) a tr (VI F mn mx t) rest to kn r post := by
  have e : atO (flatB n t) to = none := by unfold atO; rw [if_pos hto]
  obtain ⟨sk, ats, ate, fs, x, rfl, ⟨rfl, rfl, q, h1, h2, h3⟩ | ⟨rfl, rfl, h1⟩⟩ := h
  · refine ⟨true, ats, ate, fs, x, rfl, ?_, fun h => by rw [hk] at h; cases h⟩
    rw [e]
    exact ⟨.inr ⟨rfl, q, h2⟩, fun h => absurd h (show ¬ (0 : Int) ≤ (-1 : Int) by decide)⟩
  · refine ⟨sk, ats, ate, [], x, rfl, ?_, fun h => by rw [hk] at h; cases h⟩
    rw [e]
    exact ⟨.inl rfl, fun h => absurd h (show ¬ (0 : Int) ≤ (-1 : Int) by decide)⟩
theorem lookup_if {l : List IV} (q : Nat) : ∀ s, s = (if q < l.length then some q else none) → (match s with | some j => (q : Int) = (j : Int) | none => atO l (q : Int) = none) := by
  rintro _ rfl
  by_cases h : q < l.length
  · rw [if_pos h]
  · rw [if_neg h]
    show atO l (q : Int) = none
    rw [atO_nat, List.getElem?_eq_none (by omega)]
theorem pos_key (l : List IV) (k : IV) : pos lt l (k.1, 0) = pos (ltO []) l k := rfl
theorem ops_tree {iso : Int} {b0 : Nat} (hsr : Srt lt (flatB n t)) :
    ItOps [] (flatB n t) a tr (fun h G => Tf tr iso F mn mx n b0 t h G) (VI F mn mx t) where
  step := fun h1 S hG => h1.step S hG
  first := fun f _ hG => (c_FirstR f hG).mono fun r h' ⟨post, h1, S⟩ => ⟨post, mvq_of h1 (by rintro _ rfl; rfl), S⟩
  last := fun f _ hG => (c_LastR f hG).mono fun r h' ⟨post, h1, S⟩ => ⟨post, mvq_of h1 (by
    have := items_le f.val
    have := f.its
    rintro _ rfl
    show ((flatB n t).length : Int) - 1 = (((flatB n t).length - 1 : Nat) : Int)
    omega), S⟩
  next := @fun h G p sk ats ate fs x hp f hV hG => by
    obtain ⟨hV1, hV2⟩ := hV
    by_cases h0 : 0 ≤ p
    · obtain ⟨rfl, hP⟩ := hV2 h0
      rw [if_pos h0, if_pos h0]
      refine (c_NextR f hP.nxt hG).mono fun r h' ⟨post, h1, S⟩ => ⟨post, mvq_of h1 ?_, S⟩
      have e : p + 1 = ((p.toNat + 1 : Nat) : Int) := by omega
      rw [e]
      exact lookup_if _
    · rw [if_neg h0, if_neg h0]
      have hk : (((flatB n t).length : Int) == 0) = false := by
        have := items_le f.val
        have := f.its
        rw [beq_eq_false_iff_ne]; omega
      rcases hV1 with rfl | ⟨rfl, q, hP⟩
      · exact (c_Next0 f hG).mono fun r h' ⟨post, h1, S⟩ => ⟨post, mvq_un h1 (by omega) hk, S⟩
      · exact (c_NextR f hP.nxt hG).mono fun r h' ⟨post, h1, S⟩ => ⟨post, mvq_un h1 (by omega) hk, S⟩
  prev := @fun h G p sk ats ate fs x hp f hV hG => by
    obtain ⟨hV1, hV2⟩ := hV
    by_cases h0 : 0 ≤ p
    · obtain ⟨rfl, hP⟩ := hV2 h0
      rw [if_pos h0, if_pos h0]
      refine (c_PrevR f hP hG).mono fun r h' ⟨post, h1, S⟩ => ⟨post, mvq_of h1 ?_, S⟩
      rintro _ rfl
      by_cases hz : p.toNat = 0
      · rw [if_pos hz]
        show atO (flatB n t) (p - 1) = none
        unfold atO; rw [if_pos (by omega)]
      · rw [if_neg hz]
        show p - 1 = ((p.toNat - 1 : Nat) : Int)
        omega
    · rw [if_neg h0, if_neg h0]
      have hk : (((flatB n t).length : Int) == 0) = false := by
        have := items_le f.val
        have := f.its
        rw [beq_eq_false_iff_ne]; omega
      rcases hV1 with rfl | ⟨rfl, q, hP⟩
      · exact (c_Prev0 f hG).mono fun r h' ⟨post, h1, S⟩ => ⟨post, mvq_un h1 (by omega) hk, S⟩
      · exact (c_PrevR f hP hG).mono fun r h' ⟨post, h1, S⟩ => ⟨post, mvq_un h1 (by omega) hk, S⟩
  seek := @fun h G p sk ats ate fs x k f _ hG => (c_Seek (k := k.1) f hsr hG).mono fun r h' ⟨post, h1, S⟩ => ⟨post, mvq_of h1 (by rw [pos_key]; exact lookup_if _), S⟩
end
section
variable {a tr : PA}
def VE (p : Int) (_sk ats ate : Bool) (fs : List (Nat × Int)) : Prop := p < 0 ∧ fs = [] ∧ ats = false ∧ ate = false
theorem mvq_em {rest : List Ck} {to : Int} {kn : Bool} {sk : Bool} {x : IV} : MvQ [] a tr VE rest to kn (false, ()) (ItC a tr sk false false [] x :: rest) := by
  have e : atO ([] : List IV) to = none := by unfold atO; split <;> simp
  refine ⟨sk, false, false, [], x, rfl, ?_, fun _ => by rw [e]; rfl⟩
  rw [e]
  exact ⟨show (-1 : Int) < 0 by decide, rfl, rfl, rfl⟩
theorem c_FirstE {h : H} {sk ats ate : Bool} {x : IV} {G : PA → Prop} (hr : Bes (RdC (tr.1, tr.2 + 2) (.pointer none)) h G) (hG : Star [ItC a tr sk ats ate [] x] h G) :
    HT Try.prog fn_ii_First [.c (.addr a)] false [.c .bool] h fun r h' => ∃ post, (r = (false, ()) ∧ post = [ItC a tr true false false [] x]) ∧ St h G post h' := by
  apply hc_ii_First
  unfold M_ii_First
  obtain ⟨⟨s1, s2, s3⟩, hs, S⟩ := open_it (St.start hG)
  obtain rfl : s2 = 0 := hs.1
  refine ld_some S rfl (w_false rfl ?_)
  refine st_store S (lt_ble rfl) fun _ S => st_store S (lt_ble rfl) fun _ S => st_store S (lt_ble rfl) fun _ S => ?_
  refine ld_sl S s1 0 s3 rfl (w_guard ⟨by omega, by show (0 : Int) ≤ (s3 : Int); omega⟩ ?_)
  refine st_store S (lt_ble rfl) fun _ S => ?_
  have S := S.re a (itC tr true false false (s1, 0, s3) x) 0 rfl (by simp [itC, Cell.val, slBase_z]) rfl
  refine ld_some S rfl (w_nonnil (w_ptr none (hr.now S).rd (w_true rfl ?_)))
  exact rt_1 rfl ⟨_, ⟨rfl, rfl⟩, shut_itS (fs := []) S hs⟩
theorem c_LastE {h : H} {sk ats ate : Bool} {x : IV} {G : PA → Prop} (hr : Bes (RdC (tr.1, tr.2 + 2) (.pointer none)) h G) (hG : Star [ItC a tr sk ats ate [] x] h G) :
    HT Try.prog fn_ii_Last [.c (.addr a)] false [.c .bool] h fun r h' => ∃ post, (r = (false, ()) ∧ post = [ItC a tr true ats ate [] x]) ∧ St h G post h' := by
  apply hc_ii_Last
  unfold M_ii_Last
  obtain ⟨⟨s1, s2, s3⟩, hs, S⟩ := open_it (St.start hG)
  obtain rfl : s2 = 0 := hs.1
  refine ld_some S rfl (w_false rfl ?_)
  refine st_store S (lt_ble rfl) fun _ S => ?_
  refine ld_sl S s1 0 s3 rfl (w_guard ⟨by omega, by show (0 : Int) ≤ (s3 : Int); omega⟩ ?_)
  refine st_store S (lt_ble rfl) fun _ S => ?_
  have S := S.re a (itC tr true ats ate (s1, 0, s3) x) 0 rfl (by simp [itC, Cell.val, slBase_z]) rfl
  refine ld_some S rfl (w_nonnil (w_ptr none (hr.now S).rd (w_true rfl ?_)))
  exact rt_1 rfl ⟨_, ⟨rfl, rfl⟩, shut_itS (fs := []) S hs⟩
theorem c_NextE {h : H} {sk : Bool} {x : IV} {G : PA → Prop} (hr : Bes (RdC (tr.1, tr.2 + 2) (.pointer none)) h G) (hG : Star [ItC a tr sk false false [] x] h G) :
    HT Try.prog fn_ii_Next [.c (.addr a)] false [.c .bool] h fun r h' => ∃ post, (r = (false, ()) ∧ ∃ sk, post = [ItC a tr sk false false [] x]) ∧ St h G post h' := by
  apply hc_ii_Next
  unfold M_ii_Next
  obtain ⟨⟨s1, s2, s3⟩, hs, S⟩ := open_it (St.start hG)
  obtain rfl : s2 = 0 := hs.1
  refine ld_some S rfl (w_false rfl (ld_bool S rfl ?_))
  cases sk with
  | false =>
    have S := shut_itS (fs := []) S hs
    refine w_true rfl ?_
    refine st_callF S [.ck (ItC a tr false false false [] x)] (fun G' hG' hsub => c_FirstE (hr.step S hsub) hG') ?_
    rintro _ _ _ ⟨rfl, rfl⟩ S
    exact rt_1 rfl ⟨_, ⟨rfl, true, rfl⟩, S⟩
  | true =>
    refine w_false rfl (ld_sl S s1 0 s3 rfl (w_true rfl (ld_bool S rfl (w_false rfl ?_))))
    exact rt_1 rfl ⟨_, ⟨rfl, true, rfl⟩, shut_itS (fs := []) S hs⟩
theorem c_PrevE {h : H} {sk : Bool} {x : IV} {G : PA → Prop} (hG : Star [ItC a tr sk false false [] x] h G) :
    HT Try.prog fn_ii_Prev [.c (.addr a)] false [.c .bool] h fun r h' => ∃ post, (r = (false, ()) ∧ post = [ItC a tr sk false false [] x]) ∧ St h G post h' := by
  apply hc_ii_Prev
  unfold M_ii_Prev
  obtain ⟨⟨s1, s2, s3⟩, hs, S⟩ := open_it (St.start hG)
  obtain rfl : s2 = 0 := hs.1
  refine ld_some S rfl (w_false rfl (ld_bool S rfl ?_))
  cases sk with
  | false => exact w_true rfl (rt_1 rfl ⟨_, ⟨rfl, rfl⟩, shut_itS (fs := []) S hs⟩)
  | true => exact w_false rfl (ld_sl S s1 0 s3 rfl (w_true rfl (ld_bool S rfl (w_false rfl (rt_1 rfl ⟨_, ⟨rfl, rfl⟩, shut_itS (fs := []) S hs⟩)))))
theorem c_SeekE {h : H} {sk : Bool} {x : IV} {k : Int} {G : PA → Prop} (hr : Bes (RdC (tr.1, tr.2 + 2) (.pointer none)) h G) (hG : Star [ItC a tr sk false false [] x] h G) :
    HT Try.prog fn_ii_Seek [.c (.addr a), .c (.int .i64 k)] false [.c .bool] h fun r h' => ∃ post, (r = (false, ()) ∧ post = [ItC a tr true false false [] x]) ∧ St h G post h' := by
  apply hc_ii_Seek
  unfold M_ii_Seek
  obtain ⟨⟨s1, s2, s3⟩, hs, S⟩ := open_it (St.start hG)
  obtain rfl : s2 = 0 := hs.1
  refine ld_some S rfl (w_false rfl ?_)
  refine st_store S (lt_ble rfl) fun _ S => ?_
  refine ld_sl S s1 0 s3 rfl (w_guard ⟨by omega, by show (0 : Int) ≤ (s3 : Int); omega⟩ ?_)
  refine st_store S (lt_ble rfl) fun _ S => ?_
  have S := S.re a (itC tr true false false (s1, 0, s3) x) 0 rfl (by simp [itC, Cell.val, slBase_z]) rfl
  refine ld_some S rfl (w_nonnil (w_ptr none (hr.now S).rd (w_true rfl ?_)))
  exact rt_1 rfl ⟨_, ⟨rfl, rfl⟩, shut_itS (fs := []) S hs⟩
theorem ops_em {o : List Int} : ItOps o [] a tr (fun h G => Bes (RdC (tr.1, tr.2 + 2) (.pointer none)) h G) VE where
  step := fun h1 S hG => h1.step S hG
  first := @fun h G p sk ats ate fs x f hV hG => by
    obtain ⟨_, rfl, rfl, rfl⟩ := hV
    exact (c_FirstE f hG).mono fun r h' ⟨post, ⟨e1, e2⟩, S⟩ => ⟨post, by rw [e1, e2]; exact mvq_em, S⟩
  last := @fun h G p sk ats ate fs x f hV hG => by
    obtain ⟨_, rfl, rfl, rfl⟩ := hV
    exact (c_LastE f hG).mono fun r h' ⟨post, ⟨e1, e2⟩, S⟩ => ⟨post, by rw [e1, e2]; exact mvq_em, S⟩
  next := @fun h G p sk ats ate fs x _ f hV hG => by
    obtain ⟨_, rfl, rfl, rfl⟩ := hV
    exact (c_NextE f hG).mono fun r h' ⟨post, ⟨e1, sk, e2⟩, S⟩ => ⟨post, by rw [e1, e2]; exact mvq_em, S⟩
  prev := @fun h G p sk ats ate fs x _ f hV hG => by
    obtain ⟨_, rfl, rfl, rfl⟩ := hV
    exact (c_PrevE hG).mono fun r h' ⟨post, ⟨e1, e2⟩, S⟩ => ⟨post, by rw [e1, e2]; exact mvq_em, S⟩
  seek := @fun h G p sk ats ate fs x k f hV hG => by
    obtain ⟨_, rfl, rfl, rfl⟩ := hV
    exact (c_SeekE f hG).mono fun r h' ⟨post, ⟨e1, e2⟩, S⟩ => ⟨post, by rw [e1, e2]; exact mvq_em, S⟩
end
section
variable {h : H} {a tr : PA}
theorem c_Key {sk ats ate : Bool} {fs : List (Nat × Int)} {x : IV} {G : PA → Prop} (hG : Star [ItC a tr sk ats ate fs x] h G) :
    HT Try.prog fn_ii_Key [.c (.addr a)] false [.c (.int .i64)] h fun r h' => ∃ post, (r = (x.1, ()) ∧ post = [ItC a tr sk ats ate fs x]) ∧ St h G post h' := by
  apply hc_ii_Key
  unfold M_ii_Key
  obtain ⟨s, hs, S⟩ := open_it (St.start hG)
  refine ld_int S rfl ?_
  exact rt_1 rfl ⟨_, ⟨rfl, rfl⟩, shut_itS S hs⟩
theorem c_Value {sk ats ate : Bool} {fs : List (Nat × Int)} {x : IV} {G : PA → Prop} (hG : Star [ItC a tr sk ats ate fs x] h G) :
    HT Try.prog fn_ii_Value [.c (.addr a)] false [.c (.int .i64)] h fun r h' => ∃ post, (r = (x.2, ()) ∧ post = [ItC a tr sk ats ate fs x]) ∧ St h G post h' := by
  apply hc_ii_Value
  unfold M_ii_Value
  obtain ⟨s, hs, S⟩ := open_it (St.start hG)
  refine ld_int S rfl ?_
  exact rt_1 rfl ⟨_, ⟨rfl, rfl⟩, shut_itS S hs⟩
set_option maxHeartbeats 4000000 in
theorem c_moved {o : List Int} {l : List IV} {T : H → (PA → Prop) → Prop} {V : Int → Bool → Bool → Bool → List (Nat × Int) → Prop} (ops : ItOps o l a tr T V) {c : Ck} {ms : List MV} {mp : Option PA} {mn mc : Nat} (hm : Rdr c (mp, mn, mc) LM ms) (hml : ms.length ≤ 2147483648)
    {sk ats ate : Bool} {fs : List (Nat × Int)} {x0 : IV} (hV : V (-1) sk ats ate fs) {G : PA → Prop} (hT : T h G) (hG : Star [ItC a tr sk ats ate fs x0, c] h G) :
    HT Try.prog fn_impl_movedMap [.c (.addr a), .c (.sl mp mn mc)] false [.c .sl] h fun r h' => ∃ post, (∃ (s : SlT) (us : List (Option IV)) (sk ats ate : Bool) (fs : List (Nat × Int)) (x : IV), r = (s, ()) ∧ OwnL LF s us ∧ us.length = ms.length ∧ (∀ i : Nat, (itK o l (-1) ms)[i]? = some true → us[i]? = (itF o l (-1) ms)[i]?) ∧
      post = [ItC a tr sk ats ate fs x, c, SlC s LF.sz (LF.flat us)]) ∧ St h G post h' := by
  apply hc_impl_movedMap
  unfold M_impl_movedMap
  have hn : mn = ms.length := hm.1
  have S := sl_nil LF (St.start hG)
  have S := S.only [.ck (ItC a tr sk ats ate fs x0), .ck c, .sl (none, 0, 0)]
  refine w_mid' (some 0) (fun (y : SV [.c .sl]) h' => ∃ (s : SlT) (us : List (Option IV)) (sk ats ate : Bool) (fs : List (Nat × Int)) (x : IV), y = (s, ()) ∧ OwnL LF s us ∧ us.length = ms.length ∧ (∀ i : Nat, (itK o l (-1) ms)[i]? = some true → us[i]? = (itF o l (-1) ms)[i]?) ∧
      St h G [ItC a tr sk ats ate fs x, c, SlC s LF.sz (LF.flat us)] h') ?_
    (fun _ _ ⟨s, us, sk, ats, ate, fs, x, e, h1, h2, h3, S⟩ => by subst e; exact rt_1 rfl ⟨_, ⟨s, us, sk, ats, ate, fs, x, rfl, h1, h2, h3, rfl⟩, S.only [.ck (ItC a tr sk ats ate fs x), .ck c, .sl s]⟩)
  refine w_lp (fun r y h' => ∃ (i : Nat) (s : SlT) (us : List (Option IV)) (sk ats ate : Bool) (fs : List (Nat × Int)) (x : IV), y = ((i : Int), s, ()) ∧ i + r = mn ∧ OwnL LF s us ∧ us.length = i ∧ (∀ j : Nat, (itK o l (-1) (ms.take i))[j]? = some true → us[j]? = (itF o l (-1) (ms.take i))[j]?) ∧ V (itAt o l (ms.take i)) sk ats ate fs ∧
      St h G [ItC a tr sk ats ate fs x, c, SlC s LF.sz (LF.flat us)] h') mn rfl
      ⟨0, (none, 0, 0), [], sk, ats, ate, fs, x0, rfl, by omega, ⟨rfl, Nat.le_refl _, .inl rfl⟩, rfl, fun j hj => by simp [itK] at hj, hV, S⟩ ?_
  clear S hV
  rintro r _ _ ⟨i, s, us, sk, ats, ate, fs, x, rfl, hi, hs, hal, hrel, hV, S⟩
  by_cases hlt : i < mn
  · obtain ⟨p, hp, hro⟩ := hm.ptr (by omega)
    dsimp only at hp
    subst hp
    have hmi := List.getElem?_eq_getElem (show i < ms.length by omega)
    have hbd := itAt_bd (o := o) (l := l) (ms.take i)
    have htk := take_snoc (show i < ms.length by omega)
    generalize ha : itAt o l (ms.take i) = pl at *
    generalize hmv : ms[i] = mv at *
    simp only [Int.toNat_natCast, toNat_succ, toNat_succ2, toNat_pred]
    refine w_true (lt_t (by (first | omega | ((try dsimp only [Sh.T, Sh1.T]); omega)))) (w_nonnil (w_guard ⟨by (first | omega | ((try dsimp only [Sh.T, Sh1.T]); omega)), by (first | omega | ((try dsimp only [Sh.T, Sh1.T]); omega))⟩ (w_mv (S.rdr hro) hmi ?_)))
    refine st_alloc S fun n6 _ S => st_store S (lt_ble rfl) fun _ S => st_store S (lt_ble rfl) fun _ S => st_store S (lt_ble rfl) fun _ S => ld_int S rfl ?_
    have S : St h G [Ow (n6, 0) (LM.cells mv) 0, ItC a tr sk ats ate fs x, c, SlC s LF.sz (LF.flat us)] _ := S
    refine w_mid' none (fun (y : SV [.c .bool]) h' => ∃ (sk ats ate : Bool) (fs : List (Nat × Int)) (x : IV), V (mvAt o l pl mv) sk ats ate fs ∧ (mvKn l pl mv = true → (if y.1 then some x else none) = atO l (mvTo o l pl mv)) ∧
      St h G [ItC a tr sk ats ate fs x, c, SlC s LF.sz (LF.flat us)] h') ?_ ?_
    · by_cases h1 : mv.1 = 1
      · have e1 : mvTo o l pl mv = (l.length : Int) - 1 := by unfold mvTo; rw [if_neg (by omega), if_pos h1]
        have e2 : mvKn l pl mv = true := by unfold mvKn; rw [if_neg (by omega)]
        refine w_true (beq_t h1) ?_
        refine st_callF S [.ck (ItC a tr sk ats ate fs x)] (fun G' hG' hsub => ops.last (ops.step hT S hsub) hV hG') ?_
        rintro r _ _ ⟨sk, ats, ate, fs, x, rfl, q1, q2⟩ S
        dsimp only [List.cons_append, List.nil_append] at S
        exact md_n rfl ⟨sk, ats, ate, fs, x, by unfold mvAt; rw [e1]; exact q1, by rw [e1, e2]; exact q2, S.only [.ck (ItC a tr sk ats ate fs x), .ck c, .sl s]⟩
      refine w_false (beq_f h1) ?_
      refine w_mid' none (fun (y : SV [.c .bool]) h' => ∃ (sk ats ate : Bool) (fs : List (Nat × Int)) (x : IV), V (mvAt o l pl mv) sk ats ate fs ∧ (mvKn l pl mv = true → (if y.1 then some x else none) = atO l (mvTo o l pl mv)) ∧
        St h G [ItC a tr sk ats ate fs x, c, SlC s LF.sz (LF.flat us)] h') ?_ (fun _ _ hh => md_n rfl hh)
      by_cases h2 : mv.1 = 2
      · have e1 : mvTo o l pl mv = if 0 ≤ pl then pl + 1 else pl := by unfold mvTo; rw [if_pos (.inl h2), if_pos h2]
        have e2 : mvKn l pl mv = if 0 ≤ pl then true else (l.length : Int) == 0 := by unfold mvKn; rw [if_pos (.inl h2)]
        refine w_true (beq_t h2) ?_
        refine st_callF S [.ck (ItC a tr sk ats ate fs x)] (fun G' hG' hsub => ops.next hbd.1 (ops.step hT S hsub) hV hG') ?_
        rintro r _ _ ⟨sk, ats, ate, fs, x, rfl, q1, q2⟩ S
        dsimp only [List.cons_append, List.nil_append] at S
        exact md_n rfl ⟨sk, ats, ate, fs, x, by unfold mvAt; rw [e1]; exact q1, by rw [e1, e2]; exact q2, S.only [.ck (ItC a tr sk ats ate fs x), .ck c, .sl s]⟩
      refine w_false (beq_f h2) ?_
      refine w_mid' none (fun (y : SV [.c .bool]) h' => ∃ (sk ats ate : Bool) (fs : List (Nat × Int)) (x : IV), V (mvAt o l pl mv) sk ats ate fs ∧ (mvKn l pl mv = true → (if y.1 then some x else none) = atO l (mvTo o l pl mv)) ∧
        St h G [ItC a tr sk ats ate fs x, c, SlC s LF.sz (LF.flat us)] h') ?_ (fun _ _ hh => md_n rfl hh)
      by_cases h3 : mv.1 = 3
      · have e1 : mvTo o l pl mv = if 0 ≤ pl then pl - 1 else pl := by unfold mvTo; rw [if_pos (.inr h3), if_neg h2]
        have e2 : mvKn l pl mv = if 0 ≤ pl then true else (l.length : Int) == 0 := by unfold mvKn; rw [if_pos (.inr h3)]
        refine w_true (beq_t h3) ?_
        refine st_callF S [.ck (ItC a tr sk ats ate fs x)] (fun G' hG' hsub => ops.prev hbd.1 (ops.step hT S hsub) hV hG') ?_
        rintro r _ _ ⟨sk, ats, ate, fs, x, rfl, q1, q2⟩ S
        dsimp only [List.cons_append, List.nil_append] at S
        exact md_n rfl ⟨sk, ats, ate, fs, x, by unfold mvAt; rw [e1]; exact q1, by rw [e1, e2]; exact q2, S.only [.ck (ItC a tr sk ats ate fs x), .ck c, .sl s]⟩
      refine w_false (beq_f h3) ?_
      have e2 : mvKn l pl mv = true := by unfold mvKn; rw [if_neg (by omega)]
      refine w_mid' none (fun (y : SV [.c .bool]) h' => y = (decide (mv.1 = 4 ∨ mv.1 = 5), ()) ∧ St h G [Ow (n6, 0) (LM.cells mv) 0, ItC a tr sk ats ate fs x, c, SlC s LF.sz (LF.flat us)] h') ?_ ?_
      · by_cases h4 : mv.1 = 4
        · exact w_true (beq_t h4) (md_n rfl ⟨by simp [h4], S⟩)
        · exact w_false (beq_f h4) (md_n rfl ⟨by by_cases h5 : mv.1 = 5 <;> simp [h4, h5], S⟩)
      clear S
      rintro _ _ ⟨rfl, S⟩
      refine w_mid' none (fun (y : SV [.c .bool]) h' => ∃ (sk ats ate : Bool) (fs : List (Nat × Int)) (x : IV), V (mvAt o l pl mv) sk ats ate fs ∧ (mvKn l pl mv = true → (if y.1 then some x else none) = atO l (mvTo o l pl mv)) ∧
        St h G [ItC a tr sk ats ate fs x, c, SlC s LF.sz (LF.flat us)] h') ?_ (fun _ _ hh => md_n rfl hh)
      by_cases h4 : mv.1 = 4 ∨ mv.1 = 5
      · have e1 : mvTo o l pl mv = (pos (ltO o) l mv.2 : Int) := by unfold mvTo; rw [if_neg (by omega), if_neg h1, if_pos h4]
        refine w_true (decide_eq_true h4) (ld_int S rfl ?_)
        refine st_callF S [.ck (ItC a tr sk ats ate fs x)] (fun G' hG' hsub => ops.seek (k := mv.2) (ops.step hT S hsub) hV hG') ?_
        rintro r _ _ ⟨sk, ats, ate, fs, x, rfl, q1, q2⟩ S
        dsimp only [List.cons_append, List.nil_append] at S
        exact md_n rfl ⟨sk, ats, ate, fs, x, by unfold mvAt; rw [e1]; exact q1, by rw [e1, e2]; exact q2, S.only [.ck (ItC a tr sk ats ate fs x), .ck c, .sl s]⟩
      have e1 : mvTo o l pl mv = 0 := by unfold mvTo; rw [if_neg (by omega), if_neg h1, if_neg (by omega)]
      refine w_false (decide_eq_false h4) ?_
      refine st_callF S [.ck (ItC a tr sk ats ate fs x)] (fun G' hG' hsub => ops.first (ops.step hT S hsub) hV hG') ?_
      rintro r _ _ ⟨sk, ats, ate, fs, x, rfl, q1, q2⟩ S
      dsimp only [List.cons_append, List.nil_append] at S
      exact md_n rfl ⟨sk, ats, ate, fs, x, by unfold mvAt; rw [e1]; exact q1, by rw [e1, e2]; exact q2, S.only [.ck (ItC a tr sk ats ate fs x), .ck c, .sl s]⟩
    clear S hV
    rintro ⟨ok, _⟩ _ ⟨sk, ats, ate, fs, x, hV, hres, S⟩
    refine st_callT S [.ck (ItC a tr sk ats ate fs x)] (fun G hG => c_Key hG) ?_
    rintro _ _ _ ⟨rfl, rfl⟩ S
    dsimp only [List.cons_append, List.nil_append] at S
    refine st_callT S [.ck (ItC a tr sk ats ate fs x)] (fun G hG => c_Value hG) ?_
    rintro _ _ _ ⟨rfl, rfl⟩ S
    dsimp only [List.cons_append, List.nil_append] at S
    refine st_callT S [] (fun G hG => c_pair hG) ?_
    rintro _ _ _ ⟨rfl, rfl⟩ S
    dsimp only [List.cons_append, List.nil_append] at S
    have hK : itK o l (-1) (ms.take (i + 1)) = itK o l (-1) (ms.take i) ++ [mvKn l pl mv] := by rw [htk, itK_snoc]; show _ ++ [mvKn l (itAt o l (ms.take i)) mv] = _; rw [ha]
    have hF : itF o l (-1) (ms.take (i + 1)) = itF o l (-1) (ms.take i) ++ [atO l (mvTo o l pl mv)] := by rw [htk, itF_snoc]; show _ ++ [atO l (mvTo o l (itAt o l (ms.take i)) mv)] = _; rw [ha]
    have hA : mvAt o l pl mv = itAt o l (ms.take (i + 1)) := by rw [htk, itAt_snoc, ha]
    have hkl : (itK o l (-1) (ms.take i)).length = i := by rw [itK_len, List.length_take]; omega
    have hfl : (itF o l (-1) (ms.take i)).length = i := by rw [itF_len, List.length_take]; omega
    obtain ⟨s1, s2, s3⟩ := s
    refine st_alloc S fun n25 _ S => ?_
    refine st_apo (L := LF) (xs := us) (y := if ok then some (x.1, x.2) else none) S hs rfl rfl (S.rsl (LF.flat [if ok then some (x.1, x.2) else none]) 1 1 3 (fun i v h => by rw [Nat.zero_add]; exact h) rfl) ⟨by omega, by omega⟩ fun s' _ hs' S => ?_
    refine w_guard (inK64 (by (first | omega | ((try dsimp only [Sh.T, Sh1.T]); omega))) (by (first | omega | ((try dsimp only [Sh.T, Sh1.T]); omega)))) ?_
    refine ln_n rfl (r - 1) ⟨i + 1, s', us ++ [if ok then some (x.1, x.2) else none], sk, ats, ate, fs, x, rfl, by omega, hs', by simp [hal], fun j hj => ?_, by rw [← hA]; exact hV, S.only [.ck (ItC a tr sk ats ate fs x), .ck c, .sl s']⟩ (by omega)
    rw [hK] at hj
    rw [hF]
    rcases Nat.lt_trichotomy j i with hji | rfl | hji
    · rw [List.getElem?_append_left (by omega)] at hj ⊢
      rw [List.getElem?_append_left (by omega)]
      exact hrel j hj
    · rw [List.getElem?_append_right (by omega), hkl, Nat.sub_self] at hj
      rw [List.getElem?_append_right (by omega), List.getElem?_append_right (by omega), hal, hfl, Nat.sub_self]
      have hj : mvKn l pl mv = true := by simpa using hj
      have := hres hj
      show some _ = some _
      rw [← this]
    · rw [List.getElem?_eq_none (by simp; omega)] at hj; cases hj
  · rw [List.take_of_length_le (by omega)] at hrel
    exact w_false (lt_f (by (first | omega | ((try dsimp only [Sh.T, Sh1.T]); omega)))) (ln_e (md_e rfl ⟨s, us, sk, ats, ate, fs, x, rfl, hs, by omega, hrel, S⟩))
end
end Go.Proofs.Ytlmiafbcgfegpaa.MI
