/-
  The thin package: the moves of an iterator over a tree of items. Conditions: none.
-/
import Derived.Test.YtlmiafbcgfegpaaPgI
import Derived.Test.YtlmiafbcgfegpaaYiz
import Derived.Test.YtlmiafbcgfegpaaItm
set_option linter.unusedVariables false
set_option linter.unusedSimpArgs false
set_option linter.unusedSectionVars false
set_option maxRecDepth 100000
namespace Go.Proofs.Ytlmiafbcgfegpaa
open Go
def M_impl_moved (a0 : PA) (a1p : Option PA) (a1l : Nat) (a1c : Nat) : M :=
  .alloc ty_btree_PathHint [.ff, .ff, .ff, .ff, .ff, .ff, .ff, .ff, .int .u8 (0), .int .u8 (0), .int .u8 (0), .int .u8 (0), .int .u8 (0), .int .u8 (0), .int .u8 (0), .int .u8 (0)] fun n0 =>
  .bind (some 0) (.loop [.c (.int .i64), .c (.sl)] [.c (.int .i64 (0)), .c (.sl none (0) (0))] fun y1 =>
      .ite (decide (y1.fst < (↑a1l : Int)))
      (.nonnil (a1p) fun p2 =>
        .guard (((0 : Int) ≤ y1.fst) ∧ ((y1.fst : Int) < (↑a1l : Int))) <|
        .load (p2.fst, p2.snd + mulN (Int.toNat y1.fst) 3) (.int .i64) fun i3 =>
        .load (p2.fst, p2.snd + mulN (Int.toNat y1.fst) 3 + 1) (.int .i64) fun i4 =>
        .load (p2.fst, p2.snd + mulN (Int.toNat y1.fst) 3 + 2) (.int .i64) fun i5 =>
        .alloc ty_impl_Move [.int .i64 (0), .int .i64 (0), .int .i64 (0)] fun n6 =>
        .store (n6, 0) (.int .i64 (i3)) <|
        .store (n6, 1) (.int .i64 (i4)) <|
        .store (n6, 2) (.int .i64 (i5)) <|
        .load (n6, 0) (.int .i64) fun i7 =>
        .bind none (.ite (i7 == 1)
          (.call fn_ig_Last [.c (.addr a0)] false [.c (.bool)] fun r8 =>
            .done .normal [.c (.bool (r8.fst))])
          (.bind none (.ite (i7 == 2)
              (.call fn_ig_Next [.c (.addr a0)] false [.c (.bool)] fun r9 =>
                .done .normal [.c (.bool (r9.fst))])
              (.bind none (.ite (i7 == 3)
                  (.call fn_ig_Prev [.c (.addr a0)] false [.c (.bool)] fun r10 =>
                    .done .normal [.c (.bool (r10.fst))])
                  (.bind none (.ite (i7 == 4)
                      (.load (n6, 1) (.int .i64) fun i11 =>
                        .load (n6, 2) (.int .i64) fun i12 =>
                        .call fn_ig_Seek [.c (.addr a0), .agg [.int .i64 (i11), .int .i64 (i12)]] false [.c (.bool)] fun r13 =>
                        .done .normal [.c (.bool (r13.fst))])
                      (.bind none (.ite (i7 == 5)
                          (.load (n6, 1) (.int .i64) fun i14 =>
                            .load (n6, 2) (.int .i64) fun i15 =>
                            .call fn_ig_SeekHint [.c (.addr a0), .agg [.int .i64 (i14), .int .i64 (i15)], .c (.addr (n0, 0))] false [.c (.bool)] fun r16 =>
                            .done .normal [.c (.bool (r16.fst))])
                          (.call fn_ig_First [.c (.addr a0)] false [.c (.bool)] fun r17 =>
                            .done .normal [.c (.bool (r17.fst))])) [.c (.bool)] fun x18 =>
                        .done .normal [.c (.bool (x18.fst))])) [.c (.bool)] fun x19 =>
                    .done .normal [.c (.bool (x19.fst))])) [.c (.bool)] fun x20 =>
                .done .normal [.c (.bool (x20.fst))])) [.c (.bool)] fun x21 =>
            .done .normal [.c (.bool (x21.fst))])) [.c (.bool)] fun x22 =>
        .call fn_ig_Item [.c (.addr a0)] false [.agg [.int .i64, .int .i64]] fun r23 =>
        .call fn_impl_found [.agg [.int .i64 (r23.fst.fst), .int .i64 (r23.fst.snd.fst)], .c (.bool (x22.fst))] false [.agg [.int .i64, .int .i64, .bool]] fun r24 =>
        .alloc ty_impl_Found [.int .i64 (r24.fst.fst), .int .i64 (r24.fst.snd.fst), .bool (r24.fst.snd.snd.fst)] fun n25 =>
        .append ty_impl_Found 3 24 [.int .i64 (0), .int .i64 (0), .ff] ((y1.snd.fst.fst), y1.snd.fst.snd.fst, y1.snd.fst.snd.snd) ((some (n25, 0)), 1, 1) fun s26 =>
        .guard (InK IntKind.i64 (y1.fst + 1)) <|
        .done .normal [.c (.int .i64 (y1.fst + 1)), .c (.sl (s26.fst) (s26.snd.fst) (s26.snd.snd))])
      (.done (.exit 0) [.c (.sl (y1.snd.fst.fst) (y1.snd.fst.snd.fst) (y1.snd.fst.snd.snd))])) [.c (.sl)] fun x27 =>
  .done .ret [.c (.sl (x27.fst.fst) (x27.fst.snd.fst) (x27.fst.snd.snd))]
theorem den_impl_moved (a0 : PA) (a1p : Option PA) (a1l : Nat) (a1c : Nat) : denFn Try.prog Try.f66 [.c (.addr a0), .c (.sl a1p a1l a1c)] = M_impl_moved a0 a1p a1l a1c := by kernel_rfl
theorem hc_impl_moved (a0 : PA) (a1p : Option PA) (a1l : Nat) (a1c : Nat) {h : H} {R : Value → H → Prop} (hw : wp Try.prog (M_impl_moved a0 a1p a1l a1c) (Ret R) h) : HC Try.prog fn_impl_moved (List.map AV.val [.c (.addr a0), .c (.sl a1p a1l a1c)]).toArray h R :=
  den_calls hmix Try.func66 (of_decide_eq_true rfl) (by rw [den_impl_moved]; exact hw)
section
variable {a tr : PA}
def MvQ (l : List IV) (a tr : PA) (V : Int → Bool → Bool → Bool → List (Nat × Int) → Prop) (rest : List Ck) (to : Int) (kn : Bool) (r : SV [.c .bool]) (post : List Ck) : Prop :=
  ∃ (sk ats ate : Bool) (fs : List (Nat × Int)) (x : IV), post = TG.ItC a tr sk ats ate fs x :: rest ∧ V (if (atO l to).isSome then to else -1) sk ats ate fs ∧ (kn = true → (if r.1 then some x else none) = atO l to)
structure ItOps (o : List Int) (l : List IV) (a tr : PA) (T : H → (PA → Prop) → Prop) (V : Int → Bool → Bool → Bool → List (Nat × Int) → Prop) : Prop where
  step : ∀ {h0 : H} {G0 : PA → Prop} {L : List Ck} {h : H} {G : PA → Prop}, T h0 G0 → St h0 G0 L h → (∀ x, G x → G0 x ∨ h0.size ≤ x.1) → T h G
  first : ∀ {h : H} {G : PA → Prop} {p : Int} {sk ats ate : Bool} {fs : List (Nat × Int)} {x : IV}, T h G → V p sk ats ate fs → Star [TG.ItC a tr sk ats ate fs x] h G →
    HT Try.prog fn_ig_First [.c (.addr a)] false [.c .bool] h fun r h' => ∃ post, MvQ l a tr V [] 0 true r post ∧ St h G post h'
  last : ∀ {h : H} {G : PA → Prop} {p : Int} {sk ats ate : Bool} {fs : List (Nat × Int)} {x : IV}, T h G → V p sk ats ate fs → Star [TG.ItC a tr sk ats ate fs x] h G →
    HT Try.prog fn_ig_Last [.c (.addr a)] false [.c .bool] h fun r h' => ∃ post, MvQ l a tr V [] ((l.length : Int) - 1) true r post ∧ St h G post h'
  next : ∀ {h : H} {G : PA → Prop} {p : Int} {sk ats ate : Bool} {fs : List (Nat × Int)} {x : IV}, -1 ≤ p → T h G → V p sk ats ate fs → Star [TG.ItC a tr sk ats ate fs x] h G →
    HT Try.prog fn_ig_Next [.c (.addr a)] false [.c .bool] h fun r h' => ∃ post, MvQ l a tr V [] (if 0 ≤ p then p + 1 else p) (if 0 ≤ p then true else (l.length : Int) == 0) r post ∧ St h G post h'
  prev : ∀ {h : H} {G : PA → Prop} {p : Int} {sk ats ate : Bool} {fs : List (Nat × Int)} {x : IV}, -1 ≤ p → T h G → V p sk ats ate fs → Star [TG.ItC a tr sk ats ate fs x] h G →
    HT Try.prog fn_ig_Prev [.c (.addr a)] false [.c .bool] h fun r h' => ∃ post, MvQ l a tr V [] (if 0 ≤ p then p - 1 else p) (if 0 ≤ p then true else (l.length : Int) == 0) r post ∧ St h G post h'
  seek : ∀ {h : H} {G : PA → Prop} {p : Int} {sk ats ate : Bool} {fs : List (Nat × Int)} {x k : IV}, T h G → V p sk ats ate fs → Star [TG.ItC a tr sk ats ate fs x] h G →
    HT Try.prog fn_ig_Seek [.c (.addr a), .agg [.int .i64 k.1, .int .i64 k.2]] false [.c .bool] h fun r h' => ∃ post, MvQ l a tr V [] (pos (ltO o) l k : Int) true r post ∧ St h G post h'
  seekHint : ∀ {h : H} {G : PA → Prop} {p : Int} {sk ats ate : Bool} {fs : List (Nat × Int)} {x k : IV} {hp : PA}, T h G → V p sk ats ate fs → Star [TG.ItC a tr sk ats ate fs x, TG.HtC (some hp)] h G →
    HT Try.prog fn_ig_SeekHint [.c (.addr a), .agg [.int .i64 k.1, .int .i64 k.2], .c (.ptr (some hp))] false [.c .bool] h fun r h' => ∃ post, MvQ l a tr V [TG.HtC (some hp)] (pos (ltO o) l k : Int) true r post ∧ St h G post h'
end
section
variable {n : Nat} {F : (r : Nat) → Nat → BT IV r → Prop} {mn mx : Nat} {t : BT IV n} {a tr : PA}
def VI (F : (r : Nat) → Nat → BT IV r → Prop) (mn mx : Nat) (t : BT IV n) (p : Int) (sk _ats _ate : Bool) (fs : List (Nat × Int)) : Prop :=
  (fs = [] ∨ sk = true ∧ ∃ q, TG.Pos F mn mx t fs q) ∧ (0 ≤ p → sk = true ∧ TG.Pos F mn mx t fs p.toNat)
theorem atO_nat {l : List IV} (q : Nat) : atO l (q : Int) = l[q]? := by unfold atO; rw [if_neg (by omega), Int.toNat_natCast]
theorem mvq_of {rest : List Ck} {φ : Option Nat → Prop} {r : SV [.c .bool]} {post : List Ck} {to : Int} (h : TG.MvR F mn mx t a tr rest φ r post) (hφ : ∀ s, φ s → (match s with | some q => to = (q : Int) | none => atO (flatB n t) to = none)) : MvQ (flatB n t) a tr (VI F mn mx t) rest to true r post := by
  obtain ⟨sk, ats, ate, fs, x, rfl, ⟨rfl, rfl, q, h1, h2, h3⟩ | ⟨rfl, rfl, h1⟩⟩ := h
  · have e : to = (q : Int) := hφ _ h1
    subst e
    have ea : atO (flatB n t) (q : Int) = some x := by rw [atO_nat, h3]
    refine ⟨true, ats, ate, fs, x, rfl, ?_, fun _ => by rw [ea]; rfl⟩
    rw [ea]
    exact ⟨.inr ⟨rfl, q, h2⟩, fun _ => ⟨rfl, by simpa using h2⟩⟩
  · have e : atO (flatB n t) to = none := hφ _ h1
    refine ⟨sk, ats, ate, [], x, rfl, ?_, fun _ => by rw [e]; rfl⟩
    rw [e]
    exact ⟨.inl rfl, fun h => absurd h (show ¬ (0 : Int) ≤ (-1 : Int) by decide)⟩
theorem mvq_un {rest : List Ck} {φ : Option Nat → Prop} {r : SV [.c .bool]} {post : List Ck} {to : Int} {kn : Bool} (h : TG.MvR F mn mx t a tr rest φ r post) (hto : to < 0) (hk : kn = false) : MvQ (flatB n t) a tr (VI F mn mx t) rest to kn r post := by
  have e : atO (flatB n t) to = none := by unfold atO; rw [if_pos hto]
  obtain ⟨sk, ats, ate, fs, x, rfl, ⟨rfl, rfl, q, h1, h2, h3⟩ | ⟨rfl, rfl, h1⟩⟩ := h
  · refine ⟨true, ats, ate, fs, x, rfl, ?_, fun h => by rw [hk] at h; cases h⟩
    rw [e]
    exact ⟨.inr ⟨rfl, q, h2⟩, fun h => absurd h (show ¬ (0 : Int) ≤ (-1 : Int) by decide)⟩
  · refine ⟨sk, ats, ate, [], x, rfl, ?_, fun h => by rw [hk] at h; cases h⟩
    rw [e]
    exact ⟨.inl rfl, fun h => absurd h (show ¬ (0 : Int) ≤ (-1 : Int) by decide)⟩
theorem lookup_if {l : List IV} (q : Nat) : ∀ s, s = (if q < l.length then some q else none) → (match s with | some j => (q : Int) = (j : Int) | none => atO l (q : Int) = none) := by
  rintro _ rfl
  by_cases h : q < l.length
  · rw [if_pos h]
  · rw [if_neg h]
    show atO l (q : Int) = none
    rw [atO_nat, List.getElem?_eq_none (by omega)]
theorem ops_tree {ls : Value} {oc : Ck} {o : List Int} {iso : Int} {b0 : Nat} (hls : Lss ls oc o) (hsr : Srt (ltO o) (flatB n t)) :
    ItOps o (flatB n t) a tr (fun h G => TG.Tf tr iso F mn mx n b0 t h G ∧ Bes oc h G ∧ Bes (RdC (tr.1, tr.2 + 6) ls) h G) (VI F mn mx t) where
  step := fun ⟨h1, h2, h3⟩ S hG => ⟨h1.step S hG, h2.step S hG, h3.step S hG⟩
  first := fun ⟨f, _, _⟩ _ hG => (TG.c_FirstR f hG).mono fun r h' ⟨post, h1, S⟩ => ⟨post, mvq_of h1 (by rintro _ rfl; rfl), S⟩
  last := fun ⟨f, _, _⟩ _ hG => (TG.c_LastR f hG).mono fun r h' ⟨post, h1, S⟩ => ⟨post, mvq_of h1 (by
    have := items_le f.val
    have := f.its
    rintro _ rfl
    show ((flatB n t).length : Int) - 1 = (((flatB n t).length - 1 : Nat) : Int)
    omega), S⟩
  next := @fun h G p sk ats ate fs x hp ⟨f, _, _⟩ hV hG => by
    obtain ⟨hV1, hV2⟩ := hV
    by_cases h0 : 0 ≤ p
    · obtain ⟨rfl, hP⟩ := hV2 h0
      rw [if_pos h0, if_pos h0]
      refine (TG.c_NextR f hP.nxt hG).mono fun r h' ⟨post, h1, S⟩ => ⟨post, mvq_of h1 ?_, S⟩
      have e : p + 1 = ((p.toNat + 1 : Nat) : Int) := by omega
      rw [e]
      exact lookup_if _
    · rw [if_neg h0, if_neg h0]
      have hk : (((flatB n t).length : Int) == 0) = false := by
        have := items_le f.val
        have := f.its
        rw [beq_eq_false_iff_ne]; omega
      rcases hV1 with rfl | ⟨rfl, q, hP⟩
      · exact (TG.c_Next0 f hG).mono fun r h' ⟨post, h1, S⟩ => ⟨post, mvq_un h1 (by omega) hk, S⟩
      · exact (TG.c_NextR f hP.nxt hG).mono fun r h' ⟨post, h1, S⟩ => ⟨post, mvq_un h1 (by omega) hk, S⟩
  prev := @fun h G p sk ats ate fs x hp ⟨f, _, _⟩ hV hG => by
    obtain ⟨hV1, hV2⟩ := hV
    by_cases h0 : 0 ≤ p
    · obtain ⟨rfl, hP⟩ := hV2 h0
      rw [if_pos h0, if_pos h0]
      refine (TG.c_PrevR f hP hG).mono fun r h' ⟨post, h1, S⟩ => ⟨post, mvq_of h1 ?_, S⟩
      rintro _ rfl
      by_cases hz : p.toNat = 0
      · rw [if_pos hz]
        show atO (flatB n t) (p - 1) = none
        unfold atO; rw [if_pos (by omega)]
      · rw [if_neg hz]
        show p - 1 = ((p.toNat - 1 : Nat) : Int)
        omega
    · rw [if_neg h0, if_neg h0]
      have hk : (((flatB n t).length : Int) == 0) = false := by
        have := items_le f.val
        have := f.its
        rw [beq_eq_false_iff_ne]; omega
      rcases hV1 with rfl | ⟨rfl, q, hP⟩
      · exact (TG.c_Prev0 f hG).mono fun r h' ⟨post, h1, S⟩ => ⟨post, mvq_un h1 (by omega) hk, S⟩
      · exact (TG.c_PrevR f hP hG).mono fun r h' ⟨post, h1, S⟩ => ⟨post, mvq_un h1 (by omega) hk, S⟩
  seek := fun ⟨f, h2, h3⟩ _ hG => (TG.c_Seek hls f hsr h2 h3 hG).mono fun r h' ⟨post, h1, S⟩ => ⟨post, mvq_of h1 (lookup_if _), S⟩
  seekHint := @fun h G p sk ats ate fs x k hp ⟨f, h2, h3⟩ _ hG => (TG.c_SeekHint (.inr (TG.hs_ok hp)) hls f hsr h2 h3 hG).mono fun r h' ⟨post, h1, S⟩ => ⟨post, mvq_of h1 (lookup_if _), S⟩
end
section
variable {a tr : PA}
def VE (p : Int) (_sk ats ate : Bool) (fs : List (Nat × Int)) : Prop := p < 0 ∧ fs = [] ∧ ats = false ∧ ate = false
theorem mvq_em {rest : List Ck} {to : Int} {kn : Bool} {sk : Bool} {x : IV} : MvQ [] a tr VE rest to kn (false, ()) (TG.ItC a tr sk false false [] x :: rest) := by
  have e : atO ([] : List IV) to = none := by unfold atO; split <;> simp
  refine ⟨sk, false, false, [], x, rfl, ?_, fun _ => by rw [e]; rfl⟩
  rw [e]
  exact ⟨show (-1 : Int) < 0 by decide, rfl, rfl, rfl⟩
theorem c_FirstE {h : H} {sk ats ate : Bool} {x : IV} {G : PA → Prop} (hr : Bes (RdC (tr.1, tr.2 + 2) (.pointer none)) h G) (hG : Star [TG.ItC a tr sk ats ate [] x] h G) :
    HT Try.prog fn_ig_First [.c (.addr a)] false [.c .bool] h fun r h' => ∃ post, (r = (false, ()) ∧ post = [TG.ItC a tr true false false [] x]) ∧ St h G post h' := by
  apply hc_ig_First
  unfold M_ig_First
  obtain ⟨⟨s1, s2, s3⟩, hs, S⟩ := TG.open_it (St.start hG)
  obtain rfl : s2 = 0 := hs.1
  refine ld_some S rfl (w_false rfl ?_)
  refine st_store S (lt_ble rfl) fun _ S => st_store S (lt_ble rfl) fun _ S => st_store S (lt_ble rfl) fun _ S => ?_
  refine ld_sl S s1 0 s3 rfl (w_guard ⟨by omega, by show (0 : Int) ≤ (s3 : Int); omega⟩ ?_)
  refine st_store S (lt_ble rfl) fun _ S => ?_
  have S := S.re a (TG.itC tr true false false (s1, 0, s3) x) 0 rfl (by simp [TG.itC, Cell.val, TG.slBase_z]) rfl
  refine ld_some S rfl (w_nonnil (w_ptr none (hr.now S).rd (w_true rfl ?_)))
  exact rt_1 rfl ⟨_, ⟨rfl, rfl⟩, TG.shut_itS (fs := []) S hs⟩
theorem c_LastE {h : H} {sk ats ate : Bool} {x : IV} {G : PA → Prop} (hr : Bes (RdC (tr.1, tr.2 + 2) (.pointer none)) h G) (hG : Star [TG.ItC a tr sk ats ate [] x] h G) :
    HT Try.prog fn_ig_Last [.c (.addr a)] false [.c .bool] h fun r h' => ∃ post, (r = (false, ()) ∧ post = [TG.ItC a tr true ats ate [] x]) ∧ St h G post h' := by
  apply hc_ig_Last
  unfold M_ig_Last
  obtain ⟨⟨s1, s2, s3⟩, hs, S⟩ := TG.open_it (St.start hG)
  obtain rfl : s2 = 0 := hs.1
  refine ld_some S rfl (w_false rfl ?_)
  refine st_store S (lt_ble rfl) fun _ S => ?_
  refine ld_sl S s1 0 s3 rfl (w_guard ⟨by omega, by show (0 : Int) ≤ (s3 : Int); omega⟩ ?_)
  refine st_store S (lt_ble rfl) fun _ S => ?_
  have S := S.re a (TG.itC tr true ats ate (s1, 0, s3) x) 0 rfl (by simp [TG.itC, Cell.val, TG.slBase_z]) rfl
  refine ld_some S rfl (w_nonnil (w_ptr none (hr.now S).rd (w_true rfl ?_)))
  exact rt_1 rfl ⟨_, ⟨rfl, rfl⟩, TG.shut_itS (fs := []) S hs⟩
theorem c_NextE {h : H} {sk : Bool} {x : IV} {G : PA → Prop} (hr : Bes (RdC (tr.1, tr.2 + 2) (.pointer none)) h G) (hG : Star [TG.ItC a tr sk false false [] x] h G) :
    HT Try.prog fn_ig_Next [.c (.addr a)] false [.c .bool] h fun r h' => ∃ post, (r = (false, ()) ∧ ∃ sk, post = [TG.ItC a tr sk false false [] x]) ∧ St h G post h' := by
  apply hc_ig_Next
  unfold M_ig_Next
  obtain ⟨⟨s1, s2, s3⟩, hs, S⟩ := TG.open_it (St.start hG)
  obtain rfl : s2 = 0 := hs.1
  refine ld_some S rfl (w_false rfl (ld_bool S rfl ?_))
  cases sk with
  | false =>
    have S := TG.shut_itS (fs := []) S hs
    refine w_true rfl ?_
    refine st_callF S [.ck (TG.ItC a tr false false false [] x)] (fun G' hG' hsub => c_FirstE (hr.step S hsub) hG') ?_
    rintro _ _ _ ⟨rfl, rfl⟩ S
    exact rt_1 rfl ⟨_, ⟨rfl, true, rfl⟩, S⟩
  | true =>
    refine w_false rfl (ld_sl S s1 0 s3 rfl (w_true rfl (ld_bool S rfl (w_false rfl ?_))))
    exact rt_1 rfl ⟨_, ⟨rfl, true, rfl⟩, TG.shut_itS (fs := []) S hs⟩
theorem c_PrevE {h : H} {sk : Bool} {x : IV} {G : PA → Prop} (hG : Star [TG.ItC a tr sk false false [] x] h G) :
    HT Try.prog fn_ig_Prev [.c (.addr a)] false [.c .bool] h fun r h' => ∃ post, (r = (false, ()) ∧ post = [TG.ItC a tr sk false false [] x]) ∧ St h G post h' := by
  apply hc_ig_Prev
  unfold M_ig_Prev
  obtain ⟨⟨s1, s2, s3⟩, hs, S⟩ := TG.open_it (St.start hG)
  obtain rfl : s2 = 0 := hs.1
  refine ld_some S rfl (w_false rfl (ld_bool S rfl ?_))
  cases sk with
  | false => exact w_true rfl (rt_1 rfl ⟨_, ⟨rfl, rfl⟩, TG.shut_itS (fs := []) S hs⟩)
  | true => exact w_false rfl (ld_sl S s1 0 s3 rfl (w_true rfl (ld_bool S rfl (w_false rfl (rt_1 rfl ⟨_, ⟨rfl, rfl⟩, TG.shut_itS (fs := []) S hs⟩)))))
theorem c_seekE {h : H} {sk : Bool} {x k : IV} {hp : Option PA} {G : PA → Prop} (hr : Bes (RdC (tr.1, tr.2 + 2) (.pointer none)) h G) (hG : Star [TG.ItC a tr sk false false [] x] h G) :
    HT Try.prog fn_ig_seek [.c (.addr a), .agg [.int .i64 k.1, .int .i64 k.2], .c (.ptr hp)] false [.c .bool] h fun r h' => ∃ post, (r = (false, ()) ∧ post = [TG.ItC a tr true false false [] x]) ∧ St h G post h' := by
  apply hc_ig_seek
  unfold M_ig_seek
  refine st_alloc (St.start hG) fun n0 _ S => ?_
  obtain ⟨⟨s1, s2, s3⟩, hs, S⟩ := TG.open_it (S.at (.ck (TG.ItC a tr sk false false [] x)))
  obtain rfl : s2 = 0 := hs.1
  refine ld_some S rfl (w_false rfl ?_)
  refine st_store S (lt_ble rfl) fun _ S => ?_
  refine ld_sl S s1 0 s3 rfl (w_guard ⟨by omega, by show (0 : Int) ≤ (s3 : Int); omega⟩ ?_)
  refine st_store S (lt_ble rfl) fun _ S => ?_
  have S := S.re a (TG.itC tr true false false (s1, 0, s3) x) 0 rfl (by simp [TG.itC, Cell.val, TG.slBase_z]) rfl
  refine ld_some S rfl (w_nonnil (w_ptr none (hr.now S).rd (w_true rfl ?_)))
  exact rt_1 rfl ⟨_, ⟨rfl, rfl⟩, (TG.shut_itS (fs := []) S hs).only [.ck (TG.ItC a tr true false false [] x)]⟩
theorem ops_em {o : List Int} : ItOps o [] a tr (fun h G => Bes (RdC (tr.1, tr.2 + 2) (.pointer none)) h G) VE where
  step := fun h1 S hG => h1.step S hG
  first := @fun h G p sk ats ate fs x f hV hG => by
    obtain ⟨_, rfl, rfl, rfl⟩ := hV
    exact (c_FirstE f hG).mono fun r h' ⟨post, ⟨e1, e2⟩, S⟩ => ⟨post, by rw [e1, e2]; exact mvq_em, S⟩
  last := @fun h G p sk ats ate fs x f hV hG => by
    obtain ⟨_, rfl, rfl, rfl⟩ := hV
    exact (c_LastE f hG).mono fun r h' ⟨post, ⟨e1, e2⟩, S⟩ => ⟨post, by rw [e1, e2]; exact mvq_em, S⟩
  next := @fun h G p sk ats ate fs x _ f hV hG => by
    obtain ⟨_, rfl, rfl, rfl⟩ := hV
    exact (c_NextE f hG).mono fun r h' ⟨post, ⟨e1, sk, e2⟩, S⟩ => ⟨post, by rw [e1, e2]; exact mvq_em, S⟩
  prev := @fun h G p sk ats ate fs x _ f hV hG => by
    obtain ⟨_, rfl, rfl, rfl⟩ := hV
    exact (c_PrevE hG).mono fun r h' ⟨post, ⟨e1, e2⟩, S⟩ => ⟨post, by rw [e1, e2]; exact mvq_em, S⟩
  seek := @fun h G p sk ats ate fs x k f hV hG => by
    obtain ⟨_, rfl, rfl, rfl⟩ := hV
    apply hc_ig_Seek
    unfold M_ig_Seek
    refine st_alloc (St.start hG) fun n0 _ S => ?_
    refine ld_int S rfl (ld_int S rfl ?_)
    refine st_callF S [.ck (TG.ItC a tr sk false false [] x)] (fun G' hG' hsub => c_seekE (k := k) (hp := none) (f.step S hsub) hG') ?_
    rintro _ _ _ ⟨rfl, rfl⟩ S
    dsimp only [List.cons_append, List.nil_append] at S
    exact rt_1 rfl ⟨_, mvq_em, S.only [.ck (TG.ItC a tr true false false [] x)]⟩
  seekHint := @fun h G p sk ats ate fs x k hp f hV hG => by
    obtain ⟨_, rfl, rfl, rfl⟩ := hV
    apply hc_ig_SeekHint
    unfold M_ig_SeekHint
    refine st_alloc (St.start hG) fun n0 _ S => ?_
    refine ld_int S rfl (ld_int S rfl ?_)
    refine st_callF S [.ck (TG.ItC a tr sk false false [] x)] (fun G' hG' hsub => c_seekE (k := k) (hp := some hp) (f.step S hsub) hG') ?_
    rintro _ _ _ ⟨rfl, rfl⟩ S
    dsimp only [List.cons_append, List.nil_append] at S
    exact rt_1 rfl ⟨_, mvq_em, S.only [.ck (TG.ItC a tr true false false [] x), .ck (TG.HtC (some hp))]⟩
end
section
variable {h : H} {a tr : PA}
theorem c_Item {sk ats ate : Bool} {fs : List (Nat × Int)} {x : IV} {G : PA → Prop} (hG : Star [TG.ItC a tr sk ats ate fs x] h G) :
    HT Try.prog fn_ig_Item [.c (.addr a)] false [.agg [.int .i64, .int .i64]] h fun r h' => ∃ post, (r = ((x.1, x.2, ()), ()) ∧ post = [TG.ItC a tr sk ats ate fs x]) ∧ St h G post h' := by
  apply hc_ig_Item
  unfold M_ig_Item
  refine st_alloc (St.start hG) fun n0 _ S => ?_
  obtain ⟨s, hs, S⟩ := TG.open_it (S.at (.ck (TG.ItC a tr sk ats ate fs x)))
  refine ld_int S rfl (ld_int S rfl (st_store S (lt_ble rfl) fun _ S => st_store S (lt_ble rfl) fun _ S => ld_int S rfl (ld_int S rfl ?_)))
  exact rt_1 rfl ⟨_, ⟨rfl, rfl⟩, (TG.shut_itS (S.ats [.ow a, .sl s]) hs).only [.ck (TG.ItC a tr sk ats ate fs x)]⟩
set_option maxHeartbeats 4000000 in
theorem c_moved {o : List Int} {l : List IV} {T : H → (PA → Prop) → Prop} {V : Int → Bool → Bool → Bool → List (Nat × Int) → Prop} (ops : ItOps o l a tr T V) {c : Ck} {ms : List MV} {mp : Option PA} {mn mc : Nat} (hm : Rdr c (mp, mn, mc) LM ms) (hml : ms.length ≤ 2147483648)
    {sk ats ate : Bool} {fs : List (Nat × Int)} {x0 : IV} (hV : V (-1) sk ats ate fs) {G : PA → Prop} (hT : T h G) (hG : Star [TG.ItC a tr sk ats ate fs x0, c] h G) :
    HT Try.prog fn_impl_moved [.c (.addr a), .c (.sl mp mn mc)] false [.c .sl] h fun r h' => ∃ post, (∃ (s : SlT) (us : List (Option IV)) (sk ats ate : Bool) (fs : List (Nat × Int)) (x : IV), r = (s, ()) ∧ OwnL LF s us ∧ us.length = ms.length ∧ (∀ i : Nat, (itK o l (-1) ms)[i]? = some true → us[i]? = (itF o l (-1) ms)[i]?) ∧
      post = [TG.ItC a tr sk ats ate fs x, c, SlC s LF.sz (LF.flat us)]) ∧ St h G post h' := by
  apply hc_impl_moved
  unfold M_impl_moved
  have hn : mn = ms.length := hm.1
  refine st_alloc (St.start hG) fun n0 _ S => ?_
  have S : St h G (TG.HtC (some (n0, 0)) :: _) _ := St.ex_in (List.replicate 8 false, List.replicate 8 0) ⟨rfl, rfl, by simp⟩ (S.at (.ow (n0, 0)))
  have S := sl_nil LF S
  have S := S.only [.ck (TG.ItC a tr sk ats ate fs x0), .ck c, .ck (TG.HtC (some (n0, 0))), .sl (none, 0, 0)]
  refine w_mid' (some 0) (fun (y : SV [.c .sl]) h' => ∃ (s : SlT) (us : List (Option IV)) (sk ats ate : Bool) (fs : List (Nat × Int)) (x : IV), y = (s, ()) ∧ OwnL LF s us ∧ us.length = ms.length ∧ (∀ i : Nat, (itK o l (-1) ms)[i]? = some true → us[i]? = (itF o l (-1) ms)[i]?) ∧
      St h G [TG.ItC a tr sk ats ate fs x, c, TG.HtC (some (n0, 0)), SlC s LF.sz (LF.flat us)] h') ?_
    (fun _ _ ⟨s, us, sk, ats, ate, fs, x, e, h1, h2, h3, S⟩ => by subst e; exact rt_1 rfl ⟨_, ⟨s, us, sk, ats, ate, fs, x, rfl, h1, h2, h3, rfl⟩, S.only [.ck (TG.ItC a tr sk ats ate fs x), .ck c, .sl s]⟩)
  refine w_lp (fun r y h' => ∃ (i : Nat) (s : SlT) (us : List (Option IV)) (sk ats ate : Bool) (fs : List (Nat × Int)) (x : IV), y = ((i : Int), s, ()) ∧ i + r = mn ∧ OwnL LF s us ∧ us.length = i ∧ (∀ j : Nat, (itK o l (-1) (ms.take i))[j]? = some true → us[j]? = (itF o l (-1) (ms.take i))[j]?) ∧ V (itAt o l (ms.take i)) sk ats ate fs ∧
      St h G [TG.ItC a tr sk ats ate fs x, c, TG.HtC (some (n0, 0)), SlC s LF.sz (LF.flat us)] h') mn rfl
      ⟨0, (none, 0, 0), [], sk, ats, ate, fs, x0, rfl, by omega, ⟨rfl, Nat.le_refl _, .inl rfl⟩, rfl, fun j hj => by simp [itK] at hj, hV, S⟩ ?_
  clear S hV
  rintro r _ _ ⟨i, s, us, sk, ats, ate, fs, x, rfl, hi, hs, hal, hrel, hV, S⟩
  by_cases hlt : i < mn
  · obtain ⟨p, hp, hro⟩ := hm.ptr (by omega)
    dsimp only at hp
    subst hp
    have hmi := List.getElem?_eq_getElem (show i < ms.length by omega)
    have hbd := itAt_bd (o := o) (l := l) (ms.take i)
    have htk := take_snoc (show i < ms.length by omega)
    generalize ha : itAt o l (ms.take i) = pl at *
    generalize hmv : ms[i] = mv at *
    simp only [Int.toNat_natCast, toNat_succ, toNat_succ2, toNat_pred]
    refine w_true (lt_t (by (first | omega | ((try dsimp only [Sh.T, Sh1.T]); omega)))) (w_nonnil (w_guard ⟨by (first | omega | ((try dsimp only [Sh.T, Sh1.T]); omega)), by (first | omega | ((try dsimp only [Sh.T, Sh1.T]); omega))⟩ (w_mv (S.rdr hro) hmi ?_)))
    refine st_alloc S fun n6 _ S => st_store S (lt_ble rfl) fun _ S => st_store S (lt_ble rfl) fun _ S => st_store S (lt_ble rfl) fun _ S => ld_int S rfl ?_
    have S : St h G [Ow (n6, 0) (LM.cells mv) 0, TG.ItC a tr sk ats ate fs x, c, TG.HtC (some (n0, 0)), SlC s LF.sz (LF.flat us)] _ := S
    refine w_mid' none (fun (y : SV [.c .bool]) h' => ∃ (sk ats ate : Bool) (fs : List (Nat × Int)) (x : IV), V (mvAt o l pl mv) sk ats ate fs ∧ (mvKn l pl mv = true → (if y.1 then some x else none) = atO l (mvTo o l pl mv)) ∧
      St h G [TG.ItC a tr sk ats ate fs x, c, TG.HtC (some (n0, 0)), SlC s LF.sz (LF.flat us)] h') ?_ ?_
    · by_cases h1 : mv.1 = 1
      · have e1 : mvTo o l pl mv = (l.length : Int) - 1 := by unfold mvTo; rw [if_neg (by omega), if_pos h1]
        have e2 : mvKn l pl mv = true := by unfold mvKn; rw [if_neg (by omega)]
        refine w_true (beq_t h1) ?_
        refine st_callF S [.ck (TG.ItC a tr sk ats ate fs x)] (fun G' hG' hsub => ops.last (ops.step hT S hsub) hV hG') ?_
        rintro r _ _ ⟨sk, ats, ate, fs, x, rfl, q1, q2⟩ S
        dsimp only [List.cons_append, List.nil_append] at S
        exact md_n rfl ⟨sk, ats, ate, fs, x, by unfold mvAt; rw [e1]; exact q1, by rw [e1, e2]; exact q2, S.only [.ck (TG.ItC a tr sk ats ate fs x), .ck c, .ck (TG.HtC (some (n0, 0))), .sl s]⟩
      refine w_false (beq_f h1) ?_
      refine w_mid' none (fun (y : SV [.c .bool]) h' => ∃ (sk ats ate : Bool) (fs : List (Nat × Int)) (x : IV), V (mvAt o l pl mv) sk ats ate fs ∧ (mvKn l pl mv = true → (if y.1 then some x else none) = atO l (mvTo o l pl mv)) ∧
        St h G [TG.ItC a tr sk ats ate fs x, c, TG.HtC (some (n0, 0)), SlC s LF.sz (LF.flat us)] h') ?_ (fun _ _ hh => md_n rfl hh)
      by_cases h2 : mv.1 = 2
      · have e1 : mvTo o l pl mv = if 0 ≤ pl then pl + 1 else pl := by unfold mvTo; rw [if_pos (.inl h2), if_pos h2]
        have e2 : mvKn l pl mv = if 0 ≤ pl then true else (l.length : Int) == 0 := by unfold mvKn; rw [if_pos (.inl h2)]
        refine w_true (beq_t h2) ?_
        refine st_callF S [.ck (TG.ItC a tr sk ats ate fs x)] (fun G' hG' hsub => ops.next hbd.1 (ops.step hT S hsub) hV hG') ?_
        rintro r _ _ ⟨sk, ats, ate, fs, x, rfl, q1, q2⟩ S
        dsimp only [List.cons_append, List.nil_append] at S
        exact md_n rfl ⟨sk, ats, ate, fs, x, by unfold mvAt; rw [e1]; exact q1, by rw [e1, e2]; exact q2, S.only [.ck (TG.ItC a tr sk ats ate fs x), .ck c, .ck (TG.HtC (some (n0, 0))), .sl s]⟩
      refine w_false (beq_f h2) ?_
      refine w_mid' none (fun (y : SV [.c .bool]) h' => ∃ (sk ats ate : Bool) (fs : List (Nat × Int)) (x : IV), V (mvAt o l pl mv) sk ats ate fs ∧ (mvKn l pl mv = true → (if y.1 then some x else none) = atO l (mvTo o l pl mv)) ∧
        St h G [TG.ItC a tr sk ats ate fs x, c, TG.HtC (some (n0, 0)), SlC s LF.sz (LF.flat us)] h') ?_ (fun _ _ hh => md_n rfl hh)
      by_cases h3 : mv.1 = 3
      · have e1 : mvTo o l pl mv = if 0 ≤ pl then pl - 1 else pl := by unfold mvTo; rw [if_pos (.inr h3), if_neg h2]
        have e2 : mvKn l pl mv = if 0 ≤ pl then true else (l.length : Int) == 0 := by unfold mvKn; rw [if_pos (.inr h3)]
        refine w_true (beq_t h3) ?_
        refine st_callF S [.ck (TG.ItC a tr sk ats ate fs x)] (fun G' hG' hsub => ops.prev hbd.1 (ops.step hT S hsub) hV hG') ?_
        rintro r _ _ ⟨sk, ats, ate, fs, x, rfl, q1, q2⟩ S
        dsimp only [List.cons_append, List.nil_append] at S
        exact md_n rfl ⟨sk, ats, ate, fs, x, by unfold mvAt; rw [e1]; exact q1, by rw [e1, e2]; exact q2, S.only [.ck (TG.ItC a tr sk ats ate fs x), .ck c, .ck (TG.HtC (some (n0, 0))), .sl s]⟩
      refine w_false (beq_f h3) ?_
      refine w_mid' none (fun (y : SV [.c .bool]) h' => ∃ (sk ats ate : Bool) (fs : List (Nat × Int)) (x : IV), V (mvAt o l pl mv) sk ats ate fs ∧ (mvKn l pl mv = true → (if y.1 then some x else none) = atO l (mvTo o l pl mv)) ∧
        St h G [TG.ItC a tr sk ats ate fs x, c, TG.HtC (some (n0, 0)), SlC s LF.sz (LF.flat us)] h') ?_ (fun _ _ hh => md_n rfl hh)
      have e2 : mvKn l pl mv = true := by unfold mvKn; rw [if_neg (by omega)]
      by_cases h4 : mv.1 = 4
      · have e1 : mvTo o l pl mv = (pos (ltO o) l mv.2 : Int) := by unfold mvTo; rw [if_neg (by omega), if_neg h1, if_pos (.inl h4)]
        refine w_true (beq_t h4) (ld_int S rfl (ld_int S rfl ?_))
        refine st_callF S [.ck (TG.ItC a tr sk ats ate fs x)] (fun G' hG' hsub => ops.seek (k := mv.2) (ops.step hT S hsub) hV hG') ?_
        rintro r _ _ ⟨sk, ats, ate, fs, x, rfl, q1, q2⟩ S
        dsimp only [List.cons_append, List.nil_append] at S
        exact md_n rfl ⟨sk, ats, ate, fs, x, by unfold mvAt; rw [e1]; exact q1, by rw [e1, e2]; exact q2, S.only [.ck (TG.ItC a tr sk ats ate fs x), .ck c, .ck (TG.HtC (some (n0, 0))), .sl s]⟩
      refine w_false (beq_f h4) ?_
      refine w_mid' none (fun (y : SV [.c .bool]) h' => ∃ (sk ats ate : Bool) (fs : List (Nat × Int)) (x : IV), V (mvAt o l pl mv) sk ats ate fs ∧ (mvKn l pl mv = true → (if y.1 then some x else none) = atO l (mvTo o l pl mv)) ∧
        St h G [TG.ItC a tr sk ats ate fs x, c, TG.HtC (some (n0, 0)), SlC s LF.sz (LF.flat us)] h') ?_ (fun _ _ hh => md_n rfl hh)
      by_cases h5 : mv.1 = 5
      · have e1 : mvTo o l pl mv = (pos (ltO o) l mv.2 : Int) := by unfold mvTo; rw [if_neg (by omega), if_neg h1, if_pos (.inr h5)]
        refine w_true (beq_t h5) (ld_int S rfl (ld_int S rfl ?_))
        refine st_callF S [.ck (TG.ItC a tr sk ats ate fs x), .ck (TG.HtC (some (n0, 0)))] (fun G' hG' hsub => HT.re (args' := [.c (.addr a), .agg [.int .i64 mv.2.1, .int .i64 mv.2.2], .c (.ptr (some (n0, 0)))]) rfl <| ops.seekHint (k := mv.2) (ops.step hT S hsub) hV hG') ?_
        rintro r _ _ ⟨sk, ats, ate, fs, x, rfl, q1, q2⟩ S
        dsimp only [List.cons_append, List.nil_append] at S
        exact md_n rfl ⟨sk, ats, ate, fs, x, by unfold mvAt; rw [e1]; exact q1, by rw [e1, e2]; exact q2, S.only [.ck (TG.ItC a tr sk ats ate fs x), .ck c, .ck (TG.HtC (some (n0, 0))), .sl s]⟩
      have e1 : mvTo o l pl mv = 0 := by unfold mvTo; rw [if_neg (by omega), if_neg h1, if_neg (by omega)]
      refine w_false (beq_f h5) ?_
      refine st_callF S [.ck (TG.ItC a tr sk ats ate fs x)] (fun G' hG' hsub => ops.first (ops.step hT S hsub) hV hG') ?_
      rintro r _ _ ⟨sk, ats, ate, fs, x, rfl, q1, q2⟩ S
      dsimp only [List.cons_append, List.nil_append] at S
      exact md_n rfl ⟨sk, ats, ate, fs, x, by unfold mvAt; rw [e1]; exact q1, by rw [e1, e2]; exact q2, S.only [.ck (TG.ItC a tr sk ats ate fs x), .ck c, .ck (TG.HtC (some (n0, 0))), .sl s]⟩
    clear S hV
    rintro ⟨ok, _⟩ _ ⟨sk, ats, ate, fs, x, hV, hres, S⟩
    refine st_callT S [.ck (TG.ItC a tr sk ats ate fs x)] (fun G hG => c_Item hG) ?_
    rintro _ _ _ ⟨rfl, rfl⟩ S
    dsimp only [List.cons_append, List.nil_append] at S
    refine st_callT S [] (fun G hG => c_found hG) ?_
    rintro _ _ _ ⟨rfl, rfl⟩ S
    dsimp only [List.cons_append, List.nil_append] at S
    have hK : itK o l (-1) (ms.take (i + 1)) = itK o l (-1) (ms.take i) ++ [mvKn l pl mv] := by rw [htk, itK_snoc]; show _ ++ [mvKn l (itAt o l (ms.take i)) mv] = _; rw [ha]
    have hF : itF o l (-1) (ms.take (i + 1)) = itF o l (-1) (ms.take i) ++ [atO l (mvTo o l pl mv)] := by rw [htk, itF_snoc]; show _ ++ [atO l (mvTo o l (itAt o l (ms.take i)) mv)] = _; rw [ha]
    have hA : mvAt o l pl mv = itAt o l (ms.take (i + 1)) := by rw [htk, itAt_snoc, ha]
    have hkl : (itK o l (-1) (ms.take i)).length = i := by rw [itK_len, List.length_take]; omega
    have hfl : (itF o l (-1) (ms.take i)).length = i := by rw [itF_len, List.length_take]; omega
    obtain ⟨s1, s2, s3⟩ := s
    refine st_alloc S fun n25 _ S => ?_
    refine st_apo (L := LF) (xs := us) (y := if ok then some (x.1, x.2) else none) S hs rfl rfl (S.rsl (LF.flat [if ok then some (x.1, x.2) else none]) 1 1 3 (fun i v h => by rw [Nat.zero_add]; exact h) rfl) ⟨by omega, by omega⟩ fun s' _ hs' S => ?_
    refine w_guard (inK64 (by (first | omega | ((try dsimp only [Sh.T, Sh1.T]); omega))) (by (first | omega | ((try dsimp only [Sh.T, Sh1.T]); omega)))) ?_
    refine ln_n rfl (r - 1) ⟨i + 1, s', us ++ [if ok then some (x.1, x.2) else none], sk, ats, ate, fs, x, rfl, by omega, hs', by simp [hal], fun j hj => ?_, by rw [← hA]; exact hV, S.only [.ck (TG.ItC a tr sk ats ate fs x), .ck c, .ck (TG.HtC (some (n0, 0))), .sl s']⟩ (by omega)
    rw [hK] at hj
    rw [hF]
    rcases Nat.lt_trichotomy j i with hji | rfl | hji
    · rw [List.getElem?_append_left (by omega)] at hj ⊢
      rw [List.getElem?_append_left (by omega)]
      exact hrel j hj
    · rw [List.getElem?_append_right (by omega), hkl, Nat.sub_self] at hj
      rw [List.getElem?_append_right (by omega), List.getElem?_append_right (by omega), hal, hfl, Nat.sub_self]
      have hj : mvKn l pl mv = true := by simpa using hj
      have := hres hj
      show some _ = some _
      rw [← this]
    · rw [List.getElem?_eq_none (by simp; omega)] at hj; cases hj
  · rw [List.take_of_length_le (by omega)] at hrel
    exact w_false (lt_f (by (first | omega | ((try dsimp only [Sh.T, Sh1.T]); omega)))) (ln_e (md_e rfl ⟨s, us, sk, ats, ate, fs, x, rfl, hs, by omega, hrel, S⟩))
end
end Go.Proofs.Ytlmiafbcgfegpaa
