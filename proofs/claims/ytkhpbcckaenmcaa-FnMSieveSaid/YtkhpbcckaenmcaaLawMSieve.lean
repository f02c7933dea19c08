/-
  The law FnMSieve. Conditions: none.
-/
import Derived.Test.YtkhpbcckaenmcaaAl
import Derived.Test.YtkhpbcckaenmcaaLawMDeleteAt
import Derived.Test.YtkhpbcckaenmcaaSr
import Derived.Test.YtkhpbcckaenmcaaCt
set_option linter.unusedVariables false
set_option linter.unusedSimpArgs false
set_option linter.unusedSectionVars false
set_option maxRecDepth 100000
namespace Go.Proofs.Ytkhpbcckaenmcaa
open Go

def M_laws_FnMSieve_1 (a00 : Int) (a01 : Int) (f0 : PA) : M :=
  .alloc ty_impl_Item [.int .i64 (a00), .int .i64 (a01)] fun n0 =>
  .load (n0, 0) (.int .i64) fun i1 =>
  .load f0 (.int .u16) fun i2 =>
  .guard (InK IntKind.i64 i2) <|
  .guard ((i2 : Int) ≠ 0) <|
  .done .ret [.c (.bool (Int.tmod i1 i2 == 0))]

theorem den_laws_FnMSieve_1 (a00 : Int) (a01 : Int) (f0 : PA) : denFn Try.prog Try.f34 [.agg [.int .i64 a00, .int .i64 a01], .c (.addr f0)] = M_laws_FnMSieve_1 a00 a01 f0 := by kernel_rfl
theorem hc_laws_FnMSieve_1 (a00 : Int) (a01 : Int) (f0 : PA) {h : H} {R : Value → H → Prop} (hw : wp Try.prog (M_laws_FnMSieve_1 a00 a01 f0) (Ret R) h) : HC Try.prog fn_laws_FnMSieve_1 (List.map AV.val [.agg [.int .i64 a00, .int .i64 a01], .c (.addr f0)]).toArray h R :=
  den_calls hmix Try.func34 (of_decide_eq_true rfl) (by rw [den_laws_FnMSieve_1]; exact hw)

def M_laws_FnMSieve (a0 : Int) (a1 : Int) (a2 : Int) (a3 : Int) : M :=
  .alloc ty_uint16 [.int .u16 (a3)] fun n0 =>
  .bind none (.call fn_laws_fit [.c (.int .i64 (a0))] false [.c (.bool)] fun r1 =>
    .ite (!r1.fst)
    (.done .normal [.c (.tt)])
    (.ite (decide (a1 > 4000))
      (.done .normal [.c (.tt)])
      (.load (n0, 0) (.int .u16) fun i2 =>
        .ite (i2 == 0)
        (.done .normal [.c (.tt)])
        (.guard (InK IntKind.i64 a1) <|
          .guard (InK IntKind.i64 a2) <|
          .call fn_laws_coprime [.c (.int .i64 (a1)), .c (.int .i64 (a2))] false [.c (.bool)] fun r3 =>
          .done .normal [.c (.bool (!r3.fst))])))) [.c (.bool)] fun x4 =>
  .ite (x4.fst)
  (.call fn_laws_aliveM [] false [.c (.bool)] fun r5 =>
    .done .ret [.c (.bool (r5.fst))])
  (.guard (InK IntKind.i64 a1) <|
    .guard (InK IntKind.i64 (a1 - 1)) <|
    .bind (some 0) (.loop [.c (.int .i64), .c (.sl)] [.c (.int .i64 (a1 - 1)), .c (.sl none (0) (0))] fun y6 =>
        .ite (decide (y6.fst ≥ 0))
        (.load (n0, 0) (.int .u16) fun i7 =>
          .guard (InK IntKind.i64 i7) <|
          .guard ((i7 : Int) ≠ 0) <|
          .bind none (.ite (Int.tmod y6.fst i7 == 0)
            (.alloc ty_int [.int .i64 (y6.fst)] fun n8 =>
              .append ty_int 1 8 [.int .i64 (0)] ((y6.snd.fst.fst), y6.snd.fst.snd.fst, y6.snd.fst.snd.snd) ((some (n8, 0)), 1, 1) fun s9 =>
              .done .normal [.c (.sl (s9.fst) (s9.snd.fst) (s9.snd.snd))])
            (.done .normal [.c (.sl (y6.snd.fst.fst) (y6.snd.fst.snd.fst) (y6.snd.fst.snd.snd))])) [.c (.sl)] fun x10 =>
          .guard (InK IntKind.i64 (y6.fst - 1)) <|
          .done .normal [.c (.int .i64 (y6.fst - 1)), .c (.sl (x10.fst.fst) (x10.fst.snd.fst) (x10.fst.snd.snd))])
        (.done (.exit 0) [.c (.sl (y6.snd.fst.fst) (y6.snd.fst.snd.fst) (y6.snd.fst.snd.snd))])) [.c (.sl)] fun x11 =>
    .guard (InK IntKind.i64 a1) <|
    .guard (InK IntKind.i64 a2) <|
    .call fn_laws_stride [.c (.int .i64 (a1)), .c (.int .i64 (a2))] false [.c (.sl)] fun r12 =>
    .call fn_impl_MDeleteAt [.c (.int .i64 (a0)), .c (.sl (r12.fst.fst) (r12.fst.snd.fst) (r12.fst.snd.snd)), .c (.sl (x11.fst.fst) (x11.fst.snd.fst) (x11.fst.snd.snd))] true [.c (.sl), .c (.sl)] fun r13 =>
    .bind (some 2) (.loop [.c (.int .i64)] [.c (.int .i64 (0))] fun y14 =>
        .ite (decide (y14.fst < (↑r13.fst.snd.fst : Int)))
        (.nonnil (r13.fst.fst) fun p15 =>
          .guard (((0 : Int) ≤ y14.fst) ∧ ((y14.fst : Int) < (↑r13.fst.snd.fst : Int))) <|
          .load (p15.fst, p15.snd + mulN (Int.toNat y14.fst) 3) (.int .i64) fun i16 =>
          .load (p15.fst, p15.snd + mulN (Int.toNat y14.fst) 3 + 1) (.int .i64) fun i17 =>
          .load (p15.fst, p15.snd + mulN (Int.toNat y14.fst) 3 + 2) (.bool) fun b18 =>
          .alloc ty_impl_Found [.int .i64 (0), .int .i64 (0), .ff] fun n19 =>
          .store (n19, 0) (.int .i64 (i16)) <|
          .store (n19, 1) (.int .i64 (i17)) <|
          .store (n19, 2) (.bool (b18)) <|
          .bind none (.load (n19, 2) (.bool) fun b20 =>
            .ite (!b20)
            (.done .normal [.c (.tt)])
            (.load (n19, 0) (.int .i64) fun i21 =>
              .nonnil (x11.fst.fst) fun p22 =>
              .guard (((0 : Int) ≤ y14.fst) ∧ ((y14.fst : Int) < (↑x11.fst.snd.fst : Int))) <|
              .load (p22.fst, p22.snd + Int.toNat y14.fst) (.int .i64) fun i23 =>
              .done .normal [.c (.bool (i21 != i23))])) [.c (.bool)] fun x24 =>
          .ite (x24.fst)
          (.done .ret [.c (.ff)])
          (.guard (InK IntKind.i64 (y14.fst + 1)) <|
            .done .normal [.c (.int .i64 (y14.fst + 1))]))
        (.done (.exit 2) [])) [] fun x25 =>
    .bind none (.ite ((↑r13.fst.snd.fst : Int) == (↑x11.fst.snd.fst : Int))
      (.guard (InK IntKind.i64 a1) <|
        .guard (InK IntKind.i64 (a1 - (↑x11.fst.snd.fst : Int))) <|
        .ite ((↑r13.snd.fst.snd.fst : Int) == a1 - (↑x11.fst.snd.fst : Int))
        (.call fn_slices_ContainsFunc_impl_Item_impl_Item [.c (.sl (r13.snd.fst.fst) (r13.snd.fst.snd.fst) (r13.snd.fst.snd.snd)), .c (.raw (Value.func (Fn.func fn_laws_FnMSieve_1) (List.map AV.val []).toArray (List.map AV.val [AV.c (Cell.addr (n0, 0))]).toArray))] false [.c (.bool)] fun r26 =>
          .ite (!r26.fst)
          (.call fn_laws_aliveM [] false [.c (.bool)] fun r27 =>
            .done .normal [.c (.bool (r27.fst))])
          (.done .normal [.c (.ff)]))
        (.done .normal [.c (.ff)]))
      (.done .normal [.c (.ff)])) [.c (.bool)] fun x28 =>
    .done .ret [.c (.bool (x28.fst))])

theorem den_laws_FnMSieve (a0 : Int) (a1 : Int) (a2 : Int) (a3 : Int) : denFn Try.prog Try.f11 [.c (.int .i64 a0), .c (.int .u16 a1), .c (.int .u16 a2), .c (.int .u16 a3)] = M_laws_FnMSieve a0 a1 a2 a3 := by kernel_rfl
theorem hc_laws_FnMSieve (a0 : Int) (a1 : Int) (a2 : Int) (a3 : Int) {h : H} {R : Value → H → Prop} (hw : wp Try.prog (M_laws_FnMSieve a0 a1 a2 a3) (Ret R) h) : HC Try.prog fn_laws_FnMSieve (List.map AV.val [.c (.int .i64 a0), .c (.int .u16 a1), .c (.int .u16 a2), .c (.int .u16 a3)]).toArray h R :=
  den_calls hmix Try.func11 (of_decide_eq_true rfl) (by rw [den_laws_FnMSieve]; exact hw)


/-- The multiples of k below n, from the greatest one down. -/
def dnO (k n : Nat) : Nat → List Int
  | 0 => []
  | j + 1 => dnO k n j ++ (if (n - 1 - j) % k = 0 then [((n - 1 - j : Nat) : Int)] else [])
theorem dnO_len (k n : Nat) : ∀ j, (dnO k n j).length ≤ j
  | 0 => Nat.le_refl _
  | j + 1 => by
    have := dnO_len k n j
    unfold dnO
    split <;> simp <;> omega
/-- Whether the key is a multiple of k. -/
def mulO (k : Nat) (x : IV) : Bool := x.1.tmod k == 0
/-- What has been deleted, and what is left. -/
theorem dn_cuts {k n : Nat} {L : List IV} (hk : 0 < k) (hL : L.length = n) (hg : ∀ i, i < n → ∃ v, L[i]? = some ((i : Int), v)) : ∀ j, j ≤ n →
    cutsR L (dnO k n j) = L.take (n - j) ++ (L.drop (n - j)).filter (fun x => !mulO k x) ∧ (cutsR L (dnO k n j)).length + (dnO k n j).length = n ∧
      ∀ (t : Nat) (i : Int), (dnO k n j)[t]? = some i → ∃ v, (cutsF L (dnO k n j))[t]? = some (some (i, v)) := by
  intro j
  induction j with
  | zero => intro _; exact ⟨by simp [dnO, cutsR, ← hL], by simp [dnO, cutsR, hL], fun t i h => by simp [dnO] at h⟩
  | succ j ih =>
    intro hj
    obtain ⟨h1, h2, h3⟩ := ih (by omega)
    obtain ⟨v, hv⟩ := hg (n - 1 - j) (by omega)
    obtain ⟨hlt, he⟩ := List.getElem?_eq_some_iff.1 hv
    have e1 : L.take (n - j) = L.take (n - (j + 1)) ++ [(((n - 1 - j : Nat) : Int), v)] := by
      rw [show n - j = (n - 1 - j) + 1 by omega, take_snoc hlt, he, show n - (j + 1) = n - 1 - j by omega]
    have e2 : L.drop (n - (j + 1)) = (((n - 1 - j : Nat) : Int), v) :: L.drop (n - j) := by
      rw [show n - (j + 1) = n - 1 - j by omega, List.drop_eq_getElem_cons hlt, he, show n - 1 - j + 1 = n - j by omega]
    have hlen : (L.take (n - (j + 1))).length = n - 1 - j := by rw [List.length_take]; omega
    have em : (((n - 1 - j : Nat) : Int)).tmod k = (((n - 1 - j) % k : Nat) : Int) := (Int.ofNat_tmod _ _).symm
    rw [dnO]
    by_cases hm : (n - 1 - j) % k = 0
    · have hmul : mulO k (((n - 1 - j : Nat) : Int), v) = true := by
        show ((((n - 1 - j : Nat) : Int)).tmod k == 0) = true
        rw [em, hm]; rfl
      rw [if_pos hm, cutsR_snoc, cutsF_snoc]
      have e3 : MI.cutK (cutsR L (dnO k n j)) ((n - 1 - j : Nat) : Int) = L.take (n - (j + 1)) ++ (L.drop (n - (j + 1))).filter (fun x => !mulO k x) := by
        unfold MI.cutK
        rw [if_neg (by omega), Int.toNat_natCast, h1, e1, e2, List.filter_cons_of_neg (by simp [hmul]), List.append_assoc, List.eraseIdx_append_of_length_le (by omega), hlen, Nat.sub_self]
        rfl
      have hat : MI.atK (cutsR L (dnO k n j)) ((n - 1 - j : Nat) : Int) = some (((n - 1 - j : Nat) : Int), v) := by
        unfold MI.atK
        rw [if_neg (by omega), Int.toNat_natCast, h1, e1, List.append_assoc, List.getElem?_append_right (by omega), hlen, Nat.sub_self]
        rfl
      refine ⟨e3, ?_, ?_⟩
      · have h4 := h2
        rw [h1, e1] at h4
        rw [e3, e2, List.filter_cons_of_neg (by simp [hmul])]
        simp only [List.length_append, List.length_singleton] at h4 ⊢
        omega
      · intro t i hti
        by_cases ht : t < (dnO k n j).length
        · rw [List.getElem?_append_left ht] at hti
          obtain ⟨w, hw⟩ := h3 t i hti
          exact ⟨w, by rw [List.getElem?_append_left (by rw [cutsF_len]; exact ht)]; exact hw⟩
        · rw [List.getElem?_append_right (by omega)] at hti
          have h5 := (List.getElem?_eq_some_iff.1 hti).1
          simp at h5
          have h6 : t = (dnO k n j).length := by omega
          subst h6
          simp at hti
          refine ⟨v, ?_⟩
          rw [List.getElem?_append_right (by rw [cutsF_len]; exact Nat.le_refl _), cutsF_len, Nat.sub_self, hat, ← hti]
          rfl
    · have hmul : mulO k (((n - 1 - j : Nat) : Int), v) = false := by
        show ((((n - 1 - j : Nat) : Int)).tmod k == 0) = false
        rw [em]; simp; omega
      rw [if_neg hm, List.append_nil]
      refine ⟨?_, h2, h3⟩
      rw [h1, e1, e2, List.filter_cons_of_pos (by simp [hmul]), List.append_assoc]; rfl
section
variable {h : H}
theorem cb_sieve {n0 k : Nat} (hk : 0 < k) (hk2 : k ≤ 65535) : Cbk Try.prog (Value.func (Fn.func fn_laws_FnMSieve_1) (List.map AV.val []).toArray (List.map AV.val [AV.c (Cell.addr (n0, 0))]).toArray) argT (fun _ => Ow (n0, 0) [.int .u16 k] 0) (fun _ x => mulO k x) 1 := by
  intro h G acc x hl hG
  refine ⟨by kernel_rfl, ?_⟩
  have e : ((List.map AV.val []).toArray ++ (List.map AV.val (argT x)).toArray ++ (List.map AV.val [AV.c (Cell.addr (n0, 0))]).toArray : Array Value) = (List.map AV.val [.agg [.int .i64 x.1, .int .i64 x.2], .c (.addr (n0, 0))]).toArray := by simp [argT]
  rw [e]
  apply hc_laws_FnMSieve_1
  unfold M_laws_FnMSieve_1
  refine st_alloc (St.start hG) fun n1 _ S => ?_
  refine ld_int S rfl (ld_int S rfl ?_)
  refine w_guard (inK64 (by (first | omega | ((try dsimp only [Sh.T, Sh1.T]); omega))) (by (first | omega | ((try dsimp only [Sh.T, Sh1.T]); omega)))) (w_guard (by (first | omega | ((try dsimp only [Sh.T, Sh1.T]); omega))) ?_)
  exact rt_1 rfl ⟨rfl, S.only [.ow (n0, 0)]⟩
set_option maxHeartbeats 4000000 in
theorem c_FnMSieve {d : Int} {n s k : Nat} (hnm : n ≤ 65535) (hs : s ≤ 65535) (hkm : k ≤ 65535) {hI : H} {G : PA → Prop} (hG : Star [BaC hI] h G) :
    HT Try.prog fn_laws_FnMSieve [.c (.int .i64 d), .c (.int .u16 n), .c (.int .u16 s), .c (.int .u16 k)] false [.c .bool] h fun r h' => ∃ post, (r = (true, ()) ∧ post = [BaC hI]) ∧ St h G post h' := by
  apply hc_laws_FnMSieve
  unfold M_laws_FnMSieve
  refine st_alloc (St.start hG) fun n0 _ S => ?_
  refine w_mid' none (fun (y : SV [.c .bool]) h' => (y = (true, ()) ∨ y = (false, ()) ∧ 2 ≤ d ∧ d ≤ 128 ∧ n ≤ 4000 ∧ 0 < k ∧ ∃ x y : Int, x * n + y * s = 1) ∧ St h G [Ow (n0, 0) [.int .u16 k] 0, BaC hI] h') ?_ ?_
  · refine w_callT c_fit ?_
    rintro _ _ ⟨rfl, rfl⟩
    by_cases hf : 2 ≤ d ∧ d ≤ 128
    · refine w_false (by rw [decide_eq_true hf]; rfl) ?_
      by_cases hn : n > 4000
      · exact w_true (decide_eq_true (by omega)) (md_n rfl ⟨.inl rfl, S⟩)
      · refine w_false (decide_eq_false (by omega)) (ld_int S rfl ?_)
        by_cases hk : k = 0
        · exact w_true (by simp [hk]) (md_n rfl ⟨.inl rfl, S⟩)
        · refine w_false (by simp [hk]) (w_guard (inK64 (by (first | omega | ((try dsimp only [Sh.T, Sh1.T]); omega))) (by (first | omega | ((try dsimp only [Sh.T, Sh1.T]); omega)))) (w_guard (inK64 (by (first | omega | ((try dsimp only [Sh.T, Sh1.T]); omega))) (by (first | omega | ((try dsimp only [Sh.T, Sh1.T]); omega)))) ?_))
          refine w_callT (c_coprime (by omega) (by omega)) ?_
          rintro _ _ ⟨⟨e, rfl, he⟩, rfl⟩
          cases e with
          | true => exact md_n rfl ⟨.inr ⟨rfl, hf.1, hf.2, by omega, by omega, he rfl⟩, S⟩
          | false => exact md_n rfl ⟨.inl rfl, S⟩
    · exact w_true (by rw [decide_eq_false hf]; rfl) (md_n rfl ⟨.inl rfl, S⟩)
  clear S
  rintro _ h1 ⟨rfl | ⟨rfl, hd1, hd2, hn, hk, x, y, hc⟩, S⟩
  · refine w_true rfl ?_
    refine st_callT S [] (fun G hG => c_aliveM hG) ?_
    rintro _ _ _ ⟨rfl, rfl⟩ S
    dsimp only [List.cons_append, List.nil_append] at S
    exact rt_1 rfl ⟨_, ⟨rfl, rfl⟩, S.only [.ck (BaC hI)]⟩
  refine w_false rfl (w_guard (inK64 (by (first | omega | ((try dsimp only [Sh.T, Sh1.T]); omega))) (by (first | omega | ((try dsimp only [Sh.T, Sh1.T]); omega)))) (w_guard (inK64 (by (first | omega | ((try dsimp only [Sh.T, Sh1.T]); omega))) (by (first | omega | ((try dsimp only [Sh.T, Sh1.T]); omega)))) ?_))
  have S := sl_nil LN S
  refine w_mid' (some 0) (fun (y : SV [.c .sl]) h' => ∃ t : SlT, y = (t, ()) ∧ OwnL LN t (dnO k n n) ∧ St h G [Ow (n0, 0) [.int .u16 k] 0, BaC hI, SlC t LN.sz (LN.flat (dnO k n n))] h') ?_ ?_
  · refine w_lp (fun r y h' => ∃ (j : Nat) (v : Int) (t : SlT), y = (v, t, ()) ∧ v = (n : Int) - 1 - j ∧ j + r = n ∧ OwnL LN t (dnO k n j) ∧ St h G [Ow (n0, 0) [.int .u16 k] 0, BaC hI, SlC t LN.sz (LN.flat (dnO k n j))] h') n rfl
      ⟨0, _, (none, 0, 0), rfl, by omega, by omega, ⟨rfl, Nat.le_refl _, .inl rfl⟩, S.ats [.ow (n0, 0), .ck (BaC hI), .sl (none, 0, 0)]⟩ ?_
    clear S
    rintro r _ _ ⟨j, v, ⟨t1, t2, t3⟩, rfl, hv, hj, ht, S⟩
    have htl := dnO_len k n j
    by_cases hlt : j < n
    · obtain rfl : v = ((n - 1 - j : Nat) : Int) := by omega
      refine w_true (decide_eq_true (by (first | omega | ((try dsimp only [Sh.T, Sh1.T]); omega)))) (ld_int S rfl (w_guard (inK64 (by (first | omega | ((try dsimp only [Sh.T, Sh1.T]); omega))) (by (first | omega | ((try dsimp only [Sh.T, Sh1.T]); omega)))) (w_guard (by (first | omega | ((try dsimp only [Sh.T, Sh1.T]); omega))) ?_)))
      dsimp only
      rw [show (((n - 1 - j : Nat) : Int)).tmod k = (((n - 1 - j) % k : Nat) : Int) from (Int.ofNat_tmod _ _).symm]
      refine w_mid' none (fun (y : SV [.c .sl]) h' => ∃ t : SlT, y = (t, ()) ∧ OwnL LN t (dnO k n (j + 1)) ∧ St h G [Ow (n0, 0) [.int .u16 k] 0, BaC hI, SlC t LN.sz (LN.flat (dnO k n (j + 1)))] h') ?_ ?_
      · by_cases hm : (n - 1 - j) % k = 0
        · refine w_true (by rw [hm]; rfl) ?_
          refine st_alloc S fun n8 _ S => ?_
          refine st_apo (L := LN) (xs := dnO k n j) (y := ((n - 1 - j : Nat) : Int)) S ht rfl rfl (S.rsl (LN.flat [_]) 1 1 1 (fun i v h => by rw [Nat.zero_add]; exact h) rfl) ⟨by omega, by omega⟩ fun s' _ hs' S => ?_
          have e : dnO k n j ++ [((n - 1 - j : Nat) : Int)] = dnO k n (j + 1) := by rw [dnO, if_pos hm]
          rw [e] at hs' S
          exact md_n rfl ⟨s', rfl, hs', S.only [.ow (n0, 0), .ck (BaC hI), .sl s']⟩
        · have e : dnO k n (j + 1) = dnO k n j := by rw [dnO, if_neg hm, List.append_nil]
          rw [e]
          exact w_false (by simp; omega) (md_n rfl ⟨(t1, t2, t3), rfl, ht, S⟩)
      clear S
      rintro _ _ ⟨t, rfl, ht, S⟩
      refine w_guard (inK64 (by (first | omega | ((try dsimp only [Sh.T, Sh1.T]); omega))) (by (first | omega | ((try dsimp only [Sh.T, Sh1.T]); omega)))) ?_
      exact ln_n rfl (r - 1) ⟨j + 1, _, t, rfl, by omega, by omega, ht, S⟩ (by omega)
    · obtain rfl : j = n := by omega
      exact w_false (decide_eq_false (by (first | omega | ((try dsimp only [Sh.T, Sh1.T]); omega)))) (ln_e (md_e rfl ⟨_, rfl, ht, S⟩))
  clear S
  rintro _ _ ⟨⟨ap, an, ac⟩, rfl, hat, S⟩
  have hal := dnO_len k n n
  have han : an = (dnO k n n).length := hat.1
  refine w_guard (inK64 (by (first | omega | ((try dsimp only [Sh.T, Sh1.T]); omega))) (by (first | omega | ((try dsimp only [Sh.T, Sh1.T]); omega)))) (w_guard (inK64 (by (first | omega | ((try dsimp only [Sh.T, Sh1.T]); omega))) (by (first | omega | ((try dsimp only [Sh.T, Sh1.T]); omega)))) ?_)
  refine st_callT S [] (fun G hG => c_stride hn hs hG) ?_
  rintro _ _ _ ⟨sp, rfl, hsp, rfl⟩ S
  dsimp only [List.cons_append, List.nil_append] at S
  have htr := stride_tree_len hc
  obtain ⟨q1, q2, q3⟩ := dn_cuts (k := k) hk htr (fun i hi => stride_get hc hi) n (Nat.le_refl _)
  rw [Nat.sub_self, List.take_zero, List.drop_zero, List.nil_append] at q1
  have hfl := cutsF_len (treeO [] (strideO n s)) (dnO k n n)
  (have S := S.ats [.sl sp, .sl (ap, an, ac)]; refine st_callT (l := StC [SlC sp LT.sz (LT.flat (strideO n s)), SlC (ap, an, ac) LN.sz (LN.flat (dnO k n n))] :: _) (St.st_in (m := [_, _]) S) [.ck (StC [SlC sp LT.sz (LT.flat (strideO n s)), SlC (ap, an, ac) LN.sz (LN.flat (dnO k n n))])] (fun G hG => c_MDeleteAt (by omega) (Rdr.st (i := 0) rfl hsp.rdr) (by rw [strideO_len]; omega) (Rdr.st (i := 1) rfl hat.rdr) (by omega) hG) ?_)
  rintro _ _ h5 ⟨⟨fp, fn, fc⟩, ⟨lp, ln, lc⟩, rfl, hf2, hl2, rfl⟩ S
  dsimp only [List.cons_append, List.nil_append] at S
  have hfn : fn = (dnO k n n).length := by have := hf2.1; rw [hfl] at this; exact this
  have hln : ln + an = n := by have := hl2.1; simp only at this; omega
  have hlle : (cutsR (treeO [] (strideO n s)) (dnO k n n)).length ≤ 4294967296 := by omega
  rw [q1] at hl2 hlle S
  generalize cutsF (treeO [] (strideO n s)) (dnO k n n) = F at *
  have hany : ((treeO [] (strideO n s)).filter (fun x => !mulO k x)).any (mulO k) = false := by
    rw [List.any_eq_false]
    intro x hx
    have := (List.mem_filter.1 hx).2
    simpa using this
  generalize (treeO [] (strideO n s)).filter (fun x => !mulO k x) = R at *
  have S := S.ats [.ck (StC [SlC sp LT.sz (LT.flat (strideO n s)), SlC (ap, an, ac) LN.sz (LN.flat (dnO k n n))])]
  have S := St.st_out S
  dsimp only [List.cons_append, List.nil_append] at S
  have S := S.only [.sl (fp, fn, fc), .sl (ap, an, ac), .sl (lp, ln, lc), .ow (n0, 0), .ck (BaC hI)]
  refine w_mid' (some 2) (fun _ h' => St h G [SlC (lp, ln, lc) LT.sz (LT.flat R), Ow (n0, 0) [.int .u16 k] 0, BaC hI] h') ?_ ?_
  · refine w_lp (fun r y h' => ∃ i : Nat, y = ((i : Int), ()) ∧ i + r = fn ∧ St h G [SlC (fp, fn, fc) LF.sz (LF.flat F), SlC (ap, an, ac) LN.sz (LN.flat (dnO k n n)), SlC (lp, ln, lc) LT.sz (LT.flat R), Ow (n0, 0) [.int .u16 k] 0, BaC hI] h') fn rfl ⟨0, rfl, by omega, S⟩ ?_
    clear S
    rintro r _ _ ⟨i, rfl, hi, S⟩
    by_cases hlt : i < fn
    · obtain ⟨p, hp, hfr⟩ := hf2.rdr.ptr (by omega)
      dsimp only at hp
      subst hp
      obtain ⟨q, hq, har⟩ := hat.rdr.ptr (by omega)
      dsimp only at hq
      subst hq
      have hxi := List.getElem?_eq_getElem (show i < (dnO k n n).length by omega)
      obtain ⟨v, hv⟩ := q3 i _ hxi
      refine w_true (lt_t (by (first | omega | ((try dsimp only [Sh.T, Sh1.T]); omega)))) (w_nonnil (w_guard ⟨by (first | omega | ((try dsimp only [Sh.T, Sh1.T]); omega)), by (first | omega | ((try dsimp only [Sh.T, Sh1.T]); omega))⟩ ?_))
      simp only [Int.toNat_natCast, toNat_succ, toNat_succ2, toNat_pred]
      refine w_fnd (S.rdr hfr) hv ?_
      refine st_alloc S fun n19 _ S => ?_
      refine st_store S (lt_ble rfl) fun _ S => ?_
      refine st_store S (lt_ble rfl) fun _ S => ?_
      refine st_store S (lt_ble rfl) fun _ S => ?_
      refine w_bnd (ld_bool S rfl (w_false rfl (ld_int S rfl ?_)))
      refine w_nonnil (w_guard ⟨by (first | omega | ((try dsimp only [Sh.T, Sh1.T]); omega)), by (first | omega | ((try dsimp only [Sh.T, Sh1.T]); omega))⟩ ?_)
      simp only [Int.toNat_natCast, toNat_succ, toNat_succ2, toNat_pred]
      refine w_num (S.rdr har) hxi (bd_n rfl (w_false (by simp) ?_))
      refine w_guard (inK64 (by (first | omega | ((try dsimp only [Sh.T, Sh1.T]); omega))) (by (first | omega | ((try dsimp only [Sh.T, Sh1.T]); omega)))) ?_
      exact ln_n rfl (r - 1) ⟨i + 1, rfl, by omega, S.only [.sl (some p, fn, fc), .sl (some q, an, ac), .sl (lp, ln, lc), .ow (n0, 0), .ck (BaC hI)]⟩ (by omega)
    · exact w_false (lt_f (by (first | omega | ((try dsimp only [Sh.T, Sh1.T]); omega)))) (ln_e (md_e rfl (S.only [.sl (lp, ln, lc), .ow (n0, 0), .ck (BaC hI)])))
  clear S
  rintro _ _ S
  refine w_bnd (w_true (by simp; omega) (w_guard (inK64 (by (first | omega | ((try dsimp only [Sh.T, Sh1.T]); omega))) (by (first | omega | ((try dsimp only [Sh.T, Sh1.T]); omega)))) (w_guard (inK64 (by (first | omega | ((try dsimp only [Sh.T, Sh1.T]); omega))) (by (first | omega | ((try dsimp only [Sh.T, Sh1.T]); omega)))) (w_true (by simp; omega) ?_))))
  refine st_callT S [.sl (lp, ln, lc), .ow (n0, 0)] (fun G hG => c_ContainsFunc (cb_sieve hk hkm) hl2.rdr hlle hG) ?_
  rintro _ _ _ ⟨rfl, rfl⟩ S
  dsimp only [List.cons_append, List.nil_append] at S
  refine w_true (by rw [hany]; rfl) ?_
  refine st_callT S [] (fun G hG => c_aliveM hG) ?_
  rintro _ _ _ ⟨rfl, rfl⟩ S
  dsimp only [List.cons_append, List.nil_append] at S
  exact bd_n rfl (rt_1 rfl ⟨_, ⟨rfl, rfl⟩, S.only [.ck (BaC hI)]⟩)
end
end Go.Proofs.Ytkhpbcckaenmcaa
