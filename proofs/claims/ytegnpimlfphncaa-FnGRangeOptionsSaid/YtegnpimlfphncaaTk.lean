/-
  The function that keeps the items that are handed to it; the reference's 'First'; lists of items compared. Conditions: none.
-/
import Derived.Test.YtegnpimlfphncaaVa
import Derived.Test.YtegnpimlfphncaaCb
set_option linter.unusedVariables false
set_option linter.unusedSimpArgs false
set_option linter.unusedSectionVars false
set_option maxRecDepth 100000
namespace Go.Proofs.Ytegnpimlfphncaa
open Go
def M_impl_taker_1 (a00 : Int) (a01 : Int) (f0 : PA) (f1 : PA) : M :=
 .alloc ty_impl_Item [.int .i64 (a00), .int .i64 (a01)] fun n0 =>
 .load f0 (.ptr) fun q1 =>
 .load f0 (.ptr) fun q2 =>
 .nonnil (q2) fun p3 =>
 .load p3 (.sl) fun s4 =>
 .load (n0, 0) (.int .i64) fun i5 =>
 .load (n0, 1) (.int .i64) fun i6 =>
 .alloc ty_impl_Item [.int .i64 (i5), .int .i64 (i6)] fun n7 =>
 .held p3 (.sl (s4.fst) (s4.snd.fst) (s4.snd.snd)) <|
 .held f0 (.ptr (q2)) <|
 .held f0 (.ptr (q1)) <|
 .append ty_impl_Item 2 16 [.int .i64 (0), .int .i64 (0)] ((s4.fst), s4.snd.fst, s4.snd.snd) ((some (n7, 0)), 1, 1) fun s8 =>
 .held f0 (.ptr (q1)) <|
 .nonnil (q1) fun p9 =>
 .store p9 (.sl (s8.fst) (s8.snd.fst) (s8.snd.snd)) <|
 .bind none (.load f1 (.int .i64) fun i10 =>
 .ite (decide (i10 < 1))
 (.done .normal [.c (.tt)])
 (.load f0 (.ptr) fun q11 =>
 .nonnil (q11) fun p12 =>
 .load p12 (.sl) fun s13 =>
 .load f1 (.int .i64) fun i14 =>
 .done .normal [.c (.bool (decide ((↑s13.snd.fst : Int) < i14)))])) [.c (.bool)] fun x15 =>
 .done .ret [.c (.bool (x15.fst))]
theorem den_impl_taker_1 (a00 : Int) (a01 : Int) (f0 : PA) (f1 : PA) : denFn Try.prog Try.f55 [.agg [.int .i64 a00, .int .i64 a01], .c (.addr f0), .c (.addr f1)] = M_impl_taker_1 a00 a01 f0 f1 := by kernel_rfl
theorem hc_impl_taker_1 (a00 : Int) (a01 : Int) (f0 : PA) (f1 : PA) {h : H} {R : Value → H → Prop} (hw : wp Try.prog (M_impl_taker_1 a00 a01 f0 f1) (Ret R) h) : HC Try.prog fn_impl_taker_1 (List.map AV.val [.agg [.int .i64 a00, .int .i64 a01], .c (.addr f0), .c (.addr f1)]).toArray h R :=
  den_calls hmix Try.func55 (of_decide_eq_true rfl) (by rw [den_impl_taker_1]; exact hw)
def M_impl_taker (a0 : PA) (a1 : Int) : M :=
 .alloc ty_p_sl_impl_Item [.addr a0] fun n0 =>
 .alloc ty_int [.int .i64 (a1)] fun n1 =>
 .done .ret [.c (.raw (Value.func (Fn.func fn_impl_taker_1) (List.map AV.val []).toArray (List.map AV.val [AV.c (Cell.addr (n0, 0)), AV.c (Cell.addr (n1, 0))]).toArray))]
theorem den_impl_taker (a0 : PA) (a1 : Int) : denFn Try.prog Try.f34 [.c (.addr a0), .c (.int .i64 a1)] = M_impl_taker a0 a1 := by kernel_rfl
theorem hc_impl_taker (a0 : PA) (a1 : Int) {h : H} {R : Value → H → Prop} (hw : wp Try.prog (M_impl_taker a0 a1) (Ret R) h) : HC Try.prog fn_impl_taker (List.map AV.val [.c (.addr a0), .c (.int .i64 a1)]).toArray h R :=
  den_calls hmix Try.func34 (of_decide_eq_true rfl) (by rw [den_impl_taker]; exact hw)
def M_slices_Equal_impl_Item_impl_Item (a0p : Option PA) (a0l : Nat) (a0c : Nat) (a1p : Option PA) (a1l : Nat) (a1c : Nat) : M :=
 .ite ((↑a0l : Int) != (↑a1l : Int))
 (.done .ret [.c (.ff)])
 (.bind (some 0) (.loop [.c (.int .i64)] [.c (.int .i64 (0))] fun y0 =>
 .ite (decide (y0.fst < (↑a0l : Int)))
 (.nonnil (a0p) fun p1 =>
 .guard (((0 : Int) ≤ y0.fst) ∧ ((y0.fst : Int) < (↑a0l : Int))) <|
 .load (p1.fst, p1.snd + mulN (Int.toNat y0.fst) 2) (.int .i64) fun i2 =>
 .load (p1.fst, p1.snd + mulN (Int.toNat y0.fst) 2 + 1) (.int .i64) fun i3 =>
 .nonnil (a1p) fun p4 =>
 .guard (((0 : Int) ≤ y0.fst) ∧ ((y0.fst : Int) < (↑a1l : Int))) <|
 .load (p4.fst, p4.snd + mulN (Int.toNat y0.fst) 2) (.int .i64) fun i5 =>
 .load (p4.fst, p4.snd + mulN (Int.toNat y0.fst) 2 + 1) (.int .i64) fun i6 =>
 .ite (!(i2 == i5 && (i3 == i6 && true)))
 (.done .ret [.c (.ff)])
 (.guard (InK IntKind.i64 (y0.fst + 1)) <|
 .done .normal [.c (.int .i64 (y0.fst + 1))]))
 (.done (.exit 0) [])) [] fun x7 =>
 .done .ret [.c (.tt)])
theorem den_slices_Equal_impl_Item_impl_Item (a0p : Option PA) (a0l : Nat) (a0c : Nat) (a1p : Option PA) (a1l : Nat) (a1c : Nat) : denFn Try.prog Try.f13 [.c (.sl a0p a0l a0c), .c (.sl a1p a1l a1c)] = M_slices_Equal_impl_Item_impl_Item a0p a0l a0c a1p a1l a1c := by kernel_rfl
theorem hc_slices_Equal_impl_Item_impl_Item (a0p : Option PA) (a0l : Nat) (a0c : Nat) (a1p : Option PA) (a1l : Nat) (a1c : Nat) {h : H} {R : Value → H → Prop} (hw : wp Try.prog (M_slices_Equal_impl_Item_impl_Item a0p a0l a0c a1p a1l a1c) (Ret R) h) : HC Try.prog fn_slices_Equal_impl_Item_impl_Item (List.map AV.val [.c (.sl a0p a0l a0c), .c (.sl a1p a1l a1c)]).toArray h R :=
  den_calls hmix Try.func13 (of_decide_eq_true rfl) (by rw [den_slices_Equal_impl_Item_impl_Item]; exact hw)
section
variable {P : Program} {Q : Ex → List AV → H → Prop} {h h0 : H} {G0 : PA → Prop} {l : List Ck}
theorem Rdr.part {I : Type} {c : Ck} {sp : Option PA} {n cap : Nat} {L : Lay I} {xs : List I} (r : Rdr c (sp, n, cap) L xs) (b k : Nat) (hb : b + k ≤ n) : Rdr c (slBase sp cap b L.sz, k, cap - b) L ((xs.drop b).take k) := by
  have hn : n = xs.length := r.1
  have hcap : n ≤ cap := r.2.1
  refine ⟨by rw [List.length_take, List.length_drop]; show k = _; omega, by show k ≤ cap - b; omega, ?_⟩
  by_cases hk : k = 0
  · left; subst hk; rfl
  · right
    obtain ⟨p, hp, hrd⟩ := r.ptr (by omega)
    dsimp only at hp
    subst hp
    refine ⟨(p.1, p.2 + b * L.sz), slBase_in (by omega), fun h F hc => ?_⟩
    have := rds_part (hrd h F hc) b k cap (cap - b) (by omega) (by omega)
    rcases this.2 with h0 | ⟨q, hq, ho⟩
    · intro i v hv
      rw [h0] at hv; simp at hv
    · rw [slBase_in (by omega)] at hq
      obtain rfl := Option.some.inj hq
      exact ho
def TkC (o f0 f1 : PA) (n : Int) (acc : List IV) : Ck where
  p h F := ∃ s : SlT, OwnL LT s acc ∧ Star [Ow o [.slice (s.1.map PA.val) s.2.1 s.2.2] 0, Ow f0 [.pointer (some o.val)] 0, Ow f1 [.int .i64 n] 0, SlC s LT.sz (LT.flat acc)] h F
  out := fun ⟨s, h1, h2⟩ f d => ⟨s, h1, h2.out f d⟩
  lt := fun ⟨s, h1, h2⟩ x hx => h2.lt x hx
theorem open_tk {o f0 f1 : PA} {n : Int} {acc : List IV} (s : St h0 G0 (TkC o f0 f1 n acc :: l) h) : ∃ s : SlT, OwnL LT s acc ∧ St h0 G0 (Ow o [.slice (s.1.map PA.val) s.2.1 s.2.2] 0 :: Ow f0 [.pointer (some o.val)] 0 :: Ow f1 [.int .i64 n] 0 :: SlC s LT.sz (LT.flat acc) :: l) h :=
  s.turnE (l := [_]) (l' := fun s : SlT => [Ow o [.slice (s.1.map PA.val) s.2.1 s.2.2] 0, Ow f0 [.pointer (some o.val)] 0, Ow f1 [.int .i64 n] 0, SlC s LT.sz (LT.flat acc)]) (φ := fun s => OwnL LT s acc) fun F hF => by
    obtain ⟨F1, F2, ⟨s, h1, h2⟩, g2, g3, g4⟩ := hF
    exact ⟨s, h1, h2.iff fun x => by rw [g4]; exact ⟨.inl, fun hx => hx.elim id fun hn => (g2 x hn).elim⟩⟩
theorem shut_tk {o f0 f1 : PA} {n : Int} {acc : List IV} {s : SlT} (hs : OwnL LT s acc) (S : St h0 G0 (Ow o [.slice (s.1.map PA.val) s.2.1 s.2.2] 0 :: Ow f0 [.pointer (some o.val)] 0 :: Ow f1 [.int .i64 n] 0 :: SlC s LT.sz (LT.flat acc) :: l) h) : St h0 G0 (TkC o f0 f1 n acc :: l) h :=
  S.turn (l := [_, _, _, _]) (l' := [_]) fun F hF => star_one (c := TkC o f0 f1 n acc) ⟨s, hs, hF⟩
def tkF (f0 f1 : PA) : Value := .func (.func fn_impl_taker_1) #[] #[.pointer (some f0.val), .pointer (some f1.val)]
def argI (x : IV) : List AV := [.agg [.int .i64 x.1, .int .i64 x.2]]
theorem cb_taker {o f0 f1 : PA} {n : Int} : Cbk Try.prog (tkF f0 f1) argI (TkC o f0 f1 n) (goN n) 4294967296 := by
  intro h G acc x hl hG
  refine ⟨by kernel_rfl, ?_⟩
  have e : (#[] ++ (List.map AV.val (argI x)).toArray ++ #[.pointer (some f0.val), .pointer (some f1.val)] : Array Value) = (List.map AV.val [.agg [.int .i64 x.1, .int .i64 x.2], .c (.addr f0), .c (.addr f1)]).toArray := by simp [argI]; exact ⟨rfl, rfl⟩
  rw [e]
  apply hc_impl_taker_1
  unfold M_impl_taker_1
  obtain ⟨s, hs, S⟩ := open_tk (St.start hG)
  have hsl : s.2.1 = acc.length := hs.1
  repeat (first | refine w_nonnil ?_ | refine ld_int S rfl ?_ | refine ld_some S rfl ?_ | refine st_store S (lt_ble rfl) fun _ S => ?_ | refine st_alloc S fun _ _ S => ?_ | refine st_held S rfl ?_ | refine bd_n rfl ?_ | refine w_true (b := true) rfl ?_ | refine w_false (b := false) rfl ?_ | refine ld_sl S _ _ _ rfl ?_)
  refine st_apo (L := LT) (xs := acc) (y := x) S hs rfl rfl (S.rsl (LT.flat [x]) 1 1 2 (fun i v h => by rw [Nat.zero_add]; exact h) rfl) ⟨by omega, by omega⟩ fun s' _ hs' S => ?_
  repeat (first | refine w_nonnil ?_ | refine ld_int S rfl ?_ | refine ld_some S rfl ?_ | refine st_store S (lt_ble rfl) fun _ S => ?_ | refine st_alloc S fun _ _ S => ?_ | refine st_held S rfl ?_ | refine bd_n rfl ?_ | refine w_true (b := true) rfl ?_ | refine w_false (b := false) rfl ?_ | refine ld_sl S _ _ _ rfl ?_)
  refine w_bnd (ld_int S rfl ?_)
  have hsl' : s'.2.1 = acc.length + 1 := by have := hs'.1; simpa using this
  by_cases hn : n < 1
  · refine w_true (decide_eq_true hn) (bd_n rfl (rt_1 rfl ⟨?_, shut_tk hs' (S.only [.ow o, .ow f0, .ow f1, .sl s'])⟩))
    simp [goN, hn]
  · refine w_false (decide_eq_false hn) ?_
    repeat (first | refine w_nonnil ?_ | refine ld_int S rfl ?_ | refine ld_some S rfl ?_ | refine st_store S (lt_ble rfl) fun _ S => ?_ | refine st_alloc S fun _ _ S => ?_ | refine st_held S rfl ?_ | refine bd_n rfl ?_ | refine w_true (b := true) rfl ?_ | refine w_false (b := false) rfl ?_ | refine ld_sl S _ _ _ rfl ?_)
    refine rt_1 rfl ⟨?_, shut_tk hs' (S.only [.ow o, .ow f0, .ow f1, .sl s'])⟩
    have hd1 : decide (n < 1) = false := decide_eq_false hn
    simp only [goN, hd1, Bool.false_or, hsl']
    rfl
theorem c_taker {o : PA} {n : Int} {l : List IV} {G : PA → Prop} (hG : Star [] h G) :
    HT Try.prog fn_impl_taker [.c (.addr o), .c (.int .i64 n)] false [.c .raw] h fun r h' => ∃ post, (∃ a b : Nat, r = (tkF (a, 0) (b, 0), ()) ∧ post = [Ow (a, 0) [.pointer (some o.val)] 0, Ow (b, 0) [.int .i64 n] 0]) ∧ St h G post h' := by
  apply hc_impl_taker
  unfold M_impl_taker
  have S := St.start hG
  refine st_alloc S fun a _ S => ?_
  refine st_alloc S fun b _ S => ?_
  exact rt_1 rfl ⟨_, ⟨a, b, rfl, rfl⟩, S.pull1⟩
theorem c_EqualItems {c : Ck} {xs ys : List IV} {sp tp : Option PA} {n m cn cm : Nat} (hx : Rdr c (sp, n, cn) LT xs) (hy : Rdr c (tp, m, cm) LT ys) (hl : xs.length ≤ 4294967296) {G : PA → Prop} (hG : Star [c] h G) :
    HT Try.prog fn_slices_Equal_impl_Item_impl_Item [.c (.sl sp n cn), .c (.sl tp m cm)] false [.c .bool] h fun r h' => ∃ post, (r = (decide (xs = ys), ()) ∧ post = [c]) ∧ St h G post h' := by
  apply hc_slices_Equal_impl_Item_impl_Item
  unfold M_slices_Equal_impl_Item_impl_Item
  have hn : n = xs.length := hx.1
  have hm : m = ys.length := hy.1
  have S := St.start hG
  by_cases hnm : n = m
  · subst hnm
    refine w_false (by simp) ?_
    refine w_bnd (w_lp (fun r y h' => ∃ i : Nat, y = ((i : Int), ()) ∧ i + r = n ∧ xs.take i = ys.take i ∧ St h G [c] h') n rfl ⟨0, rfl, by omega, rfl, S⟩ ?_)
    rintro r _ _ ⟨i, rfl, hi, he, S⟩
    by_cases hlt : i < n
    · obtain ⟨p, hp, hro⟩ := hx.ptr (by omega)
      obtain ⟨q, hq, hro2⟩ := hy.ptr (by omega)
      dsimp only at hp hq
      subst hp; subst hq
      have hxi := List.getElem?_eq_getElem (show i < xs.length by omega)
      have hyi := List.getElem?_eq_getElem (show i < ys.length by omega)
      simp only [Int.toNat_natCast, toNat_succ, toNat_succ2, toNat_pred]
      refine w_true (lt_t (by (first | omega | ((try dsimp only [Sh.T, Sh1.T]); omega)))) ?_
      refine w_nonnil (w_guard ⟨by (first | omega | ((try dsimp only [Sh.T, Sh1.T]); omega)), by (first | omega | ((try dsimp only [Sh.T, Sh1.T]); omega))⟩ (w_item (S.rdr hro) hxi ?_))
      refine w_nonnil (w_guard ⟨by (first | omega | ((try dsimp only [Sh.T, Sh1.T]); omega)), by (first | omega | ((try dsimp only [Sh.T, Sh1.T]); omega))⟩ (w_item (S.rdr hro2) hyi ?_))
      by_cases hv : xs[i] = ys[i]
      · refine w_false (by simp [hv]) ?_
        repeat (first | refine w_nonnil ?_ | refine w_guard (by (first | exact inK64 (by omega) (by omega) | omega | (constructor <;> omega) | ((try dsimp only [Sh.T, Sh1.T]); first | exact inK64 (by omega) (by omega) | omega | exact ⟨by decide, inK64 (by omega) (by omega)⟩ | trivial))) ?_ | refine bd_e rfl ?_ | refine bd_r ?_ | refine ln_r ?_ | refine ln_e ?_ | refine w_true (b := true) rfl ?_ | refine w_false (b := false) rfl ?_ | refine w_guard (show noMeths _ _ by show _ = _; kernel_rfl) ?_ | refine w_item (S.rdr hrd) (by assumption) ?_ )
        exact ln_n rfl (r - 1) ⟨i + 1, rfl, by omega, by rw [take_snoc (by omega), take_snoc (by omega), he, hv], S⟩ (by omega)
      · have hne : (!(xs[i].1 == ys[i].1 && (xs[i].2 == ys[i].2 && true))) = true := by
          cases hq : (xs[i].1 == ys[i].1 && (xs[i].2 == ys[i].2 && true)) with
          | false => rfl
          | true =>
            simp only [Bool.and_true, Bool.and_eq_true, beq_iff_eq] at hq
            exact (hv (Prod.ext hq.1 hq.2)).elim
        refine w_true hne ?_
        refine ln_r (bd_r (rt_1 rfl ⟨_, ⟨?_, rfl⟩, S⟩))
        rw [decide_eq_false (fun e => hv (by subst e; rfl))]
    · refine w_false (lt_f (by (first | omega | ((try dsimp only [Sh.T, Sh1.T]); omega)))) (ln_e (bd_e rfl (rt_1 rfl ⟨_, ⟨?_, rfl⟩, S⟩)))
      rw [List.take_of_length_le (by omega), List.take_of_length_le (by omega)] at he
      rw [decide_eq_true he]
  · refine w_true (by simp; omega) (rt_1 rfl ⟨_, ⟨?_, rfl⟩, S⟩)
    rw [decide_eq_false (fun e => hnm (by subst e; omega))]
end
end Go.Proofs.Ytegnpimlfphncaa
