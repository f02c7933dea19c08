/-
  The function that keeps the keys that are handed to it, and the function of a set over it. Conditions: none.
-/
import Derived.Test.YtpbmahnieepmiaaPgA
import Derived.Test.YtpbmahnieepmiaaSst
import Derived.Test.YtpbmahnieepmiaaTk
import Derived.Test.YtpbmahnieepmiaaDgms
set_option linter.unusedVariables false
set_option linter.unusedSimpArgs false
set_option linter.unusedSectionVars false
set_option maxRecDepth 100000
namespace Go.Proofs.Ytpbmahnieepmiaa
open Go
def M_impl_taker_int_1 (a0 : Int) (f0 : PA) (f1 : PA) : M :=
  .load f0 (.ptr) fun q0 =>
  .load f0 (.ptr) fun q1 =>
  .nonnil (q1) fun p2 =>
  .load p2 (.sl) fun s3 =>
  .alloc ty_int [.int .i64 (a0)] fun n4 =>
  .held p2 (.sl (s3.fst) (s3.snd.fst) (s3.snd.snd)) <|
  .held f0 (.ptr (q1)) <|
  .held f0 (.ptr (q0)) <|
  .append ty_int 1 8 [.int .i64 (0)] ((s3.fst), s3.snd.fst, s3.snd.snd) ((some (n4, 0)), 1, 1) fun s5 =>
  .held f0 (.ptr (q0)) <|
  .nonnil (q0) fun p6 =>
  .store p6 (.sl (s5.fst) (s5.snd.fst) (s5.snd.snd)) <|
  .bind none (.load f1 (.int .i64) fun i7 =>
    .ite (decide (i7 < 1))
    (.done .normal [.c (.tt)])
    (.load f0 (.ptr) fun q8 =>
      .nonnil (q8) fun p9 =>
      .load p9 (.sl) fun s10 =>
      .load f1 (.int .i64) fun i11 =>
      .done .normal [.c (.bool (decide ((↑s10.snd.fst : Int) < i11)))])) [.c (.bool)] fun x12 =>
  .done .ret [.c (.bool (x12.fst))]
theorem den_impl_taker_int_1 (a0 : Int) (f0 : PA) (f1 : PA) : denFn Try.prog Try.f72 [.c (.int .i64 a0), .c (.addr f0), .c (.addr f1)] = M_impl_taker_int_1 a0 f0 f1 := by kernel_rfl
theorem hc_impl_taker_int_1 (a0 : Int) (f0 : PA) (f1 : PA) {h : H} {R : Value → H → Prop} (hw : wp Try.prog (M_impl_taker_int_1 a0 f0 f1) (Ret R) h) : HC Try.prog fn_impl_taker_int_1 (List.map AV.val [.c (.int .i64 a0), .c (.addr f0), .c (.addr f1)]).toArray h R :=
  den_calls hmix Try.func72 (of_decide_eq_true rfl) (by rw [den_impl_taker_int_1]; exact hw)
def M_impl_taker_int (a0 : PA) (a1 : Int) : M :=
  .alloc ty_p_sl_int [.addr a0] fun n0 =>
  .alloc ty_int [.int .i64 (a1)] fun n1 =>
  .done .ret [.c (.raw (Value.func (Fn.func fn_impl_taker_int_1) (List.map AV.val []).toArray (List.map AV.val [AV.c (Cell.addr (n0, 0)), AV.c (Cell.addr (n1, 0))]).toArray))]
theorem den_impl_taker_int (a0 : PA) (a1 : Int) : denFn Try.prog Try.f43 [.c (.addr a0), .c (.int .i64 a1)] = M_impl_taker_int a0 a1 := by kernel_rfl
theorem hc_impl_taker_int (a0 : PA) (a1 : Int) {h : H} {R : Value → H → Prop} (hw : wp Try.prog (M_impl_taker_int a0 a1) (Ret R) h) : HC Try.prog fn_impl_taker_int (List.map AV.val [.c (.addr a0), .c (.int .i64 a1)]).toArray h R :=
  den_calls hmix Try.func43 (of_decide_eq_true rfl) (by rw [den_impl_taker_int]; exact hw)
section
variable {P : Program} {Q : Ex → List AV → H → Prop} {h h0 : H} {G0 : PA → Prop} {l : List Ck}
def TnC (o f0 f1 : PA) (n : Int) (acc : List Int) : Ck where
  p h F := ∃ s : SlT, OwnL LN s acc ∧ Star [Ow o [.slice (s.1.map PA.val) s.2.1 s.2.2] 0, Ow f0 [.pointer (some o.val)] 0, Ow f1 [.int .i64 n] 0, SlC s LN.sz (LN.flat acc)] h F
  out := fun ⟨s, h1, h2⟩ f d => ⟨s, h1, h2.out f d⟩
  lt := fun ⟨s, h1, h2⟩ x hx => h2.lt x hx
theorem open_tn {o f0 f1 : PA} {n : Int} {acc : List Int} (s : St h0 G0 (TnC o f0 f1 n acc :: l) h) : ∃ s : SlT, OwnL LN s acc ∧ St h0 G0 (Ow o [.slice (s.1.map PA.val) s.2.1 s.2.2] 0 :: Ow f0 [.pointer (some o.val)] 0 :: Ow f1 [.int .i64 n] 0 :: SlC s LN.sz (LN.flat acc) :: l) h :=
  s.turnE (l := [_]) (l' := fun s : SlT => [Ow o [.slice (s.1.map PA.val) s.2.1 s.2.2] 0, Ow f0 [.pointer (some o.val)] 0, Ow f1 [.int .i64 n] 0, SlC s LN.sz (LN.flat acc)]) (φ := fun s => OwnL LN s acc) fun F hF => by
    obtain ⟨F1, F2, ⟨s, h1, h2⟩, g2, g3, g4⟩ := hF
    exact ⟨s, h1, h2.iff fun x => by rw [g4]; exact ⟨.inl, fun hx => hx.elim id fun hn => (g2 x hn).elim⟩⟩
theorem shut_tn {o f0 f1 : PA} {n : Int} {acc : List Int} {s : SlT} (hs : OwnL LN s acc) (S : St h0 G0 (Ow o [.slice (s.1.map PA.val) s.2.1 s.2.2] 0 :: Ow f0 [.pointer (some o.val)] 0 :: Ow f1 [.int .i64 n] 0 :: SlC s LN.sz (LN.flat acc) :: l) h) : St h0 G0 (TnC o f0 f1 n acc :: l) h :=
  S.turn (l := [_, _, _, _]) (l' := [_]) fun F hF => star_one (c := TnC o f0 f1 n acc) ⟨s, hs, hF⟩
def tnF (f0 f1 : PA) : Value := .func (.func fn_impl_taker_int_1) #[] #[.pointer (some f0.val), .pointer (some f1.val)]
def argN (x : Int) : List AV := [.c (.int .i64 x)]
theorem cb_tn {o f0 f1 : PA} {n : Int} : Cbk Try.prog (tnF f0 f1) argN (TnC o f0 f1 n) (goN n) 4294967296 := by
  intro h G acc x hl hG
  refine ⟨by kernel_rfl, ?_⟩
  have e : (#[] ++ (List.map AV.val (argN x)).toArray ++ #[.pointer (some f0.val), .pointer (some f1.val)] : Array Value) = (List.map AV.val [.c (.int .i64 x), .c (.addr f0), .c (.addr f1)]).toArray := by simp [argN]; exact ⟨rfl, rfl⟩
  rw [e]
  apply hc_impl_taker_int_1
  unfold M_impl_taker_int_1
  obtain ⟨s, hs, S⟩ := open_tn (St.start hG)
  have hsl : s.2.1 = acc.length := hs.1
  repeat (first | refine w_nonnil ?_ | refine ld_int S rfl ?_ | refine ld_some S rfl ?_ | refine ld_ptr S _ rfl ?_ | refine ld_sls S rfl ?_ | refine ld_nil S rfl ?_ | refine ld_bool S rfl ?_ | refine st_store S (lt_ble rfl) fun _ S => ?_ | refine st_alloc S fun _ _ S => ?_ | refine st_held S rfl ?_ | refine w_guard (by (first | exact inK64 (by omega) (by omega) | omega | (constructor <;> omega) | ((try dsimp only [Sh.T, Sh1.T]); first | exact inK64 (by omega) (by omega) | omega | exact ⟨by decide, inK64 (by omega) (by omega)⟩ | trivial))) ?_ | refine bd_n rfl ?_ | refine bd_e rfl ?_ | refine bd_r ?_ | refine bd_p ?_ | refine ln_r ?_ | refine ln_e ?_ | refine w_true (b := true) rfl ?_ | refine w_false (b := false) rfl ?_ | refine w_guard (show noMeths _ _ by show _ = _; kernel_rfl) ?_ | refine w_item (S.rdr hrd) (by assumption) ?_ | refine h_item (S.rdr hrd) (by assumption) ?_ | refine w_num (S.rdr hro) (by assumption) ?_ | refine ld_sln S rfl ?_ | refine ld_sl S _ _ _ rfl ?_)
  refine st_apo (L := LN) (xs := acc) (y := x) S hs rfl rfl (S.rsl (LN.flat [x]) 1 1 1 (fun i v h => by rw [Nat.zero_add]; exact h) rfl) ⟨by omega, by omega⟩ fun s' _ hs' S => ?_
  repeat (first | refine w_nonnil ?_ | refine ld_int S rfl ?_ | refine ld_some S rfl ?_ | refine ld_ptr S _ rfl ?_ | refine ld_sls S rfl ?_ | refine ld_nil S rfl ?_ | refine ld_bool S rfl ?_ | refine st_store S (lt_ble rfl) fun _ S => ?_ | refine st_alloc S fun _ _ S => ?_ | refine st_held S rfl ?_ | refine w_guard (by (first | exact inK64 (by omega) (by omega) | omega | (constructor <;> omega) | ((try dsimp only [Sh.T, Sh1.T]); first | exact inK64 (by omega) (by omega) | omega | exact ⟨by decide, inK64 (by omega) (by omega)⟩ | trivial))) ?_ | refine bd_n rfl ?_ | refine bd_e rfl ?_ | refine bd_r ?_ | refine bd_p ?_ | refine ln_r ?_ | refine ln_e ?_ | refine w_true (b := true) rfl ?_ | refine w_false (b := false) rfl ?_ | refine w_guard (show noMeths _ _ by show _ = _; kernel_rfl) ?_ | refine w_item (S.rdr hrd) (by assumption) ?_ | refine h_item (S.rdr hrd) (by assumption) ?_ | refine w_num (S.rdr hro) (by assumption) ?_ | refine ld_sln S rfl ?_ | refine ld_sl S _ _ _ rfl ?_)
  refine w_bnd (ld_int S rfl ?_)
  have hsl' : s'.2.1 = acc.length + 1 := by have := hs'.1; simpa using this
  by_cases hn : n < 1
  · refine w_true (decide_eq_true hn) (bd_n rfl (rt_1 rfl ⟨?_, shut_tn hs' (S.only [.ow o, .ow f0, .ow f1, .sl s'])⟩))
    simp [goN, hn]
  · refine w_false (decide_eq_false hn) ?_
    repeat (first | refine w_nonnil ?_ | refine ld_int S rfl ?_ | refine ld_some S rfl ?_ | refine ld_ptr S _ rfl ?_ | refine ld_sls S rfl ?_ | refine ld_nil S rfl ?_ | refine ld_bool S rfl ?_ | refine st_store S (lt_ble rfl) fun _ S => ?_ | refine st_alloc S fun _ _ S => ?_ | refine st_held S rfl ?_ | refine w_guard (by (first | exact inK64 (by omega) (by omega) | omega | (constructor <;> omega) | ((try dsimp only [Sh.T, Sh1.T]); first | exact inK64 (by omega) (by omega) | omega | exact ⟨by decide, inK64 (by omega) (by omega)⟩ | trivial))) ?_ | refine bd_n rfl ?_ | refine bd_e rfl ?_ | refine bd_r ?_ | refine bd_p ?_ | refine ln_r ?_ | refine ln_e ?_ | refine w_true (b := true) rfl ?_ | refine w_false (b := false) rfl ?_ | refine w_guard (show noMeths _ _ by show _ = _; kernel_rfl) ?_ | refine w_item (S.rdr hrd) (by assumption) ?_ | refine h_item (S.rdr hrd) (by assumption) ?_ | refine w_num (S.rdr hro) (by assumption) ?_ | refine ld_sln S rfl ?_ | refine ld_sl S _ _ _ rfl ?_)
    refine rt_1 rfl ⟨?_, shut_tn hs' (S.only [.ow o, .ow f0, .ow f1, .sl s'])⟩
    have hd1 : decide (n < 1) = false := decide_eq_false hn
    simp only [goN, hd1, Bool.false_or, hsl']
    rfl
theorem c_tn {o : PA} {n : Int} {l : List Int} {G : PA → Prop} (hG : Star [] h G) :
    HT Try.prog fn_impl_taker_int [.c (.addr o), .c (.int .i64 n)] false [.c .raw] h fun r h' => ∃ post, (∃ a b : Nat, r = (tnF (a, 0) (b, 0), ()) ∧ post = [Ow (a, 0) [.pointer (some o.val)] 0, Ow (b, 0) [.int .i64 n] 0]) ∧ St h G post h' := by
  apply hc_impl_taker_int
  unfold M_impl_taker_int
  have S := St.start hG
  refine st_alloc S fun a _ S => ?_
  refine st_alloc S fun b _ S => ?_
  exact rt_1 rfl ⟨_, ⟨a, b, rfl, rfl⟩, S.pull1⟩
end
end Go.Proofs.Ytpbmahnieepmiaa
