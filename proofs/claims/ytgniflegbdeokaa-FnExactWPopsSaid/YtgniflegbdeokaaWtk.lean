/-
  Words: the function that keeps them, lists of them compared, 'First'; maps grown out of them. Conditions: none.
-/
import Derived.Test.YtgniflegbdeokaaWsp
import Derived.Test.YtgniflegbdeokaaNcmw
set_option linter.unusedVariables false
set_option linter.unusedSimpArgs false
set_option linter.unusedSectionVars false
set_option maxRecDepth 100000
namespace Go.Proofs.Ytgniflegbdeokaa
open Go
def M_impl_taker_impl_Word_1 (a00 : ByteArray) (a01 : Int) (f0 : PA) (f1 : PA) : M :=
  .alloc ty_impl_Word [.str (a00), .int .i64 (a01)] fun n0 =>
  .load f0 (.ptr) fun q1 =>
  .load f0 (.ptr) fun q2 =>
  .nonnil (q2) fun p3 =>
  .load p3 (.sl) fun s4 =>
  .load (n0, 0) (.str) fun i5 =>
  .load (n0, 1) (.int .i64) fun i6 =>
  .alloc ty_impl_Word [.str (i5), .int .i64 (i6)] fun n7 =>
  .held p3 (.sl (s4.fst) (s4.snd.fst) (s4.snd.snd)) <|
  .held f0 (.ptr (q2)) <|
  .held f0 (.ptr (q1)) <|
  .append ty_impl_Word 2 24 [.str ({ data := #[] }), .int .i64 (0)] ((s4.fst), s4.snd.fst, s4.snd.snd) ((some (n7, 0)), 1, 1) fun s8 =>
  .held f0 (.ptr (q1)) <|
  .nonnil (q1) fun p9 =>
  .store p9 (.sl (s8.fst) (s8.snd.fst) (s8.snd.snd)) <|
  .bind none (.load f1 (.int .i64) fun i10 =>
    .ite (decide (i10 < 1))
    (.done .normal [.c (.tt)])
    (.load f0 (.ptr) fun q11 =>
      .nonnil (q11) fun p12 =>
      .load p12 (.sl) fun s13 =>
      .load f1 (.int .i64) fun i14 =>
      .done .normal [.c (.bool (decide ((↑s13.snd.fst : Int) < i14)))])) [.c (.bool)] fun x15 =>
  .done .ret [.c (.bool (x15.fst))]
theorem den_impl_taker_impl_Word_1 (a00 : ByteArray) (a01 : Int) (f0 : PA) (f1 : PA) : denFn Try.prog Try.f138 [.agg [.str a00, .int .i64 a01], .c (.addr f0), .c (.addr f1)] = M_impl_taker_impl_Word_1 a00 a01 f0 f1 := by kernel_rfl
theorem hc_impl_taker_impl_Word_1 (a00 : ByteArray) (a01 : Int) (f0 : PA) (f1 : PA) {h : H} {R : Value → H → Prop} (hw : wp Try.prog (M_impl_taker_impl_Word_1 a00 a01 f0 f1) (Ret R) h) : HC Try.prog fn_impl_taker_impl_Word_1 (List.map AV.val [.agg [.str a00, .int .i64 a01], .c (.addr f0), .c (.addr f1)]).toArray h R :=
  den_calls hmix Try.func138 (of_decide_eq_true rfl) (by rw [den_impl_taker_impl_Word_1]; exact hw)
def M_impl_taker_impl_Word (a0 : PA) (a1 : Int) : M :=
  .alloc ty_p_sl_impl_Word [.addr a0] fun n0 =>
  .alloc ty_int [.int .i64 (a1)] fun n1 =>
  .done .ret [.c (.raw (Value.func (Fn.func fn_impl_taker_impl_Word_1) (List.map AV.val []).toArray (List.map AV.val [AV.c (Cell.addr (n0, 0)), AV.c (Cell.addr (n1, 0))]).toArray))]
theorem den_impl_taker_impl_Word (a0 : PA) (a1 : Int) : denFn Try.prog Try.f106 [.c (.addr a0), .c (.int .i64 a1)] = M_impl_taker_impl_Word a0 a1 := by kernel_rfl
theorem hc_impl_taker_impl_Word (a0 : PA) (a1 : Int) {h : H} {R : Value → H → Prop} (hw : wp Try.prog (M_impl_taker_impl_Word a0 a1) (Ret R) h) : HC Try.prog fn_impl_taker_impl_Word (List.map AV.val [.c (.addr a0), .c (.int .i64 a1)]).toArray h R :=
  den_calls hmix Try.func106 (of_decide_eq_true rfl) (by rw [den_impl_taker_impl_Word]; exact hw)
def M_impl_words_1 (a0 : ByteArray) (a1 : Int) (f0 : PA) : M :=
  .load f0 (.raw) fun v0 =>
  .callv (v0) [.agg [.str (a0), .int .i64 (a1)]] false [.c (.bool)] fun r1 =>
  .done .ret [.c (.bool (r1.fst))]
theorem den_impl_words_1 (a0 : ByteArray) (a1 : Int) (f0 : PA) : denFn Try.prog Try.f107 [.c (.str a0), .c (.int .i64 a1), .c (.addr f0)] = M_impl_words_1 a0 a1 f0 := by kernel_rfl
theorem hc_impl_words_1 (a0 : ByteArray) (a1 : Int) (f0 : PA) {h : H} {R : Value → H → Prop} (hw : wp Try.prog (M_impl_words_1 a0 a1 f0) (Ret R) h) : HC Try.prog fn_impl_words_1 (List.map AV.val [.c (.str a0), .c (.int .i64 a1), .c (.addr f0)]).toArray h R :=
  den_calls hmix Try.func107 (of_decide_eq_true rfl) (by rw [den_impl_words_1]; exact hw)
def M_impl_words (a0 : PA) (a1 : Int) : M :=
  .call fn_impl_taker_impl_Word [.c (.addr a0), .c (.int .i64 (a1))] false [.c (.raw)] fun r0 =>
  .alloc ty_func_impl_Word_bool [.raw (Value.nilFunc)] fun n1 =>
  .store (n1, 0) (.raw (r0.fst)) <|
  .done .ret [.c (.raw (Value.func (Fn.func fn_impl_words_1) (List.map AV.val []).toArray (List.map AV.val [AV.c (Cell.addr (n1, 0))]).toArray))]
theorem den_impl_words (a0 : PA) (a1 : Int) : denFn Try.prog Try.f68 [.c (.addr a0), .c (.int .i64 a1)] = M_impl_words a0 a1 := by kernel_rfl
theorem hc_impl_words (a0 : PA) (a1 : Int) {h : H} {R : Value → H → Prop} (hw : wp Try.prog (M_impl_words a0 a1) (Ret R) h) : HC Try.prog fn_impl_words (List.map AV.val [.c (.addr a0), .c (.int .i64 a1)]).toArray h R :=
  den_calls hmix Try.func68 (of_decide_eq_true rfl) (by rw [den_impl_words]; exact hw)
section
variable {Q : Ex → List AV → H → Prop} {h h0 : H} {G0 : PA → Prop} {l : List Ck}
def TwC (o f0 f1 : PA) (n : Int) (acc : List WV) : Ck := ExC (fun s : SlT => OwnL LW s acc) fun s => StC [Ow o [.slice (s.1.map PA.val) s.2.1 s.2.2] 0, Ow f0 [.pointer (some o.val)] 0, Ow f1 [.int .i64 n] 0, SlC s LW.sz (LW.flat acc)]
theorem open_tw {o f0 f1 : PA} {n : Int} {acc : List WV} (s : St h0 G0 (TwC o f0 f1 n acc :: l) h) : ∃ s : SlT, OwnL LW s acc ∧ St h0 G0 (Ow o [.slice (s.1.map PA.val) s.2.1 s.2.2] 0 :: Ow f0 [.pointer (some o.val)] 0 :: Ow f1 [.int .i64 n] 0 :: SlC s LW.sz (LW.flat acc) :: l) h := by
  obtain ⟨s', hs, S⟩ := s.ex_out
  exact ⟨s', hs, St.st_out (m := [_, _, _, _]) S⟩
theorem shut_tw {o f0 f1 : PA} {n : Int} {acc : List WV} {s : SlT} (hs : OwnL LW s acc) (S : St h0 G0 (Ow o [.slice (s.1.map PA.val) s.2.1 s.2.2] 0 :: Ow f0 [.pointer (some o.val)] 0 :: Ow f1 [.int .i64 n] 0 :: SlC s LW.sz (LW.flat acc) :: l) h) : St h0 G0 (TwC o f0 f1 n acc :: l) h :=
  St.ex_in (φ := fun s : SlT => OwnL LW s acc) (f := fun s => StC [Ow o [.slice (s.1.map PA.val) s.2.1 s.2.2] 0, Ow f0 [.pointer (some o.val)] 0, Ow f1 [.int .i64 n] 0, SlC s LW.sz (LW.flat acc)]) s hs (St.st_in (m := [_, _, _, _]) S)
def twF (f0 f1 : PA) : Value := .func (.func fn_impl_taker_impl_Word_1) #[] #[.pointer (some f0.val), .pointer (some f1.val)]
def argW (x : WV) : List AV := [.agg [.str x.1, .int .i64 x.2]]
theorem cb_tw {o f0 f1 : PA} {n : Int} : Cbk Try.prog (twF f0 f1) argW (TwC o f0 f1 n) (goN n) 4294967296 := by
  intro h G acc x hl hG
  refine ⟨by kernel_rfl, ?_⟩
  have e : (#[] ++ (List.map AV.val (argW x)).toArray ++ #[.pointer (some f0.val), .pointer (some f1.val)] : Array Value) = (List.map AV.val [.agg [.str x.1, .int .i64 x.2], .c (.addr f0), .c (.addr f1)]).toArray := by simp [argW]; exact ⟨rfl, rfl⟩
  rw [e]
  apply hc_impl_taker_impl_Word_1
  unfold M_impl_taker_impl_Word_1
  obtain ⟨s, hs, S⟩ := open_tw (St.start hG)
  have hsl : s.2.1 = acc.length := hs.1
  repeat (first | refine w_nonnil ?_ | refine ld_int S rfl ?_ | refine ld_some S rfl ?_ | refine ld_ptr S _ rfl ?_ | refine ld_sls S rfl ?_ | refine ld_nil S rfl ?_ | refine ld_bool S rfl ?_ | refine st_store S (lt_ble rfl) fun _ S => ?_ | refine st_alloc S fun _ _ S => ?_ | refine st_held S rfl ?_ | refine w_guard (by (first | exact inK64 (by omega) (by omega) | omega | (constructor <;> omega) | ((try dsimp only [Sh.T, Sh1.T]); first | exact inK64 (by omega) (by omega) | omega | exact ⟨by decide, inK64 (by omega) (by omega)⟩ | trivial))) ?_ | refine bd_n rfl ?_ | refine bd_e rfl ?_ | refine bd_r ?_ | refine bd_p ?_ | refine ln_r ?_ | refine ln_e ?_ | refine w_true (b := true) rfl ?_ | refine w_false (b := false) rfl ?_ | refine w_guard (show noMeths _ _ by show _ = _; kernel_rfl) ?_ | refine w_item (S.rdr hrd) (by assumption) ?_ | refine h_item (S.rdr hrd) (by assumption) ?_ | refine w_num (S.rdr hro) (by assumption) ?_ | refine ld_sln S rfl ?_ | refine ld_sl S _ _ _ rfl ?_)
  refine ld_str S rfl ?_
  repeat (first | refine w_nonnil ?_ | refine ld_int S rfl ?_ | refine ld_some S rfl ?_ | refine ld_ptr S _ rfl ?_ | refine ld_sls S rfl ?_ | refine ld_nil S rfl ?_ | refine ld_bool S rfl ?_ | refine st_store S (lt_ble rfl) fun _ S => ?_ | refine st_alloc S fun _ _ S => ?_ | refine st_held S rfl ?_ | refine w_guard (by (first | exact inK64 (by omega) (by omega) | omega | (constructor <;> omega) | ((try dsimp only [Sh.T, Sh1.T]); first | exact inK64 (by omega) (by omega) | omega | exact ⟨by decide, inK64 (by omega) (by omega)⟩ | trivial))) ?_ | refine bd_n rfl ?_ | refine bd_e rfl ?_ | refine bd_r ?_ | refine bd_p ?_ | refine ln_r ?_ | refine ln_e ?_ | refine w_true (b := true) rfl ?_ | refine w_false (b := false) rfl ?_ | refine w_guard (show noMeths _ _ by show _ = _; kernel_rfl) ?_ | refine w_item (S.rdr hrd) (by assumption) ?_ | refine h_item (S.rdr hrd) (by assumption) ?_ | refine w_num (S.rdr hro) (by assumption) ?_ | refine ld_sln S rfl ?_ | refine ld_sl S _ _ _ rfl ?_)
  refine st_apo (L := LW) (xs := acc) (y := x) S hs rfl rfl (S.rsl (LW.flat [x]) 1 1 2 (fun i v h => by rw [Nat.zero_add]; exact h) rfl) ⟨by omega, by omega⟩ fun s' _ hs' S => ?_
  repeat (first | refine w_nonnil ?_ | refine ld_int S rfl ?_ | refine ld_some S rfl ?_ | refine ld_ptr S _ rfl ?_ | refine ld_sls S rfl ?_ | refine ld_nil S rfl ?_ | refine ld_bool S rfl ?_ | refine st_store S (lt_ble rfl) fun _ S => ?_ | refine st_alloc S fun _ _ S => ?_ | refine st_held S rfl ?_ | refine w_guard (by (first | exact inK64 (by omega) (by omega) | omega | (constructor <;> omega) | ((try dsimp only [Sh.T, Sh1.T]); first | exact inK64 (by omega) (by omega) | omega | exact ⟨by decide, inK64 (by omega) (by omega)⟩ | trivial))) ?_ | refine bd_n rfl ?_ | refine bd_e rfl ?_ | refine bd_r ?_ | refine bd_p ?_ | refine ln_r ?_ | refine ln_e ?_ | refine w_true (b := true) rfl ?_ | refine w_false (b := false) rfl ?_ | refine w_guard (show noMeths _ _ by show _ = _; kernel_rfl) ?_ | refine w_item (S.rdr hrd) (by assumption) ?_ | refine h_item (S.rdr hrd) (by assumption) ?_ | refine w_num (S.rdr hro) (by assumption) ?_ | refine ld_sln S rfl ?_ | refine ld_sl S _ _ _ rfl ?_)
  refine w_bnd (ld_int S rfl ?_)
  have hsl' : s'.2.1 = acc.length + 1 := by have := hs'.1; simpa using this
  by_cases hn : n < 1
  · refine w_true (decide_eq_true hn) (bd_n rfl (rt_1 rfl ⟨?_, shut_tw hs' (S.only [.ow o, .ow f0, .ow f1, .sl s'])⟩))
    simp [goN, hn]
  · refine w_false (decide_eq_false hn) ?_
    repeat (first | refine w_nonnil ?_ | refine ld_int S rfl ?_ | refine ld_some S rfl ?_ | refine ld_ptr S _ rfl ?_ | refine ld_sls S rfl ?_ | refine ld_nil S rfl ?_ | refine ld_bool S rfl ?_ | refine st_store S (lt_ble rfl) fun _ S => ?_ | refine st_alloc S fun _ _ S => ?_ | refine st_held S rfl ?_ | refine w_guard (by (first | exact inK64 (by omega) (by omega) | omega | (constructor <;> omega) | ((try dsimp only [Sh.T, Sh1.T]); first | exact inK64 (by omega) (by omega) | omega | exact ⟨by decide, inK64 (by omega) (by omega)⟩ | trivial))) ?_ | refine bd_n rfl ?_ | refine bd_e rfl ?_ | refine bd_r ?_ | refine bd_p ?_ | refine ln_r ?_ | refine ln_e ?_ | refine w_true (b := true) rfl ?_ | refine w_false (b := false) rfl ?_ | refine w_guard (show noMeths _ _ by show _ = _; kernel_rfl) ?_ | refine w_item (S.rdr hrd) (by assumption) ?_ | refine h_item (S.rdr hrd) (by assumption) ?_ | refine w_num (S.rdr hro) (by assumption) ?_ | refine ld_sln S rfl ?_ | refine ld_sl S _ _ _ rfl ?_)
    refine rt_1 rfl ⟨?_, shut_tw hs' (S.only [.ow o, .ow f0, .ow f1, .sl s'])⟩
    have hd1 : decide (n < 1) = false := decide_eq_false hn
    simp only [goN, hd1, Bool.false_or, hsl']
    rfl
theorem c_tw {o : PA} {n : Int} {G : PA → Prop} (hG : Star [] h G) :
    HT Try.prog fn_impl_taker_impl_Word [.c (.addr o), .c (.int .i64 n)] false [.c .raw] h fun r h' => ∃ post, (∃ a b : Nat, r = (twF (a, 0) (b, 0), ()) ∧ post = [Ow (a, 0) [.pointer (some o.val)] 0, Ow (b, 0) [.int .i64 n] 0]) ∧ St h G post h' := by
  apply hc_impl_taker_impl_Word
  unfold M_impl_taker_impl_Word
  have S := St.start hG
  refine st_alloc S fun a _ S => ?_
  refine st_alloc S fun b _ S => ?_
  exact rt_1 rfl ⟨_, ⟨a, b, rfl, rfl⟩, S.pull1⟩
def WrC (o fp f0 f1 : PA) (n : Int) (acc : List WV) : Ck := StC [Ow fp [twF f0 f1] 0, TwC o f0 f1 n acc]
def wrF (fp : PA) : Value := .func (.func fn_impl_words_1) #[] #[.pointer (some fp.val)]
theorem cb_words {o fp f0 f1 : PA} {n : Int} : Cbk Try.prog (wrF fp) MW.argO (WrC o fp f0 f1 n) (goN n) 4294967296 := by
  intro h G acc x hl hG
  refine ⟨by kernel_rfl, ?_⟩
  have e : (#[] ++ (List.map AV.val (MW.argO x)).toArray ++ #[.pointer (some fp.val)] : Array Value) = (List.map AV.val [.c (.str x.1), .c (.int .i64 x.2), .c (.addr fp)]).toArray := by simp [MW.argO]; rfl
  rw [e]
  apply hc_impl_words_1
  unfold M_impl_words_1
  have S := St.st_out (St.start hG)
  dsimp only [List.cons_append, List.nil_append] at S
  refine ld_raw S (twF f0 f1) rfl ?_
  refine st_cb S.pull1 cb_tw x hl rfl fun _ S => ?_
  have S := S.pull1
  exact rt_1 rfl ⟨rfl, St.st_in (m := [Ow fp [twF f0 f1] 0, TwC o f0 f1 n (acc ++ [x])]) (l := []) S⟩
theorem c_words {o : PA} {n : Int} {G : PA → Prop} (hG : Star [Ow o [.slice none 0 0] 0] h G) :
    HT Try.prog fn_impl_words [.c (.addr o), .c (.int .i64 n)] false [.c .raw] h fun r h' => ∃ post, (∃ fp f0 f1, r = (wrF fp, ()) ∧ post = [WrC o fp f0 f1 n []]) ∧ St h G post h' := by
  apply hc_impl_words
  unfold M_impl_words
  have S := St.start hG
  refine st_callT S [] (fun G hG => c_tw hG) ?_
  rintro _ _ _ ⟨a, b, rfl, rfl⟩ S
  dsimp only [List.cons_append, List.nil_append] at S
  refine st_alloc S fun p _ S => ?_
  refine st_store S (lt_ble rfl) fun _ S => ?_
  have S := sl_nil LW S
  have S := S.ats [.ow o, .ow (a, 0), .ow (b, 0), .sl (none, 0, 0)]
  have S := shut_tw (s := (none, 0, 0)) (acc := []) ⟨rfl, Nat.le_refl _, .inl rfl⟩ S
  exact rt_1 rfl ⟨_, ⟨(p, 0), (a, 0), (b, 0), rfl, rfl⟩, St.st_in (m := [Ow (p, 0) [twF (a, 0) (b, 0)] 0, TwC o (a, 0) (b, 0) n []]) (l := []) S.pull1⟩
theorem open_wr {o fp f0 f1 : PA} {n : Int} {acc : List WV} (s : St h0 G0 (WrC o fp f0 f1 n acc :: l) h) : ∃ s : SlT, OwnL LW s acc ∧ St h0 G0 (Ow o [.slice (s.1.map PA.val) s.2.1 s.2.2] 0 :: SlC s LW.sz (LW.flat acc) :: l) h := by
  have S := St.st_out s
  dsimp only [List.cons_append, List.nil_append] at S
  obtain ⟨s, hs, S⟩ := open_tw S.pull1
  exact ⟨s, hs, S.dels [.ow f0, .ow f1, .ow fp]⟩
end
end Go.Proofs.Ytgniflegbdeokaa
