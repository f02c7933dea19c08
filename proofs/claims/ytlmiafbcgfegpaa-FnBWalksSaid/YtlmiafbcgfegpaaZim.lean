/-
  The thin package over the tree of interfaces: the order, a tree and its functions, the keeping function. Conditions: none.
-/
import Derived.Test.YtlmiafbcgfegpaaZds
import Derived.Test.YtlmiafbcgfegpaaZgt
import Derived.Test.YtlmiafbcgfegpaaZhs
import Derived.Test.YtlmiafbcgfegpaaYim
import Derived.Test.YtlmiafbcgfegpaaTk
set_option linter.unusedVariables false
set_option linter.unusedSimpArgs false
set_option linter.unusedSectionVars false
set_option maxRecDepth 100000
namespace Go.Proofs.Ytlmiafbcgfegpaa
open Go
def M_impl_beforeAny_1 (a0 : Value) (a1 : Value) (f0 : PA) : M :=
  .load f0 (.raw) fun v0 =>
  .guard (ifIs ty_impl_Item a0 (AV.agg [Cell.int IntKind.i64 (ifInt a0 0), Cell.int IntKind.i64 (ifInt a0 1)])) <|
  .guard (ifIs ty_impl_Item a1 (AV.agg [Cell.int IntKind.i64 (ifInt a1 0), Cell.int IntKind.i64 (ifInt a1 1)])) <|
  .callv (v0) [.agg [.int .i64 (ifInt a0 0), .int .i64 (ifInt a0 1)], .agg [.int .i64 (ifInt a1 0), .int .i64 (ifInt a1 1)]] false [.c (.bool)] fun r1 =>
  .done .ret [.c (.bool (r1.fst))]
theorem den_impl_beforeAny_1 (a0 : Value) (a1 : Value) (f0 : PA) : denFn Try.prog Try.f86 [.c (.raw a0), .c (.raw a1), .c (.addr f0)] = M_impl_beforeAny_1 a0 a1 f0 := by kernel_rfl
theorem hc_impl_beforeAny_1 (a0 : Value) (a1 : Value) (f0 : PA) {h : H} {R : Value → H → Prop} (hw : wp Try.prog (M_impl_beforeAny_1 a0 a1 f0) (Ret R) h) : HC Try.prog fn_impl_beforeAny_1 (List.map AV.val [.c (.raw a0), .c (.raw a1), .c (.addr f0)]).toArray h R :=
  den_calls hmix Try.func86 (of_decide_eq_true rfl) (by rw [den_impl_beforeAny_1]; exact hw)
def M_impl_beforeAny (a0p : Option PA) (a0l : Nat) (a0c : Nat) : M :=
  .call fn_impl_before [.c (.sl (a0p) (a0l) (a0c))] false [.c (.raw)] fun r0 =>
  .alloc ty_func_impl_Item_impl_Item_bool [.raw (Value.nilFunc)] fun n1 =>
  .store (n1, 0) (.raw (r0.fst)) <|
  .done .ret [.c (.raw (Value.func (Fn.func fn_impl_beforeAny_1) (List.map AV.val []).toArray (List.map AV.val [AV.c (Cell.addr (n1, 0))]).toArray))]
theorem den_impl_beforeAny (a0p : Option PA) (a0l : Nat) (a0c : Nat) : denFn Try.prog Try.f58 [.c (.sl a0p a0l a0c)] = M_impl_beforeAny a0p a0l a0c := by kernel_rfl
theorem hc_impl_beforeAny (a0p : Option PA) (a0l : Nat) (a0c : Nat) {h : H} {R : Value → H → Prop} (hw : wp Try.prog (M_impl_beforeAny a0p a0l a0c) (Ret R) h) : HC Try.prog fn_impl_beforeAny (List.map AV.val [.c (.sl a0p a0l a0c)]).toArray h R :=
  den_calls hmix Try.func58 (of_decide_eq_true rfl) (by rw [den_impl_beforeAny]; exact hw)
def M_NewOptions (a0 : Value) (a10 : Int) (a11 : Bool) : M :=
  .alloc ty_btree_Options [.int .i64 (a10), .bool (a11)] fun n0 =>
  .guard (fnOk a0) <|
  .bind none (.ite (rawNil a0)
    (.fail)
    (.done .normal [])) [] fun x1 =>
  .load (n0, 0) (.int .i64) fun i2 =>
  .load (n0, 1) (.bool) fun b3 =>
  .call fn_NewBTreeGOptions_any [.c (.raw (a0)), .agg [.int .i64 (i2), .bool (b3)]] false [.c (.ptr)] fun r4 =>
  .alloc ty_btree_BTree [.ptr (r4.fst)] fun n5 =>
  .done .ret [.c (.addr (n5, 0))]
theorem den_NewOptions (a0 : Value) (a10 : Int) (a11 : Bool) : denFn Try.prog Try.f57 [.c (.raw a0), .agg [.int .i64 a10, .bool a11]] = M_NewOptions a0 a10 a11 := by kernel_rfl
theorem hc_NewOptions (a0 : Value) (a10 : Int) (a11 : Bool) {h : H} {R : Value → H → Prop} (hw : wp Try.prog (M_NewOptions a0 a10 a11) (Ret R) h) : HC Try.prog fn_NewOptions (List.map AV.val [.c (.raw a0), .agg [.int .i64 a10, .bool a11]]).toArray h R :=
  den_calls hmix Try.func57 (of_decide_eq_true rfl) (by rw [den_NewOptions]; exact hw)
def M_impl_foundAny (a0 : Value) : M :=
  .alloc ty_impl_Found [.int .i64 (0), .int .i64 (0), .ff] fun n0 =>
  .guard (ifOk a0) <|
  .ite (rawNil a0)
  (.store (n0, 0) (.int .i64 (0)) <|
    .store (n0, 1) (.int .i64 (0)) <|
    .store (n0, 2) (.ff) <|
    .load (n0, 0) (.int .i64) fun i1 =>
    .load (n0, 1) (.int .i64) fun i2 =>
    .load (n0, 2) (.bool) fun b3 =>
    .done .ret [.agg [.int .i64 (i1), .int .i64 (i2), .bool (b3)]])
  (.guard (ifIs ty_impl_Item a0 (AV.agg [Cell.int IntKind.i64 (ifInt a0 0), Cell.int IntKind.i64 (ifInt a0 1)])) <|
    .store (n0, 0) (.int .i64 (ifInt a0 0)) <|
    .store (n0, 1) (.int .i64 (ifInt a0 1)) <|
    .store (n0, 2) (.tt) <|
    .load (n0, 0) (.int .i64) fun i4 =>
    .load (n0, 1) (.int .i64) fun i5 =>
    .load (n0, 2) (.bool) fun b6 =>
    .done .ret [.agg [.int .i64 (i4), .int .i64 (i5), .bool (b6)]])
theorem den_impl_foundAny (a0 : Value) : denFn Try.prog Try.f54 [.c (.raw a0)] = M_impl_foundAny a0 := by kernel_rfl
theorem hc_impl_foundAny (a0 : Value) {h : H} {R : Value → H → Prop} (hw : wp Try.prog (M_impl_foundAny a0) (Ret R) h) : HC Try.prog fn_impl_foundAny (List.map AV.val [.c (.raw a0)]).toArray h R :=
  den_calls hmix Try.func54 (of_decide_eq_true rfl) (by rw [den_impl_foundAny]; exact hw)
def M_BTree_SetHint (a0 : PA) (a1 : Value) (a2 : Option PA) : M :=
  .guard (ifOk a1) <|
  .bind none (.ite (rawNil a1)
    (.fail)
    (.done .normal [])) [] fun x0 =>
  .load (a0.fst, a0.snd) (.ptr) fun q1 =>
  .call fn_tb_SetHint [.c (.ptr (q1)), .c (.raw (a1)), .c (.ptr (a2))] true [.c (.raw), .c (.bool)] fun r2 =>
  .ite (!r2.snd.fst)
  (.done .ret [.c (.raw (Value.nilIface))])
  (.done .ret [.c (.raw (r2.fst))])
theorem den_BTree_SetHint (a0 : PA) (a1 : Value) (a2 : Option PA) : denFn Try.prog Try.f82 [.c (.addr a0), .c (.raw a1), .c (.ptr a2)] = M_BTree_SetHint a0 a1 a2 := by kernel_rfl
theorem hc_BTree_SetHint (a0 : PA) (a1 : Value) (a2 : Option PA) {h : H} {R : Value → H → Prop} (hw : wp Try.prog (M_BTree_SetHint a0 a1 a2) (Ret R) h) : HC Try.prog fn_BTree_SetHint (List.map AV.val [.c (.addr a0), .c (.raw a1), .c (.ptr a2)]).toArray h R :=
  den_calls hmix Try.func82 (of_decide_eq_true rfl) (by rw [den_BTree_SetHint]; exact hw)
def M_BTree_Set (a0 : PA) (a1 : Value) : M :=
  .call fn_BTree_SetHint [.c (.addr a0), .c (.raw (a1)), .c (.ptr none)] false [.c (.raw)] fun r0 =>
  .done .ret [.c (.raw (r0.fst))]
theorem den_BTree_Set (a0 : PA) (a1 : Value) : denFn Try.prog Try.f55 [.c (.addr a0), .c (.raw a1)] = M_BTree_Set a0 a1 := by kernel_rfl
theorem hc_BTree_Set (a0 : PA) (a1 : Value) {h : H} {R : Value → H → Prop} (hw : wp Try.prog (M_BTree_Set a0 a1) (Ret R) h) : HC Try.prog fn_BTree_Set (List.map AV.val [.c (.addr a0), .c (.raw a1)]).toArray h R :=
  den_calls hmix Try.func55 (of_decide_eq_true rfl) (by rw [den_BTree_Set]; exact hw)
def M_BTree_Ascend (a0 : PA) (a1 : Value) (a2 : Value) : M :=
  .guard (ifOk a1) <|
  .bind none (.ite (rawNil a1)
    (.load (a0.fst, a0.snd) (.ptr) fun q0 =>
      .call fn_tb_Scan [.c (.ptr (q0)), .c (.raw (a2))] true [] fun r1 =>
      .done .normal [])
    (.load (a0.fst, a0.snd) (.ptr) fun q2 =>
      .call fn_tb_Ascend [.c (.ptr (q2)), .c (.raw (a1)), .c (.raw (a2))] true [] fun r3 =>
      .done .normal [])) [] fun x4 =>
  .done .ret []
theorem den_BTree_Ascend (a0 : PA) (a1 : Value) (a2 : Value) : denFn Try.prog Try.f83 [.c (.addr a0), .c (.raw a1), .c (.raw a2)] = M_BTree_Ascend a0 a1 a2 := by kernel_rfl
theorem hc_BTree_Ascend (a0 : PA) (a1 : Value) (a2 : Value) {h : H} {R : Value → H → Prop} (hw : wp Try.prog (M_BTree_Ascend a0 a1 a2) (Ret R) h) : HC Try.prog fn_BTree_Ascend (List.map AV.val [.c (.addr a0), .c (.raw a1), .c (.raw a2)]).toArray h R :=
  den_calls hmix Try.func83 (of_decide_eq_true rfl) (by rw [den_BTree_Ascend]; exact hw)
def M_impl_takerAny_1 (a0 : Value) (f0 : PA) : M :=
  .load f0 (.raw) fun v0 =>
  .guard (ifIs ty_impl_Item a0 (AV.agg [Cell.int IntKind.i64 (ifInt a0 0), Cell.int IntKind.i64 (ifInt a0 1)])) <|
  .callv (v0) [.agg [.int .i64 (ifInt a0 0), .int .i64 (ifInt a0 1)]] false [.c (.bool)] fun r1 =>
  .done .ret [.c (.bool (r1.fst))]
theorem den_impl_takerAny_1 (a0 : Value) (f0 : PA) : denFn Try.prog Try.f133 [.c (.raw a0), .c (.addr f0)] = M_impl_takerAny_1 a0 f0 := by kernel_rfl
theorem hc_impl_takerAny_1 (a0 : Value) (f0 : PA) {h : H} {R : Value → H → Prop} (hw : wp Try.prog (M_impl_takerAny_1 a0 f0) (Ret R) h) : HC Try.prog fn_impl_takerAny_1 (List.map AV.val [.c (.raw a0), .c (.addr f0)]).toArray h R :=
  den_calls hmix Try.func133 (of_decide_eq_true rfl) (by rw [den_impl_takerAny_1]; exact hw)
def M_impl_takerAny (a0 : PA) (a1 : Int) : M :=
  .call fn_impl_taker [.c (.addr a0), .c (.int .i64 (a1))] false [.c (.raw)] fun r0 =>
  .alloc ty_func_impl_Item_bool [.raw (Value.nilFunc)] fun n1 =>
  .store (n1, 0) (.raw (r0.fst)) <|
  .done .ret [.c (.raw (Value.func (Fn.func fn_impl_takerAny_1) (List.map AV.val []).toArray (List.map AV.val [AV.c (Cell.addr (n1, 0))]).toArray))]
theorem den_impl_takerAny (a0 : PA) (a1 : Int) : denFn Try.prog Try.f84 [.c (.addr a0), .c (.int .i64 a1)] = M_impl_takerAny a0 a1 := by kernel_rfl
theorem hc_impl_takerAny (a0 : PA) (a1 : Int) {h : H} {R : Value → H → Prop} (hw : wp Try.prog (M_impl_takerAny a0 a1) (Ret R) h) : HC Try.prog fn_impl_takerAny (List.map AV.val [.c (.addr a0), .c (.int .i64 a1)]).toArray h R :=
  den_calls hmix Try.func84 (of_decide_eq_true rfl) (by rw [den_impl_takerAny]; exact hw)
def M_impl_allOf (a0 : PA) : M :=
  .alloc ty_sl_impl_Item [.sl none (0) (0)] fun n0 =>
  .call fn_impl_takerAny [.c (.addr (n0, 0)), .c (.int .i64 (0))] false [.c (.raw)] fun r1 =>
  .call fn_BTree_Ascend [.c (.addr a0), .c (.raw (Value.nilIface)), .c (.raw (r1.fst))] true [] fun r2 =>
  .load (n0, 0) (.sl) fun s3 =>
  .done .ret [.c (.sl (s3.fst) (s3.snd.fst) (s3.snd.snd))]
theorem den_impl_allOf (a0 : PA) : denFn Try.prog Try.f56 [.c (.addr a0)] = M_impl_allOf a0 := by kernel_rfl
theorem hc_impl_allOf (a0 : PA) {h : H} {R : Value → H → Prop} (hw : wp Try.prog (M_impl_allOf a0) (Ret R) h) : HC Try.prog fn_impl_allOf (List.map AV.val [.c (.addr a0)]).toArray h R :=
  den_calls hmix Try.func56 (of_decide_eq_true rfl) (by rw [den_impl_allOf]; exact hw)
def OaC (n f : PA) (o : List Int) : Ck := StC [Ow n [beF f] 0, OcC f o]
def baF (n : PA) : Value := .func (.func fn_impl_beforeAny_1) #[] #[.pointer (some n.val)]
def BtC (ls : Value) (o : List Int) (dg : Nat) (a : PA) (l : List IV) : Ck := ExC (fun _ : Nat => True) fun m => StC [Ow a [.pointer (some (PA.val (m, 0)))] 0, TB.MpC ls o 1 dg (m, 0) l]
instance pk_bt {ls : Value} {o : List Int} {dg : Nat} {a0 : PA} {l : List IV} {r : List Ck} : Pk (.mp a0) (BtC ls o dg a0 l :: r) (BtC ls o dg a0 l) r := ⟨.refl _⟩
section
variable {h h0 : H} {G0 : PA → Prop} {r : List Ck}
theorem open_bt {ls : Value} {o : List Int} {dg : Nat} {a : PA} {l : List IV} (s : St h0 G0 (BtC ls o dg a l :: r) h) : ∃ m : Nat, St h0 G0 (Ow a [.pointer (some (PA.val (m, 0)))] 0 :: TB.MpC ls o 1 dg (m, 0) l :: r) h := by
  obtain ⟨m, _, s⟩ := s.ex_out
  exact ⟨m, St.st_out (m := [_, _]) s⟩
theorem shut_bt {ls : Value} {o : List Int} {dg m : Nat} {a : PA} {l : List IV} (s : St h0 G0 (Ow a [.pointer (some (PA.val (m, 0)))] 0 :: TB.MpC ls o 1 dg (m, 0) l :: r) h) : St h0 G0 (BtC ls o dg a l :: r) h :=
  St.ex_in (φ := fun _ : Nat => True) (f := fun m => StC [Ow a [.pointer (some (PA.val (m, 0)))] 0, TB.MpC ls o 1 dg (m, 0) l]) m trivial (St.st_in (m := [_, _]) s)
theorem lss_any {n f : PA} {o : List Int} (hl : o.length ≤ 2147483647) : TB.Lss (baF n) (OaC n f o) o := by
  refine ⟨rfl, fun h F a b hF => ⟨by kernel_rfl, ?_⟩⟩
  have e : (#[] ++ (List.map AV.val [.c (.raw (anyV a)), .c (.raw (anyV b))]).toArray ++ #[.pointer (some n.val)] : Array Value) = (List.map AV.val [.c (.raw (anyV a)), .c (.raw (anyV b)), .c (.addr n)]).toArray := by simp; rfl
  rw [e]
  apply hc_impl_beforeAny_1
  unfold M_impl_beforeAny_1
  have hst : Star [Ow n [beF f] 0, OcC f o] h F := hF
  have hb : ∀ c ∈ [Ow n [beF f] 0, OcC f o], Bes c h none' := fun c hc => by
    obtain ⟨F', g1, _⟩ := star_mem hst c hc
    exact ⟨F', g1, fun _ _ hn => hn⟩
  have b1 : Bes (RdC (n.1, n.2 + 0) (beF f)) h none' := Bes.cell (hb _ (.head _)) rfl
  have b2 : Bes (OcC f o) h none' := hb _ (.tail _ (.head _))
  have hG : Star [] h none' := fun x hx => hx
  have S := St.start hG
  refine w_raw (beF f) (b1.now S).rd ?_
  refine w_guard rfl (w_guard rfl ?_)
  refine st_less S (lss_before hl) (b2.now S).ex a b fun h2 S => ?_
  refine rt_1 rfl ⟨rfl, fun G hG => ?_⟩
  obtain ⟨⟨G', g1, g2⟩, g3⟩ := S
  exact ⟨⟨G', g1, fun x hx => (g1 x hx).elim⟩, g3.mono fun _ _ hn => hn.elim⟩
theorem c_beforeAny {c : Ck} {o : List Int} {sp : Option PA} {n cap : Nat} (hr : Rdr c (sp, n, cap) LN o) (hl : o.length ≤ 2147483647) {G : PA → Prop} (hG : Star [c] h G) :
    HT Try.prog fn_impl_beforeAny [.c (.sl sp n cap)] false [.c .raw] h fun r h' => ∃ post, (∃ p f : PA, r = (baF p, ()) ∧ post = [OaC p f o, c]) ∧ St h G post h' := by
  apply hc_impl_beforeAny
  unfold M_impl_beforeAny
  refine st_callT (St.start hG) [.ck c] (fun G hG => c_before hr hl hG) ?_
  rintro _ _ _ ⟨f, rfl, rfl⟩ S
  dsimp only [List.cons_append, List.nil_append] at S
  refine st_alloc S fun p _ S => ?_
  refine st_store S (lt_ble rfl) fun _ S => ?_
  have S := St.st_in (m := [Ow (p, 0) [beF f] 0, OcC f o]) S
  exact rt_1 rfl ⟨_, ⟨(p, 0), f, rfl, rfl⟩, S⟩
theorem c_NewO {n : PA} {oc : Ck} {o : List Int} {d : Int} {nl : Bool} (hls : TB.Lss (baF n) oc o) (hd : d ≤ 128) {G : PA → Prop} (hG : Star [] h G) :
    HT Try.prog fn_NewOptions [.c (.raw (baF n)), .agg [.int .i64 d, .bool nl]] false [.c .ptr] h fun x h' => ∃ post, (∃ m : Nat, x = (some (m, 0), ()) ∧ post = [BtC (baF n) o (TB.dgOf d) (m, 0) []]) ∧ St h G post h' := by
  apply hc_NewOptions
  unfold M_NewOptions
  refine st_alloc (St.start hG) fun n0 _ S => ?_
  refine w_guard trivial (w_bnd (w_false rfl (bd_n rfl (ld_int S rfl (ld_bool S rfl ?_)))))
  refine st_callT S [] (fun G hG => TB.c_New hls hd hG) ?_
  rintro _ _ _ ⟨m, rfl, rfl⟩ S
  dsimp only [List.cons_append, List.nil_append] at S
  refine st_alloc S fun b _ S => ?_
  exact rt_1 rfl ⟨_, ⟨b, rfl, rfl⟩, (shut_bt (S.ats [.ow (b, 0), .mp (m, 0)])).only [.mp (b, 0)]⟩
theorem c_foundAny {f : Option IV} {G : PA → Prop} (hG : Star [] h G) :
    HT Try.prog fn_impl_foundAny [.c (.raw (valO f))] false [.agg [.int .i64, .int .i64, .bool]] h fun r h' => ∃ post, (r = (fT f, ()) ∧ post = []) ∧ St h G post h' := by
  apply hc_impl_foundAny
  unfold M_impl_foundAny
  refine st_alloc (St.start hG) fun n0 _ S => ?_
  cases f with
  | none =>
    refine w_guard trivial (w_true rfl ?_)
    repeat (first | refine w_nonnil ?_ | refine ld_int S rfl ?_ | refine ld_some S rfl ?_ | refine ld_ptr S _ rfl ?_ | refine ld_sls S rfl ?_ | refine ld_nil S rfl ?_ | refine ld_bool S rfl ?_ | refine st_store S (lt_ble rfl) fun _ S => ?_ | refine st_alloc S fun _ _ S => ?_ | refine st_held S rfl ?_ | refine w_guard (by (first | exact inK64 (by omega) (by omega) | omega | (constructor <;> omega) | ((try dsimp only [Sh.T, Sh1.T]); first | exact inK64 (by omega) (by omega) | omega | exact ⟨by decide, inK64 (by omega) (by omega)⟩ | trivial))) ?_ | refine bd_n rfl ?_ | refine bd_e rfl ?_ | refine bd_r ?_ | refine bd_p ?_ | refine ln_r ?_ | refine ln_e ?_ | refine w_true (b := true) rfl ?_ | refine w_false (b := false) rfl ?_ | refine w_guard (show noMeths _ _ by show _ = _; kernel_rfl) ?_ | refine w_item (S.rdr hrd) (by assumption) ?_ | refine h_item (S.rdr hrd) (by assumption) ?_ | refine w_num (S.rdr hro) (by assumption) ?_ | refine ld_sln S rfl ?_ | refine ld_sl S _ _ _ rfl ?_)
    exact rt_1 rfl ⟨_, ⟨rfl, rfl⟩, S.drop⟩
  | some x =>
    refine w_guard trivial (w_false rfl (w_guard rfl ?_))
    repeat (first | refine w_nonnil ?_ | refine ld_int S rfl ?_ | refine ld_some S rfl ?_ | refine ld_ptr S _ rfl ?_ | refine ld_sls S rfl ?_ | refine ld_nil S rfl ?_ | refine ld_bool S rfl ?_ | refine st_store S (lt_ble rfl) fun _ S => ?_ | refine st_alloc S fun _ _ S => ?_ | refine st_held S rfl ?_ | refine w_guard (by (first | exact inK64 (by omega) (by omega) | omega | (constructor <;> omega) | ((try dsimp only [Sh.T, Sh1.T]); first | exact inK64 (by omega) (by omega) | omega | exact ⟨by decide, inK64 (by omega) (by omega)⟩ | trivial))) ?_ | refine bd_n rfl ?_ | refine bd_e rfl ?_ | refine bd_r ?_ | refine bd_p ?_ | refine ln_r ?_ | refine ln_e ?_ | refine w_true (b := true) rfl ?_ | refine w_false (b := false) rfl ?_ | refine w_guard (show noMeths _ _ by show _ = _; kernel_rfl) ?_ | refine w_item (S.rdr hrd) (by assumption) ?_ | refine h_item (S.rdr hrd) (by assumption) ?_ | refine w_num (S.rdr hro) (by assumption) ?_ | refine ld_sln S rfl ?_ | refine ld_sl S _ _ _ rfl ?_)
    exact rt_1 rfl ⟨_, ⟨rfl, rfl⟩, S.drop⟩
end
section
variable {ls : Value} {oc : Ck} {o : List Int} {hp : Option PA} {h h0 : H} {G0 : PA → Prop} {r : List Ck} {dg : Nat} {a : PA} {l : List IV}
theorem c_BSetHint {x : IV} (hh : TB.HsOK hp) (hls : TB.Lss ls oc o) (hl : l.length < 4294967295) {G : PA → Prop} (hoc : Bes oc h G) (hG : Star [BtC ls o dg a l, TB.HtC hp] h G) :
    HT Try.prog fn_BTree_SetHint [.c (.addr a), .c (.raw (anyV x)), .c (.ptr hp)] false [.c .raw] h fun r h' => ∃ post, (r = (valO (fnd (ltO o) l x), ()) ∧ post = [BtC ls o dg a (put (ltO o) l x), TB.HtC hp]) ∧ St h G post h' := by
  apply hc_BTree_SetHint
  unfold M_BTree_SetHint
  obtain ⟨m, S⟩ := open_bt (St.start hG)
  refine w_guard trivial (w_bnd (w_false rfl (bd_n rfl (ld_some S rfl ?_))))
  refine st_callF S [.mp (m, 0), .ck (TB.HtC hp)] (fun G' hG' hsub => TB.c_SetHint hh hls hl (hoc.step S hsub) hG') ?_
  rintro _ _ _ ⟨rfl, rfl⟩ S
  dsimp only [List.cons_append, List.nil_append] at S
  have S := (shut_bt (S.ats [.ow a, .mp (m, 0)])).ats [.mp a, .ck (TB.HtC hp)]
  unfold TB.setR TB.oldV
  cases hf : fnd (ltO o) l x with
  | none => exact w_true rfl (rt_1 rfl ⟨_, ⟨rfl, rfl⟩, S⟩)
  | some y => exact w_false rfl (rt_1 rfl ⟨_, ⟨rfl, rfl⟩, S⟩)
theorem c_BSet {x : IV} (hls : TB.Lss ls oc o) (hl : l.length < 4294967295) {G : PA → Prop} (hoc : Bes oc h G) (hG : Star [BtC ls o dg a l] h G) :
    HT Try.prog fn_BTree_Set [.c (.addr a), .c (.raw (anyV x))] false [.c .raw] h fun r h' => ∃ post, (r = (valO (fnd (ltO o) l x), ()) ∧ post = [BtC ls o dg a (put (ltO o) l x)]) ∧ St h G post h' := by
  apply hc_BTree_Set
  unfold M_BTree_Set
  have S := St.start hG
  have S : St h G (TB.HtC none :: _) _ := St.em_in S
  refine st_callF S [.mp a, .ck (TB.HtC none)] (fun G' hG' hsub => c_BSetHint .no hls hl (hoc.step S hsub) hG') ?_
  rintro _ _ _ ⟨rfl, rfl⟩ S
  dsimp only [List.cons_append, List.nil_append] at S
  exact rt_1 rfl ⟨_, ⟨rfl, rfl⟩, S.only [.mp a]⟩
theorem c_BAll {N : Nat} {acc : List IV} {f : Value} {K : List IV → Ck} {go : List IV → IV → Bool} (hcb : Cbk Try.prog f TB.argO K go N) (hl : acc.length + l.length ≤ N) {G : PA → Prop} (hG : Star [K acc, BtC ls o dg a l] h G) :
    HT Try.prog fn_BTree_Ascend [.c (.addr a), .c (.raw .nilIface), .c (.raw f)] true [] h fun _ h' => ∃ post, (post = [K (run go acc l).1, BtC ls o dg a l]) ∧ St h G post h' := by
  apply hc_BTree_Ascend
  unfold M_BTree_Ascend
  obtain ⟨m, S⟩ := open_bt ((St.start hG).at (.mp a))
  refine w_guard trivial (w_bnd (w_true rfl (ld_some S rfl ?_)))
  refine st_callV S [.ck (K acc), .mp (m, 0)] (args' := [.c (.addr (m, 0)), .c (.raw f)]) rfl (fun G hG => TB.c_Scan hcb hl hG) ?_
  rintro _ _ _ rfl S
  dsimp only [List.cons_append, List.nil_append] at S
  exact bd_n rfl (rt_n rfl rfl ⟨_, rfl, (shut_bt (S.ats [.ow a, .mp (m, 0)])).ats [.ck (K (run go acc l).1), .mp a]⟩)
end
section
variable {h h0 : H} {G0 : PA → Prop} {l : List Ck}
def TaC (t o f0 f1 : PA) (n : Int) (acc : List IV) : Ck := StC [Ow t [tkF f0 f1] 0, TkC o f0 f1 n acc]
def taF (t : PA) : Value := .func (.func fn_impl_takerAny_1) #[] #[.pointer (some t.val)]
theorem cb_takerAny {t o f0 f1 : PA} {n : Int} : Cbk Try.prog (taF t) TB.argO (TaC t o f0 f1 n) (goN n) 4294967296 := by
  intro h G acc x hl hG
  refine ⟨by kernel_rfl, ?_⟩
  have e : (#[] ++ (List.map AV.val (TB.argO x)).toArray ++ #[.pointer (some t.val)] : Array Value) = (List.map AV.val [.c (.raw (anyV x)), .c (.addr t)]).toArray := by simp [TB.argO]; rfl
  rw [e]
  apply hc_impl_takerAny_1
  unfold M_impl_takerAny_1
  have S := St.st_out (St.start hG)
  dsimp only [List.cons_append, List.nil_append] at S
  refine ld_raw S (tkF f0 f1) rfl (w_guard rfl ?_)
  refine st_cb S.pull1 cb_taker x hl rfl fun _ S => ?_
  have S := S.pull1
  exact rt_1 rfl ⟨rfl, St.st_in (m := [Ow t [tkF f0 f1] 0, TkC o f0 f1 n (acc ++ [x])]) (l := []) S⟩
theorem c_takerAny {o : PA} {n : Int} {G : PA → Prop} (hG : Star [Ow o [.slice none 0 0] 0] h G) :
    HT Try.prog fn_impl_takerAny [.c (.addr o), .c (.int .i64 n)] false [.c .raw] h fun r h' => ∃ post, (∃ t f0 f1, r = (taF t, ()) ∧ post = [TaC t o f0 f1 n []]) ∧ St h G post h' := by
  apply hc_impl_takerAny
  unfold M_impl_takerAny
  have S := St.start hG
  refine st_callT S [] (fun G hG => c_taker (l := []) hG) ?_
  rintro _ _ _ ⟨a, b, rfl, rfl⟩ S
  dsimp only [List.cons_append, List.nil_append] at S
  refine st_alloc S fun p _ S => ?_
  refine st_store S (lt_ble rfl) fun _ S => ?_
  have S := sl_nil LT S
  have S := S.ats [.ow o, .ow (a, 0), .ow (b, 0), .sl (none, 0, 0)]
  have S := shut_tk (s := (none, 0, 0)) (acc := []) ⟨rfl, Nat.le_refl _, .inl rfl⟩ S
  exact rt_1 rfl ⟨_, ⟨(p, 0), (a, 0), (b, 0), rfl, rfl⟩, St.st_in (m := [Ow (p, 0) [tkF (a, 0) (b, 0)] 0, TkC o (a, 0) (b, 0) n []]) (l := []) S.pull1⟩
theorem open_ta {t o f0 f1 : PA} {n : Int} {acc : List IV} (s : St h0 G0 (TaC t o f0 f1 n acc :: l) h) : ∃ s : SlT, OwnL LT s acc ∧ St h0 G0 (Ow o [.slice (s.1.map PA.val) s.2.1 s.2.2] 0 :: SlC s LT.sz (LT.flat acc) :: l) h := by
  have S := St.st_out s
  dsimp only [List.cons_append, List.nil_append] at S
  obtain ⟨s, hs, S⟩ := open_tk S.pull1
  exact ⟨s, hs, S.dels [.ow f0, .ow f1, .ow t]⟩
theorem c_allOf {ls : Value} {o : List Int} {dg : Nat} {a : PA} {l : List IV} (hl : l.length ≤ 4294967296) {G : PA → Prop} (hG : Star [BtC ls o dg a l] h G) :
    HT Try.prog fn_impl_allOf [.c (.addr a)] false [.c .sl] h fun r h' => ∃ post, (∃ s : SlT, r = (s, ()) ∧ OwnL LT s l ∧ post = [SlC s LT.sz (LT.flat l), BtC ls o dg a l]) ∧ St h G post h' := by
  apply hc_impl_allOf
  unfold M_impl_allOf
  refine st_alloc (St.start hG) fun n1 _ S => ?_
  refine st_callT S [.ow (n1, 0)] (fun G hG => c_takerAny hG) ?_
  rintro _ _ _ ⟨t, f0, f1, rfl, rfl⟩ S
  dsimp only [List.cons_append, List.nil_append] at S
  refine st_callV S [.ck (TaC t (n1, 0) f0 f1 0 []), .mp a] (args' := [.c (.addr a), .c (.raw .nilIface), .c (.raw (taF t))]) rfl (fun G hG => c_BAll cb_takerAny (by simp; omega) hG) ?_
  rintro _ _ _ rfl S
  dsimp only [List.cons_append, List.nil_append] at S
  rw [run_first] at S
  have e : firstO l 0 = l := if_pos (.inl (by decide))
  rw [e] at S
  obtain ⟨s, hs, S⟩ := open_ta S
  refine ld_sl S s.1 s.2.1 s.2.2 rfl ?_
  exact rt_1 rfl ⟨_, ⟨s, rfl, hs, rfl⟩, S.only [.sl s, .mp a]⟩
end
end Go.Proofs.Ytlmiafbcgfegpaa
