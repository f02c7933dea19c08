/-
  The thin package over the tree of items: orders, trees grown out of lists. Conditions: none.
-/
import Derived.Test.YtegnpimlfphncaaSp
import Derived.Test.YtegnpimlfphncaaYga
import Derived.Test.YtegnpimlfphncaaVa
import Derived.Test.YtegnpimlfphncaaBe
set_option linter.unusedVariables false
set_option linter.unusedSimpArgs false
set_option linter.unusedSectionVars false
set_option maxRecDepth 100000
namespace Go.Proofs.Ytegnpimlfphncaa
open Go
def M_slices_Clone_int_int (a0p : Option PA) (a0l : Nat) (a0c : Nat) : M :=
 .ite (a0p.isNone)
 (.done .ret [.c (.sl none (0) (0))])
 (.alloc ty_int [] fun n0 =>
 .append ty_int 1 8 [.int .i64 (0)] ((some (n0, 0)), 0, 0) ((a0p), a0l, a0c) fun s1 =>
 .done .ret [.c (.sl (s1.fst) (s1.snd.fst) (s1.snd.snd))])
theorem den_slices_Clone_int_int (a0p : Option PA) (a0l : Nat) (a0c : Nat) : denFn Try.prog Try.f46 [.c (.sl a0p a0l a0c)] = M_slices_Clone_int_int a0p a0l a0c := by kernel_rfl
theorem hc_slices_Clone_int_int (a0p : Option PA) (a0l : Nat) (a0c : Nat) {h : H} {R : Value → H → Prop} (hw : wp Try.prog (M_slices_Clone_int_int a0p a0l a0c) (Ret R) h) : HC Try.prog fn_slices_Clone_int_int (List.map AV.val [.c (.sl a0p a0l a0c)]).toArray h R :=
  den_calls hmix Try.func46 (of_decide_eq_true rfl) (by rw [den_slices_Clone_int_int]; exact hw)
def M_impl_rank (a0p : Option PA) (a0l : Nat) (a0c : Nat) (a1 : Int) : M :=
 .ite ((↑a0l : Int) == 0)
 (.done .ret [.c (.int .i64 (a1))])
 (.call fn_impl_remainder [.c (.int .i64 (a1)), .c (.int .i64 ((↑a0l : Int)))] false [.c (.int .i64)] fun r0 =>
 .nonnil (a0p) fun p1 =>
 .guard (((0 : Int) ≤ r0.fst) ∧ ((r0.fst : Int) < (↑a0l : Int))) <|
 .load (p1.fst, p1.snd + Int.toNat r0.fst) (.int .i64) fun i2 =>
 .done .ret [.c (.int .i64 (i2))])
theorem den_impl_rank (a0p : Option PA) (a0l : Nat) (a0c : Nat) (a1 : Int) : denFn Try.prog Try.f48 [.c (.sl a0p a0l a0c), .c (.int .i64 a1)] = M_impl_rank a0p a0l a0c a1 := by kernel_rfl
theorem hc_impl_rank (a0p : Option PA) (a0l : Nat) (a0c : Nat) (a1 : Int) {h : H} {R : Value → H → Prop} (hw : wp Try.prog (M_impl_rank a0p a0l a0c a1) (Ret R) h) : HC Try.prog fn_impl_rank (List.map AV.val [.c (.sl a0p a0l a0c), .c (.int .i64 a1)]).toArray h R :=
  den_calls hmix Try.func48 (of_decide_eq_true rfl) (by rw [den_impl_rank]; exact hw)
def M_impl_remainder (a0 : Int) (a1 : Int) : M :=
 .guard ((a1 : Int) ≠ 0) <|
 .guard (InK IntKind.i64 (a0.tmod a1 + a1)) <|
 .guard ((a1 : Int) ≠ 0) <|
 .done .ret [.c (.int .i64 ((a0.tmod a1 + a1).tmod a1))]
theorem den_impl_remainder (a0 : Int) (a1 : Int) : denFn Try.prog Try.f64 [.c (.int .i64 a0), .c (.int .i64 a1)] = M_impl_remainder a0 a1 := by kernel_rfl
theorem hc_impl_remainder (a0 : Int) (a1 : Int) {h : H} {R : Value → H → Prop} (hw : wp Try.prog (M_impl_remainder a0 a1) (Ret R) h) : HC Try.prog fn_impl_remainder (List.map AV.val [.c (.int .i64 a0), .c (.int .i64 a1)]).toArray h R :=
  den_calls hmix Try.func64 (of_decide_eq_true rfl) (by rw [den_impl_remainder]; exact hw)
def M_impl_before_1 (a00 : Int) (a01 : Int) (a10 : Int) (a11 : Int) (f0 : PA) : M :=
 .alloc ty_impl_Item [.int .i64 (a00), .int .i64 (a01)] fun n0 =>
 .alloc ty_impl_Item [.int .i64 (a10), .int .i64 (a11)] fun n1 =>
 .load f0 (.sl) fun s2 =>
 .load (n0, 0) (.int .i64) fun i3 =>
 .load f0 (.sl) fun s4 =>
 .load (n1, 0) (.int .i64) fun i5 =>
 .call fn_impl_rank [.c (.sl (s2.fst) (s2.snd.fst) (s2.snd.snd)), .c (.int .i64 (i3))] false [.c (.int .i64)] fun r6 =>
 .held (n1, 0) (.int .i64 (i5)) <|
 .held f0 (.sl (s4.fst) (s4.snd.fst) (s4.snd.snd)) <|
 .call fn_impl_rank [.c (.sl (s4.fst) (s4.snd.fst) (s4.snd.snd)), .c (.int .i64 (i5))] false [.c (.int .i64)] fun r7 =>
 .done .ret [.c (.bool (decide (r6.fst < r7.fst)))]
theorem den_impl_before_1 (a00 : Int) (a01 : Int) (a10 : Int) (a11 : Int) (f0 : PA) : denFn Try.prog Try.f47 [.agg [.int .i64 a00, .int .i64 a01], .agg [.int .i64 a10, .int .i64 a11], .c (.addr f0)] = M_impl_before_1 a00 a01 a10 a11 f0 := by kernel_rfl
theorem hc_impl_before_1 (a00 : Int) (a01 : Int) (a10 : Int) (a11 : Int) (f0 : PA) {h : H} {R : Value → H → Prop} (hw : wp Try.prog (M_impl_before_1 a00 a01 a10 a11 f0) (Ret R) h) : HC Try.prog fn_impl_before_1 (List.map AV.val [.agg [.int .i64 a00, .int .i64 a01], .agg [.int .i64 a10, .int .i64 a11], .c (.addr f0)]).toArray h R :=
  den_calls hmix Try.func47 (of_decide_eq_true rfl) (by rw [den_impl_before_1]; exact hw)
def M_impl_before (a0p : Option PA) (a0l : Nat) (a0c : Nat) : M :=
 .call fn_slices_Clone_int_int [.c (.sl (a0p) (a0l) (a0c))] false [.c (.sl)] fun r0 =>
 .alloc ty_sl_int [.sl none (0) (0)] fun n1 =>
 .store (n1, 0) (.sl (r0.fst.fst) (r0.fst.snd.fst) (r0.fst.snd.snd)) <|
 .done .ret [.c (.raw (Value.func (Fn.func fn_impl_before_1) (List.map AV.val []).toArray (List.map AV.val [AV.c (Cell.addr (n1, 0))]).toArray))]
theorem den_impl_before (a0p : Option PA) (a0l : Nat) (a0c : Nat) : denFn Try.prog Try.f29 [.c (.sl a0p a0l a0c)] = M_impl_before a0p a0l a0c := by kernel_rfl
theorem hc_impl_before (a0p : Option PA) (a0l : Nat) (a0c : Nat) {h : H} {R : Value → H → Prop} (hw : wp Try.prog (M_impl_before a0p a0l a0c) (Ret R) h) : HC Try.prog fn_impl_before (List.map AV.val [.c (.sl a0p a0l a0c)]).toArray h R :=
  den_calls hmix Try.func29 (of_decide_eq_true rfl) (by rw [den_impl_before]; exact hw)
def M_impl_options (a00p : Option PA) (a00l : Nat) (a00c : Nat) (a01 : Int) (a02 : Bool) : M :=
 .alloc ty_impl_Make [.sl (a00p) (a00l) (a00c), .int .i64 (a01), .bool (a02)] fun n0 =>
 .alloc ty_btree_Options [.int .i64 (0), .ff] fun n1 =>
 .load (n0, 1) (.int .i64) fun i2 =>
 .load (n0, 2) (.bool) fun b3 =>
 .store (n1, 0) (.int .i64 (i2)) <|
 .store (n1, 1) (.bool (b3)) <|
 .load (n1, 0) (.int .i64) fun i4 =>
 .load (n1, 1) (.bool) fun b5 =>
 .done .ret [.agg [.int .i64 (i4), .bool (b5)]]
theorem den_impl_options (a00p : Option PA) (a00l : Nat) (a00c : Nat) (a01 : Int) (a02 : Bool) : denFn Try.prog Try.f30 [.agg [.sl a00p a00l a00c, .int .i64 a01, .bool a02]] = M_impl_options a00p a00l a00c a01 a02 := by kernel_rfl
theorem hc_impl_options (a00p : Option PA) (a00l : Nat) (a00c : Nat) (a01 : Int) (a02 : Bool) {h : H} {R : Value → H → Prop} (hw : wp Try.prog (M_impl_options a00p a00l a00c a01 a02) (Ret R) h) : HC Try.prog fn_impl_options (List.map AV.val [.agg [.sl a00p a00l a00c, .int .i64 a01, .bool a02]]).toArray h R :=
  den_calls hmix Try.func30 (of_decide_eq_true rfl) (by rw [den_impl_options]; exact hw)
def M_impl_grow (a00p : Option PA) (a00l : Nat) (a00c : Nat) (a01 : Int) (a02 : Bool) (a1p : Option PA) (a1l : Nat) (a1c : Nat) : M :=
 .alloc ty_impl_Make [.sl (a00p) (a00l) (a00c), .int .i64 (a01), .bool (a02)] fun n0 =>
 .load (n0, 0) (.sl) fun s1 =>
 .load (n0, 0) (.sl) fun s2 =>
 .load (n0, 1) (.int .i64) fun i3 =>
 .load (n0, 2) (.bool) fun b4 =>
 .call fn_impl_before [.c (.sl (s1.fst) (s1.snd.fst) (s1.snd.snd))] false [.c (.raw)] fun r5 =>
 .held (n0, 0) (.sl (s2.fst) (s2.snd.fst) (s2.snd.snd)) <|
 .held (n0, 1) (.int .i64 (i3)) <|
 .held (n0, 2) (.bool (b4)) <|
 .call fn_impl_options [.agg [.sl (s2.fst) (s2.snd.fst) (s2.snd.snd), .int .i64 (i3), .bool (b4)]] false [.agg [.int .i64, .bool]] fun r6 =>
 .call fn_NewBTreeGOptions [.c (.raw (r5.fst)), .agg [.int .i64 (r6.fst.fst), .bool (r6.fst.snd.fst)]] false [.c (.ptr)] fun r7 =>
 .bind (some 0) (.loop [.c (.int .i64)] [.c (.int .i64 (0))] fun y8 =>
 .ite (decide (y8.fst < (↑a1l : Int)))
 (.nonnil (a1p) fun p9 =>
 .guard (((0 : Int) ≤ y8.fst) ∧ ((y8.fst : Int) < (↑a1l : Int))) <|
 .load (p9.fst, p9.snd + mulN (Int.toNat y8.fst) 2) (.int .i64) fun i10 =>
 .load (p9.fst, p9.snd + mulN (Int.toNat y8.fst) 2 + 1) (.int .i64) fun i11 =>
 .alloc ty_impl_Item [.int .i64 (0), .int .i64 (0)] fun n12 =>
 .store (n12, 0) (.int .i64 (i10)) <|
 .store (n12, 1) (.int .i64 (i11)) <|
 .load (n12, 0) (.int .i64) fun i13 =>
 .load (n12, 1) (.int .i64) fun i14 =>
 .call fn_tg_Set [.c (.ptr (r7.fst)), .agg [.int .i64 (i13), .int .i64 (i14)]] true [.agg [.int .i64, .int .i64], .c (.bool)] fun r15 =>
 .guard (InK IntKind.i64 (y8.fst + 1)) <|
 .done .normal [.c (.int .i64 (y8.fst + 1))])
 (.done (.exit 0) [])) [] fun x16 =>
 .done .ret [.c (.ptr (r7.fst))]
theorem den_impl_grow (a00p : Option PA) (a00l : Nat) (a00c : Nat) (a01 : Int) (a02 : Bool) (a1p : Option PA) (a1l : Nat) (a1c : Nat) : denFn Try.prog Try.f17 [.agg [.sl a00p a00l a00c, .int .i64 a01, .bool a02], .c (.sl a1p a1l a1c)] = M_impl_grow a00p a00l a00c a01 a02 a1p a1l a1c := by kernel_rfl
theorem hc_impl_grow (a00p : Option PA) (a00l : Nat) (a00c : Nat) (a01 : Int) (a02 : Bool) (a1p : Option PA) (a1l : Nat) (a1c : Nat) {h : H} {R : Value → H → Prop} (hw : wp Try.prog (M_impl_grow a00p a00l a00c a01 a02 a1p a1l a1c) (Ret R) h) : HC Try.prog fn_impl_grow (List.map AV.val [.agg [.sl a00p a00l a00c, .int .i64 a01, .bool a02], .c (.sl a1p a1l a1c)]).toArray h R :=
  den_calls hmix Try.func17 (of_decide_eq_true rfl) (by rw [den_impl_grow]; exact hw)
def OcC (f : PA) (o : List Int) : Ck := ExC (fun s : SlT => OwnL LN s o) fun s => StC [Ow f [.slice (s.1.map PA.val) s.2.1 s.2.2] 0, SlC s LN.sz (LN.flat o)]
def beF (f : PA) : Value := .func (.func fn_impl_before_1) #[] #[.pointer (some f.val)]
section
variable {h : H}
theorem c_CloneInts {c : Ck} {xs : List Int} {sp : Option PA} {n cap : Nat} (hx : Rdr c (sp, n, cap) LN xs) (hxl : xs.length ≤ 4294967296) {G : PA → Prop} (hG : Star [c] h G) :
    HT Try.prog fn_slices_Clone_int_int [.c (.sl sp n cap)] false [.c .sl] h fun r h' => ∃ post, (∃ s : SlT, r = (s, ()) ∧ OwnL LN s xs ∧ post = [c, SlC s LN.sz (LN.flat xs)]) ∧ St h G post h' := by
  apply hc_slices_Clone_int_int
  unfold M_slices_Clone_int_int
  have hn : n = xs.length := hx.1
  have S := St.start hG
  cases sp with
  | none =>
    obtain rfl : xs = [] := by
      rcases hx.2.2 with h | ⟨p, hp, _⟩
      · exact h
      · cases hp
    exact w_true rfl (rt_1 rfl ⟨_, ⟨(none, 0, 0), rfl, ⟨rfl, Nat.le_refl _, .inl rfl⟩, rfl⟩, (sl_nil LN S).pull1⟩)
  | some p =>
    refine w_false rfl ?_
    refine st_alloc S fun n0 _ S => ?_
    obtain ⟨F, hF⟩ := S.fct (.ck c)
    refine st_new (L := LN) (ys := xs) S rfl rfl hn (hx.rsl hF) ⟨by omega, by omega⟩ fun p' c' _ hc S => ?_
    have S := S.close_sl (n := n) (c := c') (sz := LN.sz) hc (by rw [LN.flat_length, hn])
    exact rt_1 rfl ⟨_, ⟨_, rfl, ⟨hn, hc, .inr rfl⟩, rfl⟩, S.ats [.ck c, .sl (some p', n, c')]⟩
theorem c_implRank {c : Ck} {o : List Int} {sp : Option PA} {n cap : Nat} (hr : Rdr c (sp, n, cap) LN o) (hl : o.length ≤ 2147483647) {k : Int} (hc : ∃ F, c.p h F) :
    HT Try.prog fn_impl_rank [.c (.sl sp n cap), .c (.int .i64 k)] false [.c (.int .i64)] h fun x h' => x = (rk o k, ()) ∧ h' = h := by
  apply hc_impl_rank
  unfold M_impl_rank
  have hn : n = o.length := hr.1
  cases o with
  | nil =>
    subst hn
    exact w_true (beq_t rfl) (rt_1 rfl ⟨rfl, rfl⟩)
  | cons a o =>
    obtain ⟨p, hp, hro⟩ := hr.ptr (by simp)
    dsimp only at hp
    subst hp
    have hpos : 0 < n := by rw [hn]; simp
    obtain ⟨g1, g2, g3, g4⟩ := rem_in (k := k) (n := n) (by omega)
    obtain ⟨F, hF⟩ := hc
    refine w_false (beq_f (by omega)) ?_
    have hrem : HT Try.prog fn_impl_remainder [.c (.int .i64 k), .c (.int .i64 n)] false [.c (.int .i64)] h fun x h' => x = ((k.tmod n + n).tmod n, ()) ∧ h' = h :=
      hc_impl_remainder _ _ (w_guard (by omega) (w_guard (inK64 (by omega) (by omega)) (w_guard (by omega) (rt_1 rfl ⟨rfl, rfl⟩))))
    refine w_callT hrem ?_
    rintro _ _ ⟨rfl, rfl⟩
    refine w_nonnil (w_guard ⟨g1, g2⟩ ?_)
    have hlt : ((k.tmod n + n).tmod n).toNat < (a :: o).length := by rw [← hn]; omega
    refine w_num (hro _ F hF) (List.getElem?_eq_getElem hlt) (rt_1 rfl ⟨?_, rfl⟩)
    rw [rk, ← hn, List.getElem?_eq_getElem hlt]; rfl
theorem lss_before {f : PA} {o : List Int} (hl : o.length ≤ 2147483647) : Lss (beF f) (OcC f o) o := by
  refine ⟨rfl, fun h F a b hF => ⟨by kernel_rfl, ?_⟩⟩
  have e : (#[] ++ (List.map AV.val [.agg [.int .i64 a.1, .int .i64 a.2], .agg [.int .i64 b.1, .int .i64 b.2]]).toArray ++ #[.pointer (some f.val)] : Array Value) = (List.map AV.val [.agg [.int .i64 a.1, .int .i64 a.2], .agg [.int .i64 b.1, .int .i64 b.2], .c (.addr f)]).toArray := by simp; rfl
  rw [e]
  apply hc_impl_before_1
  unfold M_impl_before_1
  obtain ⟨s, hs, hst⟩ := hF
  have hb : ∀ c ∈ [Ow f [.slice (s.1.map PA.val) s.2.1 s.2.2] 0, SlC s LN.sz (LN.flat o)], Bes c h none' := fun c hc => by
    obtain ⟨F', g1, _⟩ := star_mem hst c hc
    exact ⟨F', g1, fun _ _ hn => hn⟩
  have b1 : Bes (RdC (f.1, f.2 + 0) (.slice (s.1.map PA.val) s.2.1 s.2.2)) h none' := Bes.cell (hb _ (.head _)) rfl
  have b2 : Bes (SlC s LN.sz (LN.flat o)) h none' := hb _ (.tail _ (.head _))
  have hG : Star [] h none' := fun x hx => hx
  refine st_alloc (St.start hG) fun n0 _ S => ?_
  refine st_alloc S fun n1 _ S => ?_
  refine w_sl s (b1.now S).rd (ld_int S rfl (w_sl s (b1.now S).rd (ld_int S rfl ?_)))
  refine w_callT (c_implRank hs.rdr hl (b2.now S).ex) ?_
  rintro _ _ ⟨rfl, rfl⟩
  refine st_held S rfl (w_held (b1.now S).rd ?_)
  refine w_callT (c_implRank hs.rdr hl (b2.now S).ex) ?_
  rintro _ _ ⟨rfl, rfl⟩
  refine rt_1 rfl ⟨rfl, fun G hG => ?_⟩
  have S := S.drop.drop
  obtain ⟨⟨G', g1, g2⟩, g3⟩ := S
  exact ⟨⟨G', g1, fun x hx => (g1 x hx).elim⟩, g3.mono fun _ _ hn => hn.elim⟩
theorem c_before {c : Ck} {o : List Int} {sp : Option PA} {n cap : Nat} (hr : Rdr c (sp, n, cap) LN o) (hl : o.length ≤ 2147483647) {G : PA → Prop} (hG : Star [c] h G) :
    HT Try.prog fn_impl_before [.c (.sl sp n cap)] false [.c .raw] h fun r h' => ∃ post, (∃ f : PA, r = (beF f, ()) ∧ post = [OcC f o, c]) ∧ St h G post h' := by
  apply hc_impl_before
  unfold M_impl_before
  have S := St.start hG
  refine st_callT S [.ck c] (fun G hG => c_CloneInts hr (by omega) hG) ?_
  rintro _ _ _ ⟨s, rfl, hs, rfl⟩ S
  dsimp only [List.cons_append, List.nil_append] at S
  refine st_alloc S fun n1 _ S => ?_
  refine st_store S (lt_ble rfl) fun _ S => ?_
  have S := S.ats [.ow (n1, 0), .sl s]
  have S := St.ex_in (φ := fun s : SlT => OwnL LN s o) (f := fun s => StC [Ow (n1, 0) [.slice (s.1.map PA.val) s.2.1 s.2.2] 0, SlC s LN.sz (LN.flat o)]) s hs (St.st_in (m := [_, _]) S)
  exact rt_1 rfl ⟨_, ⟨(n1, 0), rfl, rfl⟩, S⟩
theorem c_options {op : Option PA} {on oc : Nat} {d : Int} {nl : Bool} {G : PA → Prop} (hG : Star [] h G) :
    HT Try.prog fn_impl_options [.agg [.sl op on oc, .int .i64 d, .bool nl]] false [.agg [.int .i64, .bool]] h fun r h' => ∃ post, (r = ((d, nl, ()), ()) ∧ post = []) ∧ St h G post h' := by
  apply hc_impl_options
  unfold M_impl_options
  refine st_alloc (St.start hG) fun n0 _ S => ?_
  refine st_alloc S fun n1 _ S => ?_
  repeat (first | refine ld_int S rfl ?_ | refine ld_bool S rfl ?_ | refine st_store S (lt_ble rfl) fun _ S => ?_ | refine st_alloc S fun _ _ S => ?_ )
  exact rt_1 rfl ⟨_, ⟨rfl, rfl⟩, S.drop.drop⟩
set_option maxHeartbeats 1000000 in
theorem c_grow {c : Ck} {o : List Int} {op : Option PA} {on oc : Nat} (hr : Rdr c (op, on, oc) LN o) (hl : o.length ≤ 2147483647) {d : Int} {nl : Bool} (hd : d ≤ 128) {xs : List IV} {sp : Option PA} {n cap : Nat} (hx : Rdr c (sp, n, cap) LT xs) (hxl : xs.length ≤ 2147483647) {G : PA → Prop} (hG : Star [c] h G) :
    HT Try.prog fn_impl_grow [.agg [.sl op on oc, .int .i64 d, .bool nl], .c (.sl sp n cap)] false [.c .ptr] h fun r h' => ∃ post, (∃ (m : Nat) (f : PA), r = (some (m, 0), ()) ∧ post = [c, OcC f o, TG.MpC (beF f) o 1 (TG.dgOf d) (m, 0) (treeO o xs)]) ∧ St h G post h' := by
  apply hc_impl_grow
  unfold M_impl_grow
  have hn : n = xs.length := hx.1
  refine st_alloc (St.start hG) fun n0 _ S => ?_
  refine ld_sl S op on oc rfl (ld_sl S op on oc rfl (ld_int S rfl (ld_bool S rfl ?_)))
  refine st_callT S [.ck c] (fun G hG => c_before hr hl hG) ?_
  rintro _ _ _ ⟨f, rfl, rfl⟩ S
  dsimp only [List.cons_append, List.nil_append] at S
  refine st_held S rfl (st_held S rfl (st_held S rfl ?_))
  refine st_callT S [] (fun G hG => c_options hG) ?_
  rintro _ _ _ ⟨rfl, rfl⟩ S
  dsimp only [List.cons_append, List.nil_append] at S
  refine st_callT S [] (fun G hG => TG.c_New (lss_before hl) hd hG) ?_
  rintro _ _ _ ⟨m, rfl, rfl⟩ S
  dsimp only [List.cons_append, List.nil_append] at S
  have S := S.ats [.ck c, .ck (OcC f o), .mp (m, 0)]
  have S := S.only [.ck c, .ck (OcC f o), .mp (m, 0)]
  refine w_mid' (some 0) (fun _ h' => St h G [c, OcC f o, TG.MpC (beF f) o 1 (TG.dgOf d) (m, 0) (treeO o xs)] h') ?_ ?_
  · refine w_lp (fun r y h' => ∃ i : Nat, y = ((i : Int), ()) ∧ i + r = n ∧ St h G [c, OcC f o, TG.MpC (beF f) o 1 (TG.dgOf d) (m, 0) (treeO o (xs.take i))] h') n rfl ⟨0, rfl, by omega, S⟩ ?_
    clear S
    rintro r _ _ ⟨i, rfl, hi, S⟩
    by_cases hlt : i < n
    · obtain ⟨p, hp, hrd⟩ := hx.ptr (by omega)
      dsimp only at hp
      subst hp
      have hxi := List.getElem?_eq_getElem (show i < xs.length by omega)
      have htl := treeO_len o (xs.take i)
      have htl2 : (xs.take i).length ≤ i := List.length_take_le _ _
      simp only [Int.toNat_natCast, toNat_succ, toNat_succ2, toNat_pred]
      refine w_true (lt_t (by (first | omega | ((try dsimp only [Sh.T, Sh1.T]); omega)))) ?_
      repeat (first | refine w_nonnil ?_ | refine ld_int S rfl ?_ | refine ld_bool S rfl ?_ | refine st_store S (lt_ble rfl) fun _ S => ?_ | refine st_alloc S fun _ _ S => ?_ | refine st_held S rfl ?_ | refine w_guard (by (first | exact inK64 (by omega) (by omega) | omega | (constructor <;> omega) | ((try dsimp only [Sh.T, Sh1.T]); first | exact inK64 (by omega) (by omega) | omega | exact ⟨by decide, inK64 (by omega) (by omega)⟩ | trivial))) ?_ | refine ln_e ?_ | refine w_true (b := true) rfl ?_ | refine w_false (b := false) rfl ?_ | refine w_guard (show noMeths _ _ by show _ = _; kernel_rfl) ?_ | refine w_item (S.rdr hrd) (by assumption) ?_ | refine ld_sl S _ _ _ rfl ?_)
      refine st_callB S [.mp (m, 0)] (fun G hG hb => HT.re (args' := [.c (.addr (m, 0)), .agg [.int .i64 xs[i].1, .int .i64 xs[i].2]]) rfl <| TG.c_Set (x := xs[i]) (lss_before hl) (by omega) (hb (OcC f o) (by simp)) hG) ?_
      rintro _ _ _ ⟨rfl, rfl⟩ S
      dsimp only [List.cons_append, List.nil_append] at S
      have e : put (ltO o) (treeO o (xs.take i)) xs[i] = treeO o (xs.take (i + 1)) := by rw [take_snoc (by omega), treeO_snoc]
      rw [e] at S
      repeat (first | refine w_nonnil ?_ | refine ld_int S rfl ?_ | refine ld_bool S rfl ?_ | refine st_store S (lt_ble rfl) fun _ S => ?_ | refine st_alloc S fun _ _ S => ?_ | refine st_held S rfl ?_ | refine w_guard (by (first | exact inK64 (by omega) (by omega) | omega | (constructor <;> omega) | ((try dsimp only [Sh.T, Sh1.T]); first | exact inK64 (by omega) (by omega) | omega | exact ⟨by decide, inK64 (by omega) (by omega)⟩ | trivial))) ?_ | refine ln_e ?_ | refine w_true (b := true) rfl ?_ | refine w_false (b := false) rfl ?_ | refine w_guard (show noMeths _ _ by show _ = _; kernel_rfl) ?_ | refine w_item (S.rdr hrd) (by assumption) ?_ | refine ld_sl S _ _ _ rfl ?_)
      exact ln_n rfl (r - 1) ⟨i + 1, rfl, by omega, S.only [.ck c, .ck (OcC f o), .mp (m, 0)]⟩ (by omega)
    · rw [List.take_of_length_le (by omega)] at S
      exact w_false (lt_f (by (first | omega | ((try dsimp only [Sh.T, Sh1.T]); omega)))) (ln_e (md_e rfl S))
  · rintro _ _ S
    exact rt_1 rfl ⟨_, ⟨m, f, rfl, rfl⟩, S⟩
end
end Go.Proofs.Ytegnpimlfphncaa
