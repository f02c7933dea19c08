/-
  The thin package over the tree of interfaces: items sought, at an index, from a key down; and what the reference says of it. Conditions: none.
-/
import Derived.Test.YtlhbdmjeomffhaaZis
import Derived.Test.YtlhbdmjeomffhaaYsq
set_option linter.unusedVariables false
set_option linter.unusedSimpArgs false
set_option linter.unusedSectionVars false
set_option maxRecDepth 100000
namespace Go.Proofs.Ytlhbdmjeomffhaa
open Go
def M_impl_BGetHint (a00p : Option PA) (a00l : Nat) (a00c : Nat) (a01 : Int) (a02 : Bool) (a1p : Option PA) (a1l : Nat) (a1c : Nat) (a2p : Option PA) (a2l : Nat) (a2c : Nat) : M :=
  .alloc ty_impl_Make [.sl (a00p) (a00l) (a00c), .int .i64 (a01), .bool (a02)] fun n0 =>
  .load (n0, 0) (.sl) fun s1 =>
  .load (n0, 1) (.int .i64) fun i2 =>
  .load (n0, 2) (.bool) fun b3 =>
  .call fn_impl_growAny [.agg [.sl (s1.fst) (s1.snd.fst) (s1.snd.snd), .int .i64 (i2), .bool (b3)], .c (.sl (a1p) (a1l) (a1c))] false [.c (.ptr)] fun r4 =>
  .alloc ty_btree_PathHint [.ff, .ff, .ff, .ff, .ff, .ff, .ff, .ff, .int .u8 (0), .int .u8 (0), .int .u8 (0), .int .u8 (0), .int .u8 (0), .int .u8 (0), .int .u8 (0), .int .u8 (0)] fun n5 =>
  .bind (some 0) (.loop [.c (.int .i64), .c (.sl)] [.c (.int .i64 (0)), .c (.sl none (0) (0))] fun y6 =>
      .ite (decide (y6.fst < (↑a2l : Int)))
      (.nonnil (a2p) fun p7 =>
        .guard (((0 : Int) ≤ y6.fst) ∧ ((y6.fst : Int) < (↑a2l : Int))) <|
        .load (p7.fst, p7.snd + mulN (Int.toNat y6.fst) 2) (.int .i64) fun i8 =>
        .load (p7.fst, p7.snd + mulN (Int.toNat y6.fst) 2 + 1) (.int .i64) fun i9 =>
        .alloc ty_impl_Item [.int .i64 (0), .int .i64 (0)] fun n10 =>
        .store (n10, 0) (.int .i64 (i8)) <|
        .store (n10, 1) (.int .i64 (i9)) <|
        .load (n10, 0) (.int .i64) fun i11 =>
        .load (n10, 1) (.int .i64) fun i12 =>
        .call fn_BTree_GetHint [.c (.ptr (r4.fst)), .c (.raw (Value.iface ty_impl_Item (AV.agg [(Sh1.int IntKind.i64).mk i11, (Sh1.int IntKind.i64).mk i12]).val)), .c (.addr (n5, 0))] false [.c (.raw)] fun r13 =>
        .call fn_impl_foundAny [.c (.raw (r13.fst))] false [.agg [.int .i64, .int .i64, .bool]] fun r14 =>
        .alloc ty_impl_Found [.int .i64 (r14.fst.fst), .int .i64 (r14.fst.snd.fst), .bool (r14.fst.snd.snd.fst)] fun n15 =>
        .append ty_impl_Found 3 24 [.int .i64 (0), .int .i64 (0), .ff] ((y6.snd.fst.fst), y6.snd.fst.snd.fst, y6.snd.fst.snd.snd) ((some (n15, 0)), 1, 1) fun s16 =>
        .guard (InK IntKind.i64 (y6.fst + 1)) <|
        .done .normal [.c (.int .i64 (y6.fst + 1)), .c (.sl (s16.fst) (s16.snd.fst) (s16.snd.snd))])
      (.done (.exit 0) [.c (.sl (y6.snd.fst.fst) (y6.snd.fst.snd.fst) (y6.snd.fst.snd.snd))])) [.c (.sl)] fun x17 =>
  .done .ret [.c (.sl (x17.fst.fst) (x17.fst.snd.fst) (x17.fst.snd.snd))]
theorem den_impl_BGetHint (a00p : Option PA) (a00l : Nat) (a00c : Nat) (a01 : Int) (a02 : Bool) (a1p : Option PA) (a1l : Nat) (a1c : Nat) (a2p : Option PA) (a2l : Nat) (a2c : Nat) : denFn Try.prog Try.f45 [.agg [.sl a00p a00l a00c, .int .i64 a01, .bool a02], .c (.sl a1p a1l a1c), .c (.sl a2p a2l a2c)] = M_impl_BGetHint a00p a00l a00c a01 a02 a1p a1l a1c a2p a2l a2c := by kernel_rfl
theorem hc_impl_BGetHint (a00p : Option PA) (a00l : Nat) (a00c : Nat) (a01 : Int) (a02 : Bool) (a1p : Option PA) (a1l : Nat) (a1c : Nat) (a2p : Option PA) (a2l : Nat) (a2c : Nat) {h : H} {R : Value → H → Prop} (hw : wp Try.prog (M_impl_BGetHint a00p a00l a00c a01 a02 a1p a1l a1c a2p a2l a2c) (Ret R) h) : HC Try.prog fn_impl_BGetHint (List.map AV.val [.agg [.sl a00p a00l a00c, .int .i64 a01, .bool a02], .c (.sl a1p a1l a1c), .c (.sl a2p a2l a2c)]).toArray h R :=
  den_calls hmix Try.func45 (of_decide_eq_true rfl) (by rw [den_impl_BGetHint]; exact hw)
def M_impl_BGetAt (a00p : Option PA) (a00l : Nat) (a00c : Nat) (a01 : Int) (a02 : Bool) (a1p : Option PA) (a1l : Nat) (a1c : Nat) (a2p : Option PA) (a2l : Nat) (a2c : Nat) : M :=
  .alloc ty_impl_Make [.sl (a00p) (a00l) (a00c), .int .i64 (a01), .bool (a02)] fun n0 =>
  .load (n0, 0) (.sl) fun s1 =>
  .load (n0, 1) (.int .i64) fun i2 =>
  .load (n0, 2) (.bool) fun b3 =>
  .call fn_impl_growAny [.agg [.sl (s1.fst) (s1.snd.fst) (s1.snd.snd), .int .i64 (i2), .bool (b3)], .c (.sl (a1p) (a1l) (a1c))] false [.c (.ptr)] fun r4 =>
  .bind (some 0) (.loop [.c (.int .i64), .c (.sl)] [.c (.int .i64 (0)), .c (.sl none (0) (0))] fun y5 =>
      .ite (decide (y5.fst < (↑a2l : Int)))
      (.nonnil (a2p) fun p6 =>
        .guard (((0 : Int) ≤ y5.fst) ∧ ((y5.fst : Int) < (↑a2l : Int))) <|
        .load (p6.fst, p6.snd + Int.toNat y5.fst) (.int .i64) fun i7 =>
        .call fn_BTree_GetAt [.c (.ptr (r4.fst)), .c (.int .i64 (i7))] false [.c (.raw)] fun r8 =>
        .call fn_impl_foundAny [.c (.raw (r8.fst))] false [.agg [.int .i64, .int .i64, .bool]] fun r9 =>
        .alloc ty_impl_Found [.int .i64 (r9.fst.fst), .int .i64 (r9.fst.snd.fst), .bool (r9.fst.snd.snd.fst)] fun n10 =>
        .append ty_impl_Found 3 24 [.int .i64 (0), .int .i64 (0), .ff] ((y5.snd.fst.fst), y5.snd.fst.snd.fst, y5.snd.fst.snd.snd) ((some (n10, 0)), 1, 1) fun s11 =>
        .guard (InK IntKind.i64 (y5.fst + 1)) <|
        .done .normal [.c (.int .i64 (y5.fst + 1)), .c (.sl (s11.fst) (s11.snd.fst) (s11.snd.snd))])
      (.done (.exit 0) [.c (.sl (y5.snd.fst.fst) (y5.snd.fst.snd.fst) (y5.snd.fst.snd.snd))])) [.c (.sl)] fun x12 =>
  .done .ret [.c (.sl (x12.fst.fst) (x12.fst.snd.fst) (x12.fst.snd.snd))]
theorem den_impl_BGetAt (a00p : Option PA) (a00l : Nat) (a00c : Nat) (a01 : Int) (a02 : Bool) (a1p : Option PA) (a1l : Nat) (a1c : Nat) (a2p : Option PA) (a2l : Nat) (a2c : Nat) : denFn Try.prog Try.f42 [.agg [.sl a00p a00l a00c, .int .i64 a01, .bool a02], .c (.sl a1p a1l a1c), .c (.sl a2p a2l a2c)] = M_impl_BGetAt a00p a00l a00c a01 a02 a1p a1l a1c a2p a2l a2c := by kernel_rfl
theorem hc_impl_BGetAt (a00p : Option PA) (a00l : Nat) (a00c : Nat) (a01 : Int) (a02 : Bool) (a1p : Option PA) (a1l : Nat) (a1c : Nat) (a2p : Option PA) (a2l : Nat) (a2c : Nat) {h : H} {R : Value → H → Prop} (hw : wp Try.prog (M_impl_BGetAt a00p a00l a00c a01 a02 a1p a1l a1c a2p a2l a2c) (Ret R) h) : HC Try.prog fn_impl_BGetAt (List.map AV.val [.agg [.sl a00p a00l a00c, .int .i64 a01, .bool a02], .c (.sl a1p a1l a1c), .c (.sl a2p a2l a2c)]).toArray h R :=
  den_calls hmix Try.func42 (of_decide_eq_true rfl) (by rw [den_impl_BGetAt]; exact hw)
def M_spec_GGetAt (a00p : Option PA) (a00l : Nat) (a00c : Nat) (a01 : Int) (a02 : Bool) (a1p : Option PA) (a1l : Nat) (a1c : Nat) (a2p : Option PA) (a2l : Nat) (a2c : Nat) : M :=
  .alloc ty_impl_Make [.sl (a00p) (a00l) (a00c), .int .i64 (a01), .bool (a02)] fun n0 =>
  .load (n0, 0) (.sl) fun s1 =>
  .call fn_spec_Tree [.c (.sl (s1.fst) (s1.snd.fst) (s1.snd.snd)), .c (.sl (a1p) (a1l) (a1c))] false [.c (.sl)] fun r2 =>
  .bind (some 0) (.loop [.c (.int .i64), .c (.sl)] [.c (.int .i64 (0)), .c (.sl none (0) (0))] fun y3 =>
      .ite (decide (y3.fst < (↑a2l : Int)))
      (.nonnil (a2p) fun p4 =>
        .guard (((0 : Int) ≤ y3.fst) ∧ ((y3.fst : Int) < (↑a2l : Int))) <|
        .load (p4.fst, p4.snd + Int.toNat y3.fst) (.int .i64) fun i5 =>
        .call fn_spec_At [.c (.sl (r2.fst.fst) (r2.fst.snd.fst) (r2.fst.snd.snd)), .c (.int .i64 (i5))] false [.agg [.int .i64, .int .i64, .bool]] fun r6 =>
        .alloc ty_impl_Found [.int .i64 (r6.fst.fst), .int .i64 (r6.fst.snd.fst), .bool (r6.fst.snd.snd.fst)] fun n7 =>
        .append ty_impl_Found 3 24 [.int .i64 (0), .int .i64 (0), .ff] ((y3.snd.fst.fst), y3.snd.fst.snd.fst, y3.snd.fst.snd.snd) ((some (n7, 0)), 1, 1) fun s8 =>
        .guard (InK IntKind.i64 (y3.fst + 1)) <|
        .done .normal [.c (.int .i64 (y3.fst + 1)), .c (.sl (s8.fst) (s8.snd.fst) (s8.snd.snd))])
      (.done (.exit 0) [.c (.sl (y3.snd.fst.fst) (y3.snd.fst.snd.fst) (y3.snd.fst.snd.snd))])) [.c (.sl)] fun x9 =>
  .done .ret [.c (.sl (x9.fst.fst) (x9.fst.snd.fst) (x9.fst.snd.snd))]
theorem den_spec_GGetAt (a00p : Option PA) (a00l : Nat) (a00c : Nat) (a01 : Int) (a02 : Bool) (a1p : Option PA) (a1l : Nat) (a1c : Nat) (a2p : Option PA) (a2l : Nat) (a2c : Nat) : denFn Try.prog Try.f43 [.agg [.sl a00p a00l a00c, .int .i64 a01, .bool a02], .c (.sl a1p a1l a1c), .c (.sl a2p a2l a2c)] = M_spec_GGetAt a00p a00l a00c a01 a02 a1p a1l a1c a2p a2l a2c := by kernel_rfl
theorem hc_spec_GGetAt (a00p : Option PA) (a00l : Nat) (a00c : Nat) (a01 : Int) (a02 : Bool) (a1p : Option PA) (a1l : Nat) (a1c : Nat) (a2p : Option PA) (a2l : Nat) (a2c : Nat) {h : H} {R : Value → H → Prop} (hw : wp Try.prog (M_spec_GGetAt a00p a00l a00c a01 a02 a1p a1l a1c a2p a2l a2c) (Ret R) h) : HC Try.prog fn_spec_GGetAt (List.map AV.val [.agg [.sl a00p a00l a00c, .int .i64 a01, .bool a02], .c (.sl a1p a1l a1c), .c (.sl a2p a2l a2c)]).toArray h R :=
  den_calls hmix Try.func43 (of_decide_eq_true rfl) (by rw [den_spec_GGetAt]; exact hw)
def M_spec_Turned (a0p : Option PA) (a0l : Nat) (a0c : Nat) : M :=
  .guard (InK IntKind.i64 ((↑a0l : Int) - 1)) <|
  .bind (some 0) (.loop [.c (.int .i64), .c (.sl)] [.c (.int .i64 ((↑a0l : Int) - 1)), .c (.sl none (0) (0))] fun y0 =>
      .ite (decide (y0.fst ≥ 0))
      (.nonnil (a0p) fun p1 =>
        .guard (((0 : Int) ≤ y0.fst) ∧ ((y0.fst : Int) < (↑a0l : Int))) <|
        .load (p1.fst, p1.snd + mulN (Int.toNat y0.fst) 2) (.int .i64) fun i2 =>
        .load (p1.fst, p1.snd + mulN (Int.toNat y0.fst) 2 + 1) (.int .i64) fun i3 =>
        .alloc ty_impl_Item [.int .i64 (i2), .int .i64 (i3)] fun n4 =>
        .append ty_impl_Item 2 16 [.int .i64 (0), .int .i64 (0)] ((y0.snd.fst.fst), y0.snd.fst.snd.fst, y0.snd.fst.snd.snd) ((some (n4, 0)), 1, 1) fun s5 =>
        .guard (InK IntKind.i64 (y0.fst - 1)) <|
        .done .normal [.c (.int .i64 (y0.fst - 1)), .c (.sl (s5.fst) (s5.snd.fst) (s5.snd.snd))])
      (.done (.exit 0) [.c (.sl (y0.snd.fst.fst) (y0.snd.fst.snd.fst) (y0.snd.fst.snd.snd))])) [.c (.sl)] fun x6 =>
  .done .ret [.c (.sl (x6.fst.fst) (x6.fst.snd.fst) (x6.fst.snd.snd))]
theorem den_spec_Turned (a0p : Option PA) (a0l : Nat) (a0c : Nat) : denFn Try.prog Try.f86 [.c (.sl a0p a0l a0c)] = M_spec_Turned a0p a0l a0c := by kernel_rfl
theorem hc_spec_Turned (a0p : Option PA) (a0l : Nat) (a0c : Nat) {h : H} {R : Value → H → Prop} (hw : wp Try.prog (M_spec_Turned a0p a0l a0c) (Ret R) h) : HC Try.prog fn_spec_Turned (List.map AV.val [.c (.sl a0p a0l a0c)]).toArray h R :=
  den_calls hmix Try.func86 (of_decide_eq_true rfl) (by rw [den_spec_Turned]; exact hw)
def M_spec_Down (a0p : Option PA) (a0l : Nat) (a0c : Nat) (a1p : Option PA) (a1l : Nat) (a1c : Nat) (a20 : Int) (a21 : Int) : M :=
  .alloc ty_impl_Item [.int .i64 (a20), .int .i64 (a21)] fun n0 =>
  .bind (some 0) (.loop [.c (.int .i64)] [.c (.int .i64 (0))] fun y1 =>
      .bind none (.ite (decide (y1.fst < (↑a1l : Int)))
        (.load (n0, 0) (.int .i64) fun i2 =>
          .load (n0, 1) (.int .i64) fun i3 =>
          .nonnil (a1p) fun p4 =>
          .guard (((0 : Int) ≤ y1.fst) ∧ ((y1.fst : Int) < (↑a1l : Int))) <|
          .load (p4.fst, p4.snd + mulN (Int.toNat y1.fst) 2) (.int .i64) fun i5 =>
          .load (p4.fst, p4.snd + mulN (Int.toNat y1.fst) 2 + 1) (.int .i64) fun i6 =>
          .call fn_spec_Before [.c (.sl (a0p) (a0l) (a0c)), .agg [.int .i64 (i2), .int .i64 (i3)], .agg [.int .i64 (i5), .int .i64 (i6)]] false [.c (.bool)] fun r7 =>
          .done .normal [.c (.bool (!r7.fst))])
        (.done .normal [.c (.ff)])) [.c (.bool)] fun x8 =>
      .ite (x8.fst)
      (.guard (InK IntKind.i64 (y1.fst + 1)) <|
        .done .normal [.c (.int .i64 (y1.fst + 1))])
      (.done (.exit 0) [.c (.int .i64 (y1.fst))])) [.c (.int .i64)] fun x9 =>
  .guard (((0 : Int) ≤ x9.fst) ∧ ((x9.fst : Int) ≤ (↑a1c : Int))) <|
  .call fn_spec_Turned [.c (.sl (slBase a1p a1c 0 2) (Int.toNat x9.fst - 0) (a1c - 0))] false [.c (.sl)] fun r10 =>
  .done .ret [.c (.sl (r10.fst.fst) (r10.fst.snd.fst) (r10.fst.snd.snd))]
theorem den_spec_Down (a0p : Option PA) (a0l : Nat) (a0c : Nat) (a1p : Option PA) (a1l : Nat) (a1c : Nat) (a20 : Int) (a21 : Int) : denFn Try.prog Try.f87 [.c (.sl a0p a0l a0c), .c (.sl a1p a1l a1c), .agg [.int .i64 a20, .int .i64 a21]] = M_spec_Down a0p a0l a0c a1p a1l a1c a20 a21 := by kernel_rfl
theorem hc_spec_Down (a0p : Option PA) (a0l : Nat) (a0c : Nat) (a1p : Option PA) (a1l : Nat) (a1c : Nat) (a20 : Int) (a21 : Int) {h : H} {R : Value → H → Prop} (hw : wp Try.prog (M_spec_Down a0p a0l a0c a1p a1l a1c a20 a21) (Ret R) h) : HC Try.prog fn_spec_Down (List.map AV.val [.c (.sl a0p a0l a0c), .c (.sl a1p a1l a1c), .agg [.int .i64 a20, .int .i64 a21]]).toArray h R :=
  den_calls hmix Try.func87 (of_decide_eq_true rfl) (by rw [den_spec_Down]; exact hw)
section
variable {h : H}
set_option maxHeartbeats 1000000 in
theorem c_BGetHintI {c : Ck} {o : List Int} {op : Option PA} {on oc : Nat} (hr : Rdr c (op, on, oc) LN o) (hl : o.length ≤ 2147483647) {d : Int} {nl : Bool} (hd : d ≤ 128) {xs : List IV} {sp : Option PA} {n cap : Nat} (hx : Rdr c (sp, n, cap) LT xs) (hxl : xs.length ≤ 2147483647) {ks : List IV} {kp : Option PA} {kn kc : Nat} (hk : Rdr c (kp, kn, kc) LT ks) (hkl : ks.length ≤ 2147483647) {G : PA → Prop} (hG : Star [c] h G) :
    HT Try.prog fn_impl_BGetHint [.agg [.sl op on oc, .int .i64 d, .bool nl], .c (.sl sp n cap), .c (.sl kp kn kc)] false [.c .sl] h fun r h' => ∃ post, (∃ s : SlT, r = (s, ()) ∧ OwnL LF s (getsF o (treeO o xs) ks) ∧ post = [c, SlC s LF.sz (LF.flat (getsF o (treeO o xs) ks))]) ∧ St h G post h' := by
  apply hc_impl_BGetHint
  unfold M_impl_BGetHint
  have hn : kn = ks.length := hk.1
  have htl := treeO_len o xs
  refine st_alloc (St.start hG) fun n0 _ S => ?_
  (refine ld_sl S op on oc rfl (ld_int S rfl (ld_bool S rfl ?_)))
  (refine st_callT S [.ck c] (fun G hG => c_growAny hr hl hd hx hxl hG) ?_; rintro _ _ _ ⟨m, p, f, rfl, rfl⟩ S; dsimp only [List.cons_append, List.nil_append] at S)
  refine st_alloc S fun n5 _ S => ?_
  have S := St.ex_in (φ := fun x : List Bool × List Int => x.1.length = 8 ∧ x.2.length = 8 ∧ ∀ i ∈ x.2, 0 ≤ i ∧ i ≤ 255) (f := fun x => Ow (n5, 0) (x.1.map Value.bool ++ x.2.map (Value.int .u8)) 0) (List.replicate 8 false, List.replicate 8 0) ⟨rfl, rfl, fun i hi => by rw [List.eq_of_mem_replicate hi]; decide⟩ S
  have S : St h G (TB.HtC (some (n5, 0)) :: _) _ := S
  have S := sl_nil LF S
  refine w_mid' (some 0) (fun (y : SV [.c .sl]) h' => ∃ s : SlT, y = (s, ()) ∧ OwnL LF s (getsF o (treeO o xs) ks) ∧ St h G [c, SlC s LF.sz (LF.flat (getsF o (treeO o xs) ks))] h') ?_ ?_
  · refine w_lp (fun r y h' => ∃ (i : Nat) (s : SlT), y = ((i : Int), s, ()) ∧ i + r = kn ∧ OwnL LF s (getsF o (treeO o xs) (ks.take i)) ∧ St h G [c, OaC p f o, BtC (baF p) o (TB.dgOf d) (m, 0) (treeO o xs), SlC s LF.sz (LF.flat (getsF o (treeO o xs) (ks.take i))), TB.HtC (some (n5, 0))] h') kn rfl
      ⟨0, (none, 0, 0), rfl, by omega, ⟨rfl, Nat.le_refl _, .inl rfl⟩, S.only [.ck c, .ck (OaC p f o), .mp (m, 0), .sl (none, 0, 0), .ck (TB.HtC (some (n5, 0)))]⟩ ?_
    clear S
    rintro r _ _ ⟨i, s, rfl, hi, hs, S⟩
    by_cases hlt : i < kn
    · obtain ⟨q, hq, hrd⟩ := hk.ptr (by omega)
      dsimp only at hq
      subst hq
      have hxi := List.getElem?_eq_getElem (show i < ks.length by omega)
      have hsl : (getsF o (treeO o xs) (ks.take i)).length = i := by rw [getsF_len, List.length_take]; omega
      obtain ⟨s1, s2, s3⟩ := s
      simp only [Int.toNat_natCast, toNat_succ, toNat_succ2, toNat_pred]
      refine w_true (lt_t (by (first | omega | ((try dsimp only [Sh.T, Sh1.T]); omega)))) ?_
      repeat (first | refine w_nonnil ?_ | refine ld_int S rfl ?_ | refine ld_some S rfl ?_ | refine ld_ptr S _ rfl ?_ | refine ld_sls S rfl ?_ | refine ld_nil S rfl ?_ | refine ld_bool S rfl ?_ | refine st_store S (lt_ble rfl) fun _ S => ?_ | refine st_alloc S fun _ _ S => ?_ | refine st_held S rfl ?_ | refine w_guard (by (first | exact inK64 (by omega) (by omega) | omega | (constructor <;> omega) | ((try dsimp only [Sh.T, Sh1.T]); first | exact inK64 (by omega) (by omega) | omega | exact ⟨by decide, inK64 (by omega) (by omega)⟩ | trivial))) ?_ | refine bd_n rfl ?_ | refine bd_e rfl ?_ | refine bd_r ?_ | refine bd_p ?_ | refine ln_r ?_ | refine ln_e ?_ | refine w_true (b := true) rfl ?_ | refine w_false (b := false) rfl ?_ | refine w_item (S.rdr hrd) (by assumption) ?_ | refine h_item (S.rdr hrd) (by assumption) ?_ | refine w_num (S.rdr hro) (by assumption) ?_ | refine ld_sln S rfl ?_ | refine ld_sl S _ _ _ rfl ?_)
      refine st_callB S [.mp (m, 0), .ck (TB.HtC (some (n5, 0)))] (fun G hG hb => HT.re (args' := [.c (.addr (m, 0)), .c (.raw (anyV ks[i])), .c (.ptr (some (n5, 0)))]) rfl <| c_BGetHint (x := ks[i]) (TB.hs_ok_or _) (lss_any (f := f) hl) (by omega) (hb (OaC p f o) (by simp)) hG) ?_
      rintro _ _ _ ⟨rfl, rfl⟩ S
      dsimp only [List.cons_append, List.nil_append] at S
      refine st_callT S [] (fun G hG => c_foundAny hG) ?_
      rintro _ _ _ ⟨rfl, rfl⟩ S
      dsimp only [List.cons_append, List.nil_append] at S
      refine st_alloc S fun n6 _ S => ?_
      refine st_apo (L := LF) (xs := getsF o (treeO o xs) (ks.take i)) (y := fnd (ltO o) (treeO o xs) ks[i]) S hs rfl rfl (S.rsl (LF.flat [_]) 1 1 3 (fun i v h => by rw [Nat.zero_add]; exact h) rfl) ⟨by omega, by omega⟩ fun s' _ hs' S => ?_
      rw [← getsF_snoc (by omega)] at S hs'
      refine w_guard (inK64 (by (first | omega | ((try dsimp only [Sh.T, Sh1.T]); omega))) (by (first | omega | ((try dsimp only [Sh.T, Sh1.T]); omega)))) ?_
      exact ln_n rfl (r - 1) ⟨i + 1, s', rfl, by omega, hs', S.only [.ck c, .ck (OaC p f o), .mp (m, 0), .sl s', .ck (TB.HtC (some (n5, 0)))]⟩ (by omega)
    · rw [List.take_of_length_le (by omega)] at hs S
      exact w_false (lt_f (by (first | omega | ((try dsimp only [Sh.T, Sh1.T]); omega)))) (ln_e (md_e rfl ⟨s, rfl, hs, S.only [.ck c, .sl s]⟩))
  · rintro _ _ ⟨s, rfl, hs, S⟩
    exact rt_1 rfl ⟨_, ⟨s, rfl, hs, rfl⟩, S⟩
set_option maxHeartbeats 1000000 in
theorem c_BGetAtI {c : Ck} {o : List Int} {op : Option PA} {on oc : Nat} (hr : Rdr c (op, on, oc) LN o) (hl : o.length ≤ 2147483647) {d : Int} {nl : Bool} (hd : d ≤ 128) {xs : List IV} {sp : Option PA} {n cap : Nat} (hx : Rdr c (sp, n, cap) LT xs) (hxl : xs.length ≤ 2147483647) {ks : List Int} {kp : Option PA} {kn kc : Nat} (hk : Rdr c (kp, kn, kc) LN ks) (hkl : ks.length ≤ 2147483647) {G : PA → Prop} (hG : Star [c] h G) :
    HT Try.prog fn_impl_BGetAt [.agg [.sl op on oc, .int .i64 d, .bool nl], .c (.sl sp n cap), .c (.sl kp kn kc)] false [.c .sl] h fun r h' => ∃ post, (∃ s : SlT, r = (s, ()) ∧ OwnL LF s (atsF (treeO o xs) ks) ∧ post = [c, SlC s LF.sz (LF.flat (atsF (treeO o xs) ks))]) ∧ St h G post h' := by
  apply hc_impl_BGetAt
  unfold M_impl_BGetAt
  have hn : kn = ks.length := hk.1
  have htl := treeO_len o xs
  refine st_alloc (St.start hG) fun n0 _ S => ?_
  (refine ld_sl S op on oc rfl (ld_int S rfl (ld_bool S rfl ?_)))
  (refine st_callT S [.ck c] (fun G hG => c_growAny hr hl hd hx hxl hG) ?_; rintro _ _ _ ⟨m, p, f, rfl, rfl⟩ S; dsimp only [List.cons_append, List.nil_append] at S)
  have S := sl_nil LF S
  refine w_mid' (some 0) (fun (y : SV [.c .sl]) h' => ∃ s : SlT, y = (s, ()) ∧ OwnL LF s (atsF (treeO o xs) ks) ∧ St h G [c, SlC s LF.sz (LF.flat (atsF (treeO o xs) ks))] h') ?_ ?_
  · refine w_lp (fun r y h' => ∃ (i : Nat) (s : SlT), y = ((i : Int), s, ()) ∧ i + r = kn ∧ OwnL LF s (atsF (treeO o xs) (ks.take i)) ∧ St h G [SlC s LF.sz (LF.flat (atsF (treeO o xs) (ks.take i))), BtC (baF p) o (TB.dgOf d) (m, 0) (treeO o xs), c] h') kn rfl
      ⟨0, (none, 0, 0), rfl, by omega, ⟨rfl, Nat.le_refl _, .inl rfl⟩, S.only [.sl (none, 0, 0), .mp (m, 0), .ck c]⟩ ?_
    clear S
    rintro r _ _ ⟨i, s, rfl, hi, hs, S⟩
    by_cases hlt : i < kn
    · obtain ⟨q, hq, hro⟩ := hk.ptr (by omega)
      dsimp only at hq
      subst hq
      have hxi := List.getElem?_eq_getElem (show i < ks.length by omega)
      have hsl : (atsF (treeO o xs) (ks.take i)).length = i := by rw [atsF_len, List.length_take]; omega
      obtain ⟨s1, s2, s3⟩ := s
      simp only [Int.toNat_natCast, toNat_succ, toNat_succ2, toNat_pred]
      refine w_true (lt_t (by (first | omega | ((try dsimp only [Sh.T, Sh1.T]); omega)))) ?_
      repeat (first | refine w_nonnil ?_ | refine ld_int S rfl ?_ | refine ld_some S rfl ?_ | refine ld_ptr S _ rfl ?_ | refine ld_sls S rfl ?_ | refine ld_nil S rfl ?_ | refine ld_bool S rfl ?_ | refine st_store S (lt_ble rfl) fun _ S => ?_ | refine st_alloc S fun _ _ S => ?_ | refine st_held S rfl ?_ | refine w_guard (by (first | exact inK64 (by omega) (by omega) | omega | (constructor <;> omega) | ((try dsimp only [Sh.T, Sh1.T]); first | exact inK64 (by omega) (by omega) | omega | exact ⟨by decide, inK64 (by omega) (by omega)⟩ | trivial))) ?_ | refine bd_n rfl ?_ | refine bd_e rfl ?_ | refine bd_r ?_ | refine bd_p ?_ | refine ln_r ?_ | refine ln_e ?_ | refine w_true (b := true) rfl ?_ | refine w_false (b := false) rfl ?_ | refine w_item (S.rdr hrd) (by assumption) ?_ | refine h_item (S.rdr hrd) (by assumption) ?_ | refine w_num (S.rdr hro) (by assumption) ?_ | refine ld_sln S rfl ?_ | refine ld_sl S _ _ _ rfl ?_)
      refine st_callV S [.mp (m, 0)] (args' := [.c (.addr (m, 0)), .c (.int .i64 ks[i])]) rfl (fun G hG => c_BGetAt (by omega) hG) ?_
      rintro _ _ _ ⟨rfl, rfl⟩ S
      dsimp only [List.cons_append, List.nil_append] at S
      refine st_callT S [] (fun G hG => c_foundAny hG) ?_
      rintro _ _ _ ⟨rfl, rfl⟩ S
      dsimp only [List.cons_append, List.nil_append] at S
      refine st_alloc S fun n6 _ S => ?_
      refine st_apo (L := LF) (xs := atsF (treeO o xs) (ks.take i)) (y := atO (treeO o xs) ks[i]) S hs rfl rfl (S.rsl (LF.flat [_]) 1 1 3 (fun i v h => by rw [Nat.zero_add]; exact h) rfl) ⟨by omega, by omega⟩ fun s' _ hs' S => ?_
      rw [← atsF_snoc (by omega)] at S hs'
      refine w_guard (inK64 (by (first | omega | ((try dsimp only [Sh.T, Sh1.T]); omega))) (by (first | omega | ((try dsimp only [Sh.T, Sh1.T]); omega)))) ?_
      exact ln_n rfl (r - 1) ⟨i + 1, s', rfl, by omega, hs', S.only [.sl s', .mp (m, 0), .ck c]⟩ (by omega)
    · rw [List.take_of_length_le (by omega)] at hs S
      exact w_false (lt_f (by (first | omega | ((try dsimp only [Sh.T, Sh1.T]); omega)))) (ln_e (md_e rfl ⟨s, rfl, hs, S.only [.ck c, .sl s]⟩))
  · rintro _ _ ⟨s, rfl, hs, S⟩
    exact rt_1 rfl ⟨_, ⟨s, rfl, hs, rfl⟩, S⟩
set_option maxHeartbeats 1000000 in
theorem c_specGGetAt {c : Ck} {o : List Int} {op : Option PA} {on oc : Nat} (hr : Rdr c (op, on, oc) LN o) (hl : o.length ≤ 2147483647) {d : Int} {nl : Bool} {xs : List IV} {sp : Option PA} {n cap : Nat} (hx : Rdr c (sp, n, cap) LT xs) (hxl : xs.length ≤ 2147483647) {ks : List Int} {kp : Option PA} {kn kc : Nat} (hk : Rdr c (kp, kn, kc) LN ks) (hkl : ks.length ≤ 2147483647) {G : PA → Prop} (hG : Star [c] h G) :
    HT Try.prog fn_spec_GGetAt [.agg [.sl op on oc, .int .i64 d, .bool nl], .c (.sl sp n cap), .c (.sl kp kn kc)] false [.c .sl] h fun r h' => ∃ post, (∃ s : SlT, r = (s, ()) ∧ OwnL LF s (atsF (treeO o xs) ks) ∧ post = [c, SlC s LF.sz (LF.flat (atsF (treeO o xs) ks))]) ∧ St h G post h' := by
  apply hc_spec_GGetAt
  unfold M_spec_GGetAt
  have hn : kn = ks.length := hk.1
  have htl := treeO_len o xs
  refine st_alloc (St.start hG) fun n0 _ S => ?_
  refine ld_sl S op on oc rfl ?_
  refine st_callT S [.ck c] (fun G hG => c_Tree hr hl hx (by omega) hG) ?_
  rintro _ _ _ ⟨t, rfl, ht, rfl⟩ S
  dsimp only [List.cons_append, List.nil_append] at S
  have S := sl_nil LF S
  refine w_mid' (some 0) (fun (y : SV [.c .sl]) h' => ∃ s : SlT, y = (s, ()) ∧ OwnL LF s (atsF (treeO o xs) ks) ∧ St h G [c, SlC s LF.sz (LF.flat (atsF (treeO o xs) ks))] h') ?_ ?_
  · refine w_lp (fun r y h' => ∃ (i : Nat) (s : SlT), y = ((i : Int), s, ()) ∧ i + r = kn ∧ OwnL LF s (atsF (treeO o xs) (ks.take i)) ∧ St h G [SlC s LF.sz (LF.flat (atsF (treeO o xs) (ks.take i))), SlC t LT.sz (LT.flat (treeO o xs)), c] h') kn rfl
      ⟨0, (none, 0, 0), rfl, by omega, ⟨rfl, Nat.le_refl _, .inl rfl⟩, S.only [.sl (none, 0, 0), .sl t, .ck c]⟩ ?_
    clear S
    rintro r _ _ ⟨i, s, rfl, hi, hs, S⟩
    by_cases hlt : i < kn
    · obtain ⟨q, hq, hro⟩ := hk.ptr (by omega)
      dsimp only at hq
      subst hq
      have hxi := List.getElem?_eq_getElem (show i < ks.length by omega)
      have hsl : (atsF (treeO o xs) (ks.take i)).length = i := by rw [atsF_len, List.length_take]; omega
      obtain ⟨s1, s2, s3⟩ := s
      simp only [Int.toNat_natCast, toNat_succ, toNat_succ2, toNat_pred]
      refine w_true (lt_t (by (first | omega | ((try dsimp only [Sh.T, Sh1.T]); omega)))) ?_
      refine w_nonnil (w_guard ⟨by (first | omega | ((try dsimp only [Sh.T, Sh1.T]); omega)), by (first | omega | ((try dsimp only [Sh.T, Sh1.T]); omega))⟩ (w_num (S.rdr hro) hxi ?_))
      refine st_callV S [.sl t] (args' := [.c (.sl t.1 t.2.1 t.2.2), .c (.int .i64 ks[i])]) rfl (fun G hG => c_At ht.rdr (by omega) hG) ?_
      rintro _ _ _ ⟨rfl, rfl⟩ S
      dsimp only [List.cons_append, List.nil_append] at S
      refine st_alloc S fun n6 _ S => ?_
      refine st_apo (L := LF) (xs := atsF (treeO o xs) (ks.take i)) (y := atO (treeO o xs) ks[i]) S hs rfl rfl (S.rsl (LF.flat [_]) 1 1 3 (fun i v h => by rw [Nat.zero_add]; exact h) rfl) ⟨by omega, by omega⟩ fun s' _ hs' S => ?_
      rw [← atsF_snoc (by omega)] at S hs'
      refine w_guard (inK64 (by (first | omega | ((try dsimp only [Sh.T, Sh1.T]); omega))) (by (first | omega | ((try dsimp only [Sh.T, Sh1.T]); omega)))) ?_
      exact ln_n rfl (r - 1) ⟨i + 1, s', rfl, by omega, hs', S.only [.sl s', .sl t, .ck c]⟩ (by omega)
    · rw [List.take_of_length_le (by omega)] at hs S
      exact w_false (lt_f (by (first | omega | ((try dsimp only [Sh.T, Sh1.T]); omega)))) (ln_e (md_e rfl ⟨s, rfl, hs, S.only [.ck c, .sl s]⟩))
  · rintro _ _ ⟨s, rfl, hs, S⟩
    exact rt_1 rfl ⟨_, ⟨s, rfl, hs, rfl⟩, S⟩
set_option maxHeartbeats 1000000 in
theorem c_Turned {c : Ck} {xs : List IV} {sp : Option PA} {n cap : Nat} (hx : Rdr c (sp, n, cap) LT xs) (hxl : xs.length ≤ 2147483647) {G : PA → Prop} (hG : Star [c] h G) :
    HT Try.prog fn_spec_Turned [.c (.sl sp n cap)] false [.c .sl] h fun r h' => ∃ post, (∃ s : SlT, r = (s, ()) ∧ OwnL LT s xs.reverse ∧ post = [c, SlC s LT.sz (LT.flat xs.reverse)]) ∧ St h G post h' := by
  apply hc_spec_Turned
  unfold M_spec_Turned
  have hn : n = xs.length := hx.1
  have S := sl_nil LT (St.start hG)
  refine w_guard (inK64 (by (first | omega | ((try dsimp only [Sh.T, Sh1.T]); omega))) (by (first | omega | ((try dsimp only [Sh.T, Sh1.T]); omega)))) ?_
  refine w_bnd (w_lp (fun r y h' => ∃ (z : Int) (s : SlT) (D : List IV), y = (z, s, ()) ∧ z = (r : Int) - 1 ∧ r ≤ n ∧ xs.reverse = D ++ (xs.take r).reverse ∧ OwnL LT s D ∧ St h G [SlC s LT.sz (LT.flat D), c] h') n rfl
    ⟨_, (none, 0, 0), [], rfl, rfl, Nat.le_refl _, by rw [List.take_of_length_le (by omega)]; rfl, ⟨rfl, Nat.le_refl _, .inl rfl⟩, S⟩ ?_)
  rintro r _ _ ⟨z, s, D, rfl, hz, hi, hD, hs, S⟩
  have hDl : D.length + r = n := by
    have := congrArg List.length hD
    simp only [List.length_reverse, List.length_append, List.length_take] at this
    omega
  by_cases hlt : 0 < r
  · obtain ⟨i, rfl⟩ : ∃ i : Nat, z = i := ⟨z.toNat, by omega⟩
    obtain rfl : r = i + 1 := by omega
    obtain ⟨q, hq, hrd⟩ := hx.ptr (by omega)
    dsimp only at hq
    subst hq
    have hxi := List.getElem?_eq_getElem (show i < xs.length by omega)
    have hD1 : xs.reverse = (D ++ [xs[i]]) ++ (xs.take i).reverse := by rw [hD, rev_take hxi]; simp
    obtain ⟨s1, s2, s3⟩ := s
    refine w_true (decide_eq_true (by (first | omega | ((try dsimp only [Sh.T, Sh1.T]); omega)))) ?_
    simp only [Int.toNat_natCast, toNat_succ, toNat_succ2, toNat_pred]
    refine w_nonnil (w_guard ⟨by (first | omega | ((try dsimp only [Sh.T, Sh1.T]); omega)), by (first | omega | ((try dsimp only [Sh.T, Sh1.T]); omega))⟩ (w_item (S.rdr hrd) hxi ?_))
    refine st_alloc S fun n6 _ S => ?_
    refine st_apo (L := LT) (xs := D) (y := xs[i]) S hs rfl rfl (S.rsl (LT.flat [_]) 1 1 2 (fun i v h => by rw [Nat.zero_add]; exact h) rfl) ⟨by omega, by omega⟩ fun s' _ hs' S => ?_
    refine w_guard (inK64 (by (first | omega | ((try dsimp only [Sh.T, Sh1.T]); omega))) (by (first | omega | ((try dsimp only [Sh.T, Sh1.T]); omega)))) ?_
    exact ln_n rfl i ⟨_, s', _, rfl, rfl, by omega, hD1, hs', S.only [.sl s', .ck c]⟩ (by omega)
  · obtain rfl : r = 0 := by omega
    have e : xs.reverse = D := by rw [hD, List.take_zero, List.reverse_nil, List.append_nil]
    refine w_false (decide_eq_false (by (first | omega | ((try dsimp only [Sh.T, Sh1.T]); omega)))) (ln_e (bd_e rfl (rt_1 rfl ⟨_, ⟨s, rfl, by rw [e]; exact hs, rfl⟩, ?_⟩)))
    rw [e]; exact S.pull1
theorem up_app {x : IV} {o : List Int} {xs : List IV} (hs : Srt (ltO o) xs) {i : Nat} (h1 : ∀ j a, j < i → xs[j]? = some a → ltO o x a = false) (h2 : ∀ a, xs[i]? = some a → ltO o x a = true) (hi : i ≤ xs.length) : up (ltO o) xs x = i := by
  have hu := up_le (ordO o) xs x
  rcases Nat.lt_trichotomy (up (ltO o) xs x) i with h | h | h
  · have hy := List.getElem?_eq_getElem (show up (ltO o) xs x < xs.length by omega)
    have := h1 _ _ h hy
    have h3 := (up_spec (ordO o) hs (x := x) hy).1 this
    omega
  · exact h
  · have hy := List.getElem?_eq_getElem (show i < xs.length by omega)
    have h3 := (up_spec (ordO o) hs (x := x) hy).2 h
    rw [h2 _ hy] at h3; cases h3
set_option maxHeartbeats 1000000 in
theorem c_Down {c : Ck} {o : List Int} {op : Option PA} {on oc : Nat} (hr : Rdr c (op, on, oc) LN o) (hl : o.length ≤ 2147483647) {xs : List IV} {sp : Option PA} {n cap : Nat} (hx : Rdr c (sp, n, cap) LT xs) (hxl : xs.length ≤ 2147483647) (hsr : Srt (ltO o) xs) {x : IV} {G : PA → Prop} (hG : Star [c] h G) :
    HT Try.prog fn_spec_Down [.c (.sl op on oc), .c (.sl sp n cap), .agg [.int .i64 x.1, .int .i64 x.2]] false [.c .sl] h fun r h' => ∃ post, (∃ s : SlT, r = (s, ()) ∧ OwnL LT s (TB.toO o xs x) ∧ post = [c, SlC s LT.sz (LT.flat (TB.toO o xs x))]) ∧ St h G post h' := by
  apply hc_spec_Down
  unfold M_spec_Down
  have hn : n = xs.length := hx.1
  have hcap : n ≤ cap := hx.2.1
  refine st_alloc (St.start hG) fun n0 _ S => ?_
  refine w_mid' (some 0) (fun (y : SV [.c (.int .i64)]) h' => y = ((up (ltO o) xs x : Int), ()) ∧ St h G [c] h') ?_ ?_
  · refine w_lp (fun r y h' => ∃ i : Nat, y = ((i : Int), ()) ∧ i + r = n ∧ (∀ j a, j < i → xs[j]? = some a → ltO o x a = false) ∧ St h G [Ow (n0, 0) (LT.cells x) 0, c] h') n rfl ⟨0, rfl, by omega, fun j a hj => by omega, S⟩ ?_
    clear S
    rintro r _ _ ⟨i, rfl, hi, hb, S⟩
    by_cases hlt : i < n
    · obtain ⟨q, hq, hrd⟩ := hx.ptr (by omega)
      dsimp only at hq
      subst hq
      have hxi := List.getElem?_eq_getElem (show i < xs.length by omega)
      simp only [Int.toNat_natCast, toNat_succ, toNat_succ2, toNat_pred]
      refine w_mid' none (fun (y : SV [.c .bool]) h' => y = (!ltO o x xs[i], ()) ∧ St h G [Ow (n0, 0) (LT.cells x) 0, c] h') ?_ ?_
      · refine w_true (lt_t (by (first | omega | ((try dsimp only [Sh.T, Sh1.T]); omega)))) ?_
        refine ld_int S rfl (ld_int S rfl ?_)
        refine w_nonnil (w_guard ⟨by (first | omega | ((try dsimp only [Sh.T, Sh1.T]); omega)), by (first | omega | ((try dsimp only [Sh.T, Sh1.T]); omega))⟩ (w_item (S.rdr hrd) hxi ?_))
        refine st_callT S [.ck c] (fun G hG => c_Before (a := x) (b := xs[i]) hr hl hG) ?_
        rintro _ _ _ ⟨rfl, rfl⟩ S
        dsimp only [List.cons_append, List.nil_append] at S
        exact md_n rfl ⟨rfl, S.ats [.ow (n0, 0), .ck c]⟩
      clear S
      rintro _ _ ⟨rfl, S⟩
      cases hb2 : ltO o x xs[i] with
      | false =>
        refine w_true rfl (w_guard (inK64 (by (first | omega | ((try dsimp only [Sh.T, Sh1.T]); omega))) (by (first | omega | ((try dsimp only [Sh.T, Sh1.T]); omega)))) ?_)
        refine ln_n rfl (r - 1) ⟨i + 1, rfl, by omega, fun j a hj hja => ?_, S⟩ (by omega)
        by_cases hji : j < i
        · exact hb j a hji hja
        · obtain rfl : j = i := by omega
          rw [hxi] at hja
          rw [← Option.some.inj hja]; exact hb2
      | true =>
        refine w_false rfl (ln_e (md_e rfl ⟨?_, S.only [.ck c]⟩))
        rw [up_app hsr hb (fun a ha => by rw [hxi] at ha; rw [← Option.some.inj ha]; exact hb2) (by omega)]
    · refine w_bnd (w_false (lt_f (by (first | omega | ((try dsimp only [Sh.T, Sh1.T]); omega)))) (bd_n rfl (w_false rfl (ln_e (md_e rfl ⟨?_, S.only [.ck c]⟩)))))
      rw [up_app hsr hb (fun a ha => by rw [List.getElem?_eq_none (by omega)] at ha; cases ha) (by omega)]
  clear S
  rintro _ _ ⟨rfl, S⟩
  have hu := up_le (ordO o) xs x
  refine w_guard ⟨by (first | omega | ((try dsimp only [Sh.T, Sh1.T]); omega)), by (first | omega | ((try dsimp only [Sh.T, Sh1.T]); omega))⟩ ?_
  have hp := hx.part 0 (up (ltO o) xs x) (by omega)
  rw [List.drop_zero] at hp
  have hpl : (xs.take (up (ltO o) xs x)).length ≤ 2147483647 := by rw [List.length_take]; omega
  refine st_callV S [.ck c] (args' := [.c (.sl (slBase sp cap 0 2) (up (ltO o) xs x) (cap - 0))]) rfl (fun G hG => c_Turned hp hpl hG) ?_
  rintro _ _ _ ⟨s, rfl, hs, rfl⟩ S
  dsimp only [List.cons_append, List.nil_append] at S
  exact rt_1 rfl ⟨_, ⟨s, rfl, hs, rfl⟩, S⟩
end
end Go.Proofs.Ytlhbdmjeomffhaa
