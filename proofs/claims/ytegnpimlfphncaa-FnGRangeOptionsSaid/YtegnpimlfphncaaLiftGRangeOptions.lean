/-
  The row of FnGRangeOptions. Conditions: none.
-/
import Derived.Test.YtegnpimlfphncaaQf
import Derived.Test.YtegnpimlfphncaaYkj
import Derived.Test.YtegnpimlfphncaaYal
import Derived.Test.YtegnpimlfphncaaLiftG
import Derived.Test.YtegnpimlfphncaaLiftV
set_option linter.unusedVariables false
set_option linter.unusedSimpArgs false
set_option linter.unusedSectionVars false
set_option maxRecDepth 100000
namespace Go.Proofs.Ytegnpimlfphncaa
open Go
def M_impl_ranges (a00 : Bool) (a01 : Bool) (a02 : Bool) : M :=
 .alloc ty_impl_Range [.bool (a00), .bool (a01), .bool (a02)] fun n0 =>
 .load (n0, 0) (.bool) fun b1 =>
 .ite (b1)
 (.done .ret [.c (.ptr none)])
 (.load (n0, 1) (.bool) fun b2 =>
 .load (n0, 2) (.bool) fun b3 =>
 .alloc ty_btree_DeleteRangeOptions [.bool (b2), .bool (b3)] fun n4 =>
 .done .ret [.c (.addr (n4, 0))])
theorem den_impl_ranges (a00 : Bool) (a01 : Bool) (a02 : Bool) : denFn Try.prog Try.f19 [.agg [.bool a00, .bool a01, .bool a02]] = M_impl_ranges a00 a01 a02 := by kernel_rfl
theorem hc_impl_ranges (a00 : Bool) (a01 : Bool) (a02 : Bool) {h : H} {R : Value → H → Prop} (hw : wp Try.prog (M_impl_ranges a00 a01 a02) (Ret R) h) : HC Try.prog fn_impl_ranges (List.map AV.val [.agg [.bool a00, .bool a01, .bool a02]]).toArray h R :=
  den_calls hmix Try.func19 (of_decide_eq_true rfl) (by rw [den_impl_ranges]; exact hw)
def M_impl_GDeleteRange (a00p : Option PA) (a00l : Nat) (a00c : Nat) (a01 : Int) (a02 : Bool) (a1p : Option PA) (a1l : Nat) (a1c : Nat) (a20 : Int) (a21 : Int) (a30 : Int) (a31 : Int) (a40 : Bool) (a41 : Bool) (a42 : Bool) : M :=
 .alloc ty_impl_Make [.sl (a00p) (a00l) (a00c), .int .i64 (a01), .bool (a02)] fun n0 =>
 .alloc ty_impl_Item [.int .i64 (a20), .int .i64 (a21)] fun n1 =>
 .alloc ty_impl_Item [.int .i64 (a30), .int .i64 (a31)] fun n2 =>
 .alloc ty_impl_Range [.bool (a40), .bool (a41), .bool (a42)] fun n3 =>
 .load (n0, 0) (.sl) fun s4 =>
 .load (n0, 1) (.int .i64) fun i5 =>
 .load (n0, 2) (.bool) fun b6 =>
 .call fn_impl_grow [.agg [.sl (s4.fst) (s4.snd.fst) (s4.snd.snd), .int .i64 (i5), .bool (b6)], .c (.sl (a1p) (a1l) (a1c))] false [.c (.ptr)] fun r7 =>
 .bind none (.load (n1, 0) (.int .i64) fun i8 =>
 .load (n1, 1) (.int .i64) fun i9 =>
 .load (n2, 0) (.int .i64) fun i10 =>
 .load (n2, 1) (.int .i64) fun i11 =>
 .load (n3, 0) (.bool) fun b12 =>
 .load (n3, 1) (.bool) fun b13 =>
 .load (n3, 2) (.bool) fun b14 =>
 .both
 (.call fn_impl_ranges [.agg [.bool (b12), .bool (b13), .bool (b14)]] false [.c (.ptr)] fun r15 =>
 .held (n2, 0) (.int .i64 (i10)) <|
 .held (n2, 1) (.int .i64 (i11)) <|
 .held (n1, 0) (.int .i64 (i8)) <|
 .held (n1, 1) (.int .i64 (i9)) <|
 .both
 (.call fn_tg_DeleteRange [.c (.ptr (r7.fst)), .agg [.int .i64 (i8), .int .i64 (i9)], .agg [.int .i64 (i10), .int .i64 (i11)], .c (.ptr (r15.fst))] false [.agg [.raw, .int .i64, .int .i64, .sl]] fun r16 =>
 .alloc ty_btree_List_pub_greenwood_impl_Item [.raw (Value.nilFunc), .int .i64 (0), .int .i64 (0), .sl none (0) (0)] fun n17 =>
 .store (n17, 0) (.raw (r16.fst.fst)) <|
 .store (n17, 1) (.int .i64 (r16.fst.snd.fst)) <|
 .store (n17, 2) (.int .i64 (r16.fst.snd.snd.fst)) <|
 .store (n17, 3) (.sl (r16.fst.snd.snd.snd.fst.fst) (r16.fst.snd.snd.snd.fst.snd.fst) (r16.fst.snd.snd.snd.fst.snd.snd)) <|
 .done .normal [.c (.addr (n17, 0))])
 (.alloc ty_btree_List_pub_greenwood_impl_Item [.raw (Value.nilFunc), .int .i64 (0), .int .i64 (0), .sl none (0) (0)] fun n18 =>
 .held (n2, 0) (.int .i64 (i10)) <|
 .held (n2, 1) (.int .i64 (i11)) <|
 .held (n1, 0) (.int .i64 (i8)) <|
 .held (n1, 1) (.int .i64 (i9)) <|
 .call fn_tg_DeleteRange [.c (.ptr (r7.fst)), .agg [.int .i64 (i8), .int .i64 (i9)], .agg [.int .i64 (i10), .int .i64 (i11)], .c (.ptr (r15.fst))] false [.agg [.raw, .int .i64, .int .i64, .sl]] fun r19 =>
 .store (n18, 0) (.raw (r19.fst.fst)) <|
 .store (n18, 1) (.int .i64 (r19.fst.snd.fst)) <|
 .store (n18, 2) (.int .i64 (r19.fst.snd.snd.fst)) <|
 .store (n18, 3) (.sl (r19.fst.snd.snd.snd.fst.fst) (r19.fst.snd.snd.snd.fst.snd.fst) (r19.fst.snd.snd.snd.fst.snd.snd)) <|
 .done .normal [.c (.addr (n18, 0))]))
 (.alloc ty_btree_List_pub_greenwood_impl_Item [.raw (Value.nilFunc), .int .i64 (0), .int .i64 (0), .sl none (0) (0)] fun n20 =>
 .held (n3, 0) (.bool (b12)) <|
 .held (n3, 1) (.bool (b13)) <|
 .held (n3, 2) (.bool (b14)) <|
 .held (n2, 0) (.int .i64 (i10)) <|
 .held (n2, 1) (.int .i64 (i11)) <|
 .held (n1, 0) (.int .i64 (i8)) <|
 .held (n1, 1) (.int .i64 (i9)) <|
 .call fn_impl_ranges [.agg [.bool (b12), .bool (b13), .bool (b14)]] false [.c (.ptr)] fun r21 =>
 .held (n2, 0) (.int .i64 (i10)) <|
 .held (n2, 1) (.int .i64 (i11)) <|
 .held (n1, 0) (.int .i64 (i8)) <|
 .held (n1, 1) (.int .i64 (i9)) <|
 .call fn_tg_DeleteRange [.c (.ptr (r7.fst)), .agg [.int .i64 (i8), .int .i64 (i9)], .agg [.int .i64 (i10), .int .i64 (i11)], .c (.ptr (r21.fst))] false [.agg [.raw, .int .i64, .int .i64, .sl]] fun r22 =>
 .store (n20, 0) (.raw (r22.fst.fst)) <|
 .store (n20, 1) (.int .i64 (r22.fst.snd.fst)) <|
 .store (n20, 2) (.int .i64 (r22.fst.snd.snd.fst)) <|
 .store (n20, 3) (.sl (r22.fst.snd.snd.snd.fst.fst) (r22.fst.snd.snd.snd.fst.snd.fst) (r22.fst.snd.snd.snd.fst.snd.snd)) <|
 .done .normal [.c (.addr (n20, 0))])) [.c (.addr)] fun x23 =>
 .call fn_impl_scanned [.c (.addr x23.fst)] false [.c (.sl)] fun r24 =>
 .call fn_lg_Len [.c (.addr x23.fst)] false [.c (.int .i64)] fun r25 =>
 .call fn_tg_Items [.c (.ptr (r7.fst))] false [.c (.sl)] fun r26 =>
 .done .ret [.c (.sl (r24.fst.fst) (r24.fst.snd.fst) (r24.fst.snd.snd)), .c (.int .i64 (r25.fst)), .c (.sl (r26.fst.fst) (r26.fst.snd.fst) (r26.fst.snd.snd))]
theorem den_impl_GDeleteRange (a00p : Option PA) (a00l : Nat) (a00c : Nat) (a01 : Int) (a02 : Bool) (a1p : Option PA) (a1l : Nat) (a1c : Nat) (a20 : Int) (a21 : Int) (a30 : Int) (a31 : Int) (a40 : Bool) (a41 : Bool) (a42 : Bool) : denFn Try.prog Try.f12 [.agg [.sl a00p a00l a00c, .int .i64 a01, .bool a02], .c (.sl a1p a1l a1c), .agg [.int .i64 a20, .int .i64 a21], .agg [.int .i64 a30, .int .i64 a31], .agg [.bool a40, .bool a41, .bool a42]] = M_impl_GDeleteRange a00p a00l a00c a01 a02 a1p a1l a1c a20 a21 a30 a31 a40 a41 a42 := by kernel_rfl
theorem hc_impl_GDeleteRange (a00p : Option PA) (a00l : Nat) (a00c : Nat) (a01 : Int) (a02 : Bool) (a1p : Option PA) (a1l : Nat) (a1c : Nat) (a20 : Int) (a21 : Int) (a30 : Int) (a31 : Int) (a40 : Bool) (a41 : Bool) (a42 : Bool) {h : H} {R : Value → H → Prop} (hw : wp Try.prog (M_impl_GDeleteRange a00p a00l a00c a01 a02 a1p a1l a1c a20 a21 a30 a31 a40 a41 a42) (Ret R) h) : HC Try.prog fn_impl_GDeleteRange (List.map AV.val [.agg [.sl a00p a00l a00c, .int .i64 a01, .bool a02], .c (.sl a1p a1l a1c), .agg [.int .i64 a20, .int .i64 a21], .agg [.int .i64 a30, .int .i64 a31], .agg [.bool a40, .bool a41, .bool a42]]).toArray h R :=
  den_calls hmix Try.func12 (of_decide_eq_true rfl) (by rw [den_impl_GDeleteRange]; exact hw)
def M_laws_FnGRangeOptions (a00p : Option PA) (a00l : Nat) (a00c : Nat) (a01 : Int) (a02 : Bool) (a1p : Option PA) (a1l : Nat) (a1c : Nat) (a20 : Int) (a21 : Int) (a30 : Int) (a31 : Int) (a4 : Bool) : M :=
 .alloc ty_impl_Make [.sl (a00p) (a00l) (a00c), .int .i64 (a01), .bool (a02)] fun n0 =>
 .alloc ty_impl_Item [.int .i64 (a20), .int .i64 (a21)] fun n1 =>
 .alloc ty_impl_Item [.int .i64 (a30), .int .i64 (a31)] fun n2 =>
 .bind none (.load (n0, 0) (.sl) fun s3 =>
 .load (n0, 1) (.int .i64) fun i4 =>
 .load (n0, 2) (.bool) fun b5 =>
 .call fn_laws_zzFits1 [.agg [.sl (s3.fst) (s3.snd.fst) (s3.snd.snd), .int .i64 (i4), .bool (b5)]] false [.c (.bool)] fun r6 =>
 .ite (!r6.fst)
 (.done .normal [.c (.tt)])
 (.done .normal [.c (.bool (decide ((↑a1l : Int) > 2147483647)))])) [.c (.bool)] fun x7 =>
 .ite (x7.fst)
 (.done .ret [.c (.tt)])
 (.load (n0, 0) (.sl) fun s8 =>
 .load (n0, 1) (.int .i64) fun i9 =>
 .load (n0, 2) (.bool) fun b10 =>
 .call fn_laws_fits [.agg [.sl (s8.fst) (s8.snd.fst) (s8.snd.snd), .int .i64 (i9), .bool (b10)]] false [.c (.bool)] fun r11 =>
 .ite (!r11.fst)
 (.call fn_laws_alive [] false [.c (.bool)] fun r12 =>
 .done .ret [.c (.bool (r12.fst))])
 (.load (n0, 0) (.sl) fun s13 =>
 .load (n0, 1) (.int .i64) fun i14 =>
 .load (n0, 2) (.bool) fun b15 =>
 .load (n1, 0) (.int .i64) fun i16 =>
 .load (n1, 1) (.int .i64) fun i17 =>
 .load (n2, 0) (.int .i64) fun i18 =>
 .load (n2, 1) (.int .i64) fun i19 =>
 .call fn_impl_GDeleteRange [.agg [.sl (s13.fst) (s13.snd.fst) (s13.snd.snd), .int .i64 (i14), .bool (b15)], .c (.sl (a1p) (a1l) (a1c)), .agg [.int .i64 (i16), .int .i64 (i17)], .agg [.int .i64 (i18), .int .i64 (i19)], .agg [.ff, .ff, .ff]] true [.c (.sl), .c (.int .i64), .c (.sl)] fun r20 =>
 .load (n0, 0) (.sl) fun s21 =>
 .load (n0, 1) (.int .i64) fun i22 =>
 .load (n0, 2) (.bool) fun b23 =>
 .load (n1, 0) (.int .i64) fun i24 =>
 .load (n1, 1) (.int .i64) fun i25 =>
 .load (n2, 0) (.int .i64) fun i26 =>
 .load (n2, 1) (.int .i64) fun i27 =>
 .call fn_impl_GDeleteRange [.agg [.sl (s21.fst) (s21.snd.fst) (s21.snd.snd), .int .i64 (i22), .bool (b23)], .c (.sl (a1p) (a1l) (a1c)), .agg [.int .i64 (i24), .int .i64 (i25)], .agg [.int .i64 (i26), .int .i64 (i27)], .agg [.tt, .ff, .ff]] true [.c (.sl), .c (.int .i64), .c (.sl)] fun r28 =>
 .load (n0, 0) (.sl) fun s29 =>
 .load (n0, 1) (.int .i64) fun i30 =>
 .load (n0, 2) (.bool) fun b31 =>
 .load (n1, 0) (.int .i64) fun i32 =>
 .load (n1, 1) (.int .i64) fun i33 =>
 .load (n2, 0) (.int .i64) fun i34 =>
 .load (n2, 1) (.int .i64) fun i35 =>
 .call fn_impl_GDeleteRange [.agg [.sl (s29.fst) (s29.snd.fst) (s29.snd.snd), .int .i64 (i30), .bool (b31)], .c (.sl (a1p) (a1l) (a1c)), .agg [.int .i64 (i32), .int .i64 (i33)], .agg [.int .i64 (i34), .int .i64 (i35)], .agg [.ff, .ff, .bool (a4)]] true [.c (.sl), .c (.int .i64), .c (.sl)] fun r36 =>
 .load (n0, 0) (.sl) fun s37 =>
 .load (n0, 1) (.int .i64) fun i38 =>
 .load (n0, 2) (.bool) fun b39 =>
 .load (n1, 0) (.int .i64) fun i40 =>
 .load (n1, 1) (.int .i64) fun i41 =>
 .load (n2, 0) (.int .i64) fun i42 =>
 .load (n2, 1) (.int .i64) fun i43 =>
 .call fn_impl_GDeleteRange [.agg [.sl (s37.fst) (s37.snd.fst) (s37.snd.snd), .int .i64 (i38), .bool (b39)], .c (.sl (a1p) (a1l) (a1c)), .agg [.int .i64 (i40), .int .i64 (i41)], .agg [.int .i64 (i42), .int .i64 (i43)], .agg [.ff, .tt, .bool (a4)]] true [.c (.sl), .c (.int .i64), .c (.sl)] fun r44 =>
 .bind none (.call fn_slices_Equal_impl_Item_impl_Item [.c (.sl (r20.fst.fst) (r20.fst.snd.fst) (r20.fst.snd.snd)), .c (.sl (r28.fst.fst) (r28.fst.snd.fst) (r28.fst.snd.snd))] false [.c (.bool)] fun r45 =>
 .ite (r45.fst)
 (.ite (r20.snd.fst == r28.snd.fst)
 (.call fn_slices_Equal_impl_Item_impl_Item [.c (.sl (r20.snd.snd.fst.fst) (r20.snd.snd.fst.snd.fst) (r20.snd.snd.fst.snd.snd)), .c (.sl (r28.snd.snd.fst.fst) (r28.snd.snd.fst.snd.fst) (r28.snd.snd.fst.snd.snd))] false [.c (.bool)] fun r46 =>
 .ite (r46.fst)
 (.call fn_slices_Equal_impl_Item_impl_Item [.c (.sl (r36.snd.snd.fst.fst) (r36.snd.snd.fst.snd.fst) (r36.snd.snd.fst.snd.snd)), .c (.sl (r44.snd.snd.fst.fst) (r44.snd.snd.fst.snd.fst) (r44.snd.snd.fst.snd.snd))] false [.c (.bool)] fun r47 =>
 .ite (r47.fst)
 (.ite ((↑r44.fst.snd.fst : Int) == 0)
 (.ite (r44.snd.fst == 0)
 (.call fn_laws_alive [] false [.c (.bool)] fun r48 =>
 .done .normal [.c (.bool (r48.fst))])
 (.done .normal [.c (.ff)]))
 (.done .normal [.c (.ff)]))
 (.done .normal [.c (.ff)]))
 (.done .normal [.c (.ff)]))
 (.done .normal [.c (.ff)]))
 (.done .normal [.c (.ff)])) [.c (.bool)] fun x49 =>
 .done .ret [.c (.bool (x49.fst))]))
theorem den_laws_FnGRangeOptions (a00p : Option PA) (a00l : Nat) (a00c : Nat) (a01 : Int) (a02 : Bool) (a1p : Option PA) (a1l : Nat) (a1c : Nat) (a20 : Int) (a21 : Int) (a30 : Int) (a31 : Int) (a4 : Bool) : denFn Try.prog Try.f4 [.agg [.sl a00p a00l a00c, .int .i64 a01, .bool a02], .c (.sl a1p a1l a1c), .agg [.int .i64 a20, .int .i64 a21], .agg [.int .i64 a30, .int .i64 a31], .c (.bool a4)] = M_laws_FnGRangeOptions a00p a00l a00c a01 a02 a1p a1l a1c a20 a21 a30 a31 a4 := by kernel_rfl
theorem hc_laws_FnGRangeOptions (a00p : Option PA) (a00l : Nat) (a00c : Nat) (a01 : Int) (a02 : Bool) (a1p : Option PA) (a1l : Nat) (a1c : Nat) (a20 : Int) (a21 : Int) (a30 : Int) (a31 : Int) (a4 : Bool) {h : H} {R : Value → H → Prop} (hw : wp Try.prog (M_laws_FnGRangeOptions a00p a00l a00c a01 a02 a1p a1l a1c a20 a21 a30 a31 a4) (Ret R) h) : HC Try.prog fn_laws_FnGRangeOptions (List.map AV.val [.agg [.sl a00p a00l a00c, .int .i64 a01, .bool a02], .c (.sl a1p a1l a1c), .agg [.int .i64 a20, .int .i64 a21], .agg [.int .i64 a30, .int .i64 a31], .c (.bool a4)]).toArray h R :=
  den_calls hmix Try.func4 (of_decide_eq_true rfl) (by rw [den_laws_FnGRangeOptions]; exact hw)
def OpC (ro : Option PA) (ext mi : Bool) : Ck := match ro with
  | none => EmC
  | some p => Ow p [.bool (!ext), .bool mi] 0
section
variable {h : H}
theorem opH_of {G : PA → Prop} {ro : Option PA} {ext mi : Bool} (hb : Bes (OpC ro ext mi) h G) (hn : ro = none → ext = true ∧ mi = false) : TG.OpH h G ro ext mi := by
  cases ro with
  | none => obtain ⟨rfl, rfl⟩ := hn rfl; exact .inl ⟨rfl, rfl, rfl⟩
  | some p =>
    have hb : Bes (Ow p [.bool (!ext), .bool mi] 0) h G := hb
    exact .inr ⟨p, !ext, rfl, by simp, hb.cell (j := 0) rfl, hb.cell (j := 1) rfl⟩
theorem c_ranges {pl nr mi ext mi' : Bool} (he : ext = (pl || !nr)) (hm : mi' = (!pl && mi)) {G : PA → Prop} (hG : Star [] h G) :
    HT Try.prog fn_impl_ranges [.agg [.bool pl, .bool nr, .bool mi]] false [.c .ptr] h fun r h' => ∃ post, (∃ ro : Option PA, r = (ro, ()) ∧ (ro = none → ext = true ∧ mi' = false) ∧ post = [OpC ro ext mi']) ∧ St h G post h' := by
  apply hc_impl_ranges
  unfold M_impl_ranges
  refine st_alloc (St.start hG) fun n0 _ S => ?_
  refine ld_bool S rfl ?_
  cases pl with
  | true =>
    subst he hm
    exact w_true rfl (rt_1 rfl ⟨_, ⟨none, rfl, fun _ => ⟨rfl, rfl⟩, rfl⟩, St.em_in S.drop⟩)
  | false =>
    have e1 : ext = (!nr) := by simpa using he
    have e2 : mi' = mi := by simpa using hm
    refine w_false rfl (ld_bool S rfl (ld_bool S rfl (st_alloc S fun n4 _ S => ?_)))
    refine rt_1 rfl ⟨_, ⟨some (n4, 0), rfl, fun h => (by cases h), rfl⟩, ?_⟩
    have S := S.only [.ow (n4, 0)]
    rw [e1, e2]
    show St h G [Ow (n4, 0) [.bool (!(!nr)), .bool mi] 0] _
    rw [Bool.not_not]
    exact S
def rgR (o : List Int) (mi ext : Bool) (l : List IV) (x mk : IV) : List IV := TG.rmO o mi ext l (TG.kp o (TG.stopO o mi mk) x)
def rgL (o : List Int) (mi : Bool) (l : List IV) (x mk : IV) : List IV := TG.lftO o mi l x mk
theorem rgR_len (o : List Int) (mi ext : Bool) (l : List IV) (x mk : IV) : (rgR o mi ext l x mk).length ≤ l.length := by
  unfold rgR TG.rmO
  split
  · exact List.length_filter_le _ _
  · simp
theorem rgL_len (o : List Int) (mi : Bool) (l : List IV) (x mk : IV) : (rgL o mi l x mk).length ≤ l.length := List.length_filter_le _ _
set_option maxHeartbeats 4000000 in
theorem c_GDeleteRangeI {c : Ck} {o : List Int} {op : Option PA} {on oc : Nat} (hr : Rdr c (op, on, oc) LN o) (hl : o.length ≤ 2147483647) {d : Int} {nl : Bool} (hd : d ≤ 128) {xs : List IV} {sp : Option PA} {n cap : Nat} (hx : Rdr c (sp, n, cap) LT xs) (hxl : xs.length ≤ 2147483647) {x mk : IV} {pl nr mi ext mi' : Bool} (he : ext = (pl || !nr)) (hm : mi' = (!pl && mi)) {G : PA → Prop} (hG : Star [c] h G) :
    HT Try.prog fn_impl_GDeleteRange [.agg [.sl op on oc, .int .i64 d, .bool nl], .c (.sl sp n cap), .agg [.int .i64 x.1, .int .i64 x.2], .agg [.int .i64 mk.1, .int .i64 mk.2], .agg [.bool pl, .bool nr, .bool mi]] true [.c .sl, .c (.int .i64), .c .sl] h
      fun r h' => ∃ post, (∃ s t : SlT, r = (s, ((rgR o mi' ext (treeO o xs) x mk).length : Int), t, ()) ∧ OwnL LT s (rgR o mi' ext (treeO o xs) x mk) ∧ OwnL LT t (rgL o mi' (treeO o xs) x mk) ∧ post = [c, SlC s LT.sz (LT.flat (rgR o mi' ext (treeO o xs) x mk)), SlC t LT.sz (LT.flat (rgL o mi' (treeO o xs) x mk))]) ∧ St h G post h' := by
  apply hc_impl_GDeleteRange
  unfold M_impl_GDeleteRange
  have htl := treeO_len o xs
  have hst := treeO_srt o xs
  have hrl := rgR_len o mi' ext (treeO o xs) x mk
  have hll := rgL_len o mi' (treeO o xs) x mk
  obtain ⟨_, hd1, hd2⟩ := TG.dgOf_good hd
  refine st_alloc (St.start hG) fun n0 _ S => ?_
  refine st_alloc S fun n1 _ S => ?_
  refine st_alloc S fun n2 _ S => ?_
  refine st_alloc S fun n3 _ S => ?_
  (refine ld_sl S op on oc rfl (ld_int S rfl (ld_bool S rfl ?_)))
  (refine st_callT S [.ck c] (fun G hG => c_grow hr hl hd hx hxl hG) ?_; rintro _ _ _ ⟨m, f, rfl, rfl⟩ S; dsimp only [List.cons_append, List.nil_append] at S)
  have hraw : (Cell.raw (if ext then beF f else Value.nilFunc)).val = (if ext then beF f else Value.nilFunc) := by
    cases ext with
    | true => exact (lss_before (f := f) hl).1
    | false => rfl
  refine w_mid' none (fun (y : SV [.c .addr]) h' => ∃ (nq : Nat) (t : SlT) (q : List TG.El), y = ((nq, 0), ()) ∧ TG.OwC t q ∧ TG.Qv o (TG.dgOf d) ext (treeO o xs) (rgL o mi' (treeO o xs) x mk) q ∧
    St h G [Ow (nq, 0) (TG.listC (if ext then beF f else Value.nilFunc) (TG.cntQ q) 0 t) 0, SlC t TG.LE.sz (TG.LE.flat q), StC (TG.tsL 1 q), TG.MpC (beF f) o 1 (TG.dgOf d) (m, 0) (rgL o mi' (treeO o xs) x mk), c, OcC f o] h') ?_ ?_
  · refine ld_int S rfl (ld_int S rfl (ld_int S rfl (ld_int S rfl (ld_bool S rfl (ld_bool S rfl (ld_bool S rfl (w_both ?_ ?_)))))))
    · refine st_callT S [] (fun G hG => c_ranges he hm hG) ?_
      rintro _ _ _ ⟨ro, rfl, hro, rfl⟩ S
      dsimp only [List.cons_append, List.nil_append] at S
      refine (st_held S rfl (st_held S rfl (st_held S rfl (st_held S rfl (w_both ?_ ?_)))))
      · refine st_callB S [.mp (m, 0)] (fun G hG hb => HT.re (args' := [.c (.addr (m, 0)), .agg [.int .i64 x.1, .int .i64 x.2], .agg [.int .i64 mk.1, .int .i64 mk.2], .c (.ptr ro)]) rfl <| TG.c_DeleteRange (ext := ext) (mi := mi') (x := x) (mk := mk) (lss_before hl) (by omega) (opH_of (hb (OpC ro ext mi') (by simp)) hro) (hb (OcC f o) (by simp)) hG) ?_
        rintro _ _ _ ⟨t, q, rfl, g1, g2, rfl⟩ S
        dsimp only [List.cons_append, List.nil_append] at S
        refine st_alloc S fun nq _ S => ?_
        refine st_store S (lt_ble rfl) fun _ S => ?_
        refine st_store S (lt_ble rfl) fun _ S => ?_
        refine st_store S (lt_ble rfl) fun _ S => ?_
        refine st_store S (lt_ble rfl) fun _ S => ?_
        have S := (S.at (.ow (nq, 0))).re (nq, 0) (TG.listC (if ext then beF f else Value.nilFunc) (TG.cntQ q) 0 t) 0 rfl (by rw [hraw]; rfl) rfl
        exact md_n rfl ⟨nq, t, q, rfl, g1, g2, S.only [.ow (nq, 0), .sl t, .ck (StC (TG.tsL 1 q)), .mp (m, 0), .ck c, .ck (OcC f o)]⟩
      · refine st_alloc S fun nq _ S => ?_
        refine (st_held S rfl (st_held S rfl (st_held S rfl (st_held S rfl ?_))))
        refine st_callB S [.mp (m, 0)] (fun G hG hb => HT.re (args' := [.c (.addr (m, 0)), .agg [.int .i64 x.1, .int .i64 x.2], .agg [.int .i64 mk.1, .int .i64 mk.2], .c (.ptr ro)]) rfl <| TG.c_DeleteRange (ext := ext) (mi := mi') (x := x) (mk := mk) (lss_before hl) (by omega) (opH_of (hb (OpC ro ext mi') (by simp)) hro) (hb (OcC f o) (by simp)) hG) ?_
        rintro _ _ _ ⟨t, q, rfl, g1, g2, rfl⟩ S
        dsimp only [List.cons_append, List.nil_append] at S
        refine st_store S (lt_ble rfl) fun _ S => ?_
        refine st_store S (lt_ble rfl) fun _ S => ?_
        refine st_store S (lt_ble rfl) fun _ S => ?_
        refine st_store S (lt_ble rfl) fun _ S => ?_
        have S := (S.at (.ow (nq, 0))).re (nq, 0) (TG.listC (if ext then beF f else Value.nilFunc) (TG.cntQ q) 0 t) 0 rfl (by rw [hraw]; rfl) rfl
        exact md_n rfl ⟨nq, t, q, rfl, g1, g2, S.only [.ow (nq, 0), .sl t, .ck (StC (TG.tsL 1 q)), .mp (m, 0), .ck c, .ck (OcC f o)]⟩
    · refine st_alloc S fun nq _ S => ?_
      refine (st_held S rfl (st_held S rfl (st_held S rfl (st_held S rfl (st_held S rfl (st_held S rfl (st_held S rfl ?_)))))))
      refine st_callT S [] (fun G hG => c_ranges he hm hG) ?_
      rintro _ _ _ ⟨ro, rfl, hro, rfl⟩ S
      dsimp only [List.cons_append, List.nil_append] at S
      refine (st_held S rfl (st_held S rfl (st_held S rfl (st_held S rfl ?_))))
      refine st_callB S [.mp (m, 0)] (fun G hG hb => HT.re (args' := [.c (.addr (m, 0)), .agg [.int .i64 x.1, .int .i64 x.2], .agg [.int .i64 mk.1, .int .i64 mk.2], .c (.ptr ro)]) rfl <| TG.c_DeleteRange (ext := ext) (mi := mi') (x := x) (mk := mk) (lss_before hl) (by omega) (opH_of (hb (OpC ro ext mi') (by simp)) hro) (hb (OcC f o) (by simp)) hG) ?_
      rintro _ _ _ ⟨t, q, rfl, g1, g2, rfl⟩ S
      dsimp only [List.cons_append, List.nil_append] at S
      refine st_store S (lt_ble rfl) fun _ S => ?_
      refine st_store S (lt_ble rfl) fun _ S => ?_
      refine st_store S (lt_ble rfl) fun _ S => ?_
      refine st_store S (lt_ble rfl) fun _ S => ?_
      have S := (S.at (.ow (nq, 0))).re (nq, 0) (TG.listC (if ext then beF f else Value.nilFunc) (TG.cntQ q) 0 t) 0 rfl (by rw [hraw]; rfl) rfl
      exact md_n rfl ⟨nq, t, q, rfl, g1, g2, S.only [.ow (nq, 0), .sl t, .ck (StC (TG.tsL 1 q)), .mp (m, 0), .ck c, .ck (OcC f o)]⟩
  clear S
  rintro _ _ ⟨nq, t, q, rfl, g1, g2, S⟩
  obtain ⟨Ss, k1, k2, k3, k4⟩ := TG.qv_list (mi := mi') hst g2
  have k3 : Ss.flatMap TG.flE = rgR o mi' ext (treeO o xs) x mk := k3
  have k4 : TG.cntQ q = ((rgR o mi' ext (treeO o xs) x mk).length : Int) := k4
  have hqf : ∀ q : List TG.El, q.length ≤ (q.flatMap TG.flE).length := fun q => by
    induction q with
    | nil => simp
    | cons a q ih => simp only [List.length_cons, List.flatMap_cons, List.length_append, TG.flE]; omega
  have hql := hqf Ss
  have hqS := k1.length_eq
  rw [k3] at hql
  refine st_callB S [.ow (nq, 0), .sl t, .ck (StC (TG.tsL 1 q))] (fun G hG hb => HT.re (args' := [.c (.addr (nq, 0))]) rfl <| TG.c_scanned (mx := 2 * TG.dgOf d + 1) (lss_before hl) g1 g2.hp (by omega) (by
    cases hext : ext with
    | true => exact .inr rfl
    | false => exact .inl (g2.no hext)) (by omega) g2.val (by rw [k3]; omega) k1 k2 (hb (OcC f o) (by simp)) hG) ?_
  rintro _ _ _ ⟨s, rfl, hs, rfl⟩ S
  dsimp only [List.cons_append, List.nil_append] at S
  rw [k3] at hs S
  refine st_callT S [.mp (nq, 0)] (fun G hG => HT.re (args' := [.c (.addr (nq, 0))]) rfl (TG.c_LenQ hG)) ?_
  rintro _ _ _ ⟨rfl, rfl⟩ S
  dsimp only [List.cons_append, List.nil_append] at S
  refine st_callV S [.mp (m, 0)] (args' := [.c (.addr (m, 0))]) rfl (fun G hG => c_Items (by omega) hG) ?_
  rintro _ _ _ ⟨t2, rfl, ht, rfl⟩ S
  dsimp only [List.cons_append, List.nil_append] at S
  exact rt_n rfl rfl ⟨_, ⟨s, t2, by rw [k4], hs, ht, rfl⟩, S.only [.ck c, .sl s, .sl t2]⟩
theorem c_FnGRangeOptions {hI : H} {o : List Int} {op : Option PA} {on oc : Nat} (hr : Rdr (BaC hI) (op, on, oc) LN o) {d : Int} {nl : Bool} {xs : List IV} {sp : Option PA} {n cap : Nat} (hx : Rdr (BaC hI) (sp, n, cap) LT xs) {x mk : IV} {mi : Bool} {G : PA → Prop} (hG : Star [BaC hI] h G) :
    HT Try.prog fn_laws_FnGRangeOptions [.agg [.sl op on oc, .int .i64 d, .bool nl], .c (.sl sp n cap), .agg [.int .i64 x.1, .int .i64 x.2], .agg [.int .i64 mk.1, .int .i64 mk.2], .c (.bool mi)] false [.c .bool] h fun r h' => ∃ post, (r = (true, ()) ∧ post = [BaC hI]) ∧ St h G post h' := by
  apply hc_laws_FnGRangeOptions
  unfold M_laws_FnGRangeOptions
  have hn : n = xs.length := hx.1
  have htl := treeO_len o xs
  have hno : on = o.length := hr.1
  refine st_alloc (St.start hG) fun n0 _ S => ?_
  refine st_alloc S fun n1 _ S => ?_
  refine st_alloc S fun n2 _ S => ?_
  refine w_mid' none (fun (y : SV [.c .bool]) h' => (y = (true, ()) ∨ y = (false, ()) ∧ on ≤ 2147483647 ∧ n ≤ 2147483647) ∧ St h G [Ow (n0, 0) (List.map Cell.val [.sl op on oc, .int .i64 d, .bool nl]) 0, Ow (n1, 0) (LT.cells x) 0, Ow (n2, 0) (LT.cells mk) 0, BaC hI] h') ?_ ?_
  · refine ld_sl S op on oc rfl (ld_int S rfl (ld_bool S rfl ?_))
    refine st_callT S [] (fun G hG => c_zzFits1 hG) ?_
    rintro _ _ _ ⟨rfl, rfl⟩ S
    dsimp only [List.cons_append, List.nil_append] at S
    by_cases hbo : on > 2147483647
    · exact w_true (by rw [decide_eq_false (by (first | omega | ((try dsimp only [Sh.T, Sh1.T]); omega)))]; rfl) (md_n rfl ⟨.inl rfl, S.only [.ow (n0, 0), .ow (n1, 0), .ow (n2, 0), .ck (BaC hI)]⟩)
    refine w_false (by rw [decide_eq_true (by (first | omega | ((try dsimp only [Sh.T, Sh1.T]); omega)))]; rfl) ?_
    by_cases hb0 : n > 2147483647
    · exact md_n (x := (true, ())) (by rw [decide_eq_true (by omega)]; rfl) ⟨.inl rfl, S.only [.ow (n0, 0), .ow (n1, 0), .ow (n2, 0), .ck (BaC hI)]⟩
    exact md_n (x := (false, ())) (by rw [decide_eq_false (by omega)]; rfl) ⟨.inr ⟨rfl, by omega, by omega⟩, S.only [.ow (n0, 0), .ow (n1, 0), .ow (n2, 0), .ck (BaC hI)]⟩
  clear S
  rintro _ _ ⟨rfl | ⟨rfl, hz0, hz1⟩, S⟩
  · exact w_true rfl (rt_1 rfl ⟨_, ⟨rfl, rfl⟩, S.only [.ck (BaC hI)]⟩)
  refine w_false rfl ?_
  refine ld_sl S op on oc rfl (ld_int S rfl (ld_bool S rfl ?_))
  refine st_callT S [] (fun G hG => c_fits hG) ?_
  rintro _ _ _ ⟨rfl, rfl⟩ S
  dsimp only [List.cons_append, List.nil_append] at S
  by_cases hf : d = 0 ∨ 2 ≤ d ∧ d ≤ 128
  case neg =>
    refine w_true (by rw [decide_eq_false hf]; rfl) ?_
    refine st_callT S [] (fun G hG => c_alive hG) ?_
    rintro _ _ _ ⟨rfl, rfl⟩ S
    dsimp only [List.cons_append, List.nil_append] at S
    exact rt_1 rfl ⟨_, ⟨rfl, rfl⟩, S.only [.ck (BaC hI)]⟩
  refine w_false (by rw [decide_eq_true hf]; rfl) ?_
  (refine ld_sl S op on oc rfl (ld_int S rfl (ld_bool S rfl ?_)))
  refine ld_int S rfl (ld_int S rfl (ld_int S rfl (ld_int S rfl ?_)))
  refine st_callT S [.ck (BaC hI)] (fun G hG => c_GDeleteRangeI (x := x) (mk := mk) (pl := false) (nr := false) (mi := false) (ext := true) (mi' := false) hr (by omega) (by omega) hx (by omega) rfl rfl hG) ?_
  rintro _ _ _ ⟨s1, t1, rfl, hs1, ht1, rfl⟩ S
  dsimp only [List.cons_append, List.nil_append] at S
  (refine ld_sl S op on oc rfl (ld_int S rfl (ld_bool S rfl ?_)))
  refine ld_int S rfl (ld_int S rfl (ld_int S rfl (ld_int S rfl ?_)))
  refine st_callT S [.ck (BaC hI)] (fun G hG => c_GDeleteRangeI (x := x) (mk := mk) (pl := true) (nr := false) (mi := false) (ext := true) (mi' := false) hr (by omega) (by omega) hx (by omega) rfl rfl hG) ?_
  rintro _ _ _ ⟨s2, t2, rfl, hs2, ht2, rfl⟩ S
  dsimp only [List.cons_append, List.nil_append] at S
  (refine ld_sl S op on oc rfl (ld_int S rfl (ld_bool S rfl ?_)))
  refine ld_int S rfl (ld_int S rfl (ld_int S rfl (ld_int S rfl ?_)))
  refine st_callT S [.ck (BaC hI)] (fun G hG => c_GDeleteRangeI (x := x) (mk := mk) (pl := false) (nr := false) (mi := mi) (ext := true) (mi' := mi) hr (by omega) (by omega) hx (by omega) rfl rfl hG) ?_
  rintro _ _ _ ⟨s3, t3, rfl, hs3, ht3, rfl⟩ S
  dsimp only [List.cons_append, List.nil_append] at S
  (refine ld_sl S op on oc rfl (ld_int S rfl (ld_bool S rfl ?_)))
  refine ld_int S rfl (ld_int S rfl (ld_int S rfl (ld_int S rfl ?_)))
  refine st_callT S [.ck (BaC hI)] (fun G hG => c_GDeleteRangeI (x := x) (mk := mk) (pl := false) (nr := true) (mi := mi) (ext := false) (mi' := mi) hr (by omega) (by omega) hx (by omega) rfl rfl hG) ?_
  rintro _ _ _ ⟨s4, t4, rfl, hs4, ht4, rfl⟩ S
  dsimp only [List.cons_append, List.nil_append] at S
  have l1 := rgR_len o false true (treeO o xs) x mk
  have l2 := rgL_len o false (treeO o xs) x mk
  have l3 := rgL_len o mi (treeO o xs) x mk
  refine w_mid' none (fun (y : SV [.c .bool]) h' => y = (true, ()) ∧ St h G [BaC hI] h') ?_ (fun _ _ ⟨e, S⟩ => by subst e; exact rt_1 rfl ⟨_, ⟨rfl, rfl⟩, S⟩)
  refine st_eqT S (.sl s1) (.sl s2) hs1.rdr hs2.rdr (by omega) fun _ S => ?_
  refine w_true (by simp) (w_true (by simp) ?_)
  refine st_eqT S (.sl t1) (.sl t2) ht1.rdr ht2.rdr (by omega) fun _ S => ?_
  refine w_true (by simp) ?_
  refine st_eqT S (.sl t3) (.sl t4) ht3.rdr ht4.rdr (by omega) fun _ S => ?_
  refine w_true (by simp) ?_
  have h40 : s4.2.1 = 0 := hs4.1
  refine w_true (beq_t (by show ((s4.2.1 : Nat) : Int) = 0; omega)) (w_true rfl ?_)
  (refine st_callT S [] (fun G hG => c_alive hG) ?_; rintro _ _ _ ⟨rfl, rfl⟩ S; dsimp only [List.cons_append, List.nil_append] at S)
  exact md_n rfl ⟨rfl, S.only [.ck (BaC hI)]⟩
end
end Go.Proofs.Ytegnpimlfphncaa
set_option linter.unusedVariables false
set_option linter.unusedSimpArgs false
set_option linter.unusedSectionVars false
set_option maxRecDepth 100000
namespace Go.Proofs.Ytegnpimlfphncaa
open Go Go.ChangeShapes Go.WideShapes Go.ChangeAt Go.RowKit
theorem d_GRangeOptions (H' : Type) (enc : TypeId × Value → H') (W : World) (base : Nat) (args : Array Value) (ds gs : List (DataW H')) (before : List MemPlace)
    (hval : ∀ (j : Nat) t v, Try.f4.params[j]? = some t → args[j]? = some v → Value.okWide Try.prog W .any base t v)
    (hW : DataW.Whole enc Try.prog Try.f4.params.toList Rows.fnGRangeOptionsSpec.vars false W args.toList ds gs before) :
    Calls Try.prog 4 args W fun e W' => ∃ v, e = .returned v ∧ Rows.fnGRangeOptionsSpec.post enc Try.prog Try.f4 false true false false W args v W' := by
  have hW' := hW
  obtain ⟨p, q, hA0, hV, rfl, hfz, hnd⟩ := hW
  have hA : DataW.TrodAll enc Try.prog W 0 (fun _ => true) true Try.f4.params.toList args.toList ds p := hA0
  rw [Try.params4] at hA hval
  obtain ⟨v0, v1, v2, v3, v4, d0, d1, d2, d3, d4, p0, p1, p2, p3, p4, rfl, rfl, rfl, h0, h1, h2, h3, h4⟩ := trodAll_five hA
  obtain ⟨rfl, rfl⟩ := trodVars_none hV
  obtain ⟨op0, on0, oc0, o0, n0, b0, rfl, hx0⟩ := open_make (hval 0 _ v0 rfl rfl) h0
  obtain ⟨sp1, n1, c1, xs1, rfl, hx1, _, _⟩ := open_its (hval 1 _ v1 rfl rfl) h1
  obtain ⟨a2, b2, rfl⟩ := open_item (hval 2 _ v2 rfl rfl) h2
  obtain ⟨a3, b3, rfl⟩ := open_item (hval 3 _ v3 rfl rfl) h3
  obtain ⟨n4, rfl, _⟩ := open_bool ubool (hval 4 _ v4 rfl rfl) h4
  refine (c_FnGRangeOptions (h := W.heap) (x := (a2, b2)) (mk := (a3, b3)) hx0 hx1 (BaC.start _) W rfl).mono fun e W' ⟨v, he, x, r, hr, post, ⟨hr1, hp⟩, hs⟩ => ?_
  subst hr1; subst hp; subst hr
  exact ⟨_, he, post_true rfl rfl (by kernel_rfl) hW' rfl (below_of x hs)⟩
set_option maxRecDepth 100000 in
theorem l_GRangeOptions (os : Os) (started : os.Started) (H' : Type) (enc : TypeId × Value → H') :
    ReturnsInHanded {} Try.checked os 4 .any (Rows.fnGRangeOptionsSpec.pre6 enc Try.prog Try.f4 Rows.fnGRangeOptionsRow.domain false) (Rows.fnGRangeOptionsSpec.post enc Try.prog Try.f4 false true false false) := by
  refine returnsInHanded_of_change (C := Try.checked) own started (by kernel_rfl) Try.func4
    (ChangeSpec.witness6 (enc := enc) (C := Try.checked) false ⟨#[], #[.agg #[.slice none 0 0, .int .i64 0, .bool false], .slice none 0 0, .agg #[.int .i64 0, .int .i64 0], .agg #[.int .i64 0, .int .i64 0], .bool false], []⟩ 8 (by kernel_rfl) (by kernel_rfl) (by kernel_rfl) (by kernel_rfl)) ?_
  intro W base args ds gs before hval hW _ _
  exact d_GRangeOptions H' enc W base args ds gs before hval hW
theorem gRangeOptions_holds : Rows.FnGRangeOptionsSaid :=
  OpenClaim.holds_of_wide 4 Try.f4 rfl rfl rfl rfl rfl rfl rfl ⟨rfl, rfl, rfl, rfl, rfl⟩ rfl rfl rfl rfl rfl (by kernel_rfl) Try.func4 (by kernel_rfl)
    (of_decide_eq_true (by kernel_rfl)) (by unfold Func.isWrapper; first | (rw [if_pos (by decide +kernel)]; kernel_rfl) | (rw [if_neg (by decide +kernel)]; exact ⟨rfl, rfl⟩))
    (fun os started H' enc _ => l_GRangeOptions os started H' enc)
end Go.Proofs.Ytegnpimlfphncaa
