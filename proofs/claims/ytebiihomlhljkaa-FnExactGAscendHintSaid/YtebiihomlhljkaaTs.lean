/-
  The reference's scans: all items, and those from a pivot on. Conditions: none.
-/
import Derived.Test.YtebiihomlhljkaaTk
set_option linter.unusedVariables false
set_option linter.unusedSimpArgs false
set_option linter.unusedSectionVars false
set_option maxRecDepth 100000
namespace Go.Proofs.Ytebiihomlhljkaa
open Go

def M_spec_From (a0p : Option PA) (a0l : Nat) (a0c : Nat) (a1p : Option PA) (a1l : Nat) (a1c : Nat) (a20 : Int) (a21 : Int) : M :=
  .alloc ty_impl_Item [.int .i64 (a20), .int .i64 (a21)] fun n0 =>
  .load (n0, 0) (.int .i64) fun i1 =>
  .load (n0, 1) (.int .i64) fun i2 =>
  .call fn_spec_Place [.c (.sl (a0p) (a0l) (a0c)), .c (.sl (a1p) (a1l) (a1c)), .agg [.int .i64 (i1), .int .i64 (i2)]] true [.c (.int .i64), .c (.bool)] fun r3 =>
  .guard (((0 : Int) ≤ r3.fst) ∧ ((r3.fst : Int) ≤ (↑a1l : Int))) <|
  .done .ret [.c (.sl (slBase a1p a1c (Int.toNat r3.fst) 2) (a1l - Int.toNat r3.fst) (a1c - Int.toNat r3.fst))]

theorem den_spec_From (a0p : Option PA) (a0l : Nat) (a0c : Nat) (a1p : Option PA) (a1l : Nat) (a1c : Nat) (a20 : Int) (a21 : Int) : denFn Try.prog Try.f89 [.c (.sl a0p a0l a0c), .c (.sl a1p a1l a1c), .agg [.int .i64 a20, .int .i64 a21]] = M_spec_From a0p a0l a0c a1p a1l a1c a20 a21 := by kernel_rfl
theorem hc_spec_From (a0p : Option PA) (a0l : Nat) (a0c : Nat) (a1p : Option PA) (a1l : Nat) (a1c : Nat) (a20 : Int) (a21 : Int) {h : H} {R : Value → H → Prop} (hw : wp Try.prog (M_spec_From a0p a0l a0c a1p a1l a1c a20 a21) (Ret R) h) : HC Try.prog fn_spec_From (List.map AV.val [.c (.sl a0p a0l a0c), .c (.sl a1p a1l a1c), .agg [.int .i64 a20, .int .i64 a21]]).toArray h R :=
  den_calls hmix Try.func89 (of_decide_eq_true rfl) (by rw [den_spec_From]; exact hw)

def M_spec_GAscend (a00p : Option PA) (a00l : Nat) (a00c : Nat) (a01 : Int) (a02 : Bool) (a1p : Option PA) (a1l : Nat) (a1c : Nat) (a20 : Int) (a21 : Int) (a3 : Int) : M :=
  .alloc ty_impl_Make [.sl (a00p) (a00l) (a00c), .int .i64 (a01), .bool (a02)] fun n0 =>
  .alloc ty_impl_Item [.int .i64 (a20), .int .i64 (a21)] fun n1 =>
  .load (n0, 0) (.sl) fun s2 =>
  .load (n0, 0) (.sl) fun s3 =>
  .load (n1, 0) (.int .i64) fun i4 =>
  .load (n1, 1) (.int .i64) fun i5 =>
  .call fn_spec_Tree [.c (.sl (s3.fst) (s3.snd.fst) (s3.snd.snd)), .c (.sl (a1p) (a1l) (a1c))] false [.c (.sl)] fun r6 =>
  .held (n1, 0) (.int .i64 (i4)) <|
  .held (n1, 1) (.int .i64 (i5)) <|
  .held (n0, 0) (.sl (s2.fst) (s2.snd.fst) (s2.snd.snd)) <|
  .call fn_spec_From [.c (.sl (s2.fst) (s2.snd.fst) (s2.snd.snd)), .c (.sl (r6.fst.fst) (r6.fst.snd.fst) (r6.fst.snd.snd)), .agg [.int .i64 (i4), .int .i64 (i5)]] false [.c (.sl)] fun r7 =>
  .call fn_spec_First [.c (.sl (r7.fst.fst) (r7.fst.snd.fst) (r7.fst.snd.snd)), .c (.int .i64 (a3))] false [.c (.sl)] fun r8 =>
  .done .ret [.c (.sl (r8.fst.fst) (r8.fst.snd.fst) (r8.fst.snd.snd))]

theorem den_spec_GAscend (a00p : Option PA) (a00l : Nat) (a00c : Nat) (a01 : Int) (a02 : Bool) (a1p : Option PA) (a1l : Nat) (a1c : Nat) (a20 : Int) (a21 : Int) (a3 : Int) : denFn Try.prog Try.f50 [.agg [.sl a00p a00l a00c, .int .i64 a01, .bool a02], .c (.sl a1p a1l a1c), .agg [.int .i64 a20, .int .i64 a21], .c (.int .i64 a3)] = M_spec_GAscend a00p a00l a00c a01 a02 a1p a1l a1c a20 a21 a3 := by kernel_rfl
theorem hc_spec_GAscend (a00p : Option PA) (a00l : Nat) (a00c : Nat) (a01 : Int) (a02 : Bool) (a1p : Option PA) (a1l : Nat) (a1c : Nat) (a20 : Int) (a21 : Int) (a3 : Int) {h : H} {R : Value → H → Prop} (hw : wp Try.prog (M_spec_GAscend a00p a00l a00c a01 a02 a1p a1l a1c a20 a21 a3) (Ret R) h) : HC Try.prog fn_spec_GAscend (List.map AV.val [.agg [.sl a00p a00l a00c, .int .i64 a01, .bool a02], .c (.sl a1p a1l a1c), .agg [.int .i64 a20, .int .i64 a21], .c (.int .i64 a3)]).toArray h R :=
  den_calls hmix Try.func50 (of_decide_eq_true rfl) (by rw [den_spec_GAscend]; exact hw)


section
variable {h : H}
/-- The reference's 'From'. -/
def frO (o : List Int) (xs : List IV) (x : IV) : List IV := xs.drop (pos (ltO o) xs x)
theorem c_From {c : Ck} {o : List Int} {op : Option PA} {on oc : Nat} (hr : Rdr c (op, on, oc) LN o) (hl : o.length ≤ 2147483647) {xs : List IV} {sp : Option PA} {n cap : Nat} (hx : Rdr c (sp, n, cap) LT xs) (hxl : xs.length ≤ 4294967296) {x : IV} {G : PA → Prop} (hG : Star [c] h G) :
    HT Try.prog fn_spec_From [.c (.sl op on oc), .c (.sl sp n cap), .agg [.int .i64 x.1, .int .i64 x.2]] false [.c .sl] h fun r h' => ∃ post, (r = ((slBase sp cap (pos (ltO o) xs x) 2, n - pos (ltO o) xs x, cap - pos (ltO o) xs x), ()) ∧ post = [c]) ∧ St h G post h' := by
  apply hc_spec_From
  unfold M_spec_From
  have hn : n = xs.length := hx.1
  have hpl := pos_le (lt := ltO o) xs x
  have S := St.start hG
  repeat (first | refine w_nonnil ?_ | refine ld_int S rfl ?_ | refine ld_some S rfl ?_ | refine ld_ptr S _ rfl ?_ | refine ld_sls S rfl ?_ | refine ld_nil S rfl ?_ | refine ld_bool S rfl ?_ | refine st_store S (lt_ble rfl) fun _ S => ?_ | refine st_alloc S fun _ _ S => ?_ | refine st_held S rfl ?_ | refine w_guard (by (first | exact inK64 (by omega) (by omega) | omega | (constructor <;> omega) | ((try dsimp only [Sh.T, Sh1.T]); first | exact inK64 (by omega) (by omega) | omega | exact ⟨by decide, inK64 (by omega) (by omega)⟩ | trivial))) ?_ | refine bd_n rfl ?_ | refine bd_e rfl ?_ | refine bd_r ?_ | refine bd_p ?_ | refine ln_r ?_ | refine ln_e ?_ | refine w_true (b := true) rfl ?_ | refine w_false (b := false) rfl ?_ | refine w_item (S.rdr hrd) (by assumption) ?_ | refine h_item (S.rdr hrd) (by assumption) ?_ | refine w_num (S.rdr hro) (by assumption) ?_ | refine ld_sln S rfl ?_ | refine ld_sl S _ _ _ rfl ?_)
  refine st_callT S [.ck c] (fun G hG => c_Place (x := x) hr hl hx hxl hG) ?_
  rintro _ _ _ ⟨rfl, rfl⟩ S
  dsimp only [List.cons_append, List.nil_append] at S
  generalize pos (ltO o) xs x = i at *
  refine w_guard ⟨by (first | omega | ((try dsimp only [Sh.T, Sh1.T]); omega)), by (first | omega | ((try dsimp only [Sh.T, Sh1.T]); omega))⟩ ?_
  simp only [Int.toNat_natCast, toNat_succ, toNat_succ2, toNat_pred]
  exact rt_1 rfl ⟨_, ⟨rfl, rfl⟩, S.only [.ck c]⟩
theorem c_GAscend {c : Ck} {o : List Int} {op : Option PA} {on oc : Nat} (hr : Rdr c (op, on, oc) LN o) (hl : o.length ≤ 2147483647) {xs : List IV} {sp : Option PA} {n cap : Nat} (hx : Rdr c (sp, n, cap) LT xs) (hxl : xs.length ≤ 4294967296) {dg k : Int} {nl : Bool} {x : IV} {G : PA → Prop} (hG : Star [c] h G) :
    HT Try.prog fn_spec_GAscend [.agg [.sl op on oc, .int .i64 dg, .bool nl], .c (.sl sp n cap), .agg [.int .i64 x.1, .int .i64 x.2], .c (.int .i64 k)] false [.c .sl] h fun r h' => ∃ post, (∃ s t : SlT, r = (s, ()) ∧ Rdr (SlC t LT.sz (LT.flat (treeO o xs))) s LT (firstO (frO o (treeO o xs) x) k) ∧ post = [c, SlC t LT.sz (LT.flat (treeO o xs))]) ∧ St h G post h' := by
  apply hc_spec_GAscend
  unfold M_spec_GAscend
  have htl := treeO_len o xs
  have S := St.start hG
  refine st_alloc S fun n0 _ S => ?_
  refine st_alloc S fun n1 _ S => ?_
  refine ld_sl S op on oc rfl ?_
  refine ld_sl S op on oc rfl ?_
  refine ld_int S rfl (ld_int S rfl ?_)
  refine st_callT S [.ck c] (fun G hG => c_Tree hr hl hx hxl hG) ?_
  rintro _ _ _ ⟨⟨tp, tn, tc⟩, rfl, hs, rfl⟩ S
  dsimp only [List.cons_append, List.nil_append] at S
  refine st_held S rfl (st_held S rfl (st_held S rfl ?_))
  have htn : tn = (treeO o xs).length := hs.1
  have hpl := pos_le (lt := ltO o) (treeO o xs) x
  have S := S.ats [.ck c, .sl (tp, tn, tc)]
  refine st_callT (l := StC [c, SlC (tp, tn, tc) LT.sz (LT.flat (treeO o xs))] :: _) (St.st_in (m := [_, _]) S) [.ck (StC [c, SlC (tp, tn, tc) LT.sz (LT.flat (treeO o xs))])] (fun G hG => c_From (x := x) (Rdr.st (i := 0) rfl hr) hl (Rdr.st (i := 1) rfl hs.rdr) (by omega) hG) ?_
  rintro _ _ _ ⟨rfl, rfl⟩ S
  dsimp only [List.cons_append, List.nil_append] at S
  have S := St.st_out S
  dsimp only [List.cons_append, List.nil_append] at S
  have hpart := hs.rdr.part (pos (ltO o) (treeO o xs) x) (tn - pos (ltO o) (treeO o xs) x) (by omega)
  rw [List.take_of_length_le (by rw [List.length_drop]; omega)] at hpart
  refine w_callT (c_First hpart) ?_
  rintro _ _ ⟨⟨s, rfl, hf⟩, rfl⟩
  exact rt_1 rfl ⟨_, ⟨s, (tp, tn, tc), rfl, hf, rfl⟩, S.only [.ck c, .sl (tp, tn, tc)]⟩
end
end Go.Proofs.Ytebiihomlhljkaa
