/-
  The thin package over the tree of items. Conditions: none.
-/
import Derived.Test.YtebiihomlhljkaaPgR
import Derived.Test.YtebiihomlhljkaaYim
import Derived.Test.YtebiihomlhljkaaYja
import Derived.Test.YtebiihomlhljkaaTk
set_option linter.unusedVariables false
set_option linter.unusedSimpArgs false
set_option linter.unusedSectionVars false
set_option maxRecDepth 100000
namespace Go.Proofs.Ytebiihomlhljkaa
open Go

def M_impl_GItems (a00p : Option PA) (a00l : Nat) (a00c : Nat) (a01 : Int) (a02 : Bool) (a1p : Option PA) (a1l : Nat) (a1c : Nat) : M :=
  .alloc ty_impl_Make [.sl (a00p) (a00l) (a00c), .int .i64 (a01), .bool (a02)] fun n0 =>
  .load (n0, 0) (.sl) fun s1 =>
  .load (n0, 1) (.int .i64) fun i2 =>
  .load (n0, 2) (.bool) fun b3 =>
  .call fn_impl_grow [.agg [.sl (s1.fst) (s1.snd.fst) (s1.snd.snd), .int .i64 (i2), .bool (b3)], .c (.sl (a1p) (a1l) (a1c))] false [.c (.ptr)] fun r4 =>
  .call fn_tg_Items [.c (.ptr (r4.fst))] false [.c (.sl)] fun r5 =>
  .done .ret [.c (.sl (r5.fst.fst) (r5.fst.snd.fst) (r5.fst.snd.snd))]

theorem den_impl_GItems (a00p : Option PA) (a00l : Nat) (a00c : Nat) (a01 : Int) (a02 : Bool) (a1p : Option PA) (a1l : Nat) (a1c : Nat) : denFn Try.prog Try.f18 [.agg [.sl a00p a00l a00c, .int .i64 a01, .bool a02], .c (.sl a1p a1l a1c)] = M_impl_GItems a00p a00l a00c a01 a02 a1p a1l a1c := by kernel_rfl
theorem hc_impl_GItems (a00p : Option PA) (a00l : Nat) (a00c : Nat) (a01 : Int) (a02 : Bool) (a1p : Option PA) (a1l : Nat) (a1c : Nat) {h : H} {R : Value → H → Prop} (hw : wp Try.prog (M_impl_GItems a00p a00l a00c a01 a02 a1p a1l a1c) (Ret R) h) : HC Try.prog fn_impl_GItems (List.map AV.val [.agg [.sl a00p a00l a00c, .int .i64 a01, .bool a02], .c (.sl a1p a1l a1c)]).toArray h R :=
  den_calls hmix Try.func18 (of_decide_eq_true rfl) (by rw [den_impl_GItems]; exact hw)

def M_impl_GMin (a00p : Option PA) (a00l : Nat) (a00c : Nat) (a01 : Int) (a02 : Bool) (a1p : Option PA) (a1l : Nat) (a1c : Nat) : M :=
  .alloc ty_impl_Make [.sl (a00p) (a00l) (a00c), .int .i64 (a01), .bool (a02)] fun n0 =>
  .alloc ty_impl_Found [.int .i64 (0), .int .i64 (0), .ff] fun n1 =>
  .load (n0, 0) (.sl) fun s2 =>
  .load (n0, 1) (.int .i64) fun i3 =>
  .load (n0, 2) (.bool) fun b4 =>
  .call fn_impl_grow [.agg [.sl (s2.fst) (s2.snd.fst) (s2.snd.snd), .int .i64 (i3), .bool (b4)], .c (.sl (a1p) (a1l) (a1c))] false [.c (.ptr)] fun r5 =>
  .call fn_tg_Min [.c (.ptr (r5.fst))] true [.agg [.int .i64, .int .i64], .c (.bool)] fun r6 =>
  .call fn_impl_found [.agg [.int .i64 (r6.fst.fst), .int .i64 (r6.fst.snd.fst)], .c (.bool (r6.snd.fst))] false [.agg [.int .i64, .int .i64, .bool]] fun r7 =>
  .store (n1, 0) (.int .i64 (r7.fst.fst)) <|
  .store (n1, 1) (.int .i64 (r7.fst.snd.fst)) <|
  .store (n1, 2) (.bool (r7.fst.snd.snd.fst)) <|
  .load (n1, 0) (.int .i64) fun i8 =>
  .load (n1, 1) (.int .i64) fun i9 =>
  .load (n1, 2) (.bool) fun b10 =>
  .done .ret [.agg [.int .i64 (i8), .int .i64 (i9), .bool (b10)]]

theorem den_impl_GMin (a00p : Option PA) (a00l : Nat) (a00c : Nat) (a01 : Int) (a02 : Bool) (a1p : Option PA) (a1l : Nat) (a1c : Nat) : denFn Try.prog Try.f29 [.agg [.sl a00p a00l a00c, .int .i64 a01, .bool a02], .c (.sl a1p a1l a1c)] = M_impl_GMin a00p a00l a00c a01 a02 a1p a1l a1c := by kernel_rfl
theorem hc_impl_GMin (a00p : Option PA) (a00l : Nat) (a00c : Nat) (a01 : Int) (a02 : Bool) (a1p : Option PA) (a1l : Nat) (a1c : Nat) {h : H} {R : Value → H → Prop} (hw : wp Try.prog (M_impl_GMin a00p a00l a00c a01 a02 a1p a1l a1c) (Ret R) h) : HC Try.prog fn_impl_GMin (List.map AV.val [.agg [.sl a00p a00l a00c, .int .i64 a01, .bool a02], .c (.sl a1p a1l a1c)]).toArray h R :=
  den_calls hmix Try.func29 (of_decide_eq_true rfl) (by rw [den_impl_GMin]; exact hw)

def M_impl_GMax (a00p : Option PA) (a00l : Nat) (a00c : Nat) (a01 : Int) (a02 : Bool) (a1p : Option PA) (a1l : Nat) (a1c : Nat) : M :=
  .alloc ty_impl_Make [.sl (a00p) (a00l) (a00c), .int .i64 (a01), .bool (a02)] fun n0 =>
  .alloc ty_impl_Found [.int .i64 (0), .int .i64 (0), .ff] fun n1 =>
  .load (n0, 0) (.sl) fun s2 =>
  .load (n0, 1) (.int .i64) fun i3 =>
  .load (n0, 2) (.bool) fun b4 =>
  .call fn_impl_grow [.agg [.sl (s2.fst) (s2.snd.fst) (s2.snd.snd), .int .i64 (i3), .bool (b4)], .c (.sl (a1p) (a1l) (a1c))] false [.c (.ptr)] fun r5 =>
  .call fn_tg_Max [.c (.ptr (r5.fst))] true [.agg [.int .i64, .int .i64], .c (.bool)] fun r6 =>
  .call fn_impl_found [.agg [.int .i64 (r6.fst.fst), .int .i64 (r6.fst.snd.fst)], .c (.bool (r6.snd.fst))] false [.agg [.int .i64, .int .i64, .bool]] fun r7 =>
  .store (n1, 0) (.int .i64 (r7.fst.fst)) <|
  .store (n1, 1) (.int .i64 (r7.fst.snd.fst)) <|
  .store (n1, 2) (.bool (r7.fst.snd.snd.fst)) <|
  .load (n1, 0) (.int .i64) fun i8 =>
  .load (n1, 1) (.int .i64) fun i9 =>
  .load (n1, 2) (.bool) fun b10 =>
  .done .ret [.agg [.int .i64 (i8), .int .i64 (i9), .bool (b10)]]

theorem den_impl_GMax (a00p : Option PA) (a00l : Nat) (a00c : Nat) (a01 : Int) (a02 : Bool) (a1p : Option PA) (a1l : Nat) (a1c : Nat) : denFn Try.prog Try.f31 [.agg [.sl a00p a00l a00c, .int .i64 a01, .bool a02], .c (.sl a1p a1l a1c)] = M_impl_GMax a00p a00l a00c a01 a02 a1p a1l a1c := by kernel_rfl
theorem hc_impl_GMax (a00p : Option PA) (a00l : Nat) (a00c : Nat) (a01 : Int) (a02 : Bool) (a1p : Option PA) (a1l : Nat) (a1c : Nat) {h : H} {R : Value → H → Prop} (hw : wp Try.prog (M_impl_GMax a00p a00l a00c a01 a02 a1p a1l a1c) (Ret R) h) : HC Try.prog fn_impl_GMax (List.map AV.val [.agg [.sl a00p a00l a00c, .int .i64 a01, .bool a02], .c (.sl a1p a1l a1c)]).toArray h R :=
  den_calls hmix Try.func31 (of_decide_eq_true rfl) (by rw [den_impl_GMax]; exact hw)


/-- What is replaced when items are set, and the items then. -/
def setsR (o : List Int) (l : List IV) (xs : List IV) : List IV := xs.foldl (fun t x => put (ltO o) t x) l
def setsF (o : List Int) : List IV → List IV → List (Option IV)
  | _, [] => []
  | l, x :: xs => fnd (ltO o) l x :: setsF o (put (ltO o) l x) xs
theorem setsR_snoc (o : List Int) (l xs : List IV) (x : IV) : setsR o l (xs ++ [x]) = put (ltO o) (setsR o l xs) x := by simp [setsR]
theorem setsF_snoc (o : List Int) : ∀ (l xs : List IV) (x : IV), setsF o l (xs ++ [x]) = setsF o l xs ++ [fnd (ltO o) (setsR o l xs) x]
  | l, [], x => rfl
  | l, a :: xs, x => by
    show fnd (ltO o) l a :: setsF o (put (ltO o) l a) (xs ++ [x]) = _
    rw [setsF_snoc]; rfl
theorem setsF_len (o : List Int) : ∀ (l xs : List IV), (setsF o l xs).length = xs.length
  | _, [] => rfl
  | l, x :: xs => by show (setsF o (put (ltO o) l x) xs).length + 1 = _; rw [setsF_len]; rfl
theorem setsR_tree (o : List Int) (xs : List IV) : setsR o [] xs = treeO o xs := rfl
/-- What is found. -/
def getsF (o : List Int) (l ks : List IV) : List (Option IV) := ks.map (fnd (ltO o) l)
theorem getsF_len (o : List Int) (l ks : List IV) : (getsF o l ks).length = ks.length := List.length_map _
theorem getsF_snoc {o : List Int} {l ks : List IV} {i : Nat} (h : i < ks.length) : getsF o l (ks.take (i + 1)) = getsF o l (ks.take i) ++ [fnd (ltO o) l ks[i]] := by rw [take_snoc h, getsF, List.map_append]; rfl
def atsF (l : List IV) (ks : List Int) : List (Option IV) := ks.map (atO l)
theorem atsF_len (l : List IV) (ks : List Int) : (atsF l ks).length = ks.length := List.length_map _
theorem atsF_snoc {l : List IV} {ks : List Int} {i : Nat} (h : i < ks.length) : atsF l (ks.take (i + 1)) = atsF l (ks.take i) ++ [atO l ks[i]] := by rw [take_snoc h, atsF, List.map_append]; rfl

section
variable {h : H}
theorem itR_f (f : Option IV) : (if (TG.itR f).2.1 then some ((TG.itR f).1.1, (TG.itR f).1.2.1) else none) = f := by cases f <;> rfl
theorem setR_f (o : List Int) (l : List IV) (x : IV) : (if (TG.setR o l x).2.1 then some ((TG.setR o l x).1.1, (TG.setR o l x).1.2.1) else none) = fnd (ltO o) l x := by
  unfold TG.setR TG.old
  cases fnd (ltO o) l x <;> rfl
section
variable {ls : Value} {o : List Int}
theorem c_Items {a0 : PA} {iso : Int} {dg : Nat} {l : List IV} (hl : l.length ≤ 4294967296) {G : PA → Prop} (hG : Star [TG.MpC ls o iso dg a0 l] h G) :
    HT Try.prog fn_tg_Items [.c (.addr a0)] false [.c .sl] h fun x h' => ∃ post, (∃ s : SlT, x = (s, ()) ∧ OwnL LT s l ∧ post = [SlC s LT.sz (LT.flat l), TG.MpC ls o iso dg a0 l]) ∧ St h G post h' := by
  apply hc_tg_Items
  unfold M_tg_Items
  refine st_callT (St.start hG) [.mp a0] (fun G hG => TG.c_items (m := false) hl hG) ?_
  rintro _ _ h2 ⟨s, rfl, hs, rfl⟩ S
  dsimp only [List.cons_append, List.nil_append] at S
  exact rt_1 rfl ⟨_, ⟨s, rfl, hs, rfl⟩, S⟩
theorem c_Min {a0 : PA} {iso : Int} {dg : Nat} {l : List IV} (hl : l.length ≤ 4294967296) {G : PA → Prop} (hG : Star [TG.MpC ls o iso dg a0 l] h G) :
    HT Try.prog fn_tg_Min [.c (.addr a0)] true [.agg [.int .i64, .int .i64], .c .bool] h fun r h' => ∃ post, (r = TG.itR l.head? ∧ post = [TG.MpC ls o iso dg a0 l]) ∧ St h G post h' := by
  apply hc_tg_Min
  unfold M_tg_Min
  refine st_alloc (St.start hG) fun n0 _ S => ?_
  refine st_callT S [.mp a0] (fun G hG => TG.c_minMut hl hG) ?_
  rintro _ _ _ ⟨rfl, rfl⟩ S
  dsimp only [List.cons_append, List.nil_append] at S
  repeat (first | refine w_nonnil ?_ | refine ld_int S rfl ?_ | refine ld_some S rfl ?_ | refine ld_ptr S _ rfl ?_ | refine ld_sls S rfl ?_ | refine ld_nil S rfl ?_ | refine ld_bool S rfl ?_ | refine st_store S (lt_ble rfl) fun _ S => ?_ | refine st_alloc S fun _ _ S => ?_ | refine st_held S rfl ?_ | refine w_guard (by (first | exact inK64 (by omega) (by omega) | omega | (constructor <;> omega) | ((try dsimp only [Sh.T, Sh1.T]); first | exact inK64 (by omega) (by omega) | omega | exact ⟨by decide, inK64 (by omega) (by omega)⟩ | trivial))) ?_ | refine bd_n rfl ?_ | refine bd_e rfl ?_ | refine bd_r ?_ | refine bd_p ?_ | refine ln_r ?_ | refine ln_e ?_ | refine w_true (b := true) rfl ?_ | refine w_false (b := false) rfl ?_ | refine w_item (S.rdr hrd) (by assumption) ?_ | refine h_item (S.rdr hrd) (by assumption) ?_ | refine w_num (S.rdr hro) (by assumption) ?_ | refine ld_sln S rfl ?_ | refine ld_sl S _ _ _ rfl ?_)
  exact rt_n rfl rfl ⟨_, ⟨rfl, rfl⟩, S.only [.mp a0]⟩
theorem c_Max {a0 : PA} {iso : Int} {dg : Nat} {l : List IV} (hl : l.length ≤ 4294967296) {G : PA → Prop} (hG : Star [TG.MpC ls o iso dg a0 l] h G) :
    HT Try.prog fn_tg_Max [.c (.addr a0)] true [.agg [.int .i64, .int .i64], .c .bool] h fun r h' => ∃ post, (r = TG.itR l.getLast? ∧ post = [TG.MpC ls o iso dg a0 l]) ∧ St h G post h' := by
  apply hc_tg_Max
  unfold M_tg_Max
  refine st_alloc (St.start hG) fun n0 _ S => ?_
  refine st_callT S [.mp a0] (fun G hG => TG.c_maxMut hl hG) ?_
  rintro _ _ _ ⟨rfl, rfl⟩ S
  dsimp only [List.cons_append, List.nil_append] at S
  repeat (first | refine w_nonnil ?_ | refine ld_int S rfl ?_ | refine ld_some S rfl ?_ | refine ld_ptr S _ rfl ?_ | refine ld_sls S rfl ?_ | refine ld_nil S rfl ?_ | refine ld_bool S rfl ?_ | refine st_store S (lt_ble rfl) fun _ S => ?_ | refine st_alloc S fun _ _ S => ?_ | refine st_held S rfl ?_ | refine w_guard (by (first | exact inK64 (by omega) (by omega) | omega | (constructor <;> omega) | ((try dsimp only [Sh.T, Sh1.T]); first | exact inK64 (by omega) (by omega) | omega | exact ⟨by decide, inK64 (by omega) (by omega)⟩ | trivial))) ?_ | refine bd_n rfl ?_ | refine bd_e rfl ?_ | refine bd_r ?_ | refine bd_p ?_ | refine ln_r ?_ | refine ln_e ?_ | refine w_true (b := true) rfl ?_ | refine w_false (b := false) rfl ?_ | refine w_item (S.rdr hrd) (by assumption) ?_ | refine h_item (S.rdr hrd) (by assumption) ?_ | refine w_num (S.rdr hro) (by assumption) ?_ | refine ld_sln S rfl ?_ | refine ld_sl S _ _ _ rfl ?_)
  exact rt_n rfl rfl ⟨_, ⟨rfl, rfl⟩, S.only [.mp a0]⟩
end
theorem c_GItems {c : Ck} {o : List Int} {op : Option PA} {on oc : Nat} (hr : Rdr c (op, on, oc) LN o) (hl : o.length ≤ 2147483647) {d : Int} {nl : Bool} (hd : d ≤ 128) {xs : List IV} {sp : Option PA} {n cap : Nat} (hx : Rdr c (sp, n, cap) LT xs) (hxl : xs.length ≤ 2147483647) {G : PA → Prop} (hG : Star [c] h G) :
    HT Try.prog fn_impl_GItems [.agg [.sl op on oc, .int .i64 d, .bool nl], .c (.sl sp n cap)] false [.c .sl] h fun r h' => ∃ post, (∃ s : SlT, r = (s, ()) ∧ OwnL LT s (treeO o xs) ∧ post = [c, SlC s LT.sz (LT.flat (treeO o xs))]) ∧ St h G post h' := by
  apply hc_impl_GItems
  unfold M_impl_GItems
  have htl := treeO_len o xs
  refine st_alloc (St.start hG) fun n0 _ S => ?_
  (refine ld_sl S op on oc rfl (ld_int S rfl (ld_bool S rfl ?_)))
  (refine st_callT S [.ck c] (fun G hG => c_grow hr hl hd hx hxl hG) ?_; rintro _ _ _ ⟨m, f, rfl, rfl⟩ S; dsimp only [List.cons_append, List.nil_append] at S)
  refine st_callV S [.mp (m, 0)] (args' := [.c (.addr (m, 0))]) rfl (fun G hG => c_Items (by omega) hG) ?_
  rintro _ _ _ ⟨s, rfl, hs, rfl⟩ S
  dsimp only [List.cons_append, List.nil_append] at S
  exact rt_1 rfl ⟨_, ⟨s, rfl, hs, rfl⟩, S.only [.ck c, .sl s]⟩
theorem c_GMinI {c : Ck} {o : List Int} {op : Option PA} {on oc : Nat} (hr : Rdr c (op, on, oc) LN o) (hl : o.length ≤ 2147483647) {d : Int} {nl : Bool} (hd : d ≤ 128) {xs : List IV} {sp : Option PA} {n cap : Nat} (hx : Rdr c (sp, n, cap) LT xs) (hxl : xs.length ≤ 2147483647) {G : PA → Prop} (hG : Star [c] h G) :
    HT Try.prog fn_impl_GMin [.agg [.sl op on oc, .int .i64 d, .bool nl], .c (.sl sp n cap)] false [.agg [.int .i64, .int .i64, .bool]] h fun r h' => ∃ post, (r = (fT (treeO o xs).head?, ()) ∧ post = [c]) ∧ St h G post h' := by
  apply hc_impl_GMin
  unfold M_impl_GMin
  have htl := treeO_len o xs
  refine st_alloc (St.start hG) fun n0 _ S => ?_
  refine st_alloc S fun n1 _ S => ?_
  (refine ld_sl S op on oc rfl (ld_int S rfl (ld_bool S rfl ?_)))
  (refine st_callT S [.ck c] (fun G hG => c_grow hr hl hd hx hxl hG) ?_; rintro _ _ _ ⟨m, f, rfl, rfl⟩ S; dsimp only [List.cons_append, List.nil_append] at S)
  refine st_callV S [.mp (m, 0)] (args' := [.c (.addr (m, 0))]) rfl (fun G hG => c_Min (by omega) hG) ?_
  rintro _ _ _ ⟨rfl, rfl⟩ S
  dsimp only [List.cons_append, List.nil_append] at S
  refine st_callT S [] (fun G hG => c_found hG) ?_
  rintro _ _ _ ⟨rfl, rfl⟩ S
  rw [itR_f]
  dsimp only [List.cons_append, List.nil_append] at S
  repeat (first | refine w_nonnil ?_ | refine ld_int S rfl ?_ | refine ld_some S rfl ?_ | refine ld_ptr S _ rfl ?_ | refine ld_sls S rfl ?_ | refine ld_nil S rfl ?_ | refine ld_bool S rfl ?_ | refine st_store S (lt_ble rfl) fun _ S => ?_ | refine st_alloc S fun _ _ S => ?_ | refine st_held S rfl ?_ | refine w_guard (by (first | exact inK64 (by omega) (by omega) | omega | (constructor <;> omega) | ((try dsimp only [Sh.T, Sh1.T]); first | exact inK64 (by omega) (by omega) | omega | exact ⟨by decide, inK64 (by omega) (by omega)⟩ | trivial))) ?_ | refine bd_n rfl ?_ | refine bd_e rfl ?_ | refine bd_r ?_ | refine bd_p ?_ | refine ln_r ?_ | refine ln_e ?_ | refine w_true (b := true) rfl ?_ | refine w_false (b := false) rfl ?_ | refine w_item (S.rdr hrd) (by assumption) ?_ | refine h_item (S.rdr hrd) (by assumption) ?_ | refine w_num (S.rdr hro) (by assumption) ?_ | refine ld_sln S rfl ?_ | refine ld_sl S _ _ _ rfl ?_)
  exact rt_1 rfl ⟨_, ⟨rfl, rfl⟩, S.only [.ck c]⟩
theorem c_GMaxI {c : Ck} {o : List Int} {op : Option PA} {on oc : Nat} (hr : Rdr c (op, on, oc) LN o) (hl : o.length ≤ 2147483647) {d : Int} {nl : Bool} (hd : d ≤ 128) {xs : List IV} {sp : Option PA} {n cap : Nat} (hx : Rdr c (sp, n, cap) LT xs) (hxl : xs.length ≤ 2147483647) {G : PA → Prop} (hG : Star [c] h G) :
    HT Try.prog fn_impl_GMax [.agg [.sl op on oc, .int .i64 d, .bool nl], .c (.sl sp n cap)] false [.agg [.int .i64, .int .i64, .bool]] h fun r h' => ∃ post, (r = (fT (treeO o xs).getLast?, ()) ∧ post = [c]) ∧ St h G post h' := by
  apply hc_impl_GMax
  unfold M_impl_GMax
  have htl := treeO_len o xs
  refine st_alloc (St.start hG) fun n0 _ S => ?_
  refine st_alloc S fun n1 _ S => ?_
  (refine ld_sl S op on oc rfl (ld_int S rfl (ld_bool S rfl ?_)))
  (refine st_callT S [.ck c] (fun G hG => c_grow hr hl hd hx hxl hG) ?_; rintro _ _ _ ⟨m, f, rfl, rfl⟩ S; dsimp only [List.cons_append, List.nil_append] at S)
  refine st_callV S [.mp (m, 0)] (args' := [.c (.addr (m, 0))]) rfl (fun G hG => c_Max (by omega) hG) ?_
  rintro _ _ _ ⟨rfl, rfl⟩ S
  dsimp only [List.cons_append, List.nil_append] at S
  refine st_callT S [] (fun G hG => c_found hG) ?_
  rintro _ _ _ ⟨rfl, rfl⟩ S
  rw [itR_f]
  dsimp only [List.cons_append, List.nil_append] at S
  repeat (first | refine w_nonnil ?_ | refine ld_int S rfl ?_ | refine ld_some S rfl ?_ | refine ld_ptr S _ rfl ?_ | refine ld_sls S rfl ?_ | refine ld_nil S rfl ?_ | refine ld_bool S rfl ?_ | refine st_store S (lt_ble rfl) fun _ S => ?_ | refine st_alloc S fun _ _ S => ?_ | refine st_held S rfl ?_ | refine w_guard (by (first | exact inK64 (by omega) (by omega) | omega | (constructor <;> omega) | ((try dsimp only [Sh.T, Sh1.T]); first | exact inK64 (by omega) (by omega) | omega | exact ⟨by decide, inK64 (by omega) (by omega)⟩ | trivial))) ?_ | refine bd_n rfl ?_ | refine bd_e rfl ?_ | refine bd_r ?_ | refine bd_p ?_ | refine ln_r ?_ | refine ln_e ?_ | refine w_true (b := true) rfl ?_ | refine w_false (b := false) rfl ?_ | refine w_item (S.rdr hrd) (by assumption) ?_ | refine h_item (S.rdr hrd) (by assumption) ?_ | refine w_num (S.rdr hro) (by assumption) ?_ | refine ld_sln S rfl ?_ | refine ld_sl S _ _ _ rfl ?_)
  exact rt_1 rfl ⟨_, ⟨rfl, rfl⟩, S.only [.ck c]⟩
end
end Go.Proofs.Ytebiihomlhljkaa
