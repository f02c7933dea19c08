/-
  The thin package's walks. Conditions: none.
-/
import Derived.Test.YtlmiafbcgfegpaaPgR
import Derived.Test.YtlmiafbcgfegpaaZwk
import Derived.Test.YtlmiafbcgfegpaaZim
import Derived.Test.YtlmiafbcgfegpaaCc
import Derived.Test.YtlmiafbcgfegpaaZis
import Derived.Test.YtlmiafbcgfegpaaZse
set_option linter.unusedVariables false
set_option linter.unusedSimpArgs false
set_option linter.unusedSectionVars false
set_option maxRecDepth 100000
namespace Go.Proofs.Ytlmiafbcgfegpaa
open Go
def M_impl_itemsOf (a0p : Option PA) (a0l : Nat) (a0c : Nat) : M :=
  .bind (some 0) (.loop [.c (.int .i64), .c (.sl)] [.c (.int .i64 (0)), .c (.sl none (0) (0))] fun y0 =>
      .ite (decide (y0.fst < (↑a0l : Int)))
      (.nonnil (a0p) fun p1 =>
        .guard (((0 : Int) ≤ y0.fst) ∧ ((y0.fst : Int) < (↑a0l : Int))) <|
        .load (p1.fst, p1.snd + Int.toNat y0.fst) (.raw) fun v2 =>
        .guard (ifIs ty_impl_Item v2 (AV.agg [Cell.int IntKind.i64 (ifInt v2 0), Cell.int IntKind.i64 (ifInt v2 1)])) <|
        .alloc ty_impl_Item [.int .i64 (ifInt v2 0), .int .i64 (ifInt v2 1)] fun n3 =>
        .append ty_impl_Item 2 16 [.int .i64 (0), .int .i64 (0)] ((y0.snd.fst.fst), y0.snd.fst.snd.fst, y0.snd.fst.snd.snd) ((some (n3, 0)), 1, 1) fun s4 =>
        .guard (InK IntKind.i64 (y0.fst + 1)) <|
        .done .normal [.c (.int .i64 (y0.fst + 1)), .c (.sl (s4.fst) (s4.snd.fst) (s4.snd.snd))])
      (.done (.exit 0) [.c (.sl (y0.snd.fst.fst) (y0.snd.fst.snd.fst) (y0.snd.fst.snd.snd))])) [.c (.sl)] fun x5 =>
  .done .ret [.c (.sl (x5.fst.fst) (x5.fst.snd.fst) (x5.fst.snd.snd))]
theorem den_impl_itemsOf (a0p : Option PA) (a0l : Nat) (a0c : Nat) : denFn Try.prog Try.f34 [.c (.sl a0p a0l a0c)] = M_impl_itemsOf a0p a0l a0c := by kernel_rfl
theorem hc_impl_itemsOf (a0p : Option PA) (a0l : Nat) (a0c : Nat) {h : H} {R : Value → H → Prop} (hw : wp Try.prog (M_impl_itemsOf a0p a0l a0c) (Ret R) h) : HC Try.prog fn_impl_itemsOf (List.map AV.val [.c (.sl a0p a0l a0c)]).toArray h R :=
  den_calls hmix Try.func34 (of_decide_eq_true rfl) (by rw [den_impl_itemsOf]; exact hw)
def M_impl_BWalk_1 (a0p : Option PA) (a0l : Nat) (a0c : Nat) (f0 : PA) : M :=
  .load f0 (.sl) fun s0 =>
  .call fn_impl_itemsOf [.c (.sl (a0p) (a0l) (a0c))] false [.c (.sl)] fun r1 =>
  .held f0 (.sl (s0.fst) (s0.snd.fst) (s0.snd.snd)) <|
  .alloc ty_sl_impl_Item [.sl (r1.fst.fst) (r1.fst.snd.fst) (r1.fst.snd.snd)] fun n2 =>
  .held f0 (.sl (s0.fst) (s0.snd.fst) (s0.snd.snd)) <|
  .append ty_sl_impl_Item 1 24 [.sl none (0) (0)] ((s0.fst), s0.snd.fst, s0.snd.snd) ((some (n2, 0)), 1, 1) fun s3 =>
  .store f0 (.sl (s3.fst) (s3.snd.fst) (s3.snd.snd)) <|
  .done .ret []
theorem den_impl_BWalk_1 (a0p : Option PA) (a0l : Nat) (a0c : Nat) (f0 : PA) : denFn Try.prog Try.f33 [.c (.sl a0p a0l a0c), .c (.addr f0)] = M_impl_BWalk_1 a0p a0l a0c f0 := by kernel_rfl
theorem hc_impl_BWalk_1 (a0p : Option PA) (a0l : Nat) (a0c : Nat) (f0 : PA) {h : H} {R : Value → H → Prop} (hw : wp Try.prog (M_impl_BWalk_1 a0p a0l a0c f0) (Ret R) h) : HC Try.prog fn_impl_BWalk_1 (List.map AV.val [.c (.sl a0p a0l a0c), .c (.addr f0)]).toArray h R :=
  den_calls hmix Try.func33 (of_decide_eq_true rfl) (by rw [den_impl_BWalk_1]; exact hw)
def M_impl_BWalkMut_1 (a0p : Option PA) (a0l : Nat) (a0c : Nat) (f0 : PA) : M :=
  .load f0 (.sl) fun s0 =>
  .call fn_impl_itemsOf [.c (.sl (a0p) (a0l) (a0c))] false [.c (.sl)] fun r1 =>
  .held f0 (.sl (s0.fst) (s0.snd.fst) (s0.snd.snd)) <|
  .alloc ty_sl_impl_Item [.sl (r1.fst.fst) (r1.fst.snd.fst) (r1.fst.snd.snd)] fun n2 =>
  .held f0 (.sl (s0.fst) (s0.snd.fst) (s0.snd.snd)) <|
  .append ty_sl_impl_Item 1 24 [.sl none (0) (0)] ((s0.fst), s0.snd.fst, s0.snd.snd) ((some (n2, 0)), 1, 1) fun s3 =>
  .store f0 (.sl (s3.fst) (s3.snd.fst) (s3.snd.snd)) <|
  .done .ret []
theorem den_impl_BWalkMut_1 (a0p : Option PA) (a0l : Nat) (a0c : Nat) (f0 : PA) : denFn Try.prog Try.f41 [.c (.sl a0p a0l a0c), .c (.addr f0)] = M_impl_BWalkMut_1 a0p a0l a0c f0 := by kernel_rfl
theorem hc_impl_BWalkMut_1 (a0p : Option PA) (a0l : Nat) (a0c : Nat) (f0 : PA) {h : H} {R : Value → H → Prop} (hw : wp Try.prog (M_impl_BWalkMut_1 a0p a0l a0c f0) (Ret R) h) : HC Try.prog fn_impl_BWalkMut_1 (List.map AV.val [.c (.sl a0p a0l a0c), .c (.addr f0)]).toArray h R :=
  den_calls hmix Try.func41 (of_decide_eq_true rfl) (by rw [den_impl_BWalkMut_1]; exact hw)
def M_BTree_Walk_1 (a0p : Option PA) (a0l : Nat) (a0c : Nat) (f0 : PA) : M :=
  .load f0 (.raw) fun v0 =>
  .callv (v0) [.c (.sl (a0p) (a0l) (a0c))] true [] fun r1 =>
  .done .ret [.c (.tt)]
theorem den_BTree_Walk_1 (a0p : Option PA) (a0l : Nat) (a0c : Nat) (f0 : PA) : denFn Try.prog Try.f61 [.c (.sl a0p a0l a0c), .c (.addr f0)] = M_BTree_Walk_1 a0p a0l a0c f0 := by kernel_rfl
theorem hc_BTree_Walk_1 (a0p : Option PA) (a0l : Nat) (a0c : Nat) (f0 : PA) {h : H} {R : Value → H → Prop} (hw : wp Try.prog (M_BTree_Walk_1 a0p a0l a0c f0) (Ret R) h) : HC Try.prog fn_BTree_Walk_1 (List.map AV.val [.c (.sl a0p a0l a0c), .c (.addr f0)]).toArray h R :=
  den_calls hmix Try.func61 (of_decide_eq_true rfl) (by rw [den_BTree_Walk_1]; exact hw)
def M_BTree_Walk (a0 : PA) (a1 : Value) : M :=
  .alloc ty_func_sl_interface [.raw (a1)] fun n0 =>
  .load (a0.fst, a0.snd) (.ptr) fun q1 =>
  .call fn_tb_Walk [.c (.ptr (q1)), .c (.raw (Value.func (Fn.func fn_BTree_Walk_1) (List.map AV.val []).toArray (List.map AV.val [AV.c (Cell.addr (n0, 0))]).toArray))] true [] fun r2 =>
  .done .ret []
theorem den_BTree_Walk (a0 : PA) (a1 : Value) : denFn Try.prog Try.f32 [.c (.addr a0), .c (.raw a1)] = M_BTree_Walk a0 a1 := by kernel_rfl
theorem hc_BTree_Walk (a0 : PA) (a1 : Value) {h : H} {R : Value → H → Prop} (hw : wp Try.prog (M_BTree_Walk a0 a1) (Ret R) h) : HC Try.prog fn_BTree_Walk (List.map AV.val [.c (.addr a0), .c (.raw a1)]).toArray h R :=
  den_calls hmix Try.func32 (of_decide_eq_true rfl) (by rw [den_BTree_Walk]; exact hw)
def M_impl_BWalk (a00p : Option PA) (a00l : Nat) (a00c : Nat) (a01 : Int) (a02 : Bool) (a1p : Option PA) (a1l : Nat) (a1c : Nat) : M :=
  .alloc ty_impl_Make [.sl (a00p) (a00l) (a00c), .int .i64 (a01), .bool (a02)] fun n0 =>
  .alloc ty_sl_sl_impl_Item [.sl none (0) (0)] fun n1 =>
  .load (n0, 0) (.sl) fun s2 =>
  .load (n0, 1) (.int .i64) fun i3 =>
  .load (n0, 2) (.bool) fun b4 =>
  .call fn_impl_growAny [.agg [.sl (s2.fst) (s2.snd.fst) (s2.snd.snd), .int .i64 (i3), .bool (b4)], .c (.sl (a1p) (a1l) (a1c))] false [.c (.ptr)] fun r5 =>
  .call fn_BTree_Walk [.c (.ptr (r5.fst)), .c (.raw (Value.func (Fn.func fn_impl_BWalk_1) (List.map AV.val []).toArray (List.map AV.val [AV.c (Cell.addr (n1, 0))]).toArray))] true [] fun r6 =>
  .load (n1, 0) (.sl) fun s7 =>
  .done .ret [.c (.sl (s7.fst) (s7.snd.fst) (s7.snd.snd))]
theorem den_impl_BWalk (a00p : Option PA) (a00l : Nat) (a00c : Nat) (a01 : Int) (a02 : Bool) (a1p : Option PA) (a1l : Nat) (a1c : Nat) : denFn Try.prog Try.f12 [.agg [.sl a00p a00l a00c, .int .i64 a01, .bool a02], .c (.sl a1p a1l a1c)] = M_impl_BWalk a00p a00l a00c a01 a02 a1p a1l a1c := by kernel_rfl
theorem hc_impl_BWalk (a00p : Option PA) (a00l : Nat) (a00c : Nat) (a01 : Int) (a02 : Bool) (a1p : Option PA) (a1l : Nat) (a1c : Nat) {h : H} {R : Value → H → Prop} (hw : wp Try.prog (M_impl_BWalk a00p a00l a00c a01 a02 a1p a1l a1c) (Ret R) h) : HC Try.prog fn_impl_BWalk (List.map AV.val [.agg [.sl a00p a00l a00c, .int .i64 a01, .bool a02], .c (.sl a1p a1l a1c)]).toArray h R :=
  den_calls hmix Try.func12 (of_decide_eq_true rfl) (by rw [den_impl_BWalk]; exact hw)
def M_BTree_WalkMut_1 (a0p : Option PA) (a0l : Nat) (a0c : Nat) (f0 : PA) : M :=
  .load f0 (.raw) fun v0 =>
  .callv (v0) [.c (.sl (a0p) (a0l) (a0c))] true [] fun r1 =>
  .done .ret [.c (.tt)]
theorem den_BTree_WalkMut_1 (a0p : Option PA) (a0l : Nat) (a0c : Nat) (f0 : PA) : denFn Try.prog Try.f64 [.c (.sl a0p a0l a0c), .c (.addr f0)] = M_BTree_WalkMut_1 a0p a0l a0c f0 := by kernel_rfl
theorem hc_BTree_WalkMut_1 (a0p : Option PA) (a0l : Nat) (a0c : Nat) (f0 : PA) {h : H} {R : Value → H → Prop} (hw : wp Try.prog (M_BTree_WalkMut_1 a0p a0l a0c f0) (Ret R) h) : HC Try.prog fn_BTree_WalkMut_1 (List.map AV.val [.c (.sl a0p a0l a0c), .c (.addr f0)]).toArray h R :=
  den_calls hmix Try.func64 (of_decide_eq_true rfl) (by rw [den_BTree_WalkMut_1]; exact hw)
def M_BTree_WalkMut (a0 : PA) (a1 : Value) : M :=
  .alloc ty_func_sl_interface [.raw (a1)] fun n0 =>
  .load (a0.fst, a0.snd) (.ptr) fun q1 =>
  .call fn_tb_WalkMut [.c (.ptr (q1)), .c (.raw (Value.func (Fn.func fn_BTree_WalkMut_1) (List.map AV.val []).toArray (List.map AV.val [AV.c (Cell.addr (n0, 0))]).toArray))] true [] fun r2 =>
  .done .ret []
theorem den_BTree_WalkMut (a0 : PA) (a1 : Value) : denFn Try.prog Try.f40 [.c (.addr a0), .c (.raw a1)] = M_BTree_WalkMut a0 a1 := by kernel_rfl
theorem hc_BTree_WalkMut (a0 : PA) (a1 : Value) {h : H} {R : Value → H → Prop} (hw : wp Try.prog (M_BTree_WalkMut a0 a1) (Ret R) h) : HC Try.prog fn_BTree_WalkMut (List.map AV.val [.c (.addr a0), .c (.raw a1)]).toArray h R :=
  den_calls hmix Try.func40 (of_decide_eq_true rfl) (by rw [den_BTree_WalkMut]; exact hw)
def M_impl_BWalkMut (a00p : Option PA) (a00l : Nat) (a00c : Nat) (a01 : Int) (a02 : Bool) (a1p : Option PA) (a1l : Nat) (a1c : Nat) : M :=
  .alloc ty_impl_Make [.sl (a00p) (a00l) (a00c), .int .i64 (a01), .bool (a02)] fun n0 =>
  .alloc ty_sl_sl_impl_Item [.sl none (0) (0)] fun n1 =>
  .load (n0, 0) (.sl) fun s2 =>
  .load (n0, 1) (.int .i64) fun i3 =>
  .load (n0, 2) (.bool) fun b4 =>
  .call fn_impl_growAny [.agg [.sl (s2.fst) (s2.snd.fst) (s2.snd.snd), .int .i64 (i3), .bool (b4)], .c (.sl (a1p) (a1l) (a1c))] false [.c (.ptr)] fun r5 =>
  .call fn_BTree_WalkMut [.c (.ptr (r5.fst)), .c (.raw (Value.func (Fn.func fn_impl_BWalkMut_1) (List.map AV.val []).toArray (List.map AV.val [AV.c (Cell.addr (n1, 0))]).toArray))] true [] fun r6 =>
  .load (n1, 0) (.sl) fun s7 =>
  .done .ret [.c (.sl (s7.fst) (s7.snd.fst) (s7.snd.snd))]
theorem den_impl_BWalkMut (a00p : Option PA) (a00l : Nat) (a00c : Nat) (a01 : Int) (a02 : Bool) (a1p : Option PA) (a1l : Nat) (a1c : Nat) : denFn Try.prog Try.f19 [.agg [.sl a00p a00l a00c, .int .i64 a01, .bool a02], .c (.sl a1p a1l a1c)] = M_impl_BWalkMut a00p a00l a00c a01 a02 a1p a1l a1c := by kernel_rfl
theorem hc_impl_BWalkMut (a00p : Option PA) (a00l : Nat) (a00c : Nat) (a01 : Int) (a02 : Bool) (a1p : Option PA) (a1l : Nat) (a1c : Nat) {h : H} {R : Value → H → Prop} (hw : wp Try.prog (M_impl_BWalkMut a00p a00l a00c a01 a02 a1p a1l a1c) (Ret R) h) : HC Try.prog fn_impl_BWalkMut (List.map AV.val [.agg [.sl a00p a00l a00c, .int .i64 a01, .bool a02], .c (.sl a1p a1l a1c)]).toArray h R :=
  den_calls hmix Try.func19 (of_decide_eq_true rfl) (by rw [den_impl_BWalkMut]; exact hw)
end Go.Proofs.Ytlmiafbcgfegpaa
namespace Go.Proofs.Ytlmiafbcgfegpaa.TB
open Go Go.Proofs.Ytlmiafbcgfegpaa
section
variable {ls : Value} {oc : Ck} {o : List Int} {hp : Option PA} {h : H}
def wkT : TS → List (List KV)
  | none => []
  | some t => wkB t.1 t.2
theorem c_walk {a0 : PA} {iso : Int} {dg N : Nat} {T : TS} {m : Bool} {f : Value} {K : List (List KV) → Ck} (hcb : CbW f K N) (hl : (flatT T).length ≤ N) {G : PA → Prop} (hG : Star [K [], MxC ls o iso dg a0 T] h G) :
    HT Try.prog fn_tb_walk [.c (.addr a0), .c (.raw f), .c (.bool m)] true [] h fun x h' => ∃ post, ((wkT T).flatten = flatT T ∧ (∀ xs ∈ wkT T, xs ≠ []) ∧ post = [K (wkT T), MxC ls o iso dg a0 T]) ∧ St h G post h' := by
  apply hc_tb_walk
  unfold M_tb_walk
  (refine w_callT c_lock ?_; rintro _ hk ⟨rfl, rfl⟩; refine w_bnd (w_false rfl (bd_n rfl ?_)))
  have S := (St.start hG).pull1
  rcases open_mx S with ⟨ctr, mn, mx, rfl, hg, S⟩ | ⟨ctr, n, b, t, rfl, hs, hv, hi, hg, S⟩
  · repeat (first | refine ld_nilI S rfl ?_ | refine ld_any S rfl ?_ | refine st_itN S (by first | omega | (dsimp only; omega)) fun _ S => ?_ | refine st_itO S (by first | omega | (dsimp only; omega)) fun _ S => ?_ | refine w_nonnil ?_ | refine ld_it S (by assumption) ?_ | refine ld_it0 S (by assumption) ?_ | refine ld_val S (by assumption) ?_ | refine ld_key S (by assumption) ?_ | refine ld_int S rfl ?_ | refine w_int _ (S.cnt _) ?_ | refine ld_kid S (by assumption) ?_ | refine ld_kid0 S (by assumption) ?_ | refine ld_some S rfl ?_ | refine ld_ptr S _ rfl ?_ | refine ld_sls S rfl ?_ | refine ld_nil S rfl ?_ | refine ld_bool S rfl ?_ | refine st_it S (by first | omega | (dsimp only; omega)) fun _ S => ?_ | refine st_it0 S (by first | omega | (dsimp only; omega)) fun _ S => ?_ | refine st_kid S (by first | omega | (dsimp only; omega)) none rfl fun _ S => ?_ | refine st_kid S (by first | omega | (dsimp only; omega)) (some _) rfl fun _ S => ?_ | refine st_kid0 S (by first | omega | (dsimp only; omega)) (some _) rfl fun _ S => ?_ | refine st_store S (lt_ble rfl) fun _ S => ?_ | refine st_alloc S fun _ _ S => ?_ | refine st_held S rfl ?_ | refine w_guard (by (first | exact inK64 (by omega) (by omega) | omega | (constructor <;> omega) | ((try dsimp only [Sh.T, Sh1.T]); first | exact inK64 (by omega) (by omega) | omega | exact ⟨by decide, inK64 (by omega) (by omega)⟩ | trivial))) ?_ | refine bd_n rfl ?_ | refine bd_e rfl ?_ | refine bd_r ?_ | refine bd_p ?_ | refine ln_r ?_ | refine ln_e ?_ | refine w_true (b := true) rfl ?_ | refine w_false (b := false) rfl ?_ | refine w_guard (show noMeths _ _ by show _ = _; kernel_rfl) ?_ | (refine w_callT (c_leafp (kp := none) (S.rd rfl)) ?_; rintro _ _ ⟨rfl, rfl⟩) | (refine w_callT (c_leafp (kp := some _) (S.rd rfl)) ?_; rintro _ _ ⟨rfl, rfl⟩) | (refine w_callT (c_leafp (S.rd rfl)) ?_; rintro _ _ ⟨rfl, rfl⟩) | (refine w_callT (c_leaf (kp := none) (S.rd rfl)) ?_; rintro _ _ ⟨rfl, rfl⟩) | (refine w_callT (c_leaf (kp := some _) (S.rd rfl)) ?_; rintro _ _ ⟨rfl, rfl⟩))
    exact rt_n rfl rfl ⟨_, ⟨rfl, (fun xs hx => by cases hx), rfl⟩, (shut_mx0 S hg).ats [.ck (K []), .mp a0]⟩
  · repeat (first | refine ld_nilI S rfl ?_ | refine ld_any S rfl ?_ | refine st_itN S (by first | omega | (dsimp only; omega)) fun _ S => ?_ | refine st_itO S (by first | omega | (dsimp only; omega)) fun _ S => ?_ | refine w_nonnil ?_ | refine ld_it S (by assumption) ?_ | refine ld_it0 S (by assumption) ?_ | refine ld_val S (by assumption) ?_ | refine ld_key S (by assumption) ?_ | refine ld_int S rfl ?_ | refine w_int _ (S.cnt _) ?_ | refine ld_kid S (by assumption) ?_ | refine ld_kid0 S (by assumption) ?_ | refine ld_some S rfl ?_ | refine ld_ptr S _ rfl ?_ | refine ld_sls S rfl ?_ | refine ld_nil S rfl ?_ | refine ld_bool S rfl ?_ | refine st_it S (by first | omega | (dsimp only; omega)) fun _ S => ?_ | refine st_it0 S (by first | omega | (dsimp only; omega)) fun _ S => ?_ | refine st_kid S (by first | omega | (dsimp only; omega)) none rfl fun _ S => ?_ | refine st_kid S (by first | omega | (dsimp only; omega)) (some _) rfl fun _ S => ?_ | refine st_kid0 S (by first | omega | (dsimp only; omega)) (some _) rfl fun _ S => ?_ | refine st_store S (lt_ble rfl) fun _ S => ?_ | refine st_alloc S fun _ _ S => ?_ | refine st_held S rfl ?_ | refine w_guard (by (first | exact inK64 (by omega) (by omega) | omega | (constructor <;> omega) | ((try dsimp only [Sh.T, Sh1.T]); first | exact inK64 (by omega) (by omega) | omega | exact ⟨by decide, inK64 (by omega) (by omega)⟩ | trivial))) ?_ | refine bd_n rfl ?_ | refine bd_e rfl ?_ | refine bd_r ?_ | refine bd_p ?_ | refine ln_r ?_ | refine ln_e ?_ | refine w_true (b := true) rfl ?_ | refine w_false (b := false) rfl ?_ | refine w_guard (show noMeths _ _ by show _ = _; kernel_rfl) ?_ | (refine w_callT (c_leafp (kp := none) (S.rd rfl)) ?_; rintro _ _ ⟨rfl, rfl⟩) | (refine w_callT (c_leafp (kp := some _) (S.rd rfl)) ?_; rintro _ _ ⟨rfl, rfl⟩) | (refine w_callT (c_leafp (S.rd rfl)) ?_; rintro _ _ ⟨rfl, rfl⟩) | (refine w_callT (c_leaf (kp := none) (S.rd rfl)) ?_; rintro _ _ ⟨rfl, rfl⟩) | (refine w_callT (c_leaf (kp := some _) (S.rd rfl)) ?_; rintro _ _ ⟨rfl, rfl⟩))
    obtain ⟨_, hmn, hmb⟩ := hg
    refine st_callB S [.ck (K [])] (fun G' hG' hb => c_nodeWalk hcb (by omega) n (hb _ (.tail _ (.head _))) (Bes.cell (j := 0) (hb _ (.head _)) rfl) (S.rd rfl) hv (by have := wk_len hmn n t hv hi; simpa using Nat.le_trans this hl) hG') ?_
    rintro _ _ h3 ⟨rfl, rfl⟩ S
    dsimp only [List.cons_append, List.nil_append] at S
    exact rt_n rfl rfl ⟨_, ⟨wk_flat n t, wk_ne hmn n t hv hi, rfl⟩, (shut_mx (S.ats [.ow a0, .tr b]) rfl rfl hs hv hi ⟨rfl, hmn, hmb⟩).ats [.ck (K (wkB n t)), .mp a0]⟩
end
end Go.Proofs.Ytlmiafbcgfegpaa.TB
namespace Go.Proofs.Ytlmiafbcgfegpaa
open Go
def LiL : List SlT → List (List IV) → List Ck
  | s :: ss, xs :: xss => SlC s LT.sz (LT.flat xs) :: LiL ss xss
  | _, _ => []
theorem LiL_snoc : ∀ (ss : List SlT) (xss : List (List IV)) (s : SlT) (xs : List IV), ss.length = xss.length → LiL (ss ++ [s]) (xss ++ [xs]) = LiL ss xss ++ [SlC s LT.sz (LT.flat xs)]
  | [], [], _, _, _ => rfl
  | [], _ :: _, _, _, h => by cases h
  | _ :: _, [], _, _, h => by cases h
  | s :: ss, xs :: xss, s', xs', h => by
    show _ :: LiL (ss ++ [s']) (xss ++ [xs']) = _
    rw [LiL_snoc ss xss s' xs' (by simpa using h)]; rfl
def HdOK (ss : List SlT) (xss : List (List IV)) : Prop := ss.length = xss.length ∧ ∀ (i : Nat) (s : SlT) (xs : List IV), ss[i]? = some s → xss[i]? = some xs → OwnL LT s xs
theorem HdOK.snoc {ss : List SlT} {xss : List (List IV)} {s : SlT} {xs : List IV} (h : HdOK ss xss) (hs : OwnL LT s xs) : HdOK (ss ++ [s]) (xss ++ [xs]) := by
  refine ⟨by simp [h.1], fun i a bs ha has => ?_⟩
  by_cases hi : i < ss.length
  · rw [List.getElem?_append_left hi] at ha
    rw [List.getElem?_append_left (by rw [← h.1]; exact hi)] at has
    exact h.2 i a bs ha has
  · rw [List.getElem?_append_right (by omega)] at ha
    rw [List.getElem?_append_right (by rw [← h.1]; omega), ← h.1] at has
    have hz : i - ss.length = 0 := by
      have := (List.getElem?_eq_some_iff.1 ha).1
      simp at this; omega
    rw [hz] at ha has
    simp at ha has
    rw [← ha, ← has]; exact hs
def WkC (o : PA) (acc : List (List IV)) : Ck := ExC (fun x : SlT × List SlT => OwnL LS x.1 x.2 ∧ HdOK x.2 acc) fun x => StC [Ow o [.slice (x.1.1.map PA.val) x.1.2.1 x.1.2.2] 0, SlC x.1 LS.sz (LS.flat x.2), StC (LiL x.2 acc)]
section
variable {h h0 : H} {G0 : PA → Prop} {l : List Ck}
theorem open_wk {o : PA} {acc : List (List IV)} (s : St h0 G0 (WkC o acc :: l) h) : ∃ (t : SlT) (ss : List SlT), OwnL LS t ss ∧ HdOK ss acc ∧ St h0 G0 (Ow o [.slice (t.1.map PA.val) t.2.1 t.2.2] 0 :: SlC t LS.sz (LS.flat ss) :: StC (LiL ss acc) :: l) h := by
  obtain ⟨⟨t, ss⟩, ⟨h1, h2⟩, S⟩ := s.ex_out
  exact ⟨t, ss, h1, h2, St.st_out (m := [_, _, _]) S⟩
theorem shut_wk {o : PA} {acc : List (List IV)} {t : SlT} {ss : List SlT} (h1 : OwnL LS t ss) (h2 : HdOK ss acc) (s : St h0 G0 (Ow o [.slice (t.1.map PA.val) t.2.1 t.2.2] 0 :: SlC t LS.sz (LS.flat ss) :: StC (LiL ss acc) :: l) h) : St h0 G0 (WkC o acc :: l) h :=
  St.ex_in (φ := fun x : SlT × List SlT => OwnL LS x.1 x.2 ∧ HdOK x.2 acc) (f := fun x => StC [Ow o [.slice (x.1.1.map PA.val) x.1.2.1 x.1.2.2] 0, SlC x.1 LS.sz (LS.flat x.2), StC (LiL x.2 acc)]) (t, ss) ⟨h1, h2⟩ (St.st_in (m := [_, _, _]) s)
end
section
variable {h : H}
set_option maxHeartbeats 1000000 in
theorem c_itemsOf {p : PA} {cap : Nat} {xs : List IV} (hxl : xs.length ≤ 255) {G : PA → Prop} (hb : Bes (RsC p (TB.L.flat xs)) h G) (hG : Star [] h G) :
    HT Try.prog fn_impl_itemsOf [.c (.sl (some p) xs.length cap)] false [.c .sl] h fun r h' => ∃ post, (∃ s : SlT, r = (s, ()) ∧ OwnL LT s xs ∧ post = [SlC s LT.sz (LT.flat xs)]) ∧ St h G post h' := by
  apply hc_impl_itemsOf
  unfold M_impl_itemsOf
  have S := sl_nil LT (St.start hG)
  refine w_mid' (some 0) (fun (y : SV [.c .sl]) h' => ∃ s : SlT, y = (s, ()) ∧ OwnL LT s xs ∧ St h G [SlC s LT.sz (LT.flat xs)] h') ?_ (fun _ _ ⟨s, e, g1, g2⟩ => by subst e; exact rt_1 rfl ⟨_, ⟨s, rfl, g1, rfl⟩, g2⟩)
  refine w_lp (fun r y h' => ∃ (i : Nat) (s : SlT), y = ((i : Int), s, ()) ∧ i + r = xs.length ∧ OwnL LT s (xs.take i) ∧ St h G [SlC s LT.sz (LT.flat (xs.take i))] h') xs.length rfl ⟨0, (none, 0, 0), rfl, by omega, ⟨rfl, Nat.le_refl _, .inl rfl⟩, S⟩ ?_
  clear S
  rintro r _ _ ⟨i, s, rfl, hi, hs, S⟩
  by_cases hlt : i < xs.length
  · have hxi := List.getElem?_eq_getElem hlt
    have hsl : (xs.take i).length = i := by rw [List.length_take]; omega
    obtain ⟨s1, s2, s3⟩ := s
    simp only [Int.toNat_natCast, toNat_succ, toNat_succ2, toNat_pred]
    refine w_true (lt_t (by (first | omega | ((try dsimp only [Sh.T, Sh1.T]); omega)))) (w_nonnil (w_guard ⟨by (first | omega | ((try dsimp only [Sh.T, Sh1.T]); omega)), by (first | omega | ((try dsimp only [Sh.T, Sh1.T]); omega))⟩ ?_))
    refine TB.w_it (hb.now S).rds hxi (w_guard rfl ?_)
    refine st_alloc S fun n3 _ S => ?_
    refine st_apo (L := LT) (xs := xs.take i) (y := xs[i]) S hs rfl rfl (S.rsl (LT.flat [xs[i]]) 1 1 2 (fun i v h => by rw [Nat.zero_add]; exact h) rfl) ⟨by omega, by omega⟩ fun s' _ hs' S => ?_
    rw [← take_snoc hlt] at hs' S
    refine w_guard (inK64 (by (first | omega | ((try dsimp only [Sh.T, Sh1.T]); omega))) (by (first | omega | ((try dsimp only [Sh.T, Sh1.T]); omega)))) ?_
    exact ln_n rfl (r - 1) ⟨i + 1, s', rfl, by omega, hs', S.only [.sl s']⟩ (by omega)
  · rw [List.take_of_length_le (by omega)] at hs S
    exact w_false (lt_f (by (first | omega | ((try dsimp only [Sh.T, Sh1.T]); omega)))) (ln_e (md_e rfl ⟨s, rfl, hs, S⟩))
end
end Go.Proofs.Ytlmiafbcgfegpaa
namespace Go.Proofs.Ytlmiafbcgfegpaa
open Go
def CbV (f : Value) (K : List (List IV) → Ck) (N : Nat) : Prop :=
  ∀ (h : H) (G : PA → Prop) (acc : List (List IV)) (p : PA) (cap : Nat) (xs : List IV), acc.length < N → xs.length ≤ 255 → xs.length ≤ cap → Bes (RsC p (TB.L.flat xs)) h G → Star [K acc] h G →
    callOf Try.prog f (List.map AV.val [.c (.sl (some p) xs.length cap)]).toArray h (TR true [] fun _ h' => St h G [K (acc ++ [xs])] h')
section
variable {Q : Ex → List AV → H → Prop} {h h0 : H} {G0 : PA → Prop}
theorem st_cbV {f : Value} {K : List (List IV) → Ck} {N : Nat} {acc : List (List IV)} {r : List Ck} (s : St h0 G0 (K acc :: r) h) (hcb : CbV f K N) {p : PA} {cap : Nat} {xs : List IV} (hb : Bes (RsC p (TB.L.flat xs)) h (fun x => G0 x ∨ h0.size ≤ x.1)) (hl : acc.length < N) (hx : xs.length ≤ 255) (hc : xs.length ≤ cap) {args : List AV} (ha : args.map AV.val = List.map AV.val [.c (.sl (some p) xs.length cap)]) {k : SV [] → M}
    (hw : ∀ h', St h0 G0 (K (acc ++ [xs]) :: r) h' → wp Try.prog (k ()) Q h') : wp Try.prog (.callv f args true [] k) Q h := by
  obtain ⟨⟨G, h1, h2⟩, h3⟩ := s
  obtain ⟨A, B, a1, a2, a3, a4⟩ := Star.split (l := [K acc]) (m := r) h1
  have hcc := hcb h A acc p cap xs hl hx hc (hb.sub fun x hx => h2 x ((a4 x).2 (.inl hx))) a1
  rw [← ha] at hcc
  refine w_callOf hcc fun v h' ⟨y, e, hS⟩ => ?_
  refine ⟨(), e, hw h' ?_⟩
  obtain ⟨⟨C, c1, c2⟩, c3⟩ := hS
  have hB := a2.lt
  refine ⟨⟨un C B, Star.append c1 (a2.out c3 a3.symm) (fun x hC hx => (c2 x hC).elim (fun hA => a3 x hA hx) (fun hs => Nat.not_le_of_lt (hB x hx) hs)), fun x hx => ?_⟩,
    h3.then c3 fun x hx hA => (h2 x ((a4 x).2 (.inl hA))).elim id (fun hs => absurd hx (Nat.not_lt_of_le hs))⟩
  rcases hx with hC | hB'
  · rcases c2 x hC with hA | hs
    · exact h2 x ((a4 x).2 (.inl hA))
    · exact .inr (Nat.le_trans h3.size hs)
  · exact h2 x ((a4 x).2 (.inr hB'))
end
theorem LiL_in {h h0 : H} {G0 : PA → Prop} {r : List Ck} {ss : List SlT} {xss : List (List IV)} {s : SlT} {xs : List IV} (S : St h0 G0 (StC (LiL ss xss) :: SlC s LT.sz (LT.flat xs) :: r) h) (hl : ss.length = xss.length) : St h0 G0 (StC (LiL (ss ++ [s]) (xss ++ [xs])) :: r) h := by
  rw [LiL_snoc _ _ _ _ hl]
  refine St.st_in ?_
  have S := St.st_out S
  rw [List.append_assoc]; exact S
def bwF (o : PA) : Value := .func (.func fn_impl_BWalk_1) #[] #[.pointer (some o.val)]
def bmF (o : PA) : Value := .func (.func fn_impl_BWalkMut_1) #[] #[.pointer (some o.val)]
set_option maxHeartbeats 1000000 in
theorem cb_bw {o : PA} : CbV (bwF o) (WkC o) 4294967296 := by
  intro h G acc p cap xs hl hx hc hb hG
  refine ⟨by kernel_rfl, ?_⟩
  have e : (#[] ++ (List.map AV.val [.c (.sl (some p) xs.length cap)]).toArray ++ #[.pointer (some o.val)] : Array Value) = (List.map AV.val [.c (.sl (some p) xs.length cap), .c (.addr o)]).toArray := by simp; rfl
  rw [e]
  apply hc_impl_BWalk_1
  unfold M_impl_BWalk_1
  obtain ⟨t, ss, ht, hd, S⟩ := open_wk (St.start hG)
  have hsl := hd.1
  refine ld_sl S t.1 t.2.1 t.2.2 rfl ?_
  refine st_callF S [] (fun G' hG' hsub => c_itemsOf hx (hb.step S hsub) hG') ?_
  rintro _ _ _ ⟨s, rfl, hs, rfl⟩ S
  dsimp only [List.cons_append, List.nil_append] at S
  refine st_held S rfl ?_
  refine st_alloc S fun n2 _ S => ?_
  refine st_held S rfl ?_
  have S := S.at (.sl t)
  refine st_apo (L := LS) (xs := ss) (y := s) S ht rfl rfl (S.rsl (LS.flat [s]) 1 1 1 (fun i v h => by rw [Nat.zero_add]; exact h) rfl) ⟨by omega, by omega⟩ fun t' _ ht' S => ?_
  refine st_store S (lt_ble rfl) fun _ S => ?_
  have S := LiL_in (S.ats [.ck (StC (LiL ss acc)), .sl s]) hsl
  have S := S.ats [.ow o, .sl t', .ck (StC (LiL (ss ++ [s]) (acc ++ [xs])))]
  exact rt_n rfl rfl ((shut_wk ht' (hd.snoc hs) S).only [.ck (WkC o (acc ++ [xs]))])
set_option maxHeartbeats 1000000 in
theorem cb_bm {o : PA} : CbV (bmF o) (WkC o) 4294967296 := by
  intro h G acc p cap xs hl hx hc hb hG
  refine ⟨by kernel_rfl, ?_⟩
  have e : (#[] ++ (List.map AV.val [.c (.sl (some p) xs.length cap)]).toArray ++ #[.pointer (some o.val)] : Array Value) = (List.map AV.val [.c (.sl (some p) xs.length cap), .c (.addr o)]).toArray := by simp; rfl
  rw [e]
  apply hc_impl_BWalkMut_1
  unfold M_impl_BWalkMut_1
  obtain ⟨t, ss, ht, hd, S⟩ := open_wk (St.start hG)
  have hsl := hd.1
  refine ld_sl S t.1 t.2.1 t.2.2 rfl ?_
  refine st_callF S [] (fun G' hG' hsub => c_itemsOf hx (hb.step S hsub) hG') ?_
  rintro _ _ _ ⟨s, rfl, hs, rfl⟩ S
  dsimp only [List.cons_append, List.nil_append] at S
  refine st_held S rfl ?_
  refine st_alloc S fun n2 _ S => ?_
  refine st_held S rfl ?_
  have S := S.at (.sl t)
  refine st_apo (L := LS) (xs := ss) (y := s) S ht rfl rfl (S.rsl (LS.flat [s]) 1 1 1 (fun i v h => by rw [Nat.zero_add]; exact h) rfl) ⟨by omega, by omega⟩ fun t' _ ht' S => ?_
  refine st_store S (lt_ble rfl) fun _ S => ?_
  have S := LiL_in (S.ats [.ck (StC (LiL ss acc)), .sl s]) hsl
  have S := S.ats [.ow o, .sl t', .ck (StC (LiL (ss ++ [s]) (acc ++ [xs])))]
  exact rt_n rfl rfl ((shut_wk ht' (hd.snoc hs) S).only [.ck (WkC o (acc ++ [xs]))])
end Go.Proofs.Ytlmiafbcgfegpaa
namespace Go.Proofs.Ytlmiafbcgfegpaa
open Go
def walkT (o : List Int) (d : Int) (xs : List IV) : List (List IV) := TB.wkT (growT o (TB.dgOf d) xs)
def btF (n : PA) : Value := .func (.func fn_BTree_Walk_1) #[] #[.pointer (some n.val)]
def btC (n o : PA) (acc : List (List IV)) : Ck := StC [Ow n [bwF o] 0, WkC o acc]
theorem cb_bt {n o : PA} : TB.CbW (btF n) (btC n o) 4294967296 := by
  intro h G acc p cap xs hl hx hc hb hG
  refine ⟨by kernel_rfl, ?_⟩
  have e : (#[] ++ (List.map AV.val [.c (.sl (some p) xs.length cap)]).toArray ++ #[.pointer (some n.val)] : Array Value) = (List.map AV.val [.c (.sl (some p) xs.length cap), .c (.addr n)]).toArray := by simp; rfl
  rw [e]
  apply hc_BTree_Walk_1
  unfold M_BTree_Walk_1
  have S := St.st_out (St.start hG)
  dsimp only [List.cons_append, List.nil_append] at S
  refine ld_raw S (bwF o) rfl ?_
  refine st_cbV S.pull1 cb_bw (hb.all S) hl hx hc rfl fun _ S => ?_
  have S := S.pull1
  exact rt_1 rfl ⟨rfl, St.st_in (m := [Ow n [bwF o] 0, WkC o (acc ++ [xs])]) (l := []) S⟩
theorem c_TWalk {h : H} {ls : Value} {o : List Int} {dg N : Nat} {a : PA} {iso : Int} {T : TB.TS} {f : Value} {K : List (List IV) → Ck} (hcb : TB.CbW f K N) (hl : (TB.flatT T).length ≤ N) {G : PA → Prop} (hG : Star [K [], TB.MxC ls o iso dg a T] h G) :
    HT Try.prog fn_tb_Walk [.c (.addr a), .c (.raw f)] true [] h fun _ h' => ∃ post, ((TB.wkT T).flatten = TB.flatT T ∧ (∀ xs ∈ TB.wkT T, xs ≠ []) ∧ post = [K (TB.wkT T), TB.MxC ls o iso dg a T]) ∧ St h G post h' := by
  apply hc_tb_Walk
  unfold M_tb_Walk
  refine st_callV (St.start hG) [.ck (K []), .mp a] (args' := [.c (.addr a), .c (.raw f), .c (.bool false)]) rfl (fun G hG => TB.c_walk hcb hl hG) ?_
  rintro _ _ _ ⟨h1, h2, rfl⟩ S
  dsimp only [List.cons_append, List.nil_append] at S
  exact rt_n rfl rfl ⟨_, ⟨h1, h2, rfl⟩, S⟩
theorem c_BWalk {h : H} {ls : Value} {o : List Int} {dg : Nat} {a oo : PA} {T : TB.TS} (hl : (TB.flatT T).length ≤ 4294967296) {G : PA → Prop} (hG : Star [WkC oo [], BxC ls o dg a T] h G) :
    HT Try.prog fn_BTree_Walk [.c (.addr a), .c (.raw (bwF oo))] true [] h fun _ h' => ∃ post, ((TB.wkT T).flatten = TB.flatT T ∧ (∀ xs ∈ TB.wkT T, xs ≠ []) ∧ post = [WkC oo (TB.wkT T), BxC ls o dg a T]) ∧ St h G post h' := by
  apply hc_BTree_Walk
  unfold M_BTree_Walk
  obtain ⟨m, S⟩ := open_bx ((St.start hG).at (.mp a))
  refine st_alloc S fun n0 _ S => ?_
  refine ld_some S rfl ?_
  have S := S.ats [.ow (n0, 0), .ck (WkC oo [])]
  have S : St h G (btC (n0, 0) oo [] :: _) _ := St.st_in (m := [Ow (n0, 0) [bwF oo] 0, WkC oo []]) S
  refine st_callV S [.ck (btC (n0, 0) oo []), .mp (m, 0)] (args' := [.c (.addr (m, 0)), .c (.raw (btF (n0, 0)))]) rfl (fun G hG => c_TWalk (cb_bt (o := oo)) hl hG) ?_
  rintro _ _ _ ⟨h1, h2, rfl⟩ S
  dsimp only [List.cons_append, List.nil_append] at S
  have S := St.st_out (m := [Ow (n0, 0) [bwF oo] 0, WkC oo (TB.wkT T)]) S
  dsimp only [List.cons_append, List.nil_append] at S
  exact rt_n rfl rfl ⟨_, ⟨h1, h2, rfl⟩, (shut_bx (S.ats [.ow a, .mp (m, 0)])).only [.ck (WkC oo (TB.wkT T)), .mp a]⟩
section
variable {h : H}
set_option maxHeartbeats 1000000 in
theorem c_BWalkI {c : Ck} {o : List Int} {op : Option PA} {on oc : Nat} (hr : Rdr c (op, on, oc) LN o) (hl : o.length ≤ 2147483647) {d : Int} {nl : Bool} (hd : d ≤ 128) {xs : List IV} {sp : Option PA} {n cap : Nat} (hx : Rdr c (sp, n, cap) LT xs) (hxl : xs.length ≤ 2147483647) {G : PA → Prop} (hG : Star [c] h G) :
    HT Try.prog fn_impl_BWalk [.agg [.sl op on oc, .int .i64 d, .bool nl], .c (.sl sp n cap)] false [.c .sl] h fun r h' => ∃ post, (∃ (t : SlT) (ss : List SlT), r = (t, ()) ∧ (walkT o d xs).flatten = treeO o xs ∧ (∀ zs ∈ walkT o d xs, zs ≠ []) ∧ OwnL LS t ss ∧ HdOK ss (walkT o d xs) ∧ post = [c, SlC t LS.sz (LS.flat ss), StC (LiL ss (walkT o d xs))]) ∧ St h G post h' := by
  apply hc_impl_BWalk
  unfold M_impl_BWalk
  have htl := treeO_len o xs
  refine st_alloc (St.start hG) fun n0 _ S => ?_
  refine st_alloc S fun n1 _ S => ?_
  (refine ld_sl S op on oc rfl (ld_int S rfl (ld_bool S rfl ?_)))
  (refine st_callT S [.ck c] (fun G hG => c_growAnyX hr hl hd hx hxl hG) ?_; rintro _ _ _ ⟨m, p, f, hfl, rfl, rfl⟩ S; dsimp only [List.cons_append, List.nil_append] at S)
  have S : St h G (StC (LiL [] []) :: _) _ := St.st_in (m := []) S
  have S := (sl_nil LS S).ats [.ow (n1, 0), .sl (none, 0, 0), .ck (StC (LiL [] []))]
  have S := shut_wk (o := (n1, 0)) (acc := []) (t := (none, 0, 0)) (ss := []) ⟨rfl, Nat.le_refl _, .inl rfl⟩ ⟨rfl, fun i s xs h _ => by simp at h⟩ S
  refine st_callV S [.ck (WkC (n1, 0) []), .mp (m, 0)] (args' := [.c (.addr (m, 0)), .c (.raw (bwF (n1, 0)))]) rfl (fun G hG => c_BWalk (by rw [hfl]; omega) hG) ?_
  rintro _ _ _ ⟨h1, h2, rfl⟩ S
  dsimp only [List.cons_append, List.nil_append] at S
  obtain ⟨t, ss, ht, hd2, S⟩ := open_wk S
  refine ld_sl S t.1 t.2.1 t.2.2 rfl ?_
  have hW : TB.wkT (growT o (TB.dgOf d) xs) = walkT o d xs := rfl
  rw [hW] at h1 h2 hd2 S
  exact rt_1 rfl ⟨_, ⟨t, ss, rfl, h1.trans hfl, h2, ht, hd2, rfl⟩, S.only [.ck c, .sl t, .ck (StC (LiL ss (walkT o d xs)))]⟩
end
def buF (n : PA) : Value := .func (.func fn_BTree_WalkMut_1) #[] #[.pointer (some n.val)]
def buC (n o : PA) (acc : List (List IV)) : Ck := StC [Ow n [bmF o] 0, WkC o acc]
theorem cb_bu {n o : PA} : TB.CbW (buF n) (buC n o) 4294967296 := by
  intro h G acc p cap xs hl hx hc hb hG
  refine ⟨by kernel_rfl, ?_⟩
  have e : (#[] ++ (List.map AV.val [.c (.sl (some p) xs.length cap)]).toArray ++ #[.pointer (some n.val)] : Array Value) = (List.map AV.val [.c (.sl (some p) xs.length cap), .c (.addr n)]).toArray := by simp; rfl
  rw [e]
  apply hc_BTree_WalkMut_1
  unfold M_BTree_WalkMut_1
  have S := St.st_out (St.start hG)
  dsimp only [List.cons_append, List.nil_append] at S
  refine ld_raw S (bmF o) rfl ?_
  refine st_cbV S.pull1 cb_bm (hb.all S) hl hx hc rfl fun _ S => ?_
  have S := S.pull1
  exact rt_1 rfl ⟨rfl, St.st_in (m := [Ow n [bmF o] 0, WkC o (acc ++ [xs])]) (l := []) S⟩
theorem c_TWalkMut {h : H} {ls : Value} {o : List Int} {dg N : Nat} {a : PA} {iso : Int} {T : TB.TS} {f : Value} {K : List (List IV) → Ck} (hcb : TB.CbW f K N) (hl : (TB.flatT T).length ≤ N) {G : PA → Prop} (hG : Star [K [], TB.MxC ls o iso dg a T] h G) :
    HT Try.prog fn_tb_WalkMut [.c (.addr a), .c (.raw f)] true [] h fun _ h' => ∃ post, ((TB.wkT T).flatten = TB.flatT T ∧ (∀ xs ∈ TB.wkT T, xs ≠ []) ∧ post = [K (TB.wkT T), TB.MxC ls o iso dg a T]) ∧ St h G post h' := by
  apply hc_tb_WalkMut
  unfold M_tb_WalkMut
  refine st_callV (St.start hG) [.ck (K []), .mp a] (args' := [.c (.addr a), .c (.raw f), .c (.bool true)]) rfl (fun G hG => TB.c_walk hcb hl hG) ?_
  rintro _ _ _ ⟨h1, h2, rfl⟩ S
  dsimp only [List.cons_append, List.nil_append] at S
  exact rt_n rfl rfl ⟨_, ⟨h1, h2, rfl⟩, S⟩
theorem c_BWalkMut {h : H} {ls : Value} {o : List Int} {dg : Nat} {a oo : PA} {T : TB.TS} (hl : (TB.flatT T).length ≤ 4294967296) {G : PA → Prop} (hG : Star [WkC oo [], BxC ls o dg a T] h G) :
    HT Try.prog fn_BTree_WalkMut [.c (.addr a), .c (.raw (bmF oo))] true [] h fun _ h' => ∃ post, ((TB.wkT T).flatten = TB.flatT T ∧ (∀ xs ∈ TB.wkT T, xs ≠ []) ∧ post = [WkC oo (TB.wkT T), BxC ls o dg a T]) ∧ St h G post h' := by
  apply hc_BTree_WalkMut
  unfold M_BTree_WalkMut
  obtain ⟨m, S⟩ := open_bx ((St.start hG).at (.mp a))
  refine st_alloc S fun n0 _ S => ?_
  refine ld_some S rfl ?_
  have S := S.ats [.ow (n0, 0), .ck (WkC oo [])]
  have S : St h G (buC (n0, 0) oo [] :: _) _ := St.st_in (m := [Ow (n0, 0) [bmF oo] 0, WkC oo []]) S
  refine st_callV S [.ck (buC (n0, 0) oo []), .mp (m, 0)] (args' := [.c (.addr (m, 0)), .c (.raw (buF (n0, 0)))]) rfl (fun G hG => c_TWalkMut (cb_bu (o := oo)) hl hG) ?_
  rintro _ _ _ ⟨h1, h2, rfl⟩ S
  dsimp only [List.cons_append, List.nil_append] at S
  have S := St.st_out (m := [Ow (n0, 0) [bmF oo] 0, WkC oo (TB.wkT T)]) S
  dsimp only [List.cons_append, List.nil_append] at S
  exact rt_n rfl rfl ⟨_, ⟨h1, h2, rfl⟩, (shut_bx (S.ats [.ow a, .mp (m, 0)])).only [.ck (WkC oo (TB.wkT T)), .mp a]⟩
section
variable {h : H}
set_option maxHeartbeats 1000000 in
theorem c_BWalkMutI {c : Ck} {o : List Int} {op : Option PA} {on oc : Nat} (hr : Rdr c (op, on, oc) LN o) (hl : o.length ≤ 2147483647) {d : Int} {nl : Bool} (hd : d ≤ 128) {xs : List IV} {sp : Option PA} {n cap : Nat} (hx : Rdr c (sp, n, cap) LT xs) (hxl : xs.length ≤ 2147483647) {G : PA → Prop} (hG : Star [c] h G) :
    HT Try.prog fn_impl_BWalkMut [.agg [.sl op on oc, .int .i64 d, .bool nl], .c (.sl sp n cap)] false [.c .sl] h fun r h' => ∃ post, (∃ (t : SlT) (ss : List SlT), r = (t, ()) ∧ (walkT o d xs).flatten = treeO o xs ∧ (∀ zs ∈ walkT o d xs, zs ≠ []) ∧ OwnL LS t ss ∧ HdOK ss (walkT o d xs) ∧ post = [c, SlC t LS.sz (LS.flat ss), StC (LiL ss (walkT o d xs))]) ∧ St h G post h' := by
  apply hc_impl_BWalkMut
  unfold M_impl_BWalkMut
  have htl := treeO_len o xs
  refine st_alloc (St.start hG) fun n0 _ S => ?_
  refine st_alloc S fun n1 _ S => ?_
  (refine ld_sl S op on oc rfl (ld_int S rfl (ld_bool S rfl ?_)))
  (refine st_callT S [.ck c] (fun G hG => c_growAnyX hr hl hd hx hxl hG) ?_; rintro _ _ _ ⟨m, p, f, hfl, rfl, rfl⟩ S; dsimp only [List.cons_append, List.nil_append] at S)
  have S : St h G (StC (LiL [] []) :: _) _ := St.st_in (m := []) S
  have S := (sl_nil LS S).ats [.ow (n1, 0), .sl (none, 0, 0), .ck (StC (LiL [] []))]
  have S := shut_wk (o := (n1, 0)) (acc := []) (t := (none, 0, 0)) (ss := []) ⟨rfl, Nat.le_refl _, .inl rfl⟩ ⟨rfl, fun i s xs h _ => by simp at h⟩ S
  refine st_callV S [.ck (WkC (n1, 0) []), .mp (m, 0)] (args' := [.c (.addr (m, 0)), .c (.raw (bmF (n1, 0)))]) rfl (fun G hG => c_BWalkMut (by rw [hfl]; omega) hG) ?_
  rintro _ _ _ ⟨h1, h2, rfl⟩ S
  dsimp only [List.cons_append, List.nil_append] at S
  obtain ⟨t, ss, ht, hd2, S⟩ := open_wk S
  refine ld_sl S t.1 t.2.1 t.2.2 rfl ?_
  have hW : TB.wkT (growT o (TB.dgOf d) xs) = walkT o d xs := rfl
  rw [hW] at h1 h2 hd2 S
  exact rt_1 rfl ⟨_, ⟨t, ss, rfl, h1.trans hfl, h2, ht, hd2, rfl⟩, S.only [.ck c, .sl t, .ck (StC (LiL ss (walkT o d xs)))]⟩
end
end Go.Proofs.Ytlmiafbcgfegpaa
