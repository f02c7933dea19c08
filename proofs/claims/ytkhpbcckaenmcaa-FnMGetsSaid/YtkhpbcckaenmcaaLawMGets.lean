/-
  The law FnMGets. Conditions: none.
-/
import Derived.Test.YtkhpbcckaenmcaaAl
import Derived.Test.YtkhpbcckaenmcaaEt
import Derived.Test.YtkhpbcckaenmcaaKvmi
import Derived.Test.YtkhpbcckaenmcaaGb
import Derived.Test.YtkhpbcckaenmcaaGc
import Derived.Test.YtkhpbcckaenmcaaCt
import Derived.Test.YtkhpbcckaenmcaaPl
import Derived.Test.YtkhpbcckaenmcaaIx
set_option linter.unusedVariables false
set_option linter.unusedSimpArgs false
set_option linter.unusedSectionVars false
set_option maxRecDepth 100000
namespace Go.Proofs.Ytkhpbcckaenmcaa
open Go

def M_impl_MKeyValues (a0 : Int) (a1p : Option PA) (a1l : Nat) (a1c : Nat) : M :=
  .call fn_impl_growMap [.c (.int .i64 (a0)), .c (.sl (a1p) (a1l) (a1c))] false [.c (.ptr)] fun r0 =>
  .call fn_mi_KeyValues [.c (.ptr (r0.fst))] true [.c (.sl), .c (.sl)] fun r1 =>
  .done .ret [.c (.sl (r1.fst.fst) (r1.fst.snd.fst) (r1.fst.snd.snd)), .c (.sl (r1.snd.fst.fst) (r1.snd.fst.snd.fst) (r1.snd.fst.snd.snd))]

theorem den_impl_MKeyValues (a0 : Int) (a1p : Option PA) (a1l : Nat) (a1c : Nat) : denFn Try.prog Try.f35 [.c (.int .i64 a0), .c (.sl a1p a1l a1c)] = M_impl_MKeyValues a0 a1p a1l a1c := by kernel_rfl
theorem hc_impl_MKeyValues (a0 : Int) (a1p : Option PA) (a1l : Nat) (a1c : Nat) {h : H} {R : Value → H → Prop} (hw : wp Try.prog (M_impl_MKeyValues a0 a1p a1l a1c) (Ret R) h) : HC Try.prog fn_impl_MKeyValues (List.map AV.val [.c (.int .i64 a0), .c (.sl a1p a1l a1c)]).toArray h R :=
  den_calls hmix Try.func35 (of_decide_eq_true rfl) (by rw [den_impl_MKeyValues]; exact hw)

def M_impl_MGet (a0 : Int) (a1p : Option PA) (a1l : Nat) (a1c : Nat) (a2p : Option PA) (a2l : Nat) (a2c : Nat) : M :=
  .call fn_impl_growMap [.c (.int .i64 (a0)), .c (.sl (a1p) (a1l) (a1c))] false [.c (.ptr)] fun r0 =>
  .bind (some 0) (.loop [.c (.int .i64), .c (.sl)] [.c (.int .i64 (0)), .c (.sl none (0) (0))] fun y1 =>
      .ite (decide (y1.fst < (↑a2l : Int)))
      (.nonnil (a2p) fun p2 =>
        .guard (((0 : Int) ≤ y1.fst) ∧ ((y1.fst : Int) < (↑a2l : Int))) <|
        .load (p2.fst, p2.snd + Int.toNat y1.fst) (.int .i64) fun i3 =>
        .call fn_mi_Get [.c (.ptr (r0.fst)), .c (.int .i64 (i3))] true [.c (.int .i64), .c (.bool)] fun r4 =>
        .call fn_impl_pair [.c (.int .i64 (i3)), .c (.int .i64 (r4.fst)), .c (.bool (r4.snd.fst))] false [.agg [.int .i64, .int .i64, .bool]] fun r5 =>
        .alloc ty_impl_Found [.int .i64 (r5.fst.fst), .int .i64 (r5.fst.snd.fst), .bool (r5.fst.snd.snd.fst)] fun n6 =>
        .append ty_impl_Found 3 24 [.int .i64 (0), .int .i64 (0), .ff] ((y1.snd.fst.fst), y1.snd.fst.snd.fst, y1.snd.fst.snd.snd) ((some (n6, 0)), 1, 1) fun s7 =>
        .guard (InK IntKind.i64 (y1.fst + 1)) <|
        .done .normal [.c (.int .i64 (y1.fst + 1)), .c (.sl (s7.fst) (s7.snd.fst) (s7.snd.snd))])
      (.done (.exit 0) [.c (.sl (y1.snd.fst.fst) (y1.snd.fst.snd.fst) (y1.snd.fst.snd.snd))])) [.c (.sl)] fun x8 =>
  .done .ret [.c (.sl (x8.fst.fst) (x8.fst.snd.fst) (x8.fst.snd.snd))]

theorem den_impl_MGet (a0 : Int) (a1p : Option PA) (a1l : Nat) (a1c : Nat) (a2p : Option PA) (a2l : Nat) (a2c : Nat) : denFn Try.prog Try.f36 [.c (.int .i64 a0), .c (.sl a1p a1l a1c), .c (.sl a2p a2l a2c)] = M_impl_MGet a0 a1p a1l a1c a2p a2l a2c := by kernel_rfl
theorem hc_impl_MGet (a0 : Int) (a1p : Option PA) (a1l : Nat) (a1c : Nat) (a2p : Option PA) (a2l : Nat) (a2c : Nat) {h : H} {R : Value → H → Prop} (hw : wp Try.prog (M_impl_MGet a0 a1p a1l a1c a2p a2l a2c) (Ret R) h) : HC Try.prog fn_impl_MGet (List.map AV.val [.c (.int .i64 a0), .c (.sl a1p a1l a1c), .c (.sl a2p a2l a2c)]).toArray h R :=
  den_calls hmix Try.func36 (of_decide_eq_true rfl) (by rw [den_impl_MGet]; exact hw)

def M_impl_MDelete (a0 : Int) (a1p : Option PA) (a1l : Nat) (a1c : Nat) (a2p : Option PA) (a2l : Nat) (a2c : Nat) : M :=
  .call fn_impl_growMap [.c (.int .i64 (a0)), .c (.sl (a1p) (a1l) (a1c))] false [.c (.ptr)] fun r0 =>
  .bind (some 0) (.loop [.c (.int .i64), .c (.sl)] [.c (.int .i64 (0)), .c (.sl none (0) (0))] fun y1 =>
      .ite (decide (y1.fst < (↑a2l : Int)))
      (.nonnil (a2p) fun p2 =>
        .guard (((0 : Int) ≤ y1.fst) ∧ ((y1.fst : Int) < (↑a2l : Int))) <|
        .load (p2.fst, p2.snd + Int.toNat y1.fst) (.int .i64) fun i3 =>
        .call fn_mi_Delete [.c (.ptr (r0.fst)), .c (.int .i64 (i3))] true [.c (.int .i64), .c (.bool)] fun r4 =>
        .call fn_impl_pair [.c (.int .i64 (i3)), .c (.int .i64 (r4.fst)), .c (.bool (r4.snd.fst))] false [.agg [.int .i64, .int .i64, .bool]] fun r5 =>
        .alloc ty_impl_Found [.int .i64 (r5.fst.fst), .int .i64 (r5.fst.snd.fst), .bool (r5.fst.snd.snd.fst)] fun n6 =>
        .append ty_impl_Found 3 24 [.int .i64 (0), .int .i64 (0), .ff] ((y1.snd.fst.fst), y1.snd.fst.snd.fst, y1.snd.fst.snd.snd) ((some (n6, 0)), 1, 1) fun s7 =>
        .guard (InK IntKind.i64 (y1.fst + 1)) <|
        .done .normal [.c (.int .i64 (y1.fst + 1)), .c (.sl (s7.fst) (s7.snd.fst) (s7.snd.snd))])
      (.done (.exit 0) [.c (.sl (y1.snd.fst.fst) (y1.snd.fst.snd.fst) (y1.snd.fst.snd.snd))])) [.c (.sl)] fun x8 =>
  .call fn_impl_entries [.c (.ptr (r0.fst))] false [.c (.sl)] fun r9 =>
  .done .ret [.c (.sl (x8.fst.fst) (x8.fst.snd.fst) (x8.fst.snd.snd)), .c (.sl (r9.fst.fst) (r9.fst.snd.fst) (r9.fst.snd.snd))]

theorem den_impl_MDelete (a0 : Int) (a1p : Option PA) (a1l : Nat) (a1c : Nat) (a2p : Option PA) (a2l : Nat) (a2c : Nat) : denFn Try.prog Try.f37 [.c (.int .i64 a0), .c (.sl a1p a1l a1c), .c (.sl a2p a2l a2c)] = M_impl_MDelete a0 a1p a1l a1c a2p a2l a2c := by kernel_rfl
theorem hc_impl_MDelete (a0 : Int) (a1p : Option PA) (a1l : Nat) (a1c : Nat) (a2p : Option PA) (a2l : Nat) (a2c : Nat) {h : H} {R : Value → H → Prop} (hw : wp Try.prog (M_impl_MDelete a0 a1p a1l a1c a2p a2l a2c) (Ret R) h) : HC Try.prog fn_impl_MDelete (List.map AV.val [.c (.int .i64 a0), .c (.sl a1p a1l a1c), .c (.sl a2p a2l a2c)]).toArray h R :=
  den_calls hmix Try.func37 (of_decide_eq_true rfl) (by rw [den_impl_MDelete]; exact hw)

def M_laws_FnMGets_1 (a00 : Int) (a01 : Int) (f0 : PA) : M :=
  .alloc ty_impl_Item [.int .i64 (a00), .int .i64 (a01)] fun n0 =>
  .load (n0, 0) (.int .i64) fun i1 =>
  .load f0 (.int .i64) fun i2 =>
  .done .ret [.c (.bool (i1 == i2))]

theorem den_laws_FnMGets_1 (a00 : Int) (a01 : Int) (f0 : PA) : denFn Try.prog Try.f38 [.agg [.int .i64 a00, .int .i64 a01], .c (.addr f0)] = M_laws_FnMGets_1 a00 a01 f0 := by kernel_rfl
theorem hc_laws_FnMGets_1 (a00 : Int) (a01 : Int) (f0 : PA) {h : H} {R : Value → H → Prop} (hw : wp Try.prog (M_laws_FnMGets_1 a00 a01 f0) (Ret R) h) : HC Try.prog fn_laws_FnMGets_1 (List.map AV.val [.agg [.int .i64 a00, .int .i64 a01], .c (.addr f0)]).toArray h R :=
  den_calls hmix Try.func38 (of_decide_eq_true rfl) (by rw [den_laws_FnMGets_1]; exact hw)

def M_laws_FnMGets (a0 : Int) (a1p : Option PA) (a1l : Nat) (a1c : Nat) (a2 : Int) : M :=
  .alloc ty_int [.int .i64 (a2)] fun n0 =>
  .ite (decide ((↑a1l : Int) > 2147483647))
  (.done .ret [.c (.tt)])
  (.call fn_laws_fit [.c (.int .i64 (a0))] false [.c (.bool)] fun r1 =>
    .ite (!r1.fst)
    (.call fn_laws_aliveM [] false [.c (.bool)] fun r2 =>
      .done .ret [.c (.bool (r2.fst))])
    (.call fn_impl_MKeyValues [.c (.int .i64 (a0)), .c (.sl (a1p) (a1l) (a1c))] true [.c (.sl), .c (.sl)] fun r3 =>
      .load (n0, 0) (.int .i64) fun i4 =>
      .alloc ty_int [.int .i64 (i4)] fun n5 =>
      .call fn_impl_MGet [.c (.int .i64 (a0)), .c (.sl (a1p) (a1l) (a1c)), .c (.sl (some (n5, 0)) (1) (1))] false [.c (.sl)] fun r6 =>
      .load (n0, 0) (.int .i64) fun i7 =>
      .load (n0, 0) (.int .i64) fun i8 =>
      .alloc ty_int [.int .i64 (i7), .int .i64 (i8)] fun n9 =>
      .call fn_impl_MDelete [.c (.int .i64 (a0)), .c (.sl (a1p) (a1l) (a1c)), .c (.sl (some (n9, 0)) (2) (2))] true [.c (.sl), .c (.sl)] fun r10 =>
      .bind none (.ite ((↑r6.fst.snd.fst : Int) != 1)
        (.done .normal [.c (.tt)])
        (.ite ((↑r10.fst.snd.fst : Int) != 2)
          (.done .normal [.c (.tt)])
          (.nonnil (r10.fst.fst) fun p11 =>
            .guard (((0 : Int) ≤ 0) ∧ ((0 : Int) < (↑r10.fst.snd.fst : Int))) <|
            .load (p11.fst, p11.snd) (.int .i64) fun i12 =>
            .load (p11.fst, p11.snd + 1) (.int .i64) fun i13 =>
            .load (p11.fst, p11.snd + 2) (.bool) fun b14 =>
            .nonnil (r6.fst.fst) fun p15 =>
            .guard (((0 : Int) ≤ 0) ∧ ((0 : Int) < (↑r6.fst.snd.fst : Int))) <|
            .load (p15.fst, p15.snd) (.int .i64) fun i16 =>
            .load (p15.fst, p15.snd + 1) (.int .i64) fun i17 =>
            .load (p15.fst, p15.snd + 2) (.bool) fun b18 =>
            .ite (!(i12 == i16 && (i13 == i17 && true) && (b14 == b18 && true)))
            (.done .normal [.c (.tt)])
            (.nonnil (r10.fst.fst) fun p19 =>
              .guard (((0 : Int) ≤ 1) ∧ ((1 : Int) < (↑r10.fst.snd.fst : Int))) <|
              .load (p19.fst, p19.snd + 5) (.bool) fun b20 =>
              .ite (b20)
              (.done .normal [.c (.tt)])
              (.call fn_slices_ContainsFunc_impl_Item_impl_Item [.c (.sl (r10.snd.fst.fst) (r10.snd.fst.snd.fst) (r10.snd.fst.snd.snd)), .c (.raw (Value.func (Fn.func fn_laws_FnMGets_1) (List.map AV.val []).toArray (List.map AV.val [AV.c (Cell.addr (n0, 0))]).toArray))] false [.c (.bool)] fun r21 =>
                .done .normal [.c (.bool (r21.fst))]))))) [.c (.bool)] fun x22 =>
      .ite (x22.fst)
      (.done .ret [.c (.ff)])
      (.load (n0, 0) (.int .i64) fun i23 =>
        .call fn_slices_Index_int_int [.c (.sl (r3.fst.fst) (r3.fst.snd.fst) (r3.fst.snd.snd)), .c (.int .i64 (i23))] false [.c (.int .i64)] fun r24 =>
        .ite (decide (r24.fst < 0))
        (.bind none (.nonnil (r6.fst.fst) fun p25 =>
            .guard (((0 : Int) ≤ 0) ∧ ((0 : Int) < (↑r6.fst.snd.fst : Int))) <|
            .load (p25.fst, p25.snd + 2) (.bool) fun b26 =>
            .ite (!b26)
            (.ite ((↑r10.snd.fst.snd.fst : Int) == (↑r3.fst.snd.fst : Int))
              (.call fn_laws_aliveM [] false [.c (.bool)] fun r27 =>
                .done .normal [.c (.bool (r27.fst))])
              (.done .normal [.c (.ff)]))
            (.done .normal [.c (.ff)])) [.c (.bool)] fun x28 =>
          .done .ret [.c (.bool (x28.fst))])
        (.bind none (.nonnil (r6.fst.fst) fun p29 =>
            .guard (((0 : Int) ≤ 0) ∧ ((0 : Int) < (↑r6.fst.snd.fst : Int))) <|
            .load (p29.fst, p29.snd) (.int .i64) fun i30 =>
            .load (p29.fst, p29.snd + 1) (.int .i64) fun i31 =>
            .load (p29.fst, p29.snd + 2) (.bool) fun b32 =>
            .load (n0, 0) (.int .i64) fun i33 =>
            .nonnil (r3.snd.fst.fst) fun p34 =>
            .guard (((0 : Int) ≤ r24.fst) ∧ ((r24.fst : Int) < (↑r3.snd.fst.snd.fst : Int))) <|
            .load (p34.fst, p34.snd + Int.toNat r24.fst) (.int .i64) fun i35 =>
            .ite (i30 == i33 && (i31 == i35 && true) && (b32 == true && true))
            (.guard (InK IntKind.i64 ((↑r3.fst.snd.fst : Int) - 1)) <|
              .ite ((↑r10.snd.fst.snd.fst : Int) == (↑r3.fst.snd.fst : Int) - 1)
              (.call fn_laws_aliveM [] false [.c (.bool)] fun r36 =>
                .done .normal [.c (.bool (r36.fst))])
              (.done .normal [.c (.ff)]))
            (.done .normal [.c (.ff)])) [.c (.bool)] fun x37 =>
          .done .ret [.c (.bool (x37.fst))]))))

theorem den_laws_FnMGets (a0 : Int) (a1p : Option PA) (a1l : Nat) (a1c : Nat) (a2 : Int) : denFn Try.prog Try.f12 [.c (.int .i64 a0), .c (.sl a1p a1l a1c), .c (.int .i64 a2)] = M_laws_FnMGets a0 a1p a1l a1c a2 := by kernel_rfl
theorem hc_laws_FnMGets (a0 : Int) (a1p : Option PA) (a1l : Nat) (a1c : Nat) (a2 : Int) {h : H} {R : Value → H → Prop} (hw : wp Try.prog (M_laws_FnMGets a0 a1p a1l a1c a2) (Ret R) h) : HC Try.prog fn_laws_FnMGets (List.map AV.val [.c (.int .i64 a0), .c (.sl a1p a1l a1c), .c (.int .i64 a2)]).toArray h R :=
  den_calls hmix Try.func12 (of_decide_eq_true rfl) (by rw [den_laws_FnMGets]; exact hw)


/-- What is found for a key. -/
def gX (l : List IV) (k : Int) : Option IV := if (MI.getR l k).2.1 then some (k, (MI.getR l k).1) else none
/-- What is left after keys are deleted, and what was found for them. -/
def delsR (l : List IV) (ks : List Int) : List IV := ks.foldl (fun l k => del (ltO []) l (k, 0)) l
def delsF : List IV → List Int → List (Option IV)
  | _, [] => []
  | l, k :: ks => gX l k :: delsF (del (ltO []) l (k, 0)) ks
theorem delsR_snoc (l : List IV) (ks : List Int) (k : Int) : delsR l (ks ++ [k]) = del (ltO []) (delsR l ks) (k, 0) := by simp [delsR]
theorem delsF_snoc : ∀ (l : List IV) (ks : List Int) (k : Int), delsF l (ks ++ [k]) = delsF l ks ++ [gX (delsR l ks) k]
  | l, [], b => rfl
  | l, a :: bs, b => by
    show gX l a :: delsF (del (ltO []) l (a, 0)) (bs ++ [b]) = _
    rw [delsF_snoc]; rfl
theorem delsF_len : ∀ (l : List IV) (ks : List Int), (delsF l ks).length = ks.length
  | _, [] => rfl
  | l, b :: bs => by show (delsF (del (ltO []) l (b, 0)) bs).length + 1 = _; rw [delsF_len]; rfl
theorem del_le (l : List IV) (x : IV) : (del (ltO []) l x).length ≤ l.length := by
  have : (del (ltO []) l x).Sublist l := by
    unfold del
    conv => rhs; rw [← List.take_append_drop (pos (ltO []) l x) l]
    refine List.Sublist.append (List.Sublist.refl _) ?_
    rw [← List.drop_drop]
    exact List.drop_sublist _ _
  exact this.length_le
theorem delsR_len (l : List IV) (ks : List Int) : (delsR l ks).length ≤ l.length := by
  induction ks generalizing l with
  | nil => exact Nat.le_refl _
  | cons b bs ih => exact Nat.le_trans (ih (del (ltO []) l (b, 0))) (del_le l (b, 0))
theorem gX_some {l : List IV} {k : Int} {y : IV} (h : fnd (ltO []) l (k, 0) = some y) : gX l k = some (k, y.2) := by
  have e : MI.getR l k = (y.2, true, ()) := by unfold MI.getR; rw [lt_ltO, h]
  unfold gX; rw [e]; rfl
theorem gX_none {l : List IV} {k : Int} (h : fnd (ltO []) l (k, 0) = none) : gX l k = none := by
  have e : MI.getR l k = (0, false, ()) := by unfold MI.getR; rw [lt_ltO, h]
  unfold gX; rw [e]; rfl
theorem fnd_key {l : List IV} {k : Int} (hs : Srt (ltO []) l) (h : ∀ a ∈ l, a.1 ≠ k) : fnd (ltO []) l (k, 0) = none := by
  cases hf : fnd (ltO []) l (k, 0) with
  | none => rfl
  | some y =>
    obtain ⟨h1, h2, h3⟩ := fnd_some_lt hf
    have h4 : ¬ ltO [] y (k, 0) = true := fun e => by
      have := (pos_spec (ordO []) hs (k, 0) _ y h2).2 e
      omega
    rw [ltO_nil] at h3 h4
    have h5 : ¬ k < y.1 := by simpa using h3
    have h6 : ¬ y.1 < k := by simpa using h4
    exact absurd (show y.1 = k by omega) (h y (List.mem_of_getElem? h2))
section
variable {h : H}
theorem c_MKeyValues {c : Ck} {d : Int} (hd : d ≤ 536870912) {xs : List IV} {sp : Option PA} {n cap : Nat} (hx : Rdr c (sp, n, cap) LT xs) (hxl : xs.length ≤ 2147483647) {G : PA → Prop} (hG : Star [c] h G) :
    HT Try.prog fn_impl_MKeyValues [.c (.int .i64 d), .c (.sl sp n cap)] true [.c .sl, .c .sl] h fun r h' => ∃ post, (∃ s v : SlT, r = (s, v, ()) ∧ OwnL LN s (MI.kO (treeO [] xs)) ∧ OwnL LN v (vO (treeO [] xs)) ∧ post = [c, SlC s LN.sz (LN.flat (MI.kO (treeO [] xs))), SlC v LN.sz (LN.flat (vO (treeO [] xs)))]) ∧ St h G post h' := by
  apply hc_impl_MKeyValues
  unfold M_impl_MKeyValues
  have htl := treeO_len [] xs
  have S := St.start hG
  refine st_callT S [.ck c] (fun G hG => c_growMap hd hx hxl hG) ?_
  rintro _ _ _ ⟨m, rfl, rfl⟩ S
  dsimp only [List.cons_append, List.nil_append] at S
  refine st_callV S [.mp (m, 0)] (args' := [.c (.addr (m, 0))]) rfl (fun G hG => MI.c_KeyValues (by omega) hG) ?_
  rintro _ _ _ ⟨s, v, rfl, hs, hv, rfl⟩ S
  dsimp only [List.cons_append, List.nil_append] at S
  exact rt_n rfl rfl ⟨_, ⟨s, v, rfl, hs, hv, rfl⟩, S.only [.ck c, .sl s, .sl v]⟩
theorem c_MGet {c : Ck} {d : Int} (hd : d ≤ 536870912) {xs : List IV} {sp : Option PA} {n cap : Nat} (hx : Rdr c (sp, n, cap) LT xs) (hxl : xs.length ≤ 2147483647) {ks : List Int} {kp : Option PA} {kn kc : Nat} (hk : Rdr c (kp, kn, kc) LN ks) (hkl : ks.length ≤ 2147483647) {G : PA → Prop} (hG : Star [c] h G) :
    HT Try.prog fn_impl_MGet [.c (.int .i64 d), .c (.sl sp n cap), .c (.sl kp kn kc)] false [.c .sl] h fun r h' => ∃ post, (∃ s : SlT, r = (s, ()) ∧ OwnL LF s (gO (treeO [] xs) ks) ∧ post = [c, SlC s LF.sz (LF.flat (gO (treeO [] xs) ks))]) ∧ St h G post h' := by
  apply hc_impl_MGet
  unfold M_impl_MGet
  have hn : kn = ks.length := hk.1
  have htl := treeO_len [] xs
  have S := St.start hG
  refine st_callT S [.ck c] (fun G hG => c_growMap hd hx hxl hG) ?_
  rintro _ _ _ ⟨m, rfl, rfl⟩ S
  dsimp only [List.cons_append, List.nil_append] at S
  have S := sl_nil LF S
  refine w_bnd (w_lp (fun r y h' => ∃ (i : Nat) (s : SlT), y = ((i : Int), s, ()) ∧ i + r = kn ∧ OwnL LF s (gO (treeO [] xs) (ks.take i)) ∧ St h G [c, MI.MpC 0 (MI.dgOf d) (m, 0) (treeO [] xs), SlC s LF.sz (LF.flat (gO (treeO [] xs) (ks.take i)))] h') kn rfl
    ⟨0, (none, 0, 0), rfl, by omega, ⟨rfl, Nat.le_refl _, .inl rfl⟩, S.only [.ck c, .mp (m, 0), .sl (none, 0, 0)]⟩ ?_)
  rintro r _ _ ⟨i, s, rfl, hi, hs, S⟩
  by_cases hlt : i < kn
  · obtain ⟨p, hp, hro⟩ := hk.ptr (by omega)
    dsimp only at hp
    subst hp
    have hxi := List.getElem?_eq_getElem (show i < ks.length by omega)
    have hsl : (gO (treeO [] xs) (ks.take i)).length = i := by rw [gO_len, List.length_take]; omega
    obtain ⟨s1, s2, s3⟩ := s
    simp only [Int.toNat_natCast, toNat_succ, toNat_succ2, toNat_pred]
    refine w_true (lt_t (by (first | omega | ((try dsimp only [Sh.T, Sh1.T]); omega)))) ?_
    refine w_nonnil (w_guard ⟨by (first | omega | ((try dsimp only [Sh.T, Sh1.T]); omega)), by (first | omega | ((try dsimp only [Sh.T, Sh1.T]); omega))⟩ (w_num (S.rdr hro) hxi ?_))
    refine st_callV S [.mp (m, 0)] (args' := [.c (.addr (m, 0)), .c (.int .i64 ks[i])]) rfl (fun G hG => MI.c_Get (by omega) hG) ?_
    rintro _ _ _ ⟨rfl, rfl⟩ S
    dsimp only [List.cons_append, List.nil_append] at S
    refine st_callT S [] (fun G hG => c_pair hG) ?_
    rintro _ _ _ ⟨rfl, rfl⟩ S
    dsimp only [List.cons_append, List.nil_append] at S
    refine st_alloc S fun n6 _ S => ?_
    refine st_apo (L := LF) (xs := gO (treeO [] xs) (ks.take i)) (y := if (MI.getR (treeO [] xs) ks[i]).2.1 then some (ks[i], (MI.getR (treeO [] xs) ks[i]).1) else none) S hs rfl rfl (S.rsl (LF.flat [_]) 1 1 3 (fun i v h => by rw [Nat.zero_add]; exact h) rfl) ⟨by omega, by omega⟩ fun s' _ hs' S => ?_
    rw [← gO_snoc (by omega)] at S hs'
    refine w_guard (inK64 (by (first | omega | ((try dsimp only [Sh.T, Sh1.T]); omega))) (by (first | omega | ((try dsimp only [Sh.T, Sh1.T]); omega)))) ?_
    exact ln_n rfl (r - 1) ⟨i + 1, s', rfl, by omega, hs', S.only [.ck c, .mp (m, 0), .sl s']⟩ (by omega)
  · refine w_false (lt_f (by (first | omega | ((try dsimp only [Sh.T, Sh1.T]); omega)))) (ln_e (bd_e rfl (rt_1 rfl ⟨_, ⟨s, rfl, ?_⟩, S.only [.ck c, .sl s]⟩)))
    rw [List.take_of_length_le (by omega)] at hs ⊢
    exact ⟨hs, rfl⟩
set_option maxHeartbeats 1000000 in
theorem c_MDelete {c : Ck} {d : Int} (hd : d ≤ 536870912) {xs : List IV} {sp : Option PA} {n cap : Nat} (hx : Rdr c (sp, n, cap) LT xs) (hxl : xs.length ≤ 2147483647) {bs : List Int} {bp : Option PA} {bn bc : Nat} (hb : Rdr c (bp, bn, bc) LN bs) (hbl : bs.length ≤ 2147483648) {G : PA → Prop} (hG : Star [c] h G) :
    HT Try.prog fn_impl_MDelete [.c (.int .i64 d), .c (.sl sp n cap), .c (.sl bp bn bc)] true [.c .sl, .c .sl] h fun r h' => ∃ post, (∃ s s2 : SlT, r = (s, s2, ()) ∧ OwnL LF s (delsF (treeO [] xs) bs) ∧ OwnL LT s2 (delsR (treeO [] xs) bs) ∧
      post = [c, SlC s LF.sz (LF.flat (delsF (treeO [] xs) bs)), SlC s2 LT.sz (LT.flat (delsR (treeO [] xs) bs))]) ∧ St h G post h' := by
  apply hc_impl_MDelete
  unfold M_impl_MDelete
  have hn : bn = bs.length := hb.1
  have htl := treeO_len [] xs
  have S := St.start hG
  refine st_callT S [.ck c] (fun G hG => c_growMap (by omega) hx hxl hG) ?_
  rintro _ _ _ ⟨m, rfl, rfl⟩ S
  dsimp only [List.cons_append, List.nil_append] at S
  have S := sl_nil LF S
  refine w_mid' (some 0) (fun (y : SV [.c .sl]) h' => ∃ s : SlT, y = (s, ()) ∧ OwnL LF s (delsF (treeO [] xs) bs) ∧ St h G [c, MI.MpC 0 (MI.dgOf d) (m, 0) (delsR (treeO [] xs) bs), SlC s LF.sz (LF.flat (delsF (treeO [] xs) bs))] h') ?_ ?_
  · refine w_lp (fun r y h' => ∃ (i : Nat) (s : SlT), y = ((i : Int), s, ()) ∧ i + r = bn ∧ OwnL LF s (delsF (treeO [] xs) (bs.take i)) ∧ St h G [c, MI.MpC 0 (MI.dgOf d) (m, 0) (delsR (treeO [] xs) (bs.take i)), SlC s LF.sz (LF.flat (delsF (treeO [] xs) (bs.take i)))] h') bn rfl
      ⟨0, (none, 0, 0), rfl, by omega, ⟨rfl, Nat.le_refl _, .inl rfl⟩, S.only [.ck c, .mp (m, 0), .sl (none, 0, 0)]⟩ ?_
    clear S
    rintro r _ _ ⟨i, s, rfl, hi, hs, S⟩
    by_cases hlt : i < bn
    · obtain ⟨p, hp, hro⟩ := hb.ptr (by omega)
      dsimp only at hp
      subst hp
      have hxi := List.getElem?_eq_getElem (show i < bs.length by omega)
      have hsl : (delsF (treeO [] xs) (bs.take i)).length = i := by rw [delsF_len, List.length_take]; omega
      have hrl := delsR_len (treeO [] xs) (bs.take i)
      obtain ⟨s1, s2, s3⟩ := s
      simp only [Int.toNat_natCast, toNat_succ, toNat_succ2, toNat_pred]
      refine w_true (lt_t (by (first | omega | ((try dsimp only [Sh.T, Sh1.T]); omega)))) ?_
      refine w_nonnil (w_guard ⟨by (first | omega | ((try dsimp only [Sh.T, Sh1.T]); omega)), by (first | omega | ((try dsimp only [Sh.T, Sh1.T]); omega))⟩ (w_num (S.rdr hro) hxi ?_))
      refine st_callV S [.mp (m, 0)] (args' := [.c (.addr (m, 0)), .c (.int .i64 bs[i])]) rfl (fun G hG => MI.c_Delete (by omega) hG) ?_
      rintro _ _ _ ⟨rfl, rfl⟩ S
      rw [lt_ltO] at S
      dsimp only [List.cons_append, List.nil_append] at S
      refine st_callT S [] (fun G hG => c_pair hG) ?_
      rintro _ _ _ ⟨rfl, rfl⟩ S
      dsimp only [List.cons_append, List.nil_append] at S
      refine st_alloc S fun n6 _ S => ?_
      refine st_apo (L := LF) (xs := delsF (treeO [] xs) (bs.take i)) (y := gX (delsR (treeO [] xs) (bs.take i)) bs[i]) S hs rfl rfl (S.rsl (LF.flat [_]) 1 1 3 (fun i v h => by rw [Nat.zero_add]; exact h) rfl) ⟨by omega, by omega⟩ fun s' _ hs' S => ?_
      rw [← delsF_snoc, ← take_snoc (by omega)] at hs'
      rw [← delsF_snoc, ← delsR_snoc, ← take_snoc (by omega)] at S
      refine w_guard (inK64 (by (first | omega | ((try dsimp only [Sh.T, Sh1.T]); omega))) (by (first | omega | ((try dsimp only [Sh.T, Sh1.T]); omega)))) ?_
      exact ln_n rfl (r - 1) ⟨i + 1, s', rfl, by omega, hs', S.only [.ck c, .mp (m, 0), .sl s']⟩ (by omega)
    · rw [List.take_of_length_le (by omega)] at hs S
      exact w_false (lt_f (by (first | omega | ((try dsimp only [Sh.T, Sh1.T]); omega)))) (ln_e (md_e rfl ⟨s, rfl, hs, S⟩))
  · rintro _ _ ⟨s, rfl, hs, S⟩
    have hrl := delsR_len (treeO [] xs) bs
    refine st_callV S [.mp (m, 0)] (args' := [.c (.addr (m, 0))]) rfl (fun G hG => c_entries (by omega) hG) ?_
    rintro _ _ _ ⟨s2, rfl, hs2, rfl⟩ S
    dsimp only [List.cons_append, List.nil_append] at S
    exact rt_n rfl rfl ⟨_, ⟨s, s2, rfl, hs, hs2, rfl⟩, S.only [.ck c, .sl s, .sl s2]⟩
theorem cb_gets {n0 : Nat} {k : Int} : Cbk Try.prog (Value.func (Fn.func fn_laws_FnMGets_1) (List.map AV.val []).toArray (List.map AV.val [AV.c (Cell.addr (n0, 0))]).toArray) argT (fun _ => Ow (n0, 0) [.int .i64 k] 0) (fun _ x => x.1 == k) 1 := by
  intro h G acc x hl hG
  refine ⟨by kernel_rfl, ?_⟩
  have e : ((List.map AV.val []).toArray ++ (List.map AV.val (argT x)).toArray ++ (List.map AV.val [AV.c (Cell.addr (n0, 0))]).toArray : Array Value) = (List.map AV.val [.agg [.int .i64 x.1, .int .i64 x.2], .c (.addr (n0, 0))]).toArray := by simp [argT]
  rw [e]
  apply hc_laws_FnMGets_1
  unfold M_laws_FnMGets_1
  refine st_alloc (St.start hG) fun n1 _ S => ?_
  refine ld_int S rfl (ld_int S rfl ?_)
  exact rt_1 rfl ⟨rfl, S.only [.ow (n0, 0)]⟩
theorem w_fnd0 {P : Program} {Q : Ex → List AV → H → Prop} {p : PA} {xs : List (Option IV)} (hr : rds h p (LF.flat xs)) {x : Option IV} (hx : xs[0]? = some x) {m : Int → Int → Bool → M}
    (hw : wp P (m (fT x).1 (fT x).2.1 (fT x).2.2.1) Q h) : wp P (.load (p.1, p.2) (.int .i64) fun k => .load (p.1, p.2 + 1) (.int .i64) fun v => .load (p.1, p.2 + 2) .bool fun b => m k v b) Q h :=
  w_fnd (i := 0) hr hx hw
theorem w_fndB {P : Program} {Q : Ex → List AV → H → Prop} {p : PA} {xs : List (Option IV)} (hr : rds h p (LF.flat xs)) (i : Nat) {x : Option IV} (hx : xs[i]? = some x) {o : Nat} (ho : o = i * 3 + 2) {m : Bool → M}
    (hw : wp P (m x.isSome) Q h) : wp P (.load (p.1, p.2 + o) .bool m) Q h := by
  subst ho
  exact w_bool _ (hr (i * 3 + 2) _ (LF.flat_get (j := 2) hx rfl)) hw
set_option maxHeartbeats 4000000 in
theorem c_FnMGets {hI : H} {d k : Int} {xs : List IV} {sp : Option PA} {n cap : Nat} (hx : Rdr (BaC hI) (sp, n, cap) LT xs) {G : PA → Prop} (hG : Star [BaC hI] h G) :
    HT Try.prog fn_laws_FnMGets [.c (.int .i64 d), .c (.sl sp n cap), .c (.int .i64 k)] false [.c .bool] h fun r h' => ∃ post, (r = (true, ()) ∧ post = [BaC hI]) ∧ St h G post h' := by
  apply hc_laws_FnMGets
  unfold M_laws_FnMGets
  have hn : n = xs.length := hx.1
  have htl := treeO_len [] xs
  have hsr := treeO_srt [] xs
  refine st_alloc (St.start hG) fun n0 _ S => ?_
  by_cases hbig : n > 2147483647
  · exact w_true (decide_eq_true (by omega)) (rt_1 rfl ⟨_, ⟨rfl, rfl⟩, S.only [.ck (BaC hI)]⟩)
  refine w_false (decide_eq_false (by omega)) ?_
  refine w_callT c_fit ?_
  rintro _ _ ⟨rfl, rfl⟩
  by_cases hf : 2 ≤ d ∧ d ≤ 128
  · refine w_false (by rw [decide_eq_true hf]; rfl) ?_
    refine st_callT S [.ck (BaC hI)] (fun G hG => c_MKeyValues (by omega) hx (by omega) hG) ?_
    rintro _ _ _ ⟨⟨kp, kn, kc⟩, ⟨vp, vn, vc⟩, rfl, hk, hv, rfl⟩ S
    dsimp only [List.cons_append, List.nil_append] at S
    have hkn : kn = (treeO [] xs).length := by have := hk.1; rw [MI.kO_len] at this; exact this
    have hvn : vn = (treeO [] xs).length := by have := hv.1; rw [vO_len] at this; exact this
    refine ld_int S rfl ?_
    refine st_alloc S fun n5 _ S => ?_
    (have S := S.ats [.ck (BaC hI), .ow (n5, 0)]; refine st_callT (l := StC [BaC hI, Ow (n5, 0) (LN.flat [k]) 0] :: _) (St.st_in (m := [_, _]) S) [.ck (StC [BaC hI, Ow (n5, 0) (LN.flat [k]) 0])] (fun G hG => c_MGet (by omega) (Rdr.st (i := 0) rfl hx) (by omega) (Rdr.st (i := 1) rfl (Rdr.ow (xs := [k]) rfl)) (by simp) hG) ?_)
    rintro _ _ _ ⟨⟨gp, gn, gc⟩, rfl, hg, rfl⟩ S
    dsimp only [List.cons_append, List.nil_append] at S
    have S := St.st_out S
    dsimp only [List.cons_append, List.nil_append] at S
    have hgn : gn = 1 := by have := hg.1; rw [gO_len] at this; exact this
    subst hgn
    have eg : gO (treeO [] xs) [k] = [gX (treeO [] xs) k] := rfl
    rw [eg] at hg S
    refine ld_int S rfl (ld_int S rfl ?_)
    refine st_alloc S fun n9 _ S => ?_
    (have S := S.ats [.ck (BaC hI), .ow (n9, 0)]; refine st_callT (l := StC [BaC hI, Ow (n9, 0) (LN.flat [k, k]) 0] :: _) (St.st_in (m := [_, _]) S) [.ck (StC [BaC hI, Ow (n9, 0) (LN.flat [k, k]) 0])] (fun G hG => c_MDelete (by omega) (Rdr.st (i := 0) rfl hx) (by omega) (Rdr.st (i := 1) rfl (Rdr.ow (xs := [k, k]) rfl)) (by simp) hG) ?_)
    rintro _ _ _ ⟨⟨dp, dn, dc⟩, ⟨lp, ln, lc⟩, rfl, hd, hl, rfl⟩ S
    dsimp only [List.cons_append, List.nil_append] at S
    have S := St.st_out S
    dsimp only [List.cons_append, List.nil_append] at S
    have hdn : dn = 2 := by have := hd.1; rw [delsF_len] at this; exact this
    subst hdn
    have ed : delsF (treeO [] xs) [k, k] = [gX (treeO [] xs) k, gX (del (ltO []) (treeO [] xs) (k, 0)) k] := rfl
    have er : delsR (treeO [] xs) [k, k] = del (ltO []) (del (ltO []) (treeO [] xs) (k, 0)) (k, 0) := rfl
    rw [ed] at hd S
    rw [er] at hl S
    have hm1 : ∀ a ∈ del (ltO []) (treeO [] xs) (k, 0), a.1 ≠ k := fun a ha => by
      have := ((mem_del (ordO []) hsr).1 ha).2
      simp only [ltO_nil, decide_eq_true_eq] at this
      omega
    have hd1 := del_srt hsr (k, 0)
    have hf1 := fnd_key hd1 hm1
    have hg1 : gX (del (ltO []) (treeO [] xs) (k, 0)) k = none := gX_none hf1
    have hde : del (ltO []) (del (ltO []) (treeO [] xs) (k, 0)) (k, 0) = del (ltO []) (treeO [] xs) (k, 0) := MI.del_none hf1
    have hdl := del_le (treeO [] xs) (k, 0)
    rw [hg1] at hd S
    rw [hde] at hl S
    obtain ⟨gp, rfl, hgr⟩ : ∃ p, gp = some p ∧ _ := hg.rdr.ptr (by simp)
    obtain ⟨dp, rfl, hdr⟩ : ∃ p, dp = some p ∧ _ := hd.rdr.ptr (by simp)
    have hlen : ln = (del (ltO []) (treeO [] xs) (k, 0)).length := hl.1
    have S := S.only [.ck (BaC hI), .ow (n0, 0), .sl (kp, kn, kc), .sl (vp, vn, vc), .sl (some gp, 1, gc), .sl (some dp, 2, dc), .sl (lp, ln, lc)]
    have hany : (del (ltO []) (treeO [] xs) (k, 0)).any (fun x => x.1 == k) = false := by
      rw [List.any_eq_false]
      intro a ha
      simpa using hm1 a ha
    refine w_mid' none (fun (y : SV [.c .bool]) h' => y = (false, ()) ∧ St h G [BaC hI, Ow (n0, 0) [.int .i64 k] 0, SlC (kp, kn, kc) LN.sz (LN.flat (MI.kO (treeO [] xs))), SlC (vp, vn, vc) LN.sz (LN.flat (vO (treeO [] xs))), SlC (some gp, 1, gc) LF.sz (LF.flat [gX (treeO [] xs) k]), SlC (some dp, 2, dc) LF.sz (LF.flat [gX (treeO [] xs) k, none]), SlC (lp, ln, lc) LT.sz (LT.flat (del (ltO []) (treeO [] xs) (k, 0)))] h') ?_ ?_
    · refine w_false rfl (w_false rfl (w_nonnil (w_guard ⟨by (first | omega | ((try dsimp only [Sh.T, Sh1.T]); omega)), by (first | omega | ((try dsimp only [Sh.T, Sh1.T]); omega))⟩ ?_)))
      refine w_fnd0 (S.rdr hdr) rfl (w_nonnil (w_guard ⟨by (first | omega | ((try dsimp only [Sh.T, Sh1.T]); omega)), by (first | omega | ((try dsimp only [Sh.T, Sh1.T]); omega))⟩ ?_))
      refine w_fnd0 (S.rdr hgr) rfl (w_false (by simp) (w_nonnil (w_guard ⟨by (first | omega | ((try dsimp only [Sh.T, Sh1.T]); omega)), by (first | omega | ((try dsimp only [Sh.T, Sh1.T]); omega))⟩ ?_)))
      refine w_fndB (S.rdr hdr) 1 rfl rfl (w_false rfl ?_)
      refine st_callT S [.sl (lp, ln, lc), .ow (n0, 0)] (fun G hG => c_ContainsFunc cb_gets hl.rdr (by omega) hG) ?_
      rintro _ _ _ ⟨rfl, rfl⟩ S
      dsimp only [List.cons_append, List.nil_append] at S
      exact md_n (by rw [hany]; rfl) ⟨rfl, S.ats [.ck (BaC hI), .ow (n0, 0), .sl (kp, kn, kc), .sl (vp, vn, vc), .sl (some gp, 1, gc), .sl (some dp, 2, dc), .sl (lp, ln, lc)]⟩
    clear S
    rintro _ _ ⟨rfl, S⟩
    refine w_false rfl (ld_int S rfl ?_)
    refine st_callT S [.sl (kp, kn, kc)] (fun G hG => c_Index hk.rdr (by rw [MI.kO_len]; omega) hG) ?_
    rintro _ _ _ ⟨⟨i, rfl, hi⟩, rfl⟩ S
    dsimp only [List.cons_append, List.nil_append] at S
    rcases hi with ⟨hni, rfl⟩ | ⟨j, rfl, hj⟩
    · refine w_true rfl (w_bnd (w_nonnil (w_guard ⟨by (first | omega | ((try dsimp only [Sh.T, Sh1.T]); omega)), by (first | omega | ((try dsimp only [Sh.T, Sh1.T]); omega))⟩ ?_)))
      have hne : ∀ a ∈ treeO [] xs, a.1 ≠ k := fun a ha e => hni (by rw [MI.kO]; exact List.mem_map.2 ⟨a, ha, e⟩)
      have hf0 := fnd_key hsr hne
      have hg0 := gX_none hf0
      have hd0 : del (ltO []) (treeO [] xs) (k, 0) = treeO [] xs := MI.del_none hf0
      refine w_fndB (S.rdr hgr) 0 rfl rfl ?_
      rw [hg0]
      refine w_true rfl (w_true (by rw [hlen, hkn, hd0]; simp) ?_)
      refine st_callT S [] (fun G hG => c_aliveM hG) ?_
      rintro _ _ _ ⟨rfl, rfl⟩ S
      dsimp only [List.cons_append, List.nil_append] at S
      exact bd_n rfl (rt_1 rfl ⟨_, ⟨rfl, rfl⟩, S.only [.ck (BaC hI)]⟩)
    · rw [MI.kO, List.getElem?_map] at hj
      obtain ⟨y, hy, hyk⟩ := Option.map_eq_some_iff.1 hj
      have hjl := (List.getElem?_eq_some_iff.1 hy).1
      obtain ⟨_, hfy, hdy⟩ := fnd_at (ordO []) hsr hy (x := (k, 0)) (by rw [ltO_nil]; simp; omega) (by rw [ltO_nil]; simp; omega)
      have hgy := gX_some hfy
      have hdl2 : (del (ltO []) (treeO [] xs) (k, 0)).length = (treeO [] xs).length - 1 := by rw [hdy, List.length_eraseIdx_of_lt hjl]
      obtain ⟨vp, rfl, hvr⟩ : ∃ p, vp = some p ∧ _ := hv.rdr.ptr (by rw [vO_len]; omega)
      have hvj : (vO (treeO [] xs))[j]? = some y.2 := by rw [vO, List.getElem?_map, hy]; rfl
      refine w_false (decide_eq_false (by (first | omega | ((try dsimp only [Sh.T, Sh1.T]); omega)))) (w_bnd (w_nonnil (w_guard ⟨by (first | omega | ((try dsimp only [Sh.T, Sh1.T]); omega)), by (first | omega | ((try dsimp only [Sh.T, Sh1.T]); omega))⟩ ?_)))
      refine w_fnd0 (S.rdr hgr) rfl (ld_int S rfl (w_nonnil (w_guard ⟨by (first | omega | ((try dsimp only [Sh.T, Sh1.T]); omega)), by (first | omega | ((try dsimp only [Sh.T, Sh1.T]); omega))⟩ ?_)))
      simp only [Int.toNat_natCast, toNat_succ, toNat_succ2, toNat_pred]
      refine w_num (S.rdr hvr) hvj ?_
      rw [hgy]
      refine w_true (by simp) (w_guard (inK64 (by (first | omega | ((try dsimp only [Sh.T, Sh1.T]); omega))) (by (first | omega | ((try dsimp only [Sh.T, Sh1.T]); omega)))) (w_true (by rw [hlen, hkn, hdl2]; simp; omega) ?_))
      refine st_callT S [] (fun G hG => c_aliveM hG) ?_
      rintro _ _ _ ⟨rfl, rfl⟩ S
      dsimp only [List.cons_append, List.nil_append] at S
      exact bd_n rfl (rt_1 rfl ⟨_, ⟨rfl, rfl⟩, S.only [.ck (BaC hI)]⟩)
  · refine w_true (by rw [decide_eq_false hf]; rfl) ?_
    refine st_callT S [] (fun G hG => c_aliveM hG) ?_
    rintro _ _ _ ⟨rfl, rfl⟩ S
    dsimp only [List.cons_append, List.nil_append] at S
    exact rt_1 rfl ⟨_, ⟨rfl, rfl⟩, S.only [.ck (BaC hI)]⟩
end
end Go.Proofs.Ytkhpbcckaenmcaa
