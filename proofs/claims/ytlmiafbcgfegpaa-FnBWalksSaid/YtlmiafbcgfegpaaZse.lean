/-
  The thin package over the tree of interfaces: the tree that is grown, known. Conditions: none.
-/
import Derived.Test.YtlmiafbcgfegpaaZis
set_option linter.unusedVariables false
set_option linter.unusedSimpArgs false
set_option linter.unusedSectionVars false
set_option maxRecDepth 100000
namespace Go.Proofs.Ytlmiafbcgfegpaa
open Go
def growT (o : List Int) (dg : Nat) (xs : List IV) : TB.TS := xs.foldl (fun T x => TB.insT o dg x T) none
theorem growT_snoc {o : List Int} {dg : Nat} {xs : List IV} {x : IV} : growT o dg (xs ++ [x]) = TB.insT o dg x (growT o dg xs) := by simp [growT]
def BxC (ls : Value) (o : List Int) (dg : Nat) (a : PA) (T : TB.TS) : Ck := ExC (fun _ : Nat => True) fun m => StC [Ow a [.pointer (some (PA.val (m, 0)))] 0, TB.MxC ls o 1 dg (m, 0) T]
instance pk_bx {ls : Value} {o : List Int} {dg : Nat} {a0 : PA} {T : TB.TS} {r : List Ck} : Pk (.mp a0) (BxC ls o dg a0 T :: r) (BxC ls o dg a0 T) r := ⟨.refl _⟩
section
variable {h h0 : H} {G0 : PA → Prop} {r : List Ck}
theorem open_bx {ls : Value} {o : List Int} {dg : Nat} {a : PA} {T : TB.TS} (s : St h0 G0 (BxC ls o dg a T :: r) h) : ∃ m : Nat, St h0 G0 (Ow a [.pointer (some (PA.val (m, 0)))] 0 :: TB.MxC ls o 1 dg (m, 0) T :: r) h := by
  obtain ⟨m, _, s⟩ := s.ex_out
  exact ⟨m, St.st_out (m := [_, _]) s⟩
theorem shut_bx {ls : Value} {o : List Int} {dg m : Nat} {a : PA} {T : TB.TS} (s : St h0 G0 (Ow a [.pointer (some (PA.val (m, 0)))] 0 :: TB.MxC ls o 1 dg (m, 0) T :: r) h) : St h0 G0 (BxC ls o dg a T :: r) h :=
  St.ex_in (φ := fun _ : Nat => True) (f := fun m => StC [Ow a [.pointer (some (PA.val (m, 0)))] 0, TB.MxC ls o 1 dg (m, 0) T]) m trivial (St.st_in (m := [_, _]) s)
theorem c_NewOX {n : PA} {oc : Ck} {o : List Int} {d : Int} {nl : Bool} (hls : TB.Lss (baF n) oc o) (hd : d ≤ 128) {G : PA → Prop} (hG : Star [] h G) :
    HT Try.prog fn_NewOptions [.c (.raw (baF n)), .agg [.int .i64 d, .bool nl]] false [.c .ptr] h fun x h' => ∃ post, (∃ m : Nat, x = (some (m, 0), ()) ∧ post = [BxC (baF n) o (TB.dgOf d) (m, 0) none]) ∧ St h G post h' := by
  apply hc_NewOptions
  unfold M_NewOptions
  refine st_alloc (St.start hG) fun n0 _ S => ?_
  refine w_guard trivial (w_bnd (w_false rfl (bd_n rfl (ld_int S rfl (ld_bool S rfl ?_)))))
  refine st_callT S [] (fun G hG => TB.c_NewX hls hd hG) ?_
  rintro _ _ _ ⟨m, rfl, rfl⟩ S
  dsimp only [List.cons_append, List.nil_append] at S
  refine st_alloc S fun b _ S => ?_
  exact rt_1 rfl ⟨_, ⟨b, rfl, rfl⟩, (shut_bx (S.ats [.ow (b, 0), .mp (m, 0)])).only [.mp (b, 0)]⟩
end
section
variable {ls : Value} {oc : Ck} {o : List Int} {hp : Option PA} {h h0 : H} {G0 : PA → Prop} {r : List Ck} {dg : Nat} {a : PA} {T : TB.TS}
theorem c_BSetHintX {x : IV} (hh : TB.HsOK hp) (hls : TB.Lss ls oc o) (hl : (TB.flatT T).length < 4294967295) {G : PA → Prop} (hoc : Bes oc h G) (hG : Star [BxC ls o dg a T, TB.HtC hp] h G) :
    HT Try.prog fn_BTree_SetHint [.c (.addr a), .c (.raw (anyV x)), .c (.ptr hp)] false [.c .raw] h fun r h' => ∃ post, (r = (valO (fnd (ltO o) (TB.flatT T) x), ()) ∧ TB.flatT (TB.insT o dg x T) = put (ltO o) (TB.flatT T) x ∧ post = [BxC ls o dg a (TB.insT o dg x T), TB.HtC hp]) ∧ St h G post h' := by
  apply hc_BTree_SetHint
  unfold M_BTree_SetHint
  obtain ⟨m, S⟩ := open_bx (St.start hG)
  refine w_guard trivial (w_bnd (w_false rfl (bd_n rfl (ld_some S rfl ?_))))
  refine st_callF S [.mp (m, 0), .ck (TB.HtC hp)] (fun G' hG' hsub => TB.c_SetHintX hh hls hl (hoc.step S hsub) hG') ?_
  rintro _ _ _ ⟨rfl, hfl, rfl⟩ S
  dsimp only [List.cons_append, List.nil_append] at S
  have S := (shut_bx (S.ats [.ow a, .mp (m, 0)])).ats [.mp a, .ck (TB.HtC hp)]
  unfold TB.setR TB.oldV
  cases hf : fnd (ltO o) (TB.flatT T) x with
  | none => exact w_true rfl (rt_1 rfl ⟨_, ⟨rfl, hfl, rfl⟩, S⟩)
  | some y => exact w_false rfl (rt_1 rfl ⟨_, ⟨rfl, hfl, rfl⟩, S⟩)
theorem c_BSetX {x : IV} (hls : TB.Lss ls oc o) (hl : (TB.flatT T).length < 4294967295) {G : PA → Prop} (hoc : Bes oc h G) (hG : Star [BxC ls o dg a T] h G) :
    HT Try.prog fn_BTree_Set [.c (.addr a), .c (.raw (anyV x))] false [.c .raw] h fun r h' => ∃ post, (r = (valO (fnd (ltO o) (TB.flatT T) x), ()) ∧ TB.flatT (TB.insT o dg x T) = put (ltO o) (TB.flatT T) x ∧ post = [BxC ls o dg a (TB.insT o dg x T)]) ∧ St h G post h' := by
  apply hc_BTree_Set
  unfold M_BTree_Set
  have S := St.start hG
  have S : St h G (TB.HtC none :: _) _ := St.em_in S
  refine st_callF S [.mp a, .ck (TB.HtC none)] (fun G' hG' hsub => c_BSetHintX .no hls hl (hoc.step S hsub) hG') ?_
  rintro _ _ _ ⟨rfl, hfl, rfl⟩ S
  dsimp only [List.cons_append, List.nil_append] at S
  exact rt_1 rfl ⟨_, ⟨rfl, hfl, rfl⟩, S.only [.mp a]⟩
end
section
variable {h : H}
set_option maxHeartbeats 1000000 in
theorem c_growAnyX {c : Ck} {o : List Int} {op : Option PA} {on oc : Nat} (hr : Rdr c (op, on, oc) LN o) (hl : o.length ≤ 2147483647) {d : Int} {nl : Bool} (hd : d ≤ 128) {xs : List IV} {sp : Option PA} {n cap : Nat} (hx : Rdr c (sp, n, cap) LT xs) (hxl : xs.length ≤ 2147483647) {G : PA → Prop} (hG : Star [c] h G) :
    HT Try.prog fn_impl_growAny [.agg [.sl op on oc, .int .i64 d, .bool nl], .c (.sl sp n cap)] false [.c .ptr] h fun r h' => ∃ post, (∃ (m : Nat) (p f : PA), TB.flatT (growT o (TB.dgOf d) xs) = treeO o xs ∧ r = (some (m, 0), ()) ∧ post = [c, OaC p f o, BxC (baF p) o (TB.dgOf d) (m, 0) (growT o (TB.dgOf d) xs)]) ∧ St h G post h' := by
  apply hc_impl_growAny
  unfold M_impl_growAny
  have hn : n = xs.length := hx.1
  refine st_alloc (St.start hG) fun n0 _ S => ?_
  refine ld_sl S op on oc rfl (ld_sl S op on oc rfl (ld_int S rfl (ld_bool S rfl ?_)))
  refine st_callT S [.ck c] (fun G hG => c_beforeAny hr hl hG) ?_
  rintro _ _ _ ⟨p, f, rfl, rfl⟩ S
  dsimp only [List.cons_append, List.nil_append] at S
  refine st_held S rfl (st_held S rfl (st_held S rfl ?_))
  refine st_callT S [] (fun G hG => c_options hG) ?_
  rintro _ _ _ ⟨rfl, rfl⟩ S
  dsimp only [List.cons_append, List.nil_append] at S
  refine st_callT S [] (fun G hG => c_NewOX (lss_any (f := f) hl) hd hG) ?_
  rintro _ _ _ ⟨m, rfl, rfl⟩ S
  dsimp only [List.cons_append, List.nil_append] at S
  have S := S.ats [.ck c, .ck (OaC p f o), .mp (m, 0)]
  have S := S.only [.ck c, .ck (OaC p f o), .mp (m, 0)]
  refine w_mid' (some 0) (fun _ h' => TB.flatT (growT o (TB.dgOf d) xs) = treeO o xs ∧ St h G [c, OaC p f o, BxC (baF p) o (TB.dgOf d) (m, 0) (growT o (TB.dgOf d) xs)] h') ?_ ?_
  · refine w_lp (fun r y h' => ∃ i : Nat, y = ((i : Int), ()) ∧ i + r = n ∧ TB.flatT (growT o (TB.dgOf d) (xs.take i)) = treeO o (xs.take i) ∧ St h G [c, OaC p f o, BxC (baF p) o (TB.dgOf d) (m, 0) (growT o (TB.dgOf d) (xs.take i))] h') n rfl ⟨0, rfl, by omega, rfl, S⟩ ?_
    clear S
    rintro r _ _ ⟨i, rfl, hi, hfl, S⟩
    by_cases hlt : i < n
    · obtain ⟨q, hq, hrd⟩ := hx.ptr (by omega)
      dsimp only at hq
      subst hq
      have hxi := List.getElem?_eq_getElem (show i < xs.length by omega)
      have htl := treeO_len o (xs.take i)
      have htl2 : (xs.take i).length ≤ i := List.length_take_le _ _
      simp only [Int.toNat_natCast, toNat_succ, toNat_succ2, toNat_pred]
      refine w_true (lt_t (by (first | omega | ((try dsimp only [Sh.T, Sh1.T]); omega)))) ?_
      repeat (first | refine w_nonnil ?_ | refine ld_int S rfl ?_ | refine ld_some S rfl ?_ | refine ld_ptr S _ rfl ?_ | refine ld_sls S rfl ?_ | refine ld_nil S rfl ?_ | refine ld_bool S rfl ?_ | refine st_store S (lt_ble rfl) fun _ S => ?_ | refine st_alloc S fun _ _ S => ?_ | refine st_held S rfl ?_ | refine w_guard (by (first | exact inK64 (by omega) (by omega) | omega | (constructor <;> omega) | ((try dsimp only [Sh.T, Sh1.T]); first | exact inK64 (by omega) (by omega) | omega | exact ⟨by decide, inK64 (by omega) (by omega)⟩ | trivial))) ?_ | refine bd_n rfl ?_ | refine bd_e rfl ?_ | refine bd_r ?_ | refine bd_p ?_ | refine ln_r ?_ | refine ln_e ?_ | refine w_true (b := true) rfl ?_ | refine w_false (b := false) rfl ?_ | refine w_guard (show noMeths _ _ by show _ = _; kernel_rfl) ?_ | refine w_item (S.rdr hrd) (by assumption) ?_ | refine h_item (S.rdr hrd) (by assumption) ?_ | refine w_num (S.rdr hro) (by assumption) ?_ | refine ld_sln S rfl ?_ | refine ld_sl S _ _ _ rfl ?_)
      refine st_callB S [.mp (m, 0)] (fun G hG hb => HT.re (args' := [.c (.addr (m, 0)), .c (.raw (anyV xs[i]))]) rfl <| c_BSetX (x := xs[i]) (lss_any (f := f) hl) (by rw [hfl]; omega) (hb (OaC p f o) (by simp)) hG) ?_
      rintro _ _ _ ⟨rfl, hf2, rfl⟩ S
      dsimp only [List.cons_append, List.nil_append] at S
      have e : put (ltO o) (treeO o (xs.take i)) xs[i] = treeO o (xs.take (i + 1)) := by rw [take_snoc (by omega), treeO_snoc]
      rw [hfl, e] at hf2
      rw [← growT_snoc, ← take_snoc (by omega)] at S hf2
      repeat (first | refine w_nonnil ?_ | refine ld_int S rfl ?_ | refine ld_some S rfl ?_ | refine ld_ptr S _ rfl ?_ | refine ld_sls S rfl ?_ | refine ld_nil S rfl ?_ | refine ld_bool S rfl ?_ | refine st_store S (lt_ble rfl) fun _ S => ?_ | refine st_alloc S fun _ _ S => ?_ | refine st_held S rfl ?_ | refine w_guard (by (first | exact inK64 (by omega) (by omega) | omega | (constructor <;> omega) | ((try dsimp only [Sh.T, Sh1.T]); first | exact inK64 (by omega) (by omega) | omega | exact ⟨by decide, inK64 (by omega) (by omega)⟩ | trivial))) ?_ | refine bd_n rfl ?_ | refine bd_e rfl ?_ | refine bd_r ?_ | refine bd_p ?_ | refine ln_r ?_ | refine ln_e ?_ | refine w_true (b := true) rfl ?_ | refine w_false (b := false) rfl ?_ | refine w_guard (show noMeths _ _ by show _ = _; kernel_rfl) ?_ | refine w_item (S.rdr hrd) (by assumption) ?_ | refine h_item (S.rdr hrd) (by assumption) ?_ | refine w_num (S.rdr hro) (by assumption) ?_ | refine ld_sln S rfl ?_ | refine ld_sl S _ _ _ rfl ?_)
      exact ln_n rfl (r - 1) ⟨i + 1, rfl, by omega, hf2, S.only [.ck c, .ck (OaC p f o), .mp (m, 0)]⟩ (by omega)
    · rw [List.take_of_length_le (by omega)] at S hfl
      exact w_false (lt_f (by (first | omega | ((try dsimp only [Sh.T, Sh1.T]); omega)))) (ln_e (md_e rfl ⟨hfl, S⟩))
  · rintro _ _ ⟨hfl, S⟩
    exact rt_1 rfl ⟨_, ⟨m, p, f, hfl, rfl, rfl⟩, S⟩
end
end Go.Proofs.Ytlmiafbcgfegpaa
