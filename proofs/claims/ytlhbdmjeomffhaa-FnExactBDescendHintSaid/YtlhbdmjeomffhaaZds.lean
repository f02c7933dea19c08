/-
  The tree of interfaces: the items handed on from a key down. Conditions: none.
-/
import Derived.Test.YtlhbdmjeomffhaaPgR
import Derived.Test.YtlhbdmjeomffhaaZrv
set_option linter.unusedVariables false
set_option linter.unusedSimpArgs false
set_option linter.unusedSectionVars false
set_option maxRecDepth 100000
namespace Go.Proofs.Ytlhbdmjeomffhaa.TB
open Go Go.Proofs.Ytlhbdmjeomffhaa
section
variable {ls : Value} {oc : Ck} {o : List Int} {hp : Option PA} {h : H}
theorem up_some {xs : List KV} {x y : KV} (hf : fnd (ltO o) xs x = some y) : up (ltO o) xs x = pos (ltO o) xs x + 1 := by simp [up, hf]
theorem up_none {xs : List KV} {x : KV} (hf : fnd (ltO o) xs x = none) : up (ltO o) xs x = pos (ltO o) xs x := by simp [up, hf]
set_option maxHeartbeats 2000000 in
theorem c_nodeDescend {a0 : PA} {iso : Int} {m : Bool} {mn mx N : Nat} {x : KV} {f : Value} {K : List KV → Ck} {go : List KV → KV → Bool} (hh : HsOK hp) (hls : Lss ls oc o) (hcb : Cbk Try.prog f argO K go N) (h1mn : 1 ≤ mn) (hmx : mx ≤ 255) : ∀ (n dep : Nat) {b : Nat} {t : BT KV n} {a1 : PA} {h : H} {G : PA → Prop} {acc : List KV},
    dep + n ≤ 4294967295 → Bes oc h G → Bes (RdC (a0.1, a0.2 + 6) ls) h G → Bes (TrC L iso n b t) h G → Bes (RdC (a0.1, a0.2) (.int .u64 iso)) h G → Bes (RdC a1 (kptr b)) h G → 1 ≤ (itemsB n t).length → Val mn mx n t → Srt (ltO o) (flatB n t) → acc.length + (flatB n t).length ≤ N → Star [K acc, HtC hp] h G →
    HT Try.prog fn_tb_nodeDescend [.c (.addr a0), .c (.addr a1), .c (.raw (anyV x)), .c (.ptr hp), .c (.int .i64 dep), .c (.raw f), .c (.bool m)] false [.c .bool] h fun r h' =>
      ∃ post, (r = ((run go acc (toO o (flatB n t) x)).2, ()) ∧ post = [K (run go acc (toO o (flatB n t) x)).1, HtC hp]) ∧ St h G post h'
  | 0, dep, b, t, a1, h, G, acc, hdep, hoc, hL, hT, hA, h1, hi1, hv, hsr, hlen, hG => by
    apply hc_tb_nodeDescend
    unfold M_tb_nodeDescend
    have S := St.start hG
    refine w_callT (c_isoLoad (h1.now S).rd (tr_iso ((hT.now S).ex.choose_spec)) (hA.now S).rd) ?_
    rintro _ h ⟨rfl, rfl⟩
    obtain ⟨p0, c0, kp0, hc0, hkp0, b0, b1, b2, b3, br⟩ := hT.nd
    have hil : (itemsB 0 t).length ≤ mx := hv
    have hfl : flatB 0 t = itemsB 0 t := rfl
    rw [hfl] at hlen hsr ⊢
    refine st_callF S [.ck (HtC hp)] (fun G' hG' hsub => c_find (a1 := (b, 0)) hh hls (b2.step S hsub) (br.step S hsub) (b3.step S hsub) (hL.step S hsub) (hoc.step S hsub) hsr hi1 (by omega) (by omega) hG') ?_
    rintro _ _ h10 ⟨rfl, rfl⟩ S
    dsimp only [List.cons_append, List.nil_append] at S
    have S := S.ats [.ck (K acc), .ck (HtC hp)]
    have hpl := pos_le (lt := (ltO o)) (itemsB 0 t) x
    have hul := up_le (ordO o) (itemsB 0 t) x
    obtain ⟨_, p, c, e2, e3, er⟩ := (hT.now S).leaf
    refine w_mid' none (fun (y : SV [.c (.int .i64)]) h' => y = ((up (ltO o) (itemsB 0 t) x : Int) - 1, ()) ∧ h' = h10) ?_ ?_
    · cases hf : fnd (ltO o) (itemsB 0 t) x with
      | some y => exact w_false rfl (md_n rfl ⟨by rw [up_some hf, show ((pos (ltO o) (itemsB 0 t) x + 1 : Nat) : Int) - 1 = (pos (ltO o) (itemsB 0 t) x : Int) by omega], rfl⟩)
      | none =>
        refine w_true rfl (w_callT (c_leafp (kp := none) e3) ?_)
        rintro _ _ ⟨rfl, rfl⟩
        refine w_bnd (w_false rfl (bd_n rfl (w_guard (inK64 (by (first | omega | ((try dsimp only [Sh.T, Sh1.T]); omega))) (by (first | omega | ((try dsimp only [Sh.T, Sh1.T]); omega)))) (md_n rfl ⟨?_, rfl⟩))))
        rw [up_none hf]
    rintro _ h10 ⟨rfl, rfl⟩
    unfold toO
    generalize hposd : up (ltO o) (itemsB 0 t) x = i0 at *
    refine w_bnd (w_lp (fun r y h' => ∃ (z : Int) (D acc' : List KV), y = (z, ()) ∧ z = (r : Int) - 1 ∧ r ≤ (itemsB 0 t).length ∧ ((itemsB 0 t).take i0).reverse = D ++ ((itemsB 0 t).take r).reverse ∧ run go acc D = (acc', true) ∧ St h G [K acc', HtC hp] h') i0 rfl
      ⟨_, [], acc, rfl, rfl, hul, rfl, rfl, S⟩ ?_)
    rintro r _ h2 ⟨z, D, acc', rfl, hz, hi, hD, hr, S⟩
    obtain ⟨hi0, p, c, e2, e3, er⟩ := (hT.all S).leaf
    have hal := run_len go D acc
    have hDl : D.length + r = i0 := by
      have := congrArg List.length hD
      simp only [List.length_reverse, List.length_append, List.length_take] at this
      omega
    rw [hr] at hal
    dsimp only at hal
    by_cases hlt : 0 < r
    · obtain ⟨i, rfl⟩ : ∃ i : Nat, z = i := ⟨z.toNat, by omega⟩
      obtain rfl : r = i + 1 := by omega
      have hxi := List.getElem?_eq_getElem (show i < (itemsB 0 t).length by omega)
      have hr1 : run go acc (D ++ [(itemsB 0 t)[i]]) = (acc' ++ [(itemsB 0 t)[i]], go acc' (itemsB 0 t)[i]) := by rw [run_on _ (by rw [hr]), hr, run_one]
      have hD1 : ((itemsB 0 t).take i0).reverse = (D ++ [(itemsB 0 t)[i]]) ++ ((itemsB 0 t).take i).reverse := by rw [hD, rev_take hxi]; simp
      refine w_true (decide_eq_true (by (first | omega | ((try dsimp only [Sh.T, Sh1.T]); omega)))) ?_
      simp only [Int.toNat_natCast, toNat_succ, toNat_succ2, toNat_pred]
      repeat (first | refine ld_nilI S rfl ?_ | refine ld_any S rfl ?_ | refine st_itN S (by first | omega | (dsimp only; omega)) fun _ S => ?_ | refine st_itO S (by first | omega | (dsimp only; omega)) fun _ S => ?_ | refine w_nonnil ?_ | refine ld_it S (by assumption) ?_ | refine ld_it0 S (by assumption) ?_ | refine ld_val S (by assumption) ?_ | refine ld_key S (by assumption) ?_ | refine ld_int S rfl ?_ | refine w_int _ (S.cnt _) ?_ | refine ld_kid S (by assumption) ?_ | refine ld_kid0 S (by assumption) ?_ | refine ld_some S rfl ?_ | refine ld_ptr S _ rfl ?_ | refine ld_sls S rfl ?_ | refine ld_nil S rfl ?_ | refine ld_bool S rfl ?_ | refine st_it S (by first | omega | (dsimp only; omega)) fun _ S => ?_ | refine st_it0 S (by first | omega | (dsimp only; omega)) fun _ S => ?_ | refine st_kid S (by first | omega | (dsimp only; omega)) none rfl fun _ S => ?_ | refine st_kid S (by first | omega | (dsimp only; omega)) (some _) rfl fun _ S => ?_ | refine st_kid0 S (by first | omega | (dsimp only; omega)) (some _) rfl fun _ S => ?_ | refine st_store S (lt_ble rfl) fun _ S => ?_ | refine st_allocK S fun _ _ S hold => ?_ | refine st_held S rfl ?_ | refine w_guard (by (first | exact inK64 (by omega) (by omega) | omega | (constructor <;> omega) | ((try dsimp only [Sh.T, Sh1.T]); first | exact inK64 (by omega) (by omega) | omega | exact ⟨by decide, inK64 (by omega) (by omega)⟩ | trivial))) ?_ | refine bd_n rfl ?_ | refine bd_e rfl ?_ | refine bd_r ?_ | refine bd_p ?_ | refine ln_r ?_ | refine ln_e ?_ | refine w_true (b := true) rfl ?_ | refine w_false (b := false) rfl ?_ | (refine w_callT (c_leafp (kp := none) (S.rd rfl)) ?_; rintro _ _ ⟨rfl, rfl⟩) | (refine w_callT (c_leafp (kp := some _) (S.rd rfl)) ?_; rintro _ _ ⟨rfl, rfl⟩) | (refine w_callT (c_leafp (S.rd rfl)) ?_; rintro _ _ ⟨rfl, rfl⟩) | (refine w_callT (c_leaf (kp := none) (S.rd rfl)) ?_; rintro _ _ ⟨rfl, rfl⟩) | (refine w_callT (c_leaf (kp := some _) (S.rd rfl)) ?_; rintro _ _ ⟨rfl, rfl⟩) | refine w_it (by assumption) (by assumption) ?_ | refine w_it0 (by assumption) (by assumption) ?_ | refine h_it hold (by assumption) (by assumption) ?_ | refine w_itV (by assumption) (by assumption) ?_ | refine w_itK (by assumption) (by assumption) ?_ | refine h_itV hold (by assumption) (by assumption) ?_ | refine h_itK hold (by assumption) (by assumption) ?_ | refine w_held (hold _ _ (by assumption)) ?_ | refine w_sl (some _, _, _) (by assumption) ?_ | refine w_ptr (some _) (by assumption) ?_ | refine w_ptr none (by assumption) ?_ | refine w_int _ (by assumption) ?_ | refine w_held (by assumption) ?_ | (refine w_callT (c_leafp (kp := none) (by assumption)) ?_; rintro _ _ ⟨rfl, rfl⟩) | (refine w_callT (c_leafp (kp := some _) (by assumption)) ?_; rintro _ _ ⟨rfl, rfl⟩) | (refine w_callT (c_leaf (kp := none) (by assumption)) ?_; rintro _ _ ⟨rfl, rfl⟩) | (refine w_callT (c_leaf (kp := some _) (by assumption)) ?_; rintro _ _ ⟨rfl, rfl⟩))
      refine st_cb S hcb (itemsB 0 t)[i] (by omega) rfl fun h3 S => ?_
      cases hgo : go acc' (itemsB 0 t)[i] with
      | true =>
        rw [hgo] at hr1
        obtain ⟨hi0, p, c, e2, e3, er⟩ := (hT.all S).leaf
        refine w_false rfl (w_callT (c_leafp (kp := none) e3) ?_)
        rintro _ _ ⟨rfl, rfl⟩
        refine w_bnd (w_false rfl (bd_n rfl ?_))
        repeat (first | refine ld_nilI S rfl ?_ | refine ld_any S rfl ?_ | refine st_itN S (by first | omega | (dsimp only; omega)) fun _ S => ?_ | refine st_itO S (by first | omega | (dsimp only; omega)) fun _ S => ?_ | refine w_nonnil ?_ | refine ld_it S (by assumption) ?_ | refine ld_it0 S (by assumption) ?_ | refine ld_val S (by assumption) ?_ | refine ld_key S (by assumption) ?_ | refine ld_int S rfl ?_ | refine w_int _ (S.cnt _) ?_ | refine ld_kid S (by assumption) ?_ | refine ld_kid0 S (by assumption) ?_ | refine ld_some S rfl ?_ | refine ld_ptr S _ rfl ?_ | refine ld_sls S rfl ?_ | refine ld_nil S rfl ?_ | refine ld_bool S rfl ?_ | refine st_it S (by first | omega | (dsimp only; omega)) fun _ S => ?_ | refine st_it0 S (by first | omega | (dsimp only; omega)) fun _ S => ?_ | refine st_kid S (by first | omega | (dsimp only; omega)) none rfl fun _ S => ?_ | refine st_kid S (by first | omega | (dsimp only; omega)) (some _) rfl fun _ S => ?_ | refine st_kid0 S (by first | omega | (dsimp only; omega)) (some _) rfl fun _ S => ?_ | refine st_store S (lt_ble rfl) fun _ S => ?_ | refine st_allocK S fun _ _ S hold => ?_ | refine st_held S rfl ?_ | refine w_guard (by (first | exact inK64 (by omega) (by omega) | omega | (constructor <;> omega) | ((try dsimp only [Sh.T, Sh1.T]); first | exact inK64 (by omega) (by omega) | omega | exact ⟨by decide, inK64 (by omega) (by omega)⟩ | trivial))) ?_ | refine bd_n rfl ?_ | refine bd_e rfl ?_ | refine bd_r ?_ | refine bd_p ?_ | refine ln_r ?_ | refine ln_e ?_ | refine w_true (b := true) rfl ?_ | refine w_false (b := false) rfl ?_ | (refine w_callT (c_leafp (kp := none) (S.rd rfl)) ?_; rintro _ _ ⟨rfl, rfl⟩) | (refine w_callT (c_leafp (kp := some _) (S.rd rfl)) ?_; rintro _ _ ⟨rfl, rfl⟩) | (refine w_callT (c_leafp (S.rd rfl)) ?_; rintro _ _ ⟨rfl, rfl⟩) | (refine w_callT (c_leaf (kp := none) (S.rd rfl)) ?_; rintro _ _ ⟨rfl, rfl⟩) | (refine w_callT (c_leaf (kp := some _) (S.rd rfl)) ?_; rintro _ _ ⟨rfl, rfl⟩) | refine w_it (by assumption) (by assumption) ?_ | refine w_it0 (by assumption) (by assumption) ?_ | refine h_it hold (by assumption) (by assumption) ?_ | refine w_itV (by assumption) (by assumption) ?_ | refine w_itK (by assumption) (by assumption) ?_ | refine h_itV hold (by assumption) (by assumption) ?_ | refine h_itK hold (by assumption) (by assumption) ?_ | refine w_held (hold _ _ (by assumption)) ?_ | refine w_sl (some _, _, _) (by assumption) ?_ | refine w_ptr (some _) (by assumption) ?_ | refine w_ptr none (by assumption) ?_ | refine w_int _ (by assumption) ?_ | refine w_held (by assumption) ?_ | (refine w_callT (c_leafp (kp := none) (by assumption)) ?_; rintro _ _ ⟨rfl, rfl⟩) | (refine w_callT (c_leafp (kp := some _) (by assumption)) ?_; rintro _ _ ⟨rfl, rfl⟩) | (refine w_callT (c_leaf (kp := none) (by assumption)) ?_; rintro _ _ ⟨rfl, rfl⟩) | (refine w_callT (c_leaf (kp := some _) (by assumption)) ?_; rintro _ _ ⟨rfl, rfl⟩))
        exact ln_n rfl i ⟨_, _, _, rfl, rfl, by omega, hD1, hr1, S⟩ (by omega)
      | false =>
        rw [hgo] at hr1
        have e : run go acc ((itemsB 0 t).take i0).reverse = (acc' ++ [(itemsB 0 t)[i]], false) := by rw [hD1, run_stop _ (by rw [hr1]), hr1]
        refine w_true rfl (ln_r (bd_r (rt_1 rfl ⟨_, ⟨by rw [e], rfl⟩, ?_⟩)))
        rw [e]; exact S
    · obtain rfl : r = 0 := by omega
      have e : run go acc ((itemsB 0 t).take i0).reverse = (acc', true) := by rw [hD, List.take_zero, List.reverse_nil, List.append_nil, hr]
      refine w_false (decide_eq_false (by (first | omega | ((try dsimp only [Sh.T, Sh1.T]); omega)))) (ln_e (bd_e rfl (rt_1 rfl ⟨_, ⟨by rw [e], rfl⟩, ?_⟩)))
      rw [e]; exact S
  | n + 1, dep, b, t, a1, h, G, acc, hdep, hoc, hL, hT, hA, h1, hi1, hv, hsr, hlen, hG => by
    apply hc_tb_nodeDescend
    unfold M_tb_nodeDescend
    have S := St.start hG
    obtain ⟨p0, c0, kp0, hc0, hkp0, b0, b1, b2, b3, br⟩ := hT.nd
    obtain ⟨is, ts⟩ := t
    have hi1 : 1 ≤ is.length := hi1
    have hl2 : ts.length = is.length + 1 := hv.2.1
    have hil : is.length ≤ mx := hv.1
    have hlm : (ts.map (flatB n)).length = is.length + 1 := by rw [List.length_map, hl2]
    have hsw : Srt (ltO o) (weave is (ts.map (flatB n))) := hsr
    refine w_callT (c_isoLoad (h1.now S).rd (tr_iso ((hT.now S).ex.choose_spec)) (hA.now S).rd) ?_
    rintro _ h ⟨rfl, rfl⟩
    refine st_callF S [.ck (HtC hp)] (fun G' hG' hsub => c_find (a1 := (b, 0)) hh hls (b2.step S hsub) (br.step S hsub) (b3.step S hsub) (hL.step S hsub) (hoc.step S hsub) (srt_items hlm hsw) hi1 (show is.length ≤ 255 by omega) (by omega) hG') ?_
    rintro _ _ h10 ⟨rfl, rfl⟩ S
    dsimp only [List.cons_append, List.nil_append] at S
    have hpi : (itemsB (n + 1) ((is, ts) : BT KV (n + 1))) = is := rfl
    rw [hpi]
    have S := S.ats [.ck (K acc), .ck (HtC hp)]
    have hpl := pos_le (lt := (ltO o)) is x
    have hwl : (weave is (ts.map (flatB n))).length = (flatB (n + 1) ((is, ts) : BT KV (n + 1))).length := rfl
    have hWl := toO_len o (flatB (n + 1) ((is, ts) : BT KV (n + 1))) x
    have hahd : ∀ i, pre ((ts.map (flatB n)).take i) (is.take i) = ahead is ts i := fun i => by simp only [ahead, List.map_take]
    have hW : toO o (flatB (n + 1) ((is, ts) : BT KV (n + 1))) x = ((weave is (ts.map (flatB n))).take (up (ltO o) (weave is (ts.map (flatB n))) x)).reverse := rfl
    obtain ⟨u, hu⟩ : ∃ u, ts[pos (ltO o) is x]? = some u := ⟨_, List.getElem?_eq_getElem (by omega)⟩
    have hum : (ts.map (flatB n))[pos (ltO o) is x]? = some (flatB n u) := by rw [List.getElem?_map, hu]; rfl
    refine w_mid' none (fun (y : SV [.c (.int .i64)]) h' => ∃ (j : Nat) (D acc' : List KV), y = ((j : Int) - 1, ()) ∧ j ≤ is.length ∧ toO o (flatB (n + 1) ((is, ts) : BT KV (n + 1))) x = D ++ (ahead is ts j).reverse ∧ run go acc D = (acc', true) ∧ St h G [K acc', HtC hp] h') ?_ ?_
    · cases hf : fnd (ltO o) is x with
      | some y =>
        obtain ⟨hlt, hy, _⟩ := fnd_some_lt hf
        refine w_false rfl (md_n rfl ⟨pos (ltO o) is x + 1, [], acc, ?_, by omega, ?_, rfl, S⟩)
        · rw [show ((pos (ltO o) is x + 1 : Nat) : Int) - 1 = (pos (ltO o) is x : Int) by omega]
        · rw [hW, take_here (ordO o) hlm hsw hum hf, hahd, ah_succ hl2 hy hu]; rfl
      | none =>
        have hdc : toO o (flatB (n + 1) ((is, ts) : BT KV (n + 1))) x = toO o (flatB n u) x ++ (ahead is ts (pos (ltO o) is x)).reverse := by
          rw [hW, take_child (ordO o) hlm hsw hum hf, hahd, List.reverse_append]; rfl
        have hmem : u ∈ ts := List.mem_of_getElem? hu
        have hsu : Srt (ltO o) (flatB n u) := by
          rw [weave_at hpl hum] at hsw
          exact (srt_append.1 (srt_append.1 hsw).2.1).1
        have hal := ah_len hl2 hu
        generalize hposd : pos (ltO o) is x = i at *
        obtain ⟨hb9, q9, cc9, x3, x0, hk9⟩ := hT.kids
        obtain ⟨kid9, kr9, kt9⟩ := hk9 _ u hu
        refine w_true rfl (w_callT (c_leafp (kp := some _) (x3.now S).rd) ?_)
        rintro _ h11 ⟨rfl, rfl⟩
        simp only [Int.toNat_natCast, toNat_succ, toNat_succ2, toNat_pred]
        have hvu := hv.2.2 u hmem
        refine w_bnd (w_true rfl (w_nonnil (w_ptr (some (hb9, 0)) (x3.now S).rd (w_nonnil (w_sl (some q9, ts.length, cc9) (x0.now S).rd (w_nonnil (w_guard ⟨by (first | omega | ((try dsimp only [Sh.T, Sh1.T]); omega)), by (first | omega | ((try dsimp only [Sh.T, Sh1.T]); omega))⟩ (w_guard (inK64 (by (first | omega | ((try dsimp only [Sh.T, Sh1.T]); omega))) (by (first | omega | ((try dsimp only [Sh.T, Sh1.T]); omega)))) ?_))))))))
        refine st_callF S [.ck (K acc), .ck (HtC hp)] (fun G' hG' hsub => c_nodeDescend hh hls hcb h1mn hmx n (dep + 1) (by omega) (hoc.step S hsub) (hL.step S hsub) (kt9.step S hsub) (hA.step S hsub) (kr9.step S hsub) (by omega) hvu.1 hsu (by omega) hG') ?_
        rintro _ _ h3 ⟨rfl, rfl⟩ S
        dsimp only [List.cons_append, List.nil_append] at S
        cases hg2 : (run go acc (toO o (flatB n u) x)).2 with
        | false =>
          have e : run go acc (toO o (flatB (n + 1) ((is, ts) : BT KV (n + 1))) x) = run go acc (toO o (flatB n u) x) := by rw [hdc, run_stop _ hg2]
          refine w_true rfl (bd_r (md_r (rt_1 rfl ⟨_, ⟨by rw [e, hg2], rfl⟩, ?_⟩)))
          rw [e]; exact S
        | true => exact w_false rfl (bd_n rfl (w_guard (inK64 (by (first | omega | ((try dsimp only [Sh.T, Sh1.T]); omega))) (by (first | omega | ((try dsimp only [Sh.T, Sh1.T]); omega)))) (md_n rfl ⟨i, _, _, rfl, by omega, hdc, Prod.ext rfl hg2, S⟩)))
    rintro _ h2 ⟨j0, D, acc', rfl, hj0, hD, hr, S⟩
    clear hu hum hW
    generalize hW : toO o (flatB (n + 1) ((is, ts) : BT KV (n + 1))) x = W at *
    refine w_bnd (w_lp (fun r y h' => ∃ (z : Int) (D acc' : List KV), y = (z, ()) ∧ z = (r : Int) - 1 ∧ r ≤ is.length ∧ W = D ++ (ahead is ts r).reverse ∧ run go acc D = (acc', true) ∧ St h G [K acc', HtC hp] h') j0 rfl
      ⟨_, D, acc', rfl, rfl, hj0, hD, hr, S⟩ ?_)
    clear hD hr S
    rintro r _ h2 ⟨z, D, acc', rfl, hz, hi, hD, hr, S⟩
    have hal := run_len go D acc
    rw [hr] at hal
    dsimp only at hal
    by_cases hlt : 0 < r
    · obtain ⟨i, rfl⟩ : ∃ i : Nat, z = i := ⟨z.toNat, by omega⟩
      obtain rfl : r = i + 1 := by omega
      obtain ⟨u, hu⟩ : ∃ u, ts[i]? = some u := ⟨_, List.getElem?_eq_getElem (by omega)⟩
      have hxi := List.getElem?_eq_getElem (show i < is.length by omega)
      have hsuc := ah_succ hl2 hxi hu
      have hD1 : W = (D ++ [is[i]]) ++ ((flatB n u).reverse ++ (ahead is ts i).reverse) := by rw [hD, hsuc]; simp
      have hD2 : W = ((D ++ [is[i]]) ++ (flatB n u).reverse) ++ (ahead is ts i).reverse := by rw [hD1]; simp
      have hDl : D.length + (1 + (flatB n u).length) ≤ W.length := by
        rw [hD1]
        simp only [List.length_reverse, List.length_append, List.length_cons, List.length_nil]
        omega
      have hr1 : run go acc (D ++ [is[i]]) = (acc' ++ [is[i]], go acc' is[i]) := by rw [run_on _ (by rw [hr]), hr, run_one]
      obtain ⟨hi0, p, c, q, d, hb, ks, e2, e3, er, e4, ekl, hk⟩ := (hT.all S).node
      dsimp only at e2 er ekl hk
      refine w_true (decide_eq_true (by (first | omega | ((try dsimp only [Sh.T, Sh1.T]); omega)))) ?_
      simp only [Int.toNat_natCast, toNat_succ, toNat_succ2, toNat_pred]
      repeat (first | refine ld_nilI S rfl ?_ | refine ld_any S rfl ?_ | refine st_itN S (by first | omega | (dsimp only; omega)) fun _ S => ?_ | refine st_itO S (by first | omega | (dsimp only; omega)) fun _ S => ?_ | refine w_nonnil ?_ | refine ld_it S (by assumption) ?_ | refine ld_it0 S (by assumption) ?_ | refine ld_val S (by assumption) ?_ | refine ld_key S (by assumption) ?_ | refine ld_int S rfl ?_ | refine w_int _ (S.cnt _) ?_ | refine ld_kid S (by assumption) ?_ | refine ld_kid0 S (by assumption) ?_ | refine ld_some S rfl ?_ | refine ld_ptr S _ rfl ?_ | refine ld_sls S rfl ?_ | refine ld_nil S rfl ?_ | refine ld_bool S rfl ?_ | refine st_it S (by first | omega | (dsimp only; omega)) fun _ S => ?_ | refine st_it0 S (by first | omega | (dsimp only; omega)) fun _ S => ?_ | refine st_kid S (by first | omega | (dsimp only; omega)) none rfl fun _ S => ?_ | refine st_kid S (by first | omega | (dsimp only; omega)) (some _) rfl fun _ S => ?_ | refine st_kid0 S (by first | omega | (dsimp only; omega)) (some _) rfl fun _ S => ?_ | refine st_store S (lt_ble rfl) fun _ S => ?_ | refine st_allocK S fun _ _ S hold => ?_ | refine st_held S rfl ?_ | refine w_guard (by (first | exact inK64 (by omega) (by omega) | omega | (constructor <;> omega) | ((try dsimp only [Sh.T, Sh1.T]); first | exact inK64 (by omega) (by omega) | omega | exact ⟨by decide, inK64 (by omega) (by omega)⟩ | trivial))) ?_ | refine bd_n rfl ?_ | refine bd_e rfl ?_ | refine bd_r ?_ | refine bd_p ?_ | refine ln_r ?_ | refine ln_e ?_ | refine w_true (b := true) rfl ?_ | refine w_false (b := false) rfl ?_ | (refine w_callT (c_leafp (kp := none) (S.rd rfl)) ?_; rintro _ _ ⟨rfl, rfl⟩) | (refine w_callT (c_leafp (kp := some _) (S.rd rfl)) ?_; rintro _ _ ⟨rfl, rfl⟩) | (refine w_callT (c_leafp (S.rd rfl)) ?_; rintro _ _ ⟨rfl, rfl⟩) | (refine w_callT (c_leaf (kp := none) (S.rd rfl)) ?_; rintro _ _ ⟨rfl, rfl⟩) | (refine w_callT (c_leaf (kp := some _) (S.rd rfl)) ?_; rintro _ _ ⟨rfl, rfl⟩) | refine w_it (by assumption) (by assumption) ?_ | refine w_it0 (by assumption) (by assumption) ?_ | refine h_it hold (by assumption) (by assumption) ?_ | refine w_itV (by assumption) (by assumption) ?_ | refine w_itK (by assumption) (by assumption) ?_ | refine h_itV hold (by assumption) (by assumption) ?_ | refine h_itK hold (by assumption) (by assumption) ?_ | refine w_held (hold _ _ (by assumption)) ?_ | refine w_sl (some _, _, _) (by assumption) ?_ | refine w_ptr (some _) (by assumption) ?_ | refine w_ptr none (by assumption) ?_ | refine w_int _ (by assumption) ?_ | refine w_held (by assumption) ?_ | (refine w_callT (c_leafp (kp := none) (by assumption)) ?_; rintro _ _ ⟨rfl, rfl⟩) | (refine w_callT (c_leafp (kp := some _) (by assumption)) ?_; rintro _ _ ⟨rfl, rfl⟩) | (refine w_callT (c_leaf (kp := none) (by assumption)) ?_; rintro _ _ ⟨rfl, rfl⟩) | (refine w_callT (c_leaf (kp := some _) (by assumption)) ?_; rintro _ _ ⟨rfl, rfl⟩))
      refine st_cb S hcb is[i] (by omega) rfl fun h3 S => ?_
      cases hgo : go acc' is[i] with
      | true =>
        rw [hgo] at hr1
        obtain ⟨hi0, p, c, q, d, hb, ks, e2, e3, er, e4, ekl, hk⟩ := (hT.all S).node
        dsimp only at e2 er ekl hk
        obtain ⟨kid, k2, k3⟩ := hk _ u hu
        refine w_false rfl (w_callT (c_leafp (kp := some _) e3) ?_)
        rintro _ _ ⟨rfl, rfl⟩
        rename_i h3
        refine w_bnd (w_true rfl ?_)
        repeat (first | refine ld_nilI S rfl ?_ | refine ld_any S rfl ?_ | refine st_itN S (by first | omega | (dsimp only; omega)) fun _ S => ?_ | refine st_itO S (by first | omega | (dsimp only; omega)) fun _ S => ?_ | refine w_nonnil ?_ | refine ld_it S (by assumption) ?_ | refine ld_it0 S (by assumption) ?_ | refine ld_val S (by assumption) ?_ | refine ld_key S (by assumption) ?_ | refine ld_int S rfl ?_ | refine w_int _ (S.cnt _) ?_ | refine ld_kid S (by assumption) ?_ | refine ld_kid0 S (by assumption) ?_ | refine ld_some S rfl ?_ | refine ld_ptr S _ rfl ?_ | refine ld_sls S rfl ?_ | refine ld_nil S rfl ?_ | refine ld_bool S rfl ?_ | refine st_it S (by first | omega | (dsimp only; omega)) fun _ S => ?_ | refine st_it0 S (by first | omega | (dsimp only; omega)) fun _ S => ?_ | refine st_kid S (by first | omega | (dsimp only; omega)) none rfl fun _ S => ?_ | refine st_kid S (by first | omega | (dsimp only; omega)) (some _) rfl fun _ S => ?_ | refine st_kid0 S (by first | omega | (dsimp only; omega)) (some _) rfl fun _ S => ?_ | refine st_store S (lt_ble rfl) fun _ S => ?_ | refine st_allocK S fun _ _ S hold => ?_ | refine st_held S rfl ?_ | refine w_guard (by (first | exact inK64 (by omega) (by omega) | omega | (constructor <;> omega) | ((try dsimp only [Sh.T, Sh1.T]); first | exact inK64 (by omega) (by omega) | omega | exact ⟨by decide, inK64 (by omega) (by omega)⟩ | trivial))) ?_ | refine bd_n rfl ?_ | refine bd_e rfl ?_ | refine bd_r ?_ | refine bd_p ?_ | refine ln_r ?_ | refine ln_e ?_ | refine w_true (b := true) rfl ?_ | refine w_false (b := false) rfl ?_ | (refine w_callT (c_leafp (kp := none) (S.rd rfl)) ?_; rintro _ _ ⟨rfl, rfl⟩) | (refine w_callT (c_leafp (kp := some _) (S.rd rfl)) ?_; rintro _ _ ⟨rfl, rfl⟩) | (refine w_callT (c_leafp (S.rd rfl)) ?_; rintro _ _ ⟨rfl, rfl⟩) | (refine w_callT (c_leaf (kp := none) (S.rd rfl)) ?_; rintro _ _ ⟨rfl, rfl⟩) | (refine w_callT (c_leaf (kp := some _) (S.rd rfl)) ?_; rintro _ _ ⟨rfl, rfl⟩) | refine w_it (by assumption) (by assumption) ?_ | refine w_it0 (by assumption) (by assumption) ?_ | refine h_it hold (by assumption) (by assumption) ?_ | refine w_itV (by assumption) (by assumption) ?_ | refine w_itK (by assumption) (by assumption) ?_ | refine h_itV hold (by assumption) (by assumption) ?_ | refine h_itK hold (by assumption) (by assumption) ?_ | refine w_held (hold _ _ (by assumption)) ?_ | refine w_sl (some _, _, _) (by assumption) ?_ | refine w_ptr (some _) (by assumption) ?_ | refine w_ptr none (by assumption) ?_ | refine w_int _ (by assumption) ?_ | refine w_held (by assumption) ?_ | (refine w_callT (c_leafp (kp := none) (by assumption)) ?_; rintro _ _ ⟨rfl, rfl⟩) | (refine w_callT (c_leafp (kp := some _) (by assumption)) ?_; rintro _ _ ⟨rfl, rfl⟩) | (refine w_callT (c_leaf (kp := none) (by assumption)) ?_; rintro _ _ ⟨rfl, rfl⟩) | (refine w_callT (c_leaf (kp := some _) (by assumption)) ?_; rintro _ _ ⟨rfl, rfl⟩))
        refine st_callF S [.ck (K (acc' ++ [is[i]]))] (fun G' hG' hsub => c_nodeReverse hcb (by omega) n (k3.sub hsub) ((hA.all S).sub hsub) k2 (hv.2.2 u (List.mem_of_getElem? hu)).1 (by simp; omega) hG') ?_
        rintro _ _ h4 ⟨rfl, rfl⟩ S
        dsimp only [List.cons_append, List.nil_append] at S
        have hr2 : run go acc ((D ++ [is[i]]) ++ (flatB n u).reverse) = run go (acc' ++ [is[i]]) (flatB n u).reverse := by rw [run_on _ (by rw [hr1]), hr1]
        cases hg2 : (run go (acc' ++ [is[i]]) (flatB n u).reverse).2 with
        | false =>
          have e : run go acc W = run go (acc' ++ [is[i]]) (flatB n u).reverse := by rw [hD2, run_stop _ (by rw [hr2, hg2]), hr2]
          refine w_true rfl (bd_r (ln_r (bd_r (rt_1 rfl ⟨_, ⟨by rw [e, hg2], rfl⟩, ?_⟩))))
          rw [e]; exact S
        | true =>
          refine w_false rfl (bd_n rfl ?_)
          repeat (first | refine ld_nilI S rfl ?_ | refine ld_any S rfl ?_ | refine st_itN S (by first | omega | (dsimp only; omega)) fun _ S => ?_ | refine st_itO S (by first | omega | (dsimp only; omega)) fun _ S => ?_ | refine w_nonnil ?_ | refine ld_it S (by assumption) ?_ | refine ld_it0 S (by assumption) ?_ | refine ld_val S (by assumption) ?_ | refine ld_key S (by assumption) ?_ | refine ld_int S rfl ?_ | refine w_int _ (S.cnt _) ?_ | refine ld_kid S (by assumption) ?_ | refine ld_kid0 S (by assumption) ?_ | refine ld_some S rfl ?_ | refine ld_ptr S _ rfl ?_ | refine ld_sls S rfl ?_ | refine ld_nil S rfl ?_ | refine ld_bool S rfl ?_ | refine st_it S (by first | omega | (dsimp only; omega)) fun _ S => ?_ | refine st_it0 S (by first | omega | (dsimp only; omega)) fun _ S => ?_ | refine st_kid S (by first | omega | (dsimp only; omega)) none rfl fun _ S => ?_ | refine st_kid S (by first | omega | (dsimp only; omega)) (some _) rfl fun _ S => ?_ | refine st_kid0 S (by first | omega | (dsimp only; omega)) (some _) rfl fun _ S => ?_ | refine st_store S (lt_ble rfl) fun _ S => ?_ | refine st_allocK S fun _ _ S hold => ?_ | refine st_held S rfl ?_ | refine w_guard (by (first | exact inK64 (by omega) (by omega) | omega | (constructor <;> omega) | ((try dsimp only [Sh.T, Sh1.T]); first | exact inK64 (by omega) (by omega) | omega | exact ⟨by decide, inK64 (by omega) (by omega)⟩ | trivial))) ?_ | refine bd_n rfl ?_ | refine bd_e rfl ?_ | refine bd_r ?_ | refine bd_p ?_ | refine ln_r ?_ | refine ln_e ?_ | refine w_true (b := true) rfl ?_ | refine w_false (b := false) rfl ?_ | (refine w_callT (c_leafp (kp := none) (S.rd rfl)) ?_; rintro _ _ ⟨rfl, rfl⟩) | (refine w_callT (c_leafp (kp := some _) (S.rd rfl)) ?_; rintro _ _ ⟨rfl, rfl⟩) | (refine w_callT (c_leafp (S.rd rfl)) ?_; rintro _ _ ⟨rfl, rfl⟩) | (refine w_callT (c_leaf (kp := none) (S.rd rfl)) ?_; rintro _ _ ⟨rfl, rfl⟩) | (refine w_callT (c_leaf (kp := some _) (S.rd rfl)) ?_; rintro _ _ ⟨rfl, rfl⟩) | refine w_it (by assumption) (by assumption) ?_ | refine w_it0 (by assumption) (by assumption) ?_ | refine h_it hold (by assumption) (by assumption) ?_ | refine w_itV (by assumption) (by assumption) ?_ | refine w_itK (by assumption) (by assumption) ?_ | refine h_itV hold (by assumption) (by assumption) ?_ | refine h_itK hold (by assumption) (by assumption) ?_ | refine w_held (hold _ _ (by assumption)) ?_ | refine w_sl (some _, _, _) (by assumption) ?_ | refine w_ptr (some _) (by assumption) ?_ | refine w_ptr none (by assumption) ?_ | refine w_int _ (by assumption) ?_ | refine w_held (by assumption) ?_ | (refine w_callT (c_leafp (kp := none) (by assumption)) ?_; rintro _ _ ⟨rfl, rfl⟩) | (refine w_callT (c_leafp (kp := some _) (by assumption)) ?_; rintro _ _ ⟨rfl, rfl⟩) | (refine w_callT (c_leaf (kp := none) (by assumption)) ?_; rintro _ _ ⟨rfl, rfl⟩) | (refine w_callT (c_leaf (kp := some _) (by assumption)) ?_; rintro _ _ ⟨rfl, rfl⟩))
          exact ln_n rfl i ⟨_, _, _, rfl, rfl, by omega, hD2, by rw [hr2]; exact Prod.ext rfl hg2, S⟩ (by omega)
      | false =>
        rw [hgo] at hr1
        have e : run go acc W = (acc' ++ [is[i]], false) := by rw [hD1, run_stop _ (by rw [hr1]), hr1]
        refine w_true rfl (ln_r (bd_r (rt_1 rfl ⟨_, ⟨by rw [e], rfl⟩, ?_⟩)))
        rw [e]; exact S
    · obtain rfl : r = 0 := by omega
      have e : run go acc W = (acc', true) := by rw [hD, ah_zero, List.reverse_nil, List.append_nil, hr]
      refine w_false (decide_eq_false (by (first | omega | ((try dsimp only [Sh.T, Sh1.T]); omega)))) (ln_e (bd_e rfl (rt_1 rfl ⟨_, ⟨by rw [e], rfl⟩, ?_⟩)))
      rw [e]; exact S
theorem c_descend {a0 : PA} {iso : Int} {dg N : Nat} {l acc : List KV} {x : KV} {m : Bool} {f : Value} {K : List KV → Ck} {go : List KV → KV → Bool} (hh : HsOK hp) (hls : Lss ls oc o) (hcb : Cbk Try.prog f argO K go N) (hll : l.length ≤ 4294967295) (hl : acc.length + l.length ≤ N) {G : PA → Prop} (hoc : Bes oc h G) (hG : Star [K acc, MpC ls o iso dg a0 l, HtC hp] h G) :
    HT Try.prog fn_tb_descend [.c (.addr a0), .c (.raw (anyV x)), .c (.raw f), .c (.bool m), .c (.ptr hp)] true [] h fun _ h' => ∃ post, (post = [K (run go acc (toO o l x)).1, MpC ls o iso dg a0 l, HtC hp]) ∧ St h G post h' := by
  apply hc_tb_descend
  unfold M_tb_descend
  have S := St.start hG
  (refine w_callT c_lock ?_; rintro _ hk ⟨rfl, rfl⟩; refine w_bnd (w_false rfl (bd_n rfl ?_)))
  rcases open_map (S.at (.mp a0)) with ⟨ctr, mn, mx, rfl, hg, S⟩ | ⟨ctr, n, b, t, rfl, hs, hv, hi, hg, S⟩
  · repeat (first | refine ld_nilI S rfl ?_ | refine ld_any S rfl ?_ | refine st_itN S (by first | omega | (dsimp only; omega)) fun _ S => ?_ | refine st_itO S (by first | omega | (dsimp only; omega)) fun _ S => ?_ | refine w_nonnil ?_ | refine ld_it S (by assumption) ?_ | refine ld_it0 S (by assumption) ?_ | refine ld_val S (by assumption) ?_ | refine ld_key S (by assumption) ?_ | refine ld_int S rfl ?_ | refine w_int _ (S.cnt _) ?_ | refine ld_kid S (by assumption) ?_ | refine ld_kid0 S (by assumption) ?_ | refine ld_some S rfl ?_ | refine ld_ptr S _ rfl ?_ | refine ld_sls S rfl ?_ | refine ld_nil S rfl ?_ | refine ld_bool S rfl ?_ | refine st_it S (by first | omega | (dsimp only; omega)) fun _ S => ?_ | refine st_it0 S (by first | omega | (dsimp only; omega)) fun _ S => ?_ | refine st_kid S (by first | omega | (dsimp only; omega)) none rfl fun _ S => ?_ | refine st_kid S (by first | omega | (dsimp only; omega)) (some _) rfl fun _ S => ?_ | refine st_kid0 S (by first | omega | (dsimp only; omega)) (some _) rfl fun _ S => ?_ | refine st_store S (lt_ble rfl) fun _ S => ?_ | refine st_alloc S fun _ _ S => ?_ | refine st_held S rfl ?_ | refine w_guard (by (first | exact inK64 (by omega) (by omega) | omega | (constructor <;> omega) | ((try dsimp only [Sh.T, Sh1.T]); first | exact inK64 (by omega) (by omega) | omega | exact ⟨by decide, inK64 (by omega) (by omega)⟩ | trivial))) ?_ | refine bd_n rfl ?_ | refine bd_e rfl ?_ | refine bd_r ?_ | refine bd_p ?_ | refine ln_r ?_ | refine ln_e ?_ | refine w_true (b := true) rfl ?_ | refine w_false (b := false) rfl ?_ | (refine w_callT (c_leafp (kp := none) (S.rd rfl)) ?_; rintro _ _ ⟨rfl, rfl⟩) | (refine w_callT (c_leafp (kp := some _) (S.rd rfl)) ?_; rintro _ _ ⟨rfl, rfl⟩) | (refine w_callT (c_leafp (S.rd rfl)) ?_; rintro _ _ ⟨rfl, rfl⟩) | (refine w_callT (c_leaf (kp := none) (S.rd rfl)) ?_; rintro _ _ ⟨rfl, rfl⟩) | (refine w_callT (c_leaf (kp := some _) (S.rd rfl)) ?_; rintro _ _ ⟨rfl, rfl⟩))
    exact rt_n rfl rfl ⟨_, rfl, (shut_map0 (S.at (.ow a0)) hg).only [.ck (K acc), .mp a0, .ck (HtC hp)]⟩
  · repeat (first | refine ld_nilI S rfl ?_ | refine ld_any S rfl ?_ | refine st_itN S (by first | omega | (dsimp only; omega)) fun _ S => ?_ | refine st_itO S (by first | omega | (dsimp only; omega)) fun _ S => ?_ | refine w_nonnil ?_ | refine ld_it S (by assumption) ?_ | refine ld_it0 S (by assumption) ?_ | refine ld_val S (by assumption) ?_ | refine ld_key S (by assumption) ?_ | refine ld_int S rfl ?_ | refine w_int _ (S.cnt _) ?_ | refine ld_kid S (by assumption) ?_ | refine ld_kid0 S (by assumption) ?_ | refine ld_some S rfl ?_ | refine ld_ptr S _ rfl ?_ | refine ld_sls S rfl ?_ | refine ld_nil S rfl ?_ | refine ld_bool S rfl ?_ | refine st_it S (by first | omega | (dsimp only; omega)) fun _ S => ?_ | refine st_it0 S (by first | omega | (dsimp only; omega)) fun _ S => ?_ | refine st_kid S (by first | omega | (dsimp only; omega)) none rfl fun _ S => ?_ | refine st_kid S (by first | omega | (dsimp only; omega)) (some _) rfl fun _ S => ?_ | refine st_kid0 S (by first | omega | (dsimp only; omega)) (some _) rfl fun _ S => ?_ | refine st_store S (lt_ble rfl) fun _ S => ?_ | refine st_alloc S fun _ _ S => ?_ | refine st_held S rfl ?_ | refine w_guard (by (first | exact inK64 (by omega) (by omega) | omega | (constructor <;> omega) | ((try dsimp only [Sh.T, Sh1.T]); first | exact inK64 (by omega) (by omega) | omega | exact ⟨by decide, inK64 (by omega) (by omega)⟩ | trivial))) ?_ | refine bd_n rfl ?_ | refine bd_e rfl ?_ | refine bd_r ?_ | refine bd_p ?_ | refine ln_r ?_ | refine ln_e ?_ | refine w_true (b := true) rfl ?_ | refine w_false (b := false) rfl ?_ | (refine w_callT (c_leafp (kp := none) (S.rd rfl)) ?_; rintro _ _ ⟨rfl, rfl⟩) | (refine w_callT (c_leafp (kp := some _) (S.rd rfl)) ?_; rintro _ _ ⟨rfl, rfl⟩) | (refine w_callT (c_leafp (S.rd rfl)) ?_; rintro _ _ ⟨rfl, rfl⟩) | (refine w_callT (c_leaf (kp := none) (S.rd rfl)) ?_; rintro _ _ ⟨rfl, rfl⟩) | (refine w_callT (c_leaf (kp := some _) (S.rd rfl)) ?_; rintro _ _ ⟨rfl, rfl⟩))
    have hnl := ht_le hg.2.1 n t hv hi
    have S1 := S.only [.ck (K acc), .ck (HtC hp), .ow a0, .tr b]
    refine st_callS S1 [.ck (K acc), .ck (HtC hp)] (fun G' B' hG' hB' hd' hsub' => c_nodeDescend hh hls hcb hg.2.1 hg.2.2 n 0 (by omega) (hoc.step S1 hsub') (bes hB' hd' rfl) ?_ (bes hB' hd' rfl) (bes hB' hd' rfl) hi hv hs hl hG') ?_
    · obtain ⟨F, g1, g2⟩ := star_mem hB' (TrC L iso n b t) (by simp)
      exact ⟨F, g1, hd'.symm.sub g2 fun _ hx => hx⟩
    rintro _ _ h3 ⟨rfl, rfl⟩ S
    dsimp only [List.cons_append, List.nil_append] at S
    exact rt_n rfl rfl ⟨_, rfl, (shut_map (S.ats [.ow a0, .tr b]) rfl rfl hs hv hi hg).ats [.ck (K (run go acc (toO o (flatB n t) x)).1), .mp a0, .ck (HtC hp)]⟩
theorem c_Descend {a0 : PA} {iso : Int} {dg N : Nat} {l acc : List KV} {x : KV} {f : Value} {K : List KV → Ck} {go : List KV → KV → Bool} (hls : Lss ls oc o) (hcb : Cbk Try.prog f argO K go N) (hll : l.length ≤ 4294967295) (hl : acc.length + l.length ≤ N) {G : PA → Prop} (hoc : Bes oc h G) (hG : Star [K acc, MpC ls o iso dg a0 l] h G) :
    HT Try.prog fn_tb_Descend [.c (.addr a0), .c (.raw (anyV x)), .c (.raw f)] true [] h fun _ h' => ∃ post, (post = [K (run go acc (toO o l x)).1, MpC ls o iso dg a0 l]) ∧ St h G post h' := by
  apply hc_tb_Descend
  unfold M_tb_Descend
  have S := St.start hG
  have S : St h G (HtC none :: _) _ := St.em_in S
  refine st_callF S [.ck (K acc), .mp a0, .ck (HtC none)] (fun G hG hsub => c_descend (m := false) .no hls hcb hll hl (hoc.step S hsub) hG) ?_
  rintro _ _ h2 rfl S
  dsimp only [List.cons_append, List.nil_append] at S
  exact rt_n rfl rfl ⟨_, rfl, S.only [.ck (K (run go acc (toO o l x)).1), .mp a0]⟩
theorem c_DescendHint {a0 : PA} {iso : Int} {dg N : Nat} {l acc : List KV} {x : KV} {f : Value} {K : List KV → Ck} {go : List KV → KV → Bool} (hh : HsOK hp) (hls : Lss ls oc o) (hcb : Cbk Try.prog f argO K go N) (hll : l.length ≤ 4294967295) (hl : acc.length + l.length ≤ N) {G : PA → Prop} (hoc : Bes oc h G) (hG : Star [K acc, MpC ls o iso dg a0 l, HtC hp] h G) :
    HT Try.prog fn_tb_DescendHint [.c (.addr a0), .c (.raw (anyV x)), .c (.raw f), .c (.ptr hp)] true [] h fun _ h' => ∃ post, (post = [K (run go acc (toO o l x)).1, MpC ls o iso dg a0 l, HtC hp]) ∧ St h G post h' := by
  apply hc_tb_DescendHint
  unfold M_tb_DescendHint
  have S := St.start hG
  refine st_callF S [.ck (K acc), .mp a0, .ck (HtC hp)] (fun G hG hsub => c_descend (m := false) hh hls hcb hll hl (hoc.step S hsub) hG) ?_
  rintro _ _ h2 rfl S
  dsimp only [List.cons_append, List.nil_append] at S
  exact rt_n rfl rfl ⟨_, rfl, S⟩
end
end Go.Proofs.Ytlhbdmjeomffhaa.TB
