/-
  The map ms: the items handed on from a key down. Conditions: none.
-/
import Derived.Test.YtpbmahnieepmiaaPgR
import Derived.Test.YtpbmahnieepmiaaRvms
set_option linter.unusedVariables false
set_option linter.unusedSimpArgs false
set_option linter.unusedSectionVars false
set_option maxRecDepth 100000
namespace Go.Proofs.Ytpbmahnieepmiaa.MS
open Go Go.Proofs.Ytpbmahnieepmiaa
section
variable {h : H}
theorem up_some {xs : List KV} {x y : KV} (hf : fnd lt xs x = some y) : up lt xs x = pos lt xs x + 1 := by simp [up, hf]
theorem up_none {xs : List KV} {x : KV} (hf : fnd lt xs x = none) : up lt xs x = pos lt xs x := by simp [up, hf]
set_option maxHeartbeats 2000000 in
theorem c_nodeDescend {a0 : PA} {iso : Int} {m : Bool} {mn mx N : Nat} {k : Int} {f : Value} {K : List KV → Ck} {go : List KV → KV → Bool} (hcb : Cbk Try.prog f argO K go N) (hmx : mx ≤ 2147483647) : ∀ (n : Nat) {b : Nat} {t : BT KV n} {a1 : PA} {h : H} {G : PA → Prop} {acc : List KV},
    Bes (TrC L iso n b t) h G → Bes (RdC (a0.1, a0.2) (.int .u64 iso)) h G → rd h a1 = some (kptr b) → Val mn mx n t → Srt lt (flatB n t) → acc.length + (flatB n t).length ≤ N → Star [K acc] h G →
    HT Try.prog fn_ms_nodeDescend [.c (.addr a0), .c (.addr a1), .c (.int .i64 k), .c (.raw f), .c (.bool m)] false [.c .bool] h fun r h' =>
      ∃ post, (r = ((run go acc (toO (flatB n t) k)).2, ()) ∧ post = [K (run go acc (toO (flatB n t) k)).1]) ∧ St h G post h'
  | 0, b, t, a1, h, G, acc, hT, hA, h1, hv, hsr, hlen, hG => by
    apply hc_ms_nodeDescend
    unfold M_ms_nodeDescend
    have S := St.start hG
    obtain ⟨hi0, p, c, e2, e3, er⟩ := hT.leaf
    refine w_callT (c_isoLoad h1 hi0 hA.rd) ?_
    rintro _ _ ⟨rfl, rfl⟩
    rename_i h
    have hil : (itemsB 0 t).length ≤ mx := hv
    have hfl : flatB 0 t = itemsB 0 t := rfl
    rw [hfl] at hlen hsr ⊢
    refine w_callV (args' := [.c (.addr a0), .c (.addr (b, 0)), .c (.int .i64 k)]) rfl (c_searchV () (a1 := (b, 0)) e2 er hsr (by omega)) ?_
    rintro _ _ ⟨rfl, rfl⟩
    rename_i h
    have hpl := pos_le (lt := lt) (itemsB 0 t) (k, ())
    have hul := up_le ord (itemsB 0 t) (k, ())
    refine w_mid' none (fun (y : SV [.c (.int .i64)]) h' => y = ((up lt (itemsB 0 t) (k, ()) : Int) - 1, ()) ∧ h' = h) ?_ ?_
    · cases hf : fnd lt (itemsB 0 t) (k, ()) with
      | some y => exact w_false rfl (md_n rfl ⟨by rw [up_some hf, show ((pos lt (itemsB 0 t) (k, ()) + 1 : Nat) : Int) - 1 = (pos lt (itemsB 0 t) (k, ()) : Int) by omega], rfl⟩)
      | none =>
        refine w_true rfl (w_callT (c_leafp (kp := none) e3) ?_)
        rintro _ _ ⟨rfl, rfl⟩
        refine w_bnd (w_false rfl (bd_n rfl (w_guard (inK64 (by (first | omega | ((try dsimp only [Sh.T, Sh1.T]); omega))) (by (first | omega | ((try dsimp only [Sh.T, Sh1.T]); omega)))) (md_n rfl ⟨?_, rfl⟩))))
        rw [up_none hf]
    rintro _ _ ⟨rfl, rfl⟩
    rename_i h
    unfold toO
    generalize hposd : up lt (itemsB 0 t) (k, ()) = i0 at *
    refine w_bnd (w_lp (fun r y h' => ∃ (z : Int) (D acc' : List KV), y = (z, ()) ∧ z = (r : Int) - 1 ∧ r ≤ (itemsB 0 t).length ∧ ((itemsB 0 t).take i0).reverse = D ++ ((itemsB 0 t).take r).reverse ∧ run go acc D = (acc', true) ∧ St h G [K acc'] h') i0 rfl
      ⟨_, [], acc, rfl, rfl, hul, rfl, rfl, S⟩ ?_)
    rintro r _ h2 ⟨z, D, acc', rfl, hz, hi, hD, hr, S⟩
    obtain ⟨hi0, p, c, e2, e3, er⟩ := (hT.all S).leaf
    have hal := run_len go D acc
    have hDl : D.length + r = i0 := by
      have := congrArg List.length hD
      simp only [List.length_reverse, List.length_append, List.length_take] at this
      omega
    rw [hr] at hal
    dsimp only at hal
    by_cases hlt : 0 < r
    · obtain ⟨i, rfl⟩ : ∃ i : Nat, z = i := ⟨z.toNat, by omega⟩
      obtain rfl : r = i + 1 := by omega
      have hxi := List.getElem?_eq_getElem (show i < (itemsB 0 t).length by omega)
      have hr1 : run go acc (D ++ [(itemsB 0 t)[i]]) = (acc' ++ [(itemsB 0 t)[i]], go acc' (itemsB 0 t)[i]) := by rw [run_on _ (by rw [hr]), hr, run_one]
      have hD1 : ((itemsB 0 t).take i0).reverse = (D ++ [(itemsB 0 t)[i]]) ++ ((itemsB 0 t).take i).reverse := by rw [hD, rev_take hxi]; simp
      refine w_true (decide_eq_true (by (first | omega | ((try dsimp only [Sh.T, Sh1.T]); omega)))) ?_
      simp only [Int.toNat_natCast, toNat_succ, toNat_succ2, toNat_pred]
      have hok := Bes.okp (hT.all S) e2 (by first | exact Nat.zero_lt_of_lt hlt | omega | (dsimp only [itemsB]; omega))
      repeat (first | refine st_there (fun _ h => h) S (lt_ble rfl) ?_ | refine th_it S (by first | omega | (dsimp only; omega)) ?_ | refine w_there hok ?_ | refine w_nonnil ?_ | refine ld_it S (by assumption) ?_ | refine ld_it0 S (by assumption) ?_ | refine ld_val S (by assumption) ?_ | refine ld_key S (by assumption) ?_ | refine ld_int S rfl ?_ | refine w_int _ (S.cnt _) ?_ | refine ld_kid S (by assumption) ?_ | refine ld_kid0 S (by assumption) ?_ | refine ld_some S rfl ?_ | refine ld_ptr S _ rfl ?_ | refine ld_sls S rfl ?_ | refine ld_nil S rfl ?_ | refine ld_bool S rfl ?_ | refine st_it S (by first | omega | (dsimp only; omega)) fun _ S => ?_ | refine st_it0 S (by first | omega | (dsimp only; omega)) fun _ S => ?_ | refine st_kid S (by first | omega | (dsimp only; omega)) none rfl fun _ S => ?_ | refine st_kid S (by first | omega | (dsimp only; omega)) (some _) rfl fun _ S => ?_ | refine st_kid0 S (by first | omega | (dsimp only; omega)) (some _) rfl fun _ S => ?_ | refine st_store S (lt_ble rfl) fun _ S => ?_ | refine st_allocK S fun _ _ S hold => ?_ | refine st_held S rfl ?_ | refine w_guard (by (first | exact inK64 (by omega) (by omega) | omega | (constructor <;> omega) | ((try dsimp only [Sh.T, Sh1.T]); first | exact inK64 (by omega) (by omega) | omega | exact ⟨by decide, inK64 (by omega) (by omega)⟩ | trivial))) ?_ | refine bd_n rfl ?_ | refine bd_e rfl ?_ | refine bd_r ?_ | refine bd_p ?_ | refine ln_r ?_ | refine ln_e ?_ | refine w_true (b := true) rfl ?_ | refine w_false (b := false) rfl ?_ | refine w_guard (show noMeths _ _ by show _ = _; kernel_rfl) ?_ | (refine w_callT (c_leafp (kp := none) (S.rd rfl)) ?_; rintro _ _ ⟨rfl, rfl⟩) | (refine w_callT (c_leafp (kp := some _) (S.rd rfl)) ?_; rintro _ _ ⟨rfl, rfl⟩) | (refine w_callT (c_leafp (S.rd rfl)) ?_; rintro _ _ ⟨rfl, rfl⟩) | (refine w_callT (c_leaf (kp := none) (S.rd rfl)) ?_; rintro _ _ ⟨rfl, rfl⟩) | (refine w_callT (c_leaf (kp := some _) (S.rd rfl)) ?_; rintro _ _ ⟨rfl, rfl⟩) | refine w_it (by assumption) (by assumption) ?_ | refine w_it0 (by assumption) (by assumption) ?_ | refine h_it hold (by assumption) (by assumption) ?_ | refine w_itV (by assumption) (by assumption) ?_ | refine w_itK (by assumption) (by assumption) ?_ | refine h_itV hold (by assumption) (by assumption) ?_ | refine h_itK hold (by assumption) (by assumption) ?_ | refine w_held (hold _ _ (by assumption)) ?_ | refine w_sl (some _, _, _) (by assumption) ?_ | refine w_ptr (some _) (by assumption) ?_ | refine w_ptr none (by assumption) ?_ | refine w_int _ (by assumption) ?_ | refine w_held (by assumption) ?_ | (refine w_callT (c_leafp (kp := none) (by assumption)) ?_; rintro _ _ ⟨rfl, rfl⟩) | (refine w_callT (c_leafp (kp := some _) (by assumption)) ?_; rintro _ _ ⟨rfl, rfl⟩) | (refine w_callT (c_leaf (kp := none) (by assumption)) ?_; rintro _ _ ⟨rfl, rfl⟩) | (refine w_callT (c_leaf (kp := some _) (by assumption)) ?_; rintro _ _ ⟨rfl, rfl⟩))
      refine st_cb S hcb (itemsB 0 t)[i] (by omega) rfl fun h3 S => ?_
      cases hgo : go acc' (itemsB 0 t)[i] with
      | true =>
        rw [hgo] at hr1
        obtain ⟨hi0, p, c, e2, e3, er⟩ := (hT.all S).leaf
        refine w_false rfl (w_callT (c_leafp (kp := none) e3) ?_)
        rintro _ _ ⟨rfl, rfl⟩
        refine w_bnd (w_false rfl (bd_n rfl ?_))
        repeat (first | refine st_there (fun _ h => h) S (lt_ble rfl) ?_ | refine th_it S (by first | omega | (dsimp only; omega)) ?_ | refine w_there hok ?_ | refine w_nonnil ?_ | refine ld_it S (by assumption) ?_ | refine ld_it0 S (by assumption) ?_ | refine ld_val S (by assumption) ?_ | refine ld_key S (by assumption) ?_ | refine ld_int S rfl ?_ | refine w_int _ (S.cnt _) ?_ | refine ld_kid S (by assumption) ?_ | refine ld_kid0 S (by assumption) ?_ | refine ld_some S rfl ?_ | refine ld_ptr S _ rfl ?_ | refine ld_sls S rfl ?_ | refine ld_nil S rfl ?_ | refine ld_bool S rfl ?_ | refine st_it S (by first | omega | (dsimp only; omega)) fun _ S => ?_ | refine st_it0 S (by first | omega | (dsimp only; omega)) fun _ S => ?_ | refine st_kid S (by first | omega | (dsimp only; omega)) none rfl fun _ S => ?_ | refine st_kid S (by first | omega | (dsimp only; omega)) (some _) rfl fun _ S => ?_ | refine st_kid0 S (by first | omega | (dsimp only; omega)) (some _) rfl fun _ S => ?_ | refine st_store S (lt_ble rfl) fun _ S => ?_ | refine st_allocK S fun _ _ S hold => ?_ | refine st_held S rfl ?_ | refine w_guard (by (first | exact inK64 (by omega) (by omega) | omega | (constructor <;> omega) | ((try dsimp only [Sh.T, Sh1.T]); first | exact inK64 (by omega) (by omega) | omega | exact ⟨by decide, inK64 (by omega) (by omega)⟩ | trivial))) ?_ | refine bd_n rfl ?_ | refine bd_e rfl ?_ | refine bd_r ?_ | refine bd_p ?_ | refine ln_r ?_ | refine ln_e ?_ | refine w_true (b := true) rfl ?_ | refine w_false (b := false) rfl ?_ | refine w_guard (show noMeths _ _ by show _ = _; kernel_rfl) ?_ | (refine w_callT (c_leafp (kp := none) (S.rd rfl)) ?_; rintro _ _ ⟨rfl, rfl⟩) | (refine w_callT (c_leafp (kp := some _) (S.rd rfl)) ?_; rintro _ _ ⟨rfl, rfl⟩) | (refine w_callT (c_leafp (S.rd rfl)) ?_; rintro _ _ ⟨rfl, rfl⟩) | (refine w_callT (c_leaf (kp := none) (S.rd rfl)) ?_; rintro _ _ ⟨rfl, rfl⟩) | (refine w_callT (c_leaf (kp := some _) (S.rd rfl)) ?_; rintro _ _ ⟨rfl, rfl⟩) | refine w_it (by assumption) (by assumption) ?_ | refine w_it0 (by assumption) (by assumption) ?_ | refine h_it hold (by assumption) (by assumption) ?_ | refine w_itV (by assumption) (by assumption) ?_ | refine w_itK (by assumption) (by assumption) ?_ | refine h_itV hold (by assumption) (by assumption) ?_ | refine h_itK hold (by assumption) (by assumption) ?_ | refine w_held (hold _ _ (by assumption)) ?_ | refine w_sl (some _, _, _) (by assumption) ?_ | refine w_ptr (some _) (by assumption) ?_ | refine w_ptr none (by assumption) ?_ | refine w_int _ (by assumption) ?_ | refine w_held (by assumption) ?_ | (refine w_callT (c_leafp (kp := none) (by assumption)) ?_; rintro _ _ ⟨rfl, rfl⟩) | (refine w_callT (c_leafp (kp := some _) (by assumption)) ?_; rintro _ _ ⟨rfl, rfl⟩) | (refine w_callT (c_leaf (kp := none) (by assumption)) ?_; rintro _ _ ⟨rfl, rfl⟩) | (refine w_callT (c_leaf (kp := some _) (by assumption)) ?_; rintro _ _ ⟨rfl, rfl⟩))
        exact ln_n rfl i ⟨_, _, _, rfl, rfl, by omega, hD1, hr1, S⟩ (by omega)
      | false =>
        rw [hgo] at hr1
        have e : run go acc ((itemsB 0 t).take i0).reverse = (acc' ++ [(itemsB 0 t)[i]], false) := by rw [hD1, run_stop _ (by rw [hr1]), hr1]
        refine w_true rfl (ln_r (bd_r (rt_1 rfl ⟨_, ⟨by rw [e], rfl⟩, ?_⟩)))
        rw [e]; exact S
    · obtain rfl : r = 0 := by omega
      have e : run go acc ((itemsB 0 t).take i0).reverse = (acc', true) := by rw [hD, List.take_zero, List.reverse_nil, List.append_nil, hr]
      refine w_false (decide_eq_false (by (first | omega | ((try dsimp only [Sh.T, Sh1.T]); omega)))) (ln_e (bd_e rfl (rt_1 rfl ⟨_, ⟨by rw [e], rfl⟩, ?_⟩)))
      rw [e]; exact S
  | n + 1, b, t, a1, h, G, acc, hT, hA, h1, hv, hsr, hlen, hG => by
    apply hc_ms_nodeDescend
    unfold M_ms_nodeDescend
    have S := St.start hG
    obtain ⟨hi0, p, c, q, d, hb, ks, e2, e3, er, e4, ekl, hk⟩ := hT.node
    obtain ⟨is, ts⟩ := t
    have hl2 : ts.length = is.length + 1 := hv.2.1
    have hil : is.length ≤ mx := hv.1
    have hlm : (ts.map (flatB n)).length = is.length + 1 := by rw [List.length_map, hl2]
    have hsw : Srt lt (weave is (ts.map (flatB n))) := hsr
    dsimp only at e2 er ekl hk
    refine w_callT (c_isoLoad h1 hi0 hA.rd) ?_
    rintro _ _ ⟨rfl, rfl⟩
    rename_i h
    refine w_callV (args' := [.c (.addr a0), .c (.addr (b, 0)), .c (.int .i64 k)]) rfl (c_searchV () (a1 := (b, 0)) e2 er (srt_items hlm hsw) (by omega)) ?_
    rintro _ _ ⟨rfl, rfl⟩
    rename_i h
    have hpl := pos_le (lt := lt) is (k, ())
    have hwl : (weave is (ts.map (flatB n))).length = (flatB (n + 1) ((is, ts) : BT KV (n + 1))).length := rfl
    have hWl := toO_len (flatB (n + 1) ((is, ts) : BT KV (n + 1))) k
    have hahd : ∀ i, pre ((ts.map (flatB n)).take i) (is.take i) = ahead is ts i := fun i => by simp only [ahead, List.map_take]
    have hW : toO (flatB (n + 1) ((is, ts) : BT KV (n + 1))) k = ((weave is (ts.map (flatB n))).take (up lt (weave is (ts.map (flatB n))) (k, ()))).reverse := rfl
    obtain ⟨u, hu⟩ : ∃ u, ts[pos lt is (k, ())]? = some u := ⟨_, List.getElem?_eq_getElem (by omega)⟩
    have hum : (ts.map (flatB n))[pos lt is (k, ())]? = some (flatB n u) := by rw [List.getElem?_map, hu]; rfl
    refine w_mid' none (fun (y : SV [.c (.int .i64)]) h' => ∃ (j : Nat) (D acc' : List KV), y = ((j : Int) - 1, ()) ∧ j ≤ is.length ∧ toO (flatB (n + 1) ((is, ts) : BT KV (n + 1))) k = D ++ (ahead is ts j).reverse ∧ run go acc D = (acc', true) ∧ St h G [K acc'] h') ?_ ?_
    · cases hf : fnd lt is (k, ()) with
      | some y =>
        obtain ⟨hlt, hy, _⟩ := fnd_some_lt hf
        refine w_false rfl (md_n rfl ⟨pos lt is (k, ()) + 1, [], acc, ?_, by omega, ?_, rfl, S⟩)
        · rw [show ((pos lt is (k, ()) + 1 : Nat) : Int) - 1 = (pos lt is (k, ()) : Int) by omega]
        · rw [hW, take_here ord hlm hsw hum hf, hahd, ah_succ hl2 hy hu]; rfl
      | none =>
        have hdc : toO (flatB (n + 1) ((is, ts) : BT KV (n + 1))) k = toO (flatB n u) k ++ (ahead is ts (pos lt is (k, ()))).reverse := by
          rw [hW, take_child ord hlm hsw hum hf, hahd, List.reverse_append]; rfl
        have hmem : u ∈ ts := List.mem_of_getElem? hu
        have hsu : Srt lt (flatB n u) := by
          rw [weave_at hpl hum] at hsw
          exact (srt_append.1 (srt_append.1 hsw).2.1).1
        have hal := ah_len hl2 hu
        generalize hposd : pos lt is (k, ()) = i at *
        obtain ⟨hi0, p, c, q, d, hb, ks, e2, e3, er, e4, ekl, hk⟩ := (hT.all S).node
        dsimp only at e2 er ekl hk
        obtain ⟨kid, k2, k3⟩ := hk _ u hu
        refine w_true rfl (w_callT (c_leafp (kp := some _) e3) ?_)
        rintro _ _ ⟨rfl, rfl⟩
        rename_i h
        simp only [Int.toNat_natCast, toNat_succ, toNat_succ2, toNat_pred]
        refine w_bnd (w_true rfl ?_)
        repeat (first | refine st_there (fun _ h => h) S (lt_ble rfl) ?_ | refine th_it S (by first | omega | (dsimp only; omega)) ?_ | refine w_there hok ?_ | refine w_nonnil ?_ | refine ld_it S (by assumption) ?_ | refine ld_it0 S (by assumption) ?_ | refine ld_val S (by assumption) ?_ | refine ld_key S (by assumption) ?_ | refine ld_int S rfl ?_ | refine w_int _ (S.cnt _) ?_ | refine ld_kid S (by assumption) ?_ | refine ld_kid0 S (by assumption) ?_ | refine ld_some S rfl ?_ | refine ld_ptr S _ rfl ?_ | refine ld_sls S rfl ?_ | refine ld_nil S rfl ?_ | refine ld_bool S rfl ?_ | refine st_it S (by first | omega | (dsimp only; omega)) fun _ S => ?_ | refine st_it0 S (by first | omega | (dsimp only; omega)) fun _ S => ?_ | refine st_kid S (by first | omega | (dsimp only; omega)) none rfl fun _ S => ?_ | refine st_kid S (by first | omega | (dsimp only; omega)) (some _) rfl fun _ S => ?_ | refine st_kid0 S (by first | omega | (dsimp only; omega)) (some _) rfl fun _ S => ?_ | refine st_store S (lt_ble rfl) fun _ S => ?_ | refine st_allocK S fun _ _ S hold => ?_ | refine st_held S rfl ?_ | refine w_guard (by (first | exact inK64 (by omega) (by omega) | omega | (constructor <;> omega) | ((try dsimp only [Sh.T, Sh1.T]); first | exact inK64 (by omega) (by omega) | omega | exact ⟨by decide, inK64 (by omega) (by omega)⟩ | trivial))) ?_ | refine bd_n rfl ?_ | refine bd_e rfl ?_ | refine bd_r ?_ | refine bd_p ?_ | refine ln_r ?_ | refine ln_e ?_ | refine w_true (b := true) rfl ?_ | refine w_false (b := false) rfl ?_ | refine w_guard (show noMeths _ _ by show _ = _; kernel_rfl) ?_ | (refine w_callT (c_leafp (kp := none) (S.rd rfl)) ?_; rintro _ _ ⟨rfl, rfl⟩) | (refine w_callT (c_leafp (kp := some _) (S.rd rfl)) ?_; rintro _ _ ⟨rfl, rfl⟩) | (refine w_callT (c_leafp (S.rd rfl)) ?_; rintro _ _ ⟨rfl, rfl⟩) | (refine w_callT (c_leaf (kp := none) (S.rd rfl)) ?_; rintro _ _ ⟨rfl, rfl⟩) | (refine w_callT (c_leaf (kp := some _) (S.rd rfl)) ?_; rintro _ _ ⟨rfl, rfl⟩) | refine w_it (by assumption) (by assumption) ?_ | refine w_it0 (by assumption) (by assumption) ?_ | refine h_it hold (by assumption) (by assumption) ?_ | refine w_itV (by assumption) (by assumption) ?_ | refine w_itK (by assumption) (by assumption) ?_ | refine h_itV hold (by assumption) (by assumption) ?_ | refine h_itK hold (by assumption) (by assumption) ?_ | refine w_held (hold _ _ (by assumption)) ?_ | refine w_sl (some _, _, _) (by assumption) ?_ | refine w_ptr (some _) (by assumption) ?_ | refine w_ptr none (by assumption) ?_ | refine w_int _ (by assumption) ?_ | refine w_held (by assumption) ?_ | (refine w_callT (c_leafp (kp := none) (by assumption)) ?_; rintro _ _ ⟨rfl, rfl⟩) | (refine w_callT (c_leafp (kp := some _) (by assumption)) ?_; rintro _ _ ⟨rfl, rfl⟩) | (refine w_callT (c_leaf (kp := none) (by assumption)) ?_; rintro _ _ ⟨rfl, rfl⟩) | (refine w_callT (c_leaf (kp := some _) (by assumption)) ?_; rintro _ _ ⟨rfl, rfl⟩))
        refine st_callF S [.ck (K acc)] (fun G' hG' hsub => c_nodeDescend hcb hmx n (k3.sub hsub) ((hA.all S).sub hsub) k2 (hv.2.2 u hmem).1 hsu (by omega) hG') ?_
        rintro _ _ h3 ⟨rfl, rfl⟩ S
        dsimp only [List.cons_append, List.nil_append] at S
        cases hg2 : (run go acc (toO (flatB n u) k)).2 with
        | false =>
          have e : run go acc (toO (flatB (n + 1) ((is, ts) : BT KV (n + 1))) k) = run go acc (toO (flatB n u) k) := by rw [hdc, run_stop _ hg2]
          refine w_true rfl (bd_r (md_r (rt_1 rfl ⟨_, ⟨by rw [e, hg2], rfl⟩, ?_⟩)))
          rw [e]; exact S
        | true => exact w_false rfl (bd_n rfl (w_guard (inK64 (by (first | omega | ((try dsimp only [Sh.T, Sh1.T]); omega))) (by (first | omega | ((try dsimp only [Sh.T, Sh1.T]); omega)))) (md_n rfl ⟨i, _, _, rfl, by omega, hdc, Prod.ext rfl hg2, S⟩)))
    rintro _ h2 ⟨j0, D, acc', rfl, hj0, hD, hr, S⟩
    clear hu hum hW
    generalize hW : toO (flatB (n + 1) ((is, ts) : BT KV (n + 1))) k = W at *
    refine w_bnd (w_lp (fun r y h' => ∃ (z : Int) (D acc' : List KV), y = (z, ()) ∧ z = (r : Int) - 1 ∧ r ≤ is.length ∧ W = D ++ (ahead is ts r).reverse ∧ run go acc D = (acc', true) ∧ St h G [K acc'] h') j0 rfl
      ⟨_, D, acc', rfl, rfl, hj0, hD, hr, S⟩ ?_)
    clear hD hr S
    rintro r _ h2 ⟨z, D, acc', rfl, hz, hi, hD, hr, S⟩
    have hal := run_len go D acc
    rw [hr] at hal
    dsimp only at hal
    by_cases hlt : 0 < r
    · obtain ⟨i, rfl⟩ : ∃ i : Nat, z = i := ⟨z.toNat, by omega⟩
      obtain rfl : r = i + 1 := by omega
      obtain ⟨u, hu⟩ : ∃ u, ts[i]? = some u := ⟨_, List.getElem?_eq_getElem (by omega)⟩
      have hxi := List.getElem?_eq_getElem (show i < is.length by omega)
      have hsuc := ah_succ hl2 hxi hu
      have hD1 : W = (D ++ [is[i]]) ++ ((flatB n u).reverse ++ (ahead is ts i).reverse) := by rw [hD, hsuc]; simp
      have hD2 : W = ((D ++ [is[i]]) ++ (flatB n u).reverse) ++ (ahead is ts i).reverse := by rw [hD1]; simp
      have hDl : D.length + (1 + (flatB n u).length) ≤ W.length := by
        rw [hD1]
        simp only [List.length_reverse, List.length_append, List.length_cons, List.length_nil]
        omega
      have hr1 : run go acc (D ++ [is[i]]) = (acc' ++ [is[i]], go acc' is[i]) := by rw [run_on _ (by rw [hr]), hr, run_one]
      obtain ⟨hi0, p, c, q, d, hb, ks, e2, e3, er, e4, ekl, hk⟩ := (hT.all S).node
      dsimp only at e2 er ekl hk
      refine w_true (decide_eq_true (by (first | omega | ((try dsimp only [Sh.T, Sh1.T]); omega)))) ?_
      simp only [Int.toNat_natCast, toNat_succ, toNat_succ2, toNat_pred]
      have hok := Bes.okp (hT.all S) e2 (by first | exact Nat.zero_lt_of_lt hlt | omega | (dsimp only [itemsB]; omega))
      repeat (first | refine st_there (fun _ h => h) S (lt_ble rfl) ?_ | refine th_it S (by first | omega | (dsimp only; omega)) ?_ | refine w_there hok ?_ | refine w_nonnil ?_ | refine ld_it S (by assumption) ?_ | refine ld_it0 S (by assumption) ?_ | refine ld_val S (by assumption) ?_ | refine ld_key S (by assumption) ?_ | refine ld_int S rfl ?_ | refine w_int _ (S.cnt _) ?_ | refine ld_kid S (by assumption) ?_ | refine ld_kid0 S (by assumption) ?_ | refine ld_some S rfl ?_ | refine ld_ptr S _ rfl ?_ | refine ld_sls S rfl ?_ | refine ld_nil S rfl ?_ | refine ld_bool S rfl ?_ | refine st_it S (by first | omega | (dsimp only; omega)) fun _ S => ?_ | refine st_it0 S (by first | omega | (dsimp only; omega)) fun _ S => ?_ | refine st_kid S (by first | omega | (dsimp only; omega)) none rfl fun _ S => ?_ | refine st_kid S (by first | omega | (dsimp only; omega)) (some _) rfl fun _ S => ?_ | refine st_kid0 S (by first | omega | (dsimp only; omega)) (some _) rfl fun _ S => ?_ | refine st_store S (lt_ble rfl) fun _ S => ?_ | refine st_allocK S fun _ _ S hold => ?_ | refine st_held S rfl ?_ | refine w_guard (by (first | exact inK64 (by omega) (by omega) | omega | (constructor <;> omega) | ((try dsimp only [Sh.T, Sh1.T]); first | exact inK64 (by omega) (by omega) | omega | exact ⟨by decide, inK64 (by omega) (by omega)⟩ | trivial))) ?_ | refine bd_n rfl ?_ | refine bd_e rfl ?_ | refine bd_r ?_ | refine bd_p ?_ | refine ln_r ?_ | refine ln_e ?_ | refine w_true (b := true) rfl ?_ | refine w_false (b := false) rfl ?_ | refine w_guard (show noMeths _ _ by show _ = _; kernel_rfl) ?_ | (refine w_callT (c_leafp (kp := none) (S.rd rfl)) ?_; rintro _ _ ⟨rfl, rfl⟩) | (refine w_callT (c_leafp (kp := some _) (S.rd rfl)) ?_; rintro _ _ ⟨rfl, rfl⟩) | (refine w_callT (c_leafp (S.rd rfl)) ?_; rintro _ _ ⟨rfl, rfl⟩) | (refine w_callT (c_leaf (kp := none) (S.rd rfl)) ?_; rintro _ _ ⟨rfl, rfl⟩) | (refine w_callT (c_leaf (kp := some _) (S.rd rfl)) ?_; rintro _ _ ⟨rfl, rfl⟩) | refine w_it (by assumption) (by assumption) ?_ | refine w_it0 (by assumption) (by assumption) ?_ | refine h_it hold (by assumption) (by assumption) ?_ | refine w_itV (by assumption) (by assumption) ?_ | refine w_itK (by assumption) (by assumption) ?_ | refine h_itV hold (by assumption) (by assumption) ?_ | refine h_itK hold (by assumption) (by assumption) ?_ | refine w_held (hold _ _ (by assumption)) ?_ | refine w_sl (some _, _, _) (by assumption) ?_ | refine w_ptr (some _) (by assumption) ?_ | refine w_ptr none (by assumption) ?_ | refine w_int _ (by assumption) ?_ | refine w_held (by assumption) ?_ | (refine w_callT (c_leafp (kp := none) (by assumption)) ?_; rintro _ _ ⟨rfl, rfl⟩) | (refine w_callT (c_leafp (kp := some _) (by assumption)) ?_; rintro _ _ ⟨rfl, rfl⟩) | (refine w_callT (c_leaf (kp := none) (by assumption)) ?_; rintro _ _ ⟨rfl, rfl⟩) | (refine w_callT (c_leaf (kp := some _) (by assumption)) ?_; rintro _ _ ⟨rfl, rfl⟩))
      refine st_cb S hcb is[i] (by omega) rfl fun h3 S => ?_
      cases hgo : go acc' is[i] with
      | true =>
        rw [hgo] at hr1
        obtain ⟨hi0, p, c, q, d, hb, ks, e2, e3, er, e4, ekl, hk⟩ := (hT.all S).node
        dsimp only at e2 er ekl hk
        obtain ⟨kid, k2, k3⟩ := hk _ u hu
        refine w_false rfl (w_callT (c_leafp (kp := some _) e3) ?_)
        rintro _ _ ⟨rfl, rfl⟩
        rename_i h3
        refine w_bnd (w_true rfl ?_)
        repeat (first | refine st_there (fun _ h => h) S (lt_ble rfl) ?_ | refine th_it S (by first | omega | (dsimp only; omega)) ?_ | refine w_there hok ?_ | refine w_nonnil ?_ | refine ld_it S (by assumption) ?_ | refine ld_it0 S (by assumption) ?_ | refine ld_val S (by assumption) ?_ | refine ld_key S (by assumption) ?_ | refine ld_int S rfl ?_ | refine w_int _ (S.cnt _) ?_ | refine ld_kid S (by assumption) ?_ | refine ld_kid0 S (by assumption) ?_ | refine ld_some S rfl ?_ | refine ld_ptr S _ rfl ?_ | refine ld_sls S rfl ?_ | refine ld_nil S rfl ?_ | refine ld_bool S rfl ?_ | refine st_it S (by first | omega | (dsimp only; omega)) fun _ S => ?_ | refine st_it0 S (by first | omega | (dsimp only; omega)) fun _ S => ?_ | refine st_kid S (by first | omega | (dsimp only; omega)) none rfl fun _ S => ?_ | refine st_kid S (by first | omega | (dsimp only; omega)) (some _) rfl fun _ S => ?_ | refine st_kid0 S (by first | omega | (dsimp only; omega)) (some _) rfl fun _ S => ?_ | refine st_store S (lt_ble rfl) fun _ S => ?_ | refine st_allocK S fun _ _ S hold => ?_ | refine st_held S rfl ?_ | refine w_guard (by (first | exact inK64 (by omega) (by omega) | omega | (constructor <;> omega) | ((try dsimp only [Sh.T, Sh1.T]); first | exact inK64 (by omega) (by omega) | omega | exact ⟨by decide, inK64 (by omega) (by omega)⟩ | trivial))) ?_ | refine bd_n rfl ?_ | refine bd_e rfl ?_ | refine bd_r ?_ | refine bd_p ?_ | refine ln_r ?_ | refine ln_e ?_ | refine w_true (b := true) rfl ?_ | refine w_false (b := false) rfl ?_ | refine w_guard (show noMeths _ _ by show _ = _; kernel_rfl) ?_ | (refine w_callT (c_leafp (kp := none) (S.rd rfl)) ?_; rintro _ _ ⟨rfl, rfl⟩) | (refine w_callT (c_leafp (kp := some _) (S.rd rfl)) ?_; rintro _ _ ⟨rfl, rfl⟩) | (refine w_callT (c_leafp (S.rd rfl)) ?_; rintro _ _ ⟨rfl, rfl⟩) | (refine w_callT (c_leaf (kp := none) (S.rd rfl)) ?_; rintro _ _ ⟨rfl, rfl⟩) | (refine w_callT (c_leaf (kp := some _) (S.rd rfl)) ?_; rintro _ _ ⟨rfl, rfl⟩) | refine w_it (by assumption) (by assumption) ?_ | refine w_it0 (by assumption) (by assumption) ?_ | refine h_it hold (by assumption) (by assumption) ?_ | refine w_itV (by assumption) (by assumption) ?_ | refine w_itK (by assumption) (by assumption) ?_ | refine h_itV hold (by assumption) (by assumption) ?_ | refine h_itK hold (by assumption) (by assumption) ?_ | refine w_held (hold _ _ (by assumption)) ?_ | refine w_sl (some _, _, _) (by assumption) ?_ | refine w_ptr (some _) (by assumption) ?_ | refine w_ptr none (by assumption) ?_ | refine w_int _ (by assumption) ?_ | refine w_held (by assumption) ?_ | (refine w_callT (c_leafp (kp := none) (by assumption)) ?_; rintro _ _ ⟨rfl, rfl⟩) | (refine w_callT (c_leafp (kp := some _) (by assumption)) ?_; rintro _ _ ⟨rfl, rfl⟩) | (refine w_callT (c_leaf (kp := none) (by assumption)) ?_; rintro _ _ ⟨rfl, rfl⟩) | (refine w_callT (c_leaf (kp := some _) (by assumption)) ?_; rintro _ _ ⟨rfl, rfl⟩))
        refine st_callF S [.ck (K (acc' ++ [is[i]]))] (fun G' hG' hsub => c_nodeReverse hcb (by omega) n (k3.sub hsub) ((hA.all S).sub hsub) k2 (hv.2.2 u (List.mem_of_getElem? hu)).1 (by simp; omega) hG') ?_
        rintro _ _ h4 ⟨rfl, rfl⟩ S
        dsimp only [List.cons_append, List.nil_append] at S
        have hr2 : run go acc ((D ++ [is[i]]) ++ (flatB n u).reverse) = run go (acc' ++ [is[i]]) (flatB n u).reverse := by rw [run_on _ (by rw [hr1]), hr1]
        cases hg2 : (run go (acc' ++ [is[i]]) (flatB n u).reverse).2 with
        | false =>
          have e : run go acc W = run go (acc' ++ [is[i]]) (flatB n u).reverse := by rw [hD2, run_stop _ (by rw [hr2, hg2]), hr2]
          refine w_true rfl (bd_r (ln_r (bd_r (rt_1 rfl ⟨_, ⟨by rw [e, hg2], rfl⟩, ?_⟩))))
          rw [e]; exact S
        | true =>
          refine w_false rfl (bd_n rfl ?_)
          repeat (first | refine st_there (fun _ h => h) S (lt_ble rfl) ?_ | refine th_it S (by first | omega | (dsimp only; omega)) ?_ | refine w_there hok ?_ | refine w_nonnil ?_ | refine ld_it S (by assumption) ?_ | refine ld_it0 S (by assumption) ?_ | refine ld_val S (by assumption) ?_ | refine ld_key S (by assumption) ?_ | refine ld_int S rfl ?_ | refine w_int _ (S.cnt _) ?_ | refine ld_kid S (by assumption) ?_ | refine ld_kid0 S (by assumption) ?_ | refine ld_some S rfl ?_ | refine ld_ptr S _ rfl ?_ | refine ld_sls S rfl ?_ | refine ld_nil S rfl ?_ | refine ld_bool S rfl ?_ | refine st_it S (by first | omega | (dsimp only; omega)) fun _ S => ?_ | refine st_it0 S (by first | omega | (dsimp only; omega)) fun _ S => ?_ | refine st_kid S (by first | omega | (dsimp only; omega)) none rfl fun _ S => ?_ | refine st_kid S (by first | omega | (dsimp only; omega)) (some _) rfl fun _ S => ?_ | refine st_kid0 S (by first | omega | (dsimp only; omega)) (some _) rfl fun _ S => ?_ | refine st_store S (lt_ble rfl) fun _ S => ?_ | refine st_allocK S fun _ _ S hold => ?_ | refine st_held S rfl ?_ | refine w_guard (by (first | exact inK64 (by omega) (by omega) | omega | (constructor <;> omega) | ((try dsimp only [Sh.T, Sh1.T]); first | exact inK64 (by omega) (by omega) | omega | exact ⟨by decide, inK64 (by omega) (by omega)⟩ | trivial))) ?_ | refine bd_n rfl ?_ | refine bd_e rfl ?_ | refine bd_r ?_ | refine bd_p ?_ | refine ln_r ?_ | refine ln_e ?_ | refine w_true (b := true) rfl ?_ | refine w_false (b := false) rfl ?_ | refine w_guard (show noMeths _ _ by show _ = _; kernel_rfl) ?_ | (refine w_callT (c_leafp (kp := none) (S.rd rfl)) ?_; rintro _ _ ⟨rfl, rfl⟩) | (refine w_callT (c_leafp (kp := some _) (S.rd rfl)) ?_; rintro _ _ ⟨rfl, rfl⟩) | (refine w_callT (c_leafp (S.rd rfl)) ?_; rintro _ _ ⟨rfl, rfl⟩) | (refine w_callT (c_leaf (kp := none) (S.rd rfl)) ?_; rintro _ _ ⟨rfl, rfl⟩) | (refine w_callT (c_leaf (kp := some _) (S.rd rfl)) ?_; rintro _ _ ⟨rfl, rfl⟩) | refine w_it (by assumption) (by assumption) ?_ | refine w_it0 (by assumption) (by assumption) ?_ | refine h_it hold (by assumption) (by assumption) ?_ | refine w_itV (by assumption) (by assumption) ?_ | refine w_itK (by assumption) (by assumption) ?_ | refine h_itV hold (by assumption) (by assumption) ?_ | refine h_itK hold (by assumption) (by assumption) ?_ | refine w_held (hold _ _ (by assumption)) ?_ | refine w_sl (some _, _, _) (by assumption) ?_ | refine w_ptr (some _) (by assumption) ?_ | refine w_ptr none (by assumption) ?_ | refine w_int _ (by assumption) ?_ | refine w_held (by assumption) ?_ | (refine w_callT (c_leafp (kp := none) (by assumption)) ?_; rintro _ _ ⟨rfl, rfl⟩) | (refine w_callT (c_leafp (kp := some _) (by assumption)) ?_; rintro _ _ ⟨rfl, rfl⟩) | (refine w_callT (c_leaf (kp := none) (by assumption)) ?_; rintro _ _ ⟨rfl, rfl⟩) | (refine w_callT (c_leaf (kp := some _) (by assumption)) ?_; rintro _ _ ⟨rfl, rfl⟩))
          exact ln_n rfl i ⟨_, _, _, rfl, rfl, by omega, hD2, by rw [hr2]; exact Prod.ext rfl hg2, S⟩ (by omega)
      | false =>
        rw [hgo] at hr1
        have e : run go acc W = (acc' ++ [is[i]], false) := by rw [hD1, run_stop _ (by rw [hr1]), hr1]
        refine w_true rfl (ln_r (bd_r (rt_1 rfl ⟨_, ⟨by rw [e], rfl⟩, ?_⟩)))
        rw [e]; exact S
    · obtain rfl : r = 0 := by omega
      have e : run go acc W = (acc', true) := by rw [hD, ah_zero, List.reverse_nil, List.append_nil, hr]
      refine w_false (decide_eq_false (by (first | omega | ((try dsimp only [Sh.T, Sh1.T]); omega)))) (ln_e (bd_e rfl (rt_1 rfl ⟨_, ⟨by rw [e], rfl⟩, ?_⟩)))
      rw [e]; exact S
theorem c_descend {a0 : PA} {iso : Int} {dg N : Nat} {l acc : List KV} {k : Int} {m : Bool} {f : Value} {K : List KV → Ck} {go : List KV → KV → Bool} (hcb : Cbk Try.prog f argO K go N) (hl : acc.length + l.length ≤ N) {G : PA → Prop} (hG : Star [K acc, MpC iso dg a0 l] h G) :
    HT Try.prog fn_ms_descend [.c (.addr a0), .c (.int .i64 k), .c (.raw f), .c (.bool m)] true [] h fun x h' => ∃ post, (post = [K (run go acc (toO l k)).1, MpC iso dg a0 l]) ∧ St h G post h' := by
  apply hc_ms_descend
  unfold M_ms_descend
  have S := (St.start hG).pull1
  rcases open_map S with ⟨ctr, mn, mx, rfl, hg, S⟩ | ⟨ctr, n, b, t, rfl, hs, hv, hi, hg, S⟩
  · repeat (first | refine st_there (fun _ h => h) S (lt_ble rfl) ?_ | refine th_it S (by first | omega | (dsimp only; omega)) ?_ | refine w_there hok ?_ | refine w_nonnil ?_ | refine ld_it S (by assumption) ?_ | refine ld_it0 S (by assumption) ?_ | refine ld_val S (by assumption) ?_ | refine ld_key S (by assumption) ?_ | refine ld_int S rfl ?_ | refine w_int _ (S.cnt _) ?_ | refine ld_kid S (by assumption) ?_ | refine ld_kid0 S (by assumption) ?_ | refine ld_some S rfl ?_ | refine ld_ptr S _ rfl ?_ | refine ld_sls S rfl ?_ | refine ld_nil S rfl ?_ | refine ld_bool S rfl ?_ | refine st_it S (by first | omega | (dsimp only; omega)) fun _ S => ?_ | refine st_it0 S (by first | omega | (dsimp only; omega)) fun _ S => ?_ | refine st_kid S (by first | omega | (dsimp only; omega)) none rfl fun _ S => ?_ | refine st_kid S (by first | omega | (dsimp only; omega)) (some _) rfl fun _ S => ?_ | refine st_kid0 S (by first | omega | (dsimp only; omega)) (some _) rfl fun _ S => ?_ | refine st_store S (lt_ble rfl) fun _ S => ?_ | refine st_alloc S fun _ _ S => ?_ | refine st_held S rfl ?_ | refine w_guard (by (first | exact inK64 (by omega) (by omega) | omega | (constructor <;> omega) | ((try dsimp only [Sh.T, Sh1.T]); first | exact inK64 (by omega) (by omega) | omega | exact ⟨by decide, inK64 (by omega) (by omega)⟩ | trivial))) ?_ | refine bd_n rfl ?_ | refine bd_e rfl ?_ | refine bd_r ?_ | refine bd_p ?_ | refine ln_r ?_ | refine ln_e ?_ | refine w_true (b := true) rfl ?_ | refine w_false (b := false) rfl ?_ | refine w_guard (show noMeths _ _ by show _ = _; kernel_rfl) ?_ | (refine w_callT (c_leafp (kp := none) (S.rd rfl)) ?_; rintro _ _ ⟨rfl, rfl⟩) | (refine w_callT (c_leafp (kp := some _) (S.rd rfl)) ?_; rintro _ _ ⟨rfl, rfl⟩) | (refine w_callT (c_leafp (S.rd rfl)) ?_; rintro _ _ ⟨rfl, rfl⟩) | (refine w_callT (c_leaf (kp := none) (S.rd rfl)) ?_; rintro _ _ ⟨rfl, rfl⟩) | (refine w_callT (c_leaf (kp := some _) (S.rd rfl)) ?_; rintro _ _ ⟨rfl, rfl⟩))
    exact rt_n rfl rfl ⟨_, rfl, (shut_map0 S hg).ats [.ck (K acc), .mp a0]⟩
  · repeat (first | refine st_there (fun _ h => h) S (lt_ble rfl) ?_ | refine th_it S (by first | omega | (dsimp only; omega)) ?_ | refine w_there hok ?_ | refine w_nonnil ?_ | refine ld_it S (by assumption) ?_ | refine ld_it0 S (by assumption) ?_ | refine ld_val S (by assumption) ?_ | refine ld_key S (by assumption) ?_ | refine ld_int S rfl ?_ | refine w_int _ (S.cnt _) ?_ | refine ld_kid S (by assumption) ?_ | refine ld_kid0 S (by assumption) ?_ | refine ld_some S rfl ?_ | refine ld_ptr S _ rfl ?_ | refine ld_sls S rfl ?_ | refine ld_nil S rfl ?_ | refine ld_bool S rfl ?_ | refine st_it S (by first | omega | (dsimp only; omega)) fun _ S => ?_ | refine st_it0 S (by first | omega | (dsimp only; omega)) fun _ S => ?_ | refine st_kid S (by first | omega | (dsimp only; omega)) none rfl fun _ S => ?_ | refine st_kid S (by first | omega | (dsimp only; omega)) (some _) rfl fun _ S => ?_ | refine st_kid0 S (by first | omega | (dsimp only; omega)) (some _) rfl fun _ S => ?_ | refine st_store S (lt_ble rfl) fun _ S => ?_ | refine st_alloc S fun _ _ S => ?_ | refine st_held S rfl ?_ | refine w_guard (by (first | exact inK64 (by omega) (by omega) | omega | (constructor <;> omega) | ((try dsimp only [Sh.T, Sh1.T]); first | exact inK64 (by omega) (by omega) | omega | exact ⟨by decide, inK64 (by omega) (by omega)⟩ | trivial))) ?_ | refine bd_n rfl ?_ | refine bd_e rfl ?_ | refine bd_r ?_ | refine bd_p ?_ | refine ln_r ?_ | refine ln_e ?_ | refine w_true (b := true) rfl ?_ | refine w_false (b := false) rfl ?_ | refine w_guard (show noMeths _ _ by show _ = _; kernel_rfl) ?_ | (refine w_callT (c_leafp (kp := none) (S.rd rfl)) ?_; rintro _ _ ⟨rfl, rfl⟩) | (refine w_callT (c_leafp (kp := some _) (S.rd rfl)) ?_; rintro _ _ ⟨rfl, rfl⟩) | (refine w_callT (c_leafp (S.rd rfl)) ?_; rintro _ _ ⟨rfl, rfl⟩) | (refine w_callT (c_leaf (kp := none) (S.rd rfl)) ?_; rintro _ _ ⟨rfl, rfl⟩) | (refine w_callT (c_leaf (kp := some _) (S.rd rfl)) ?_; rintro _ _ ⟨rfl, rfl⟩))
    obtain ⟨_, hmn, hmb⟩ := hg
    refine st_callB S [.ck (K acc)] (fun G' hG' hb => c_nodeDescend hcb (by omega) n (hb _ (.tail _ (.head _))) (Bes.cell (j := 0) (hb _ (.head _)) rfl) (S.rd rfl) hv hs hl hG') ?_
    rintro _ _ h3 ⟨rfl, rfl⟩ S
    dsimp only [List.cons_append, List.nil_append] at S
    exact rt_n rfl rfl ⟨_, rfl, (shut_map (S.ats [.ow a0, .tr b]) rfl rfl hs hv hi ⟨rfl, hmn, hmb⟩).ats [.ck (K (run go acc (toO (flatB n t) k)).1), .mp a0]⟩
theorem c_Descend {a0 : PA} {iso : Int} {dg N : Nat} {l acc : List KV} {k : Int} {f : Value} {K : List KV → Ck} {go : List KV → KV → Bool} (hcb : Cbk Try.prog f argO K go N) (hl : acc.length + l.length ≤ N) {G : PA → Prop} (hG : Star [K acc, MpC iso dg a0 l] h G) :
    HT Try.prog fn_ms_Descend [.c (.addr a0), .c (.int .i64 k), .c (.raw f)] true [] h fun x h' => ∃ post, (post = [K (run go acc (toO l k)).1, MpC iso dg a0 l]) ∧ St h G post h' := by
  apply hc_ms_Descend
  unfold M_ms_Descend
  refine st_callT (St.start hG) [.ck (K acc), .mp a0] (fun G hG => c_descend (m := false) hcb hl hG) ?_
  rintro _ _ h2 rfl S
  dsimp only [List.cons_append, List.nil_append] at S
  exact rt_n rfl rfl ⟨_, rfl, S⟩
end
end Go.Proofs.Ytpbmahnieepmiaa.MS
