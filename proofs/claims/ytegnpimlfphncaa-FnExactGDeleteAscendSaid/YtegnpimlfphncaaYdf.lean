/-
  The tree of items: an item deleted. Conditions: none.
-/
import Derived.Test.YtegnpimlfphncaaPgD
import Derived.Test.YtegnpimlfphncaaYde
import Derived.Test.YtegnpimlfphncaaWd
set_option linter.unusedVariables false
set_option linter.unusedSimpArgs false
set_option linter.unusedSectionVars false
set_option maxRecDepth 100000
namespace Go.Proofs.Ytegnpimlfphncaa.TG
open Go Go.Proofs.Ytegnpimlfphncaa
section
variable {ls : Value} {oc : Ck} {o : List Int} {hp : Option PA} {h h0 : H} {G0 : PA → Prop} {r : List Ck}
theorem del_none {l : List KV} {x : KV} (hf : fnd (ltO o) l x = none) : del (ltO o) l x = l := by
  unfold del; rw [hf]; simp
set_option maxHeartbeats 2000000 in
theorem c_deleteHint {a0 : PA} {iso : Int} {dg : Nat} {l : List KV} {k : KV} (hh : HsOK hp) (hls : Lss ls oc o) (hl : l.length ≤ 4294967295) {G : PA → Prop} (hoc : Bes oc h G) (hG : Star [MpC ls o iso dg a0 l, HtC hp] h G) :
    HT Try.prog fn_tg_deleteHint [.c (.addr a0), .agg [.int .i64 k.1, .int .i64 k.2], .c (.ptr hp)] true [.agg [.int .i64, .int .i64], .c .bool] h fun x h' => ∃ post, (x = itR (fnd (ltO o) l k) ∧ post = [MpC ls o iso dg a0 (del (ltO o) l k), HtC hp]) ∧ St h G post h' := by
  apply hc_tg_deleteHint
  unfold M_tg_deleteHint
  refine st_alloc (St.start hG) fun n0 _ S => ?_
  refine st_alloc S fun n1 _ S => ?_
  rcases open_map (S.at (.mp a0)) with ⟨ctr, mn, mx, rfl, hg, S⟩ | ⟨ctr, n, b, t, rfl, hs, hv, hi, hg, S⟩
  · repeat (first | refine w_nonnil ?_ | refine ld_it S (by assumption) ?_ | refine ld_it0 S (by assumption) ?_ | refine ld_val S (by assumption) ?_ | refine ld_key S (by assumption) ?_ | refine ld_int S rfl ?_ | refine w_int _ (S.cnt _) ?_ | refine ld_kid S (by assumption) ?_ | refine ld_kid0 S (by assumption) ?_ | refine ld_some S rfl ?_ | refine ld_ptr S _ rfl ?_ | refine ld_sls S rfl ?_ | refine ld_nil S rfl ?_ | refine ld_bool S rfl ?_ | refine st_it S (by first | omega | (dsimp only; omega)) fun _ S => ?_ | refine st_it0 S (by first | omega | (dsimp only; omega)) fun _ S => ?_ | refine st_kid S (by first | omega | (dsimp only; omega)) none rfl fun _ S => ?_ | refine st_kid S (by first | omega | (dsimp only; omega)) (some _) rfl fun _ S => ?_ | refine st_kid0 S (by first | omega | (dsimp only; omega)) (some _) rfl fun _ S => ?_ | refine st_store S (lt_ble rfl) fun _ S => ?_ | refine st_alloc S fun _ _ S => ?_ | refine st_held S rfl ?_ | refine w_guard (by (first | exact inK64 (by omega) (by omega) | omega | (constructor <;> omega) | ((try dsimp only [Sh.T, Sh1.T]); first | exact inK64 (by omega) (by omega) | omega | exact ⟨by decide, inK64 (by omega) (by omega)⟩ | trivial))) ?_ | refine bd_n rfl ?_ | refine bd_e rfl ?_ | refine bd_r ?_ | refine bd_p ?_ | refine ln_r ?_ | refine ln_e ?_ | refine w_true (b := true) rfl ?_ | refine w_false (b := false) rfl ?_ | refine w_guard (show noMeths _ _ by show _ = _; kernel_rfl) ?_ | (refine w_callT (c_leafp (kp := none) (S.rd rfl)) ?_; rintro _ _ ⟨rfl, rfl⟩) | (refine w_callT (c_leafp (kp := some _) (S.rd rfl)) ?_; rintro _ _ ⟨rfl, rfl⟩) | (refine w_callT (c_leafp (S.rd rfl)) ?_; rintro _ _ ⟨rfl, rfl⟩) | (refine w_callT (c_leaf (kp := none) (S.rd rfl)) ?_; rintro _ _ ⟨rfl, rfl⟩) | (refine w_callT (c_leaf (kp := some _) (S.rd rfl)) ?_; rintro _ _ ⟨rfl, rfl⟩))
    exact rt_n rfl rfl ⟨_, ⟨rfl, rfl⟩, (shut_map0 (S.at (.ow a0)) hg).only [.mp a0, .ck (HtC hp)]⟩
  · obtain ⟨hmx, hmn, hmb⟩ := hg
    have hnl := ht_le hmn n t hv hi
    have S := S.ats [.ow a0, .tr b, .ck (HtC hp), .ow (n0, 0), .ow (n1, 0)]
    refine ld_some S rfl (w_false rfl ?_)
    refine w_mid' none (fun (x : SV [.c .bool, .c .addr]) h' => ∃ (nn : Nat) (t' : BT KV n) (w : KV), x = ((fnd (ltO o) (flatB n t) k).isSome, (nn, 0), ()) ∧
      (fnd (ltO o) (flatB n t) k = none ∧ t' = t ∨ ∃ y, fnd (ltO o) (flatB n t) k = some y ∧ w = y ∧ flatB n t' = del (ltO o) (flatB n t) k ∧ Val dg (2 * dg + 1) n t' ∧ (itemsB n t).length ≤ (itemsB n t').length + 1) ∧
      St h G [Ow (nn, 0) (L.cells w) 0, Ow a0 (mapC ls iso ctr (some (b, 0)) (flatB n t).length dg (2 * dg + 1) false false) 0, TrC L iso n b t', HtC hp, Ow (n1, 0) (L.cells (0, 0)) 0] h') ?_ ?_
    · refine ld_int S rfl (ld_int S rfl (w_both ?_ ?_))
      · refine st_callF S [.ow a0, .tr b, .ck (HtC hp)] (fun G' hG' hsub => c_delete hls rfl hmn (by omega) n hp 0 t false k hh (by omega) hv hi hs (by omega) _ b (a0.1, a0.2 + 2) G' (S.rd rfl) (hoc.step S hsub) hG') ?_
        rintro _ _ h3 ⟨t', rfl, hcase⟩ S
        dsimp only [List.cons_append, List.nil_append] at S
        rcases hcase with ⟨hno, rfl, rfl⟩ | ⟨y, hy, rfl, hfl, hv', hil⟩
        · have hno : fnd (ltO o) (flatB n t') k = none := hno
          refine st_alloc S fun nn _ S => ?_
          refine st_store S (lt_ble rfl) fun _ S => ?_
          refine st_store S (lt_ble rfl) fun _ S => ?_
          exact md_n rfl ⟨nn, t', (0, 0), by rw [hno]; rfl, .inl ⟨hno, rfl⟩, S.only [.ow (nn, 0), .ow a0, .tr b, .ck (HtC hp), .ow (n1, 0)]⟩
        · have hy : fnd (ltO o) (flatB n t) k = some y := hy
          refine st_alloc S fun nn _ S => ?_
          refine st_store S (lt_ble rfl) fun _ S => ?_
          refine st_store S (lt_ble rfl) fun _ S => ?_
          exact md_n rfl ⟨nn, t', y, by rw [hy]; rfl, .inr ⟨y, hy, rfl, hfl, hv', hil⟩, S.only [.ow (nn, 0), .ow a0, .tr b, .ck (HtC hp), .ow (n1, 0)]⟩
      · refine st_alloc S fun nn _ S => ?_
        refine st_held S rfl (st_held S rfl ?_)
        refine st_callF S [.ow a0, .tr b, .ck (HtC hp)] (fun G' hG' hsub => c_delete hls rfl hmn (by omega) n hp 0 t false k hh (by omega) hv hi hs (by omega) _ b (a0.1, a0.2 + 2) G' (S.rd rfl) (hoc.step S hsub) hG') ?_
        rintro _ _ h3 ⟨t', rfl, hcase⟩ S
        dsimp only [List.cons_append, List.nil_append] at S
        rcases hcase with ⟨hno, rfl, rfl⟩ | ⟨y, hy, rfl, hfl, hv', hil⟩
        · have hno : fnd (ltO o) (flatB n t') k = none := hno
          refine st_store S (lt_ble rfl) fun _ S => ?_
          refine st_store S (lt_ble rfl) fun _ S => ?_
          exact md_n rfl ⟨nn, t', (0, 0), by rw [hno]; rfl, .inl ⟨hno, rfl⟩, S.only [.ow (nn, 0), .ow a0, .tr b, .ck (HtC hp), .ow (n1, 0)]⟩
        · have hy : fnd (ltO o) (flatB n t) k = some y := hy
          refine st_store S (lt_ble rfl) fun _ S => ?_
          refine st_store S (lt_ble rfl) fun _ S => ?_
          exact md_n rfl ⟨nn, t', y, by rw [hy]; rfl, .inr ⟨y, hy, rfl, hfl, hv', hil⟩, S.only [.ow (nn, 0), .ow a0, .tr b, .ck (HtC hp), .ow (n1, 0)]⟩
    clear S
    rintro _ h3 ⟨n3, t', w, rfl, ⟨hno, rfl⟩ | ⟨y, hy, rfl, hfl, hv', hil⟩, S⟩
    · rw [hno]
      refine w_true rfl ?_
      repeat (first | refine w_nonnil ?_ | refine ld_it S (by assumption) ?_ | refine ld_it0 S (by assumption) ?_ | refine ld_val S (by assumption) ?_ | refine ld_key S (by assumption) ?_ | refine ld_int S rfl ?_ | refine w_int _ (S.cnt _) ?_ | refine ld_kid S (by assumption) ?_ | refine ld_kid0 S (by assumption) ?_ | refine ld_some S rfl ?_ | refine ld_ptr S _ rfl ?_ | refine ld_sls S rfl ?_ | refine ld_nil S rfl ?_ | refine ld_bool S rfl ?_ | refine st_it S (by first | omega | (dsimp only; omega)) fun _ S => ?_ | refine st_it0 S (by first | omega | (dsimp only; omega)) fun _ S => ?_ | refine st_kid S (by first | omega | (dsimp only; omega)) none rfl fun _ S => ?_ | refine st_kid S (by first | omega | (dsimp only; omega)) (some _) rfl fun _ S => ?_ | refine st_kid0 S (by first | omega | (dsimp only; omega)) (some _) rfl fun _ S => ?_ | refine st_store S (lt_ble rfl) fun _ S => ?_ | refine st_alloc S fun _ _ S => ?_ | refine st_held S rfl ?_ | refine w_guard (by (first | exact inK64 (by omega) (by omega) | omega | (constructor <;> omega) | ((try dsimp only [Sh.T, Sh1.T]); first | exact inK64 (by omega) (by omega) | omega | exact ⟨by decide, inK64 (by omega) (by omega)⟩ | trivial))) ?_ | refine bd_n rfl ?_ | refine bd_e rfl ?_ | refine bd_r ?_ | refine bd_p ?_ | refine ln_r ?_ | refine ln_e ?_ | refine w_true (b := true) rfl ?_ | refine w_false (b := false) rfl ?_ | refine w_guard (show noMeths _ _ by show _ = _; kernel_rfl) ?_ | (refine w_callT (c_leafp (kp := none) (S.rd rfl)) ?_; rintro _ _ ⟨rfl, rfl⟩) | (refine w_callT (c_leafp (kp := some _) (S.rd rfl)) ?_; rintro _ _ ⟨rfl, rfl⟩) | (refine w_callT (c_leafp (S.rd rfl)) ?_; rintro _ _ ⟨rfl, rfl⟩) | (refine w_callT (c_leaf (kp := none) (S.rd rfl)) ?_; rintro _ _ ⟨rfl, rfl⟩) | (refine w_callT (c_leaf (kp := some _) (S.rd rfl)) ?_; rintro _ _ ⟨rfl, rfl⟩))
      refine rt_n rfl rfl ⟨_, ⟨rfl, rfl⟩, (shut_map (S.ats [.ow a0, .tr b]) (by rw [del_none hno]) (by rw [del_none hno]) (by rw [del_none hno]; exact hs) hv hi ⟨hmx, hmn, hmb⟩).only [.mp a0, .ck (HtC hp)]⟩
    · have hdl := rmv_len (o := o) (m := false) hy
      have hdl : (del (ltO o) (flatB n t) k).length + 1 = (flatB n t).length := hdl
      have hds := del_srt hs k
      rw [hy]
      refine w_false rfl ?_
      refine w_mid' none (fun x h' => x = (decide ((itemsB n t').length = 0) && !Nat.beq n 0, ()) ∧ St h G [Ow (n3, 0) (L.cells w) 0, Ow a0 (mapC ls iso ctr (some (b, 0)) (flatB n t).length dg (2 * dg + 1) false false) 0, TrC L iso n b t', HtC hp, Ow (n1, 0) (L.cells (0, 0)) 0] h') ?_ ?_
      · repeat (first | refine w_nonnil ?_ | refine ld_it S (by assumption) ?_ | refine ld_it0 S (by assumption) ?_ | refine ld_val S (by assumption) ?_ | refine ld_key S (by assumption) ?_ | refine ld_int S rfl ?_ | refine w_int _ (S.cnt _) ?_ | refine ld_kid S (by assumption) ?_ | refine ld_kid0 S (by assumption) ?_ | refine ld_some S rfl ?_ | refine ld_ptr S _ rfl ?_ | refine ld_sls S rfl ?_ | refine ld_nil S rfl ?_ | refine ld_bool S rfl ?_ | refine st_it S (by first | omega | (dsimp only; omega)) fun _ S => ?_ | refine st_it0 S (by first | omega | (dsimp only; omega)) fun _ S => ?_ | refine st_kid S (by first | omega | (dsimp only; omega)) none rfl fun _ S => ?_ | refine st_kid S (by first | omega | (dsimp only; omega)) (some _) rfl fun _ S => ?_ | refine st_kid0 S (by first | omega | (dsimp only; omega)) (some _) rfl fun _ S => ?_ | refine st_store S (lt_ble rfl) fun _ S => ?_ | refine st_alloc S fun _ _ S => ?_ | refine st_held S rfl ?_ | refine w_guard (by (first | exact inK64 (by omega) (by omega) | omega | (constructor <;> omega) | ((try dsimp only [Sh.T, Sh1.T]); first | exact inK64 (by omega) (by omega) | omega | exact ⟨by decide, inK64 (by omega) (by omega)⟩ | trivial))) ?_ | refine bd_n rfl ?_ | refine bd_e rfl ?_ | refine bd_r ?_ | refine bd_p ?_ | refine ln_r ?_ | refine ln_e ?_ | refine w_true (b := true) rfl ?_ | refine w_false (b := false) rfl ?_ | refine w_guard (show noMeths _ _ by show _ = _; kernel_rfl) ?_ | (refine w_callT (c_leafp (kp := none) (S.rd rfl)) ?_; rintro _ _ ⟨rfl, rfl⟩) | (refine w_callT (c_leafp (kp := some _) (S.rd rfl)) ?_; rintro _ _ ⟨rfl, rfl⟩) | (refine w_callT (c_leafp (S.rd rfl)) ?_; rintro _ _ ⟨rfl, rfl⟩) | (refine w_callT (c_leaf (kp := none) (S.rd rfl)) ?_; rintro _ _ ⟨rfl, rfl⟩) | (refine w_callT (c_leaf (kp := some _) (S.rd rfl)) ?_; rintro _ _ ⟨rfl, rfl⟩))
        obtain ⟨p, c, hci⟩ := S.itm b
        obtain ⟨kp, hkp, hkn⟩ := S.kp L iso b
        refine w_sl (some p, (itemsB n t').length, c) hci ?_
        by_cases h0 : (itemsB n t').length = 0
        · refine w_true (beq_t (by (first | omega | ((try dsimp only [Sh.T, Sh1.T]); omega)))) ?_
          repeat (first | refine w_nonnil ?_ | refine ld_it S (by assumption) ?_ | refine ld_it0 S (by assumption) ?_ | refine ld_val S (by assumption) ?_ | refine ld_key S (by assumption) ?_ | refine ld_int S rfl ?_ | refine w_int _ (S.cnt _) ?_ | refine ld_kid S (by assumption) ?_ | refine ld_kid0 S (by assumption) ?_ | refine ld_some S rfl ?_ | refine ld_ptr S _ rfl ?_ | refine ld_sls S rfl ?_ | refine ld_nil S rfl ?_ | refine ld_bool S rfl ?_ | refine st_it S (by first | omega | (dsimp only; omega)) fun _ S => ?_ | refine st_it0 S (by first | omega | (dsimp only; omega)) fun _ S => ?_ | refine st_kid S (by first | omega | (dsimp only; omega)) none rfl fun _ S => ?_ | refine st_kid S (by first | omega | (dsimp only; omega)) (some _) rfl fun _ S => ?_ | refine st_kid0 S (by first | omega | (dsimp only; omega)) (some _) rfl fun _ S => ?_ | refine st_store S (lt_ble rfl) fun _ S => ?_ | refine st_alloc S fun _ _ S => ?_ | refine st_held S rfl ?_ | refine w_guard (by (first | exact inK64 (by omega) (by omega) | omega | (constructor <;> omega) | ((try dsimp only [Sh.T, Sh1.T]); first | exact inK64 (by omega) (by omega) | omega | exact ⟨by decide, inK64 (by omega) (by omega)⟩ | trivial))) ?_ | refine bd_n rfl ?_ | refine bd_e rfl ?_ | refine bd_r ?_ | refine bd_p ?_ | refine ln_r ?_ | refine ln_e ?_ | refine w_true (b := true) rfl ?_ | refine w_false (b := false) rfl ?_ | refine w_guard (show noMeths _ _ by show _ = _; kernel_rfl) ?_ | (refine w_callT (c_leafp (kp := none) (S.rd rfl)) ?_; rintro _ _ ⟨rfl, rfl⟩) | (refine w_callT (c_leafp (kp := some _) (S.rd rfl)) ?_; rintro _ _ ⟨rfl, rfl⟩) | (refine w_callT (c_leafp (S.rd rfl)) ?_; rintro _ _ ⟨rfl, rfl⟩) | (refine w_callT (c_leaf (kp := none) (S.rd rfl)) ?_; rintro _ _ ⟨rfl, rfl⟩) | (refine w_callT (c_leaf (kp := some _) (S.rd rfl)) ?_; rintro _ _ ⟨rfl, rfl⟩))
          refine w_callT (c_leafp hkp) ?_
          rintro _ _ ⟨rfl, rfl⟩
          exact md_n rfl ⟨by rw [hkn, h0]; rfl, S⟩
        · refine w_false (beq_f (by (first | omega | ((try dsimp only [Sh.T, Sh1.T]); omega)))) (md_n rfl ⟨by rw [decide_eq_false h0]; rfl, S⟩)
      rintro _ h4 ⟨rfl, S⟩
      refine w_mid' none (fun x h' => ∃ (n' b' : Nat) (u : BT KV n'), flatB n' u = del (ltO o) (flatB n t) k ∧ Val dg (2 * dg + 1) n' u ∧ (1 ≤ (itemsB n' u).length ∨ n' = 0) ∧
        St h G [Ow (n3, 0) (L.cells w) 0, Ow a0 (mapC ls iso ctr (some (b', 0)) (flatB n t).length dg (2 * dg + 1) false false) 0, TrC L iso n' b' u, HtC hp, Ow (n1, 0) (L.cells (0, 0)) 0] h') ?_ ?_
      · by_cases h0 : (itemsB n t').length = 0 ∧ n ≠ 0
        · obtain ⟨h0, hn0⟩ := h0
          refine w_true (by rw [decide_eq_true h0]; cases n <;> simp_all [Nat.beq]) ?_
          cases n with
          | zero => exact absurd rfl hn0
          | succ n =>
            obtain ⟨xs, ts⟩ := t'
            have h0 : xs.length = 0 := h0
            obtain rfl : xs = [] := List.length_eq_zero_iff.1 h0
            have htl : ts.length = 1 := hv'.2.1
            obtain ⟨u, rfl⟩ := List.length_eq_one_iff.1 htl
            obtain ⟨gu, gi⟩ := hv'.2.2 u (by simp)
            obtain ⟨p, c, kp, hc, _, S⟩ := open_nd L iso (S.at (.tr b))
            obtain ⟨hb, q, d, ks, rfl, hd, hkl, S⟩ := open_kids L iso (S.at (.kd kp))
            have hkl : ks.length = 1 := hkl
            obtain ⟨kk, rfl⟩ := List.length_eq_one_iff.1 hkl
            have S := fo_uncons L iso (S.at (.fo [kk]))
            repeat (first | refine w_nonnil ?_ | refine ld_it S (by assumption) ?_ | refine ld_it0 S (by assumption) ?_ | refine ld_val S (by assumption) ?_ | refine ld_key S (by assumption) ?_ | refine ld_int S rfl ?_ | refine w_int _ (S.cnt _) ?_ | refine ld_kid S (by assumption) ?_ | refine ld_kid0 S (by assumption) ?_ | refine ld_some S rfl ?_ | refine ld_ptr S _ rfl ?_ | refine ld_sls S rfl ?_ | refine ld_nil S rfl ?_ | refine ld_bool S rfl ?_ | refine st_it S (by first | omega | (dsimp only; omega)) fun _ S => ?_ | refine st_it0 S (by first | omega | (dsimp only; omega)) fun _ S => ?_ | refine st_kid S (by first | omega | (dsimp only; omega)) none rfl fun _ S => ?_ | refine st_kid S (by first | omega | (dsimp only; omega)) (some _) rfl fun _ S => ?_ | refine st_kid0 S (by first | omega | (dsimp only; omega)) (some _) rfl fun _ S => ?_ | refine st_store S (lt_ble rfl) fun _ S => ?_ | refine st_alloc S fun _ _ S => ?_ | refine st_held S rfl ?_ | refine w_guard (by (first | exact inK64 (by omega) (by omega) | omega | (constructor <;> omega) | ((try dsimp only [Sh.T, Sh1.T]); first | exact inK64 (by omega) (by omega) | omega | exact ⟨by decide, inK64 (by omega) (by omega)⟩ | trivial))) ?_ | refine bd_n rfl ?_ | refine bd_e rfl ?_ | refine bd_r ?_ | refine bd_p ?_ | refine ln_r ?_ | refine ln_e ?_ | refine w_true (b := true) rfl ?_ | refine w_false (b := false) rfl ?_ | refine w_guard (show noMeths _ _ by show _ = _; kernel_rfl) ?_ | (refine w_callT (c_leafp (kp := none) (S.rd rfl)) ?_; rintro _ _ ⟨rfl, rfl⟩) | (refine w_callT (c_leafp (kp := some _) (S.rd rfl)) ?_; rintro _ _ ⟨rfl, rfl⟩) | (refine w_callT (c_leafp (S.rd rfl)) ?_; rintro _ _ ⟨rfl, rfl⟩) | (refine w_callT (c_leaf (kp := none) (S.rd rfl)) ?_; rintro _ _ ⟨rfl, rfl⟩) | (refine w_callT (c_leaf (kp := some _) (S.rd rfl)) ?_; rintro _ _ ⟨rfl, rfl⟩))
            have S := S.ats [.ow (n3, 0), .ow a0, .tr kk]
            refine md_n rfl ⟨n, kk, u, ?_, gu, .inl (by omega), S.only [.ow (n3, 0), .ow a0, .tr kk, .ck (HtC hp), .ow (n1, 0)]⟩
            rw [← hfl]
            simp [flatB, weave, post]
        · refine w_false ?_ (md_n rfl ⟨n, b, t', hfl, hv', ?_, S⟩)
          · by_cases h1 : (itemsB n t').length = 0
            · have : n = 0 := by omega
              subst this; simp [Nat.beq]
            · rw [decide_eq_false h1]; rfl
          · omega
      rintro _ h5 ⟨n', b', u, hfu, hvu, hiu, S⟩
      have hlu : (flatB n' u).length + 1 = (flatB n t).length := by rw [hfu]; exact hdl
      repeat (first | refine w_nonnil ?_ | refine ld_it S (by assumption) ?_ | refine ld_it0 S (by assumption) ?_ | refine ld_val S (by assumption) ?_ | refine ld_key S (by assumption) ?_ | refine ld_int S rfl ?_ | refine w_int _ (S.cnt _) ?_ | refine ld_kid S (by assumption) ?_ | refine ld_kid0 S (by assumption) ?_ | refine ld_some S rfl ?_ | refine ld_ptr S _ rfl ?_ | refine ld_sls S rfl ?_ | refine ld_nil S rfl ?_ | refine ld_bool S rfl ?_ | refine st_it S (by first | omega | (dsimp only; omega)) fun _ S => ?_ | refine st_it0 S (by first | omega | (dsimp only; omega)) fun _ S => ?_ | refine st_kid S (by first | omega | (dsimp only; omega)) none rfl fun _ S => ?_ | refine st_kid S (by first | omega | (dsimp only; omega)) (some _) rfl fun _ S => ?_ | refine st_kid0 S (by first | omega | (dsimp only; omega)) (some _) rfl fun _ S => ?_ | refine st_store S (lt_ble rfl) fun _ S => ?_ | refine st_alloc S fun _ _ S => ?_ | refine st_held S rfl ?_ | refine w_guard (by (first | exact inK64 (by omega) (by omega) | omega | (constructor <;> omega) | ((try dsimp only [Sh.T, Sh1.T]); first | exact inK64 (by omega) (by omega) | omega | exact ⟨by decide, inK64 (by omega) (by omega)⟩ | trivial))) ?_ | refine bd_n rfl ?_ | refine bd_e rfl ?_ | refine bd_r ?_ | refine bd_p ?_ | refine ln_r ?_ | refine ln_e ?_ | refine w_true (b := true) rfl ?_ | refine w_false (b := false) rfl ?_ | refine w_guard (show noMeths _ _ by show _ = _; kernel_rfl) ?_ | (refine w_callT (c_leafp (kp := none) (S.rd rfl)) ?_; rintro _ _ ⟨rfl, rfl⟩) | (refine w_callT (c_leafp (kp := some _) (S.rd rfl)) ?_; rintro _ _ ⟨rfl, rfl⟩) | (refine w_callT (c_leafp (S.rd rfl)) ?_; rintro _ _ ⟨rfl, rfl⟩) | (refine w_callT (c_leaf (kp := none) (S.rd rfl)) ?_; rintro _ _ ⟨rfl, rfl⟩) | (refine w_callT (c_leaf (kp := some _) (S.rd rfl)) ?_; rintro _ _ ⟨rfl, rfl⟩))
      by_cases hz : (flatB n' u).length = 0
      · have e : del (ltO o) (flatB n t) k = [] := by rw [← hfu]; exact List.length_eq_zero_iff.1 hz
        refine w_bnd (w_true (beq_t (by (first | omega | ((try dsimp only [Sh.T, Sh1.T]); omega)))) ?_)
        repeat (first | refine w_nonnil ?_ | refine ld_it S (by assumption) ?_ | refine ld_it0 S (by assumption) ?_ | refine ld_val S (by assumption) ?_ | refine ld_key S (by assumption) ?_ | refine ld_int S rfl ?_ | refine w_int _ (S.cnt _) ?_ | refine ld_kid S (by assumption) ?_ | refine ld_kid0 S (by assumption) ?_ | refine ld_some S rfl ?_ | refine ld_ptr S _ rfl ?_ | refine ld_sls S rfl ?_ | refine ld_nil S rfl ?_ | refine ld_bool S rfl ?_ | refine st_it S (by first | omega | (dsimp only; omega)) fun _ S => ?_ | refine st_it0 S (by first | omega | (dsimp only; omega)) fun _ S => ?_ | refine st_kid S (by first | omega | (dsimp only; omega)) none rfl fun _ S => ?_ | refine st_kid S (by first | omega | (dsimp only; omega)) (some _) rfl fun _ S => ?_ | refine st_kid0 S (by first | omega | (dsimp only; omega)) (some _) rfl fun _ S => ?_ | refine st_store S (lt_ble rfl) fun _ S => ?_ | refine st_alloc S fun _ _ S => ?_ | refine st_held S rfl ?_ | refine w_guard (by (first | exact inK64 (by omega) (by omega) | omega | (constructor <;> omega) | ((try dsimp only [Sh.T, Sh1.T]); first | exact inK64 (by omega) (by omega) | omega | exact ⟨by decide, inK64 (by omega) (by omega)⟩ | trivial))) ?_ | refine bd_n rfl ?_ | refine bd_e rfl ?_ | refine bd_r ?_ | refine bd_p ?_ | refine ln_r ?_ | refine ln_e ?_ | refine w_true (b := true) rfl ?_ | refine w_false (b := false) rfl ?_ | refine w_guard (show noMeths _ _ by show _ = _; kernel_rfl) ?_ | (refine w_callT (c_leafp (kp := none) (S.rd rfl)) ?_; rintro _ _ ⟨rfl, rfl⟩) | (refine w_callT (c_leafp (kp := some _) (S.rd rfl)) ?_; rintro _ _ ⟨rfl, rfl⟩) | (refine w_callT (c_leafp (S.rd rfl)) ?_; rintro _ _ ⟨rfl, rfl⟩) | (refine w_callT (c_leaf (kp := none) (S.rd rfl)) ?_; rintro _ _ ⟨rfl, rfl⟩) | (refine w_callT (c_leaf (kp := some _) (S.rd rfl)) ?_; rintro _ _ ⟨rfl, rfl⟩))
        have S := (S.at (.ow a0)).re a0 (mapC ls iso ctr none 0 dg (2 * dg + 1) false false) 0 rfl (by simp [mapC, Cell.val]; omega) rfl
        rw [e]
        exact rt_n rfl rfl ⟨_, ⟨rfl, rfl⟩, (shut_map0 (S.at (.ow a0)) (.inr ⟨rfl, rfl, hmx, hmn, hmb⟩)).only [.mp a0, .ck (HtC hp)]⟩
      · refine w_bnd (w_false (beq_f (by (first | omega | ((try dsimp only [Sh.T, Sh1.T]); omega)))) ?_)
        repeat (first | refine w_nonnil ?_ | refine ld_it S (by assumption) ?_ | refine ld_it0 S (by assumption) ?_ | refine ld_val S (by assumption) ?_ | refine ld_key S (by assumption) ?_ | refine ld_int S rfl ?_ | refine w_int _ (S.cnt _) ?_ | refine ld_kid S (by assumption) ?_ | refine ld_kid0 S (by assumption) ?_ | refine ld_some S rfl ?_ | refine ld_ptr S _ rfl ?_ | refine ld_sls S rfl ?_ | refine ld_nil S rfl ?_ | refine ld_bool S rfl ?_ | refine st_it S (by first | omega | (dsimp only; omega)) fun _ S => ?_ | refine st_it0 S (by first | omega | (dsimp only; omega)) fun _ S => ?_ | refine st_kid S (by first | omega | (dsimp only; omega)) none rfl fun _ S => ?_ | refine st_kid S (by first | omega | (dsimp only; omega)) (some _) rfl fun _ S => ?_ | refine st_kid0 S (by first | omega | (dsimp only; omega)) (some _) rfl fun _ S => ?_ | refine st_store S (lt_ble rfl) fun _ S => ?_ | refine st_alloc S fun _ _ S => ?_ | refine st_held S rfl ?_ | refine w_guard (by (first | exact inK64 (by omega) (by omega) | omega | (constructor <;> omega) | ((try dsimp only [Sh.T, Sh1.T]); first | exact inK64 (by omega) (by omega) | omega | exact ⟨by decide, inK64 (by omega) (by omega)⟩ | trivial))) ?_ | refine bd_n rfl ?_ | refine bd_e rfl ?_ | refine bd_r ?_ | refine bd_p ?_ | refine ln_r ?_ | refine ln_e ?_ | refine w_true (b := true) rfl ?_ | refine w_false (b := false) rfl ?_ | refine w_guard (show noMeths _ _ by show _ = _; kernel_rfl) ?_ | (refine w_callT (c_leafp (kp := none) (S.rd rfl)) ?_; rintro _ _ ⟨rfl, rfl⟩) | (refine w_callT (c_leafp (kp := some _) (S.rd rfl)) ?_; rintro _ _ ⟨rfl, rfl⟩) | (refine w_callT (c_leafp (S.rd rfl)) ?_; rintro _ _ ⟨rfl, rfl⟩) | (refine w_callT (c_leaf (kp := none) (S.rd rfl)) ?_; rintro _ _ ⟨rfl, rfl⟩) | (refine w_callT (c_leaf (kp := some _) (S.rd rfl)) ?_; rintro _ _ ⟨rfl, rfl⟩))
        have S := (S.at (.ow a0)).re a0 (mapC ls iso ctr (some (b', 0)) (del (ltO o) (flatB n t) k).length dg (2 * dg + 1) false false) 0 rfl (by simp [mapC, Cell.val]; omega) rfl
        have hi1 : 1 ≤ (itemsB n' u).length := by
          rcases hiu with h | rfl
          · exact h
          · have : (itemsB 0 u).length = (flatB 0 u).length := rfl
            omega
        exact rt_n rfl rfl ⟨_, ⟨rfl, rfl⟩, (shut_map (S.ats [.ow a0, .tr b']) rfl hfu hds hvu hi1 ⟨hmx, hmn, hmb⟩).only [.mp a0, .ck (HtC hp)]⟩
end
end Go.Proofs.Ytegnpimlfphncaa.TG
