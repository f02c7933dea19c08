/-
  The map ms: the items handed on from the greatest to the least, all of them or from a key down. Conditions: none.
-/
import Derived.Test.YtpbmahnieepmiaaPgR
import Derived.Test.YtpbmahnieepmiaaNams
import Derived.Test.YtpbmahnieepmiaaRl
set_option linter.unusedVariables false
set_option linter.unusedSimpArgs false
set_option linter.unusedSectionVars false
set_option maxRecDepth 100000
namespace Go.Proofs.Ytpbmahnieepmiaa.MS
open Go Go.Proofs.Ytpbmahnieepmiaa
section
variable {h : H}
set_option maxHeartbeats 1000000 in
theorem c_nodeReverse {a0 : PA} {iso : Int} {m : Bool} {mn mx N : Nat} {f : Value} {K : List KV → Ck} {go : List KV → KV → Bool} (hcb : Cbk Try.prog f argO K go N) (hmx : mx ≤ 2147483647) : ∀ (n : Nat) {b : Nat} {t : BT KV n} {a1 : PA} {h : H} {G : PA → Prop} {acc : List KV},
    Bes (TrC L iso n b t) h G → Bes (RdC (a0.1, a0.2) (.int .u64 iso)) h G → rd h a1 = some (kptr b) → Val mn mx n t → acc.length + (flatB n t).length ≤ N → Star [K acc] h G →
    HT Try.prog fn_ms_nodeReverse [.c (.addr a0), .c (.addr a1), .c (.raw f), .c (.bool m)] false [.c .bool] h fun r h' =>
      ∃ post, (r = ((run go acc (flatB n t).reverse).2, ()) ∧ post = [K (run go acc (flatB n t).reverse).1]) ∧ St h G post h'
  | 0, b, t, a1, h, G, acc, hT, hA, h1, hv, hlen, hG => by
    apply hc_ms_nodeReverse
    unfold M_ms_nodeReverse
    have S := St.start hG
    obtain ⟨hi0, p, c, e2, e3, er⟩ := hT.leaf
    refine w_callT (c_isoLoad h1 hi0 hA.rd) ?_
    rintro _ _ ⟨rfl, rfl⟩
    rename_i h
    refine w_callT (c_leafp (kp := none) e3) ?_
    rintro _ _ ⟨rfl, rfl⟩
    rename_i h
    refine w_true rfl ?_
    have hil : (itemsB 0 t).length ≤ mx := hv
    have hfl : flatB 0 t = itemsB 0 t := rfl
    rw [hfl] at hlen ⊢
    refine w_nonnil (w_sl (some p, (itemsB 0 t).length, c) e2 (w_guard (inK64 (by (first | omega | ((try dsimp only [Sh.T, Sh1.T]); omega))) (by (first | omega | ((try dsimp only [Sh.T, Sh1.T]); omega)))) ?_))
    refine w_bnd (w_lp (fun r y h' => ∃ (z : Int) (D acc' : List KV), y = (z, ()) ∧ z = (r : Int) - 1 ∧ r ≤ (itemsB 0 t).length ∧ (itemsB 0 t).reverse = D ++ ((itemsB 0 t).take r).reverse ∧ run go acc D = (acc', true) ∧ St h G [K acc'] h') (itemsB 0 t).length rfl
      ⟨_, [], acc, rfl, rfl, Nat.le_refl _, by rw [List.take_length]; rfl, rfl, S⟩ ?_)
    rintro r _ h2 ⟨z, D, acc', rfl, hz, hi, hD, hr, S⟩
    obtain ⟨hi0, p, c, e2, e3, er⟩ := (hT.all S).leaf
    have hal := run_len go D acc
    have hDl : D.length + r = (itemsB 0 t).length := by
      have := congrArg List.length hD
      simp only [List.length_reverse, List.length_append, List.length_take] at this
      omega
    rw [hr] at hal
    dsimp only at hal
    by_cases hlt : 0 < r
    · obtain ⟨i, rfl⟩ : ∃ i : Nat, z = i := ⟨z.toNat, by omega⟩
      obtain rfl : r = i + 1 := by omega
      have hxi := List.getElem?_eq_getElem (show i < (itemsB 0 t).length by omega)
      have hr1 : run go acc (D ++ [(itemsB 0 t)[i]]) = (acc' ++ [(itemsB 0 t)[i]], go acc' (itemsB 0 t)[i]) := by rw [run_on _ (by rw [hr]), hr, run_one]
      have hD1 : (itemsB 0 t).reverse = (D ++ [(itemsB 0 t)[i]]) ++ ((itemsB 0 t).take i).reverse := by rw [hD, rev_take hxi]; simp
      refine w_true (decide_eq_true (by (first | omega | ((try dsimp only [Sh.T, Sh1.T]); omega)))) ?_
      simp only [Int.toNat_natCast, toNat_succ, toNat_succ2, toNat_pred]
      have hok := Bes.okp (hT.all S) e2 (by first | exact Nat.zero_lt_of_lt hlt | omega | (dsimp only [itemsB]; omega))
      repeat (first | refine st_there (fun _ h => h) S (lt_ble rfl) ?_ | refine th_it S (by first | omega | (dsimp only; omega)) ?_ | refine w_there hok ?_ | refine w_nonnil ?_ | refine ld_it S (by assumption) ?_ | refine ld_it0 S (by assumption) ?_ | refine ld_val S (by assumption) ?_ | refine ld_key S (by assumption) ?_ | refine ld_int S rfl ?_ | refine w_int _ (S.cnt _) ?_ | refine ld_kid S (by assumption) ?_ | refine ld_kid0 S (by assumption) ?_ | refine ld_some S rfl ?_ | refine ld_ptr S _ rfl ?_ | refine ld_sls S rfl ?_ | refine ld_nil S rfl ?_ | refine ld_bool S rfl ?_ | refine st_it S (by first | omega | (dsimp only; omega)) fun _ S => ?_ | refine st_it0 S (by first | omega | (dsimp only; omega)) fun _ S => ?_ | refine st_kid S (by first | omega | (dsimp only; omega)) none rfl fun _ S => ?_ | refine st_kid S (by first | omega | (dsimp only; omega)) (some _) rfl fun _ S => ?_ | refine st_kid0 S (by first | omega | (dsimp only; omega)) (some _) rfl fun _ S => ?_ | refine st_store S (lt_ble rfl) fun _ S => ?_ | refine st_allocK S fun _ _ S hold => ?_ | refine st_held S rfl ?_ | refine w_guard (by (first | exact inK64 (by omega) (by omega) | omega | (constructor <;> omega) | ((try dsimp only [Sh.T, Sh1.T]); first | exact inK64 (by omega) (by omega) | omega | exact ⟨by decide, inK64 (by omega) (by omega)⟩ | trivial))) ?_ | refine bd_n rfl ?_ | refine bd_e rfl ?_ | refine bd_r ?_ | refine bd_p ?_ | refine ln_r ?_ | refine ln_e ?_ | refine w_true (b := true) rfl ?_ | refine w_false (b := false) rfl ?_ | refine w_guard (show noMeths _ _ by show _ = _; kernel_rfl) ?_ | (refine w_callT (c_leafp (kp := none) (S.rd rfl)) ?_; rintro _ _ ⟨rfl, rfl⟩) | (refine w_callT (c_leafp (kp := some _) (S.rd rfl)) ?_; rintro _ _ ⟨rfl, rfl⟩) | (refine w_callT (c_leafp (S.rd rfl)) ?_; rintro _ _ ⟨rfl, rfl⟩) | (refine w_callT (c_leaf (kp := none) (S.rd rfl)) ?_; rintro _ _ ⟨rfl, rfl⟩) | (refine w_callT (c_leaf (kp := some _) (S.rd rfl)) ?_; rintro _ _ ⟨rfl, rfl⟩) | refine w_it (by assumption) (by assumption) ?_ | refine w_it0 (by assumption) (by assumption) ?_ | refine h_it hold (by assumption) (by assumption) ?_ | refine w_itV (by assumption) (by assumption) ?_ | refine w_itK (by assumption) (by assumption) ?_ | refine h_itV hold (by assumption) (by assumption) ?_ | refine h_itK hold (by assumption) (by assumption) ?_ | refine w_held (hold _ _ (by assumption)) ?_ | refine w_sl (some _, _, _) (by assumption) ?_ | refine w_ptr (some _) (by assumption) ?_ | refine w_ptr none (by assumption) ?_ | refine w_int _ (by assumption) ?_ | refine w_held (by assumption) ?_ | (refine w_callT (c_leafp (kp := none) (by assumption)) ?_; rintro _ _ ⟨rfl, rfl⟩) | (refine w_callT (c_leafp (kp := some _) (by assumption)) ?_; rintro _ _ ⟨rfl, rfl⟩) | (refine w_callT (c_leaf (kp := none) (by assumption)) ?_; rintro _ _ ⟨rfl, rfl⟩) | (refine w_callT (c_leaf (kp := some _) (by assumption)) ?_; rintro _ _ ⟨rfl, rfl⟩))
      refine st_cb S hcb (itemsB 0 t)[i] (by omega) rfl fun h3 S => ?_
      cases hgo : go acc' (itemsB 0 t)[i] with
      | true =>
        rw [hgo] at hr1
        repeat (first | refine st_there (fun _ h => h) S (lt_ble rfl) ?_ | refine th_it S (by first | omega | (dsimp only; omega)) ?_ | refine w_there hok ?_ | refine w_nonnil ?_ | refine ld_it S (by assumption) ?_ | refine ld_it0 S (by assumption) ?_ | refine ld_val S (by assumption) ?_ | refine ld_key S (by assumption) ?_ | refine ld_int S rfl ?_ | refine w_int _ (S.cnt _) ?_ | refine ld_kid S (by assumption) ?_ | refine ld_kid0 S (by assumption) ?_ | refine ld_some S rfl ?_ | refine ld_ptr S _ rfl ?_ | refine ld_sls S rfl ?_ | refine ld_nil S rfl ?_ | refine ld_bool S rfl ?_ | refine st_it S (by first | omega | (dsimp only; omega)) fun _ S => ?_ | refine st_it0 S (by first | omega | (dsimp only; omega)) fun _ S => ?_ | refine st_kid S (by first | omega | (dsimp only; omega)) none rfl fun _ S => ?_ | refine st_kid S (by first | omega | (dsimp only; omega)) (some _) rfl fun _ S => ?_ | refine st_kid0 S (by first | omega | (dsimp only; omega)) (some _) rfl fun _ S => ?_ | refine st_store S (lt_ble rfl) fun _ S => ?_ | refine st_allocK S fun _ _ S hold => ?_ | refine st_held S rfl ?_ | refine w_guard (by (first | exact inK64 (by omega) (by omega) | omega | (constructor <;> omega) | ((try dsimp only [Sh.T, Sh1.T]); first | exact inK64 (by omega) (by omega) | omega | exact ⟨by decide, inK64 (by omega) (by omega)⟩ | trivial))) ?_ | refine bd_n rfl ?_ | refine bd_e rfl ?_ | refine bd_r ?_ | refine bd_p ?_ | refine ln_r ?_ | refine ln_e ?_ | refine w_true (b := true) rfl ?_ | refine w_false (b := false) rfl ?_ | refine w_guard (show noMeths _ _ by show _ = _; kernel_rfl) ?_ | (refine w_callT (c_leafp (kp := none) (S.rd rfl)) ?_; rintro _ _ ⟨rfl, rfl⟩) | (refine w_callT (c_leafp (kp := some _) (S.rd rfl)) ?_; rintro _ _ ⟨rfl, rfl⟩) | (refine w_callT (c_leafp (S.rd rfl)) ?_; rintro _ _ ⟨rfl, rfl⟩) | (refine w_callT (c_leaf (kp := none) (S.rd rfl)) ?_; rintro _ _ ⟨rfl, rfl⟩) | (refine w_callT (c_leaf (kp := some _) (S.rd rfl)) ?_; rintro _ _ ⟨rfl, rfl⟩) | refine w_it (by assumption) (by assumption) ?_ | refine w_it0 (by assumption) (by assumption) ?_ | refine h_it hold (by assumption) (by assumption) ?_ | refine w_itV (by assumption) (by assumption) ?_ | refine w_itK (by assumption) (by assumption) ?_ | refine h_itV hold (by assumption) (by assumption) ?_ | refine h_itK hold (by assumption) (by assumption) ?_ | refine w_held (hold _ _ (by assumption)) ?_ | refine w_sl (some _, _, _) (by assumption) ?_ | refine w_ptr (some _) (by assumption) ?_ | refine w_ptr none (by assumption) ?_ | refine w_int _ (by assumption) ?_ | refine w_held (by assumption) ?_ | (refine w_callT (c_leafp (kp := none) (by assumption)) ?_; rintro _ _ ⟨rfl, rfl⟩) | (refine w_callT (c_leafp (kp := some _) (by assumption)) ?_; rintro _ _ ⟨rfl, rfl⟩) | (refine w_callT (c_leaf (kp := none) (by assumption)) ?_; rintro _ _ ⟨rfl, rfl⟩) | (refine w_callT (c_leaf (kp := some _) (by assumption)) ?_; rintro _ _ ⟨rfl, rfl⟩))
        exact ln_n rfl i ⟨_, _, _, rfl, rfl, by omega, hD1, hr1, S⟩ (by omega)
      | false =>
        rw [hgo] at hr1
        have e : run go acc (itemsB 0 t).reverse = (acc' ++ [(itemsB 0 t)[i]], false) := by rw [hD1, run_stop _ (by rw [hr1]), hr1]
        refine w_true rfl (ln_r (bd_r (rt_1 rfl ⟨_, ⟨by rw [e], rfl⟩, ?_⟩)))
        rw [e]; exact S
    · obtain rfl : r = 0 := by omega
      have e : run go acc (itemsB 0 t).reverse = (acc', true) := by rw [hD, List.take_zero, List.reverse_nil, List.append_nil, hr]
      refine w_false (decide_eq_false (by (first | omega | ((try dsimp only [Sh.T, Sh1.T]); omega)))) (ln_e (bd_e rfl (rt_1 rfl ⟨_, ⟨by rw [e], rfl⟩, ?_⟩)))
      rw [e]; exact S
  | n + 1, b, t, a1, h, G, acc, hT, hA, h1, hv, hlen, hG => by
    apply hc_ms_nodeReverse
    unfold M_ms_nodeReverse
    have S := St.start hG
    obtain ⟨hi0, p, c, q, d, hb, ks, e2, e3, er, e4, ekl, hk⟩ := hT.node
    obtain ⟨is, ts⟩ := t
    have hl2 : ts.length = is.length + 1 := hv.2.1
    have hil : is.length ≤ mx := hv.1
    refine w_callT (c_isoLoad h1 hi0 hA.rd) ?_
    rintro _ _ ⟨rfl, rfl⟩
    rename_i h
    refine w_callT (c_leafp (kp := some _) e3) ?_
    rintro _ _ ⟨rfl, rfl⟩
    rename_i h
    refine w_false rfl ?_
    obtain ⟨hi0, p, c, q, d, hb, ks, e2, e3, er, e4, ekl, hk⟩ := (hT.all S).node
    dsimp only at e2 er ekl hk
    generalize hW : flatB (n + 1) ((is, ts) : BT KV (n + 1)) = W at *
    obtain ⟨u, hu⟩ : ∃ u, ts[is.length]? = some u := ⟨_, List.getElem?_eq_getElem (by omega)⟩
    obtain ⟨kid, k2, k3⟩ := hk _ u hu
    have hlast := ah_last hl2 hu
    rw [hW] at hlast
    have hWl : W.length = (ahead is ts is.length).length + (flatB n u).length := by rw [hlast, List.length_append]
    have hrev : W.reverse = (flatB n u).reverse ++ (ahead is ts is.length).reverse := by rw [hlast, List.reverse_append]
    have hkq : rd h (q.1, q.2 + (ks - 1)) = some (kptr kid) := by rw [show ks - 1 = is.length by omega]; exact k2
    simp only [Int.toNat_natCast, toNat_succ, toNat_succ2, toNat_pred]
    repeat (first | refine st_there (fun _ h => h) S (lt_ble rfl) ?_ | refine th_it S (by first | omega | (dsimp only; omega)) ?_ | refine w_there hok ?_ | refine w_nonnil ?_ | refine ld_it S (by assumption) ?_ | refine ld_it0 S (by assumption) ?_ | refine ld_val S (by assumption) ?_ | refine ld_key S (by assumption) ?_ | refine ld_int S rfl ?_ | refine w_int _ (S.cnt _) ?_ | refine ld_kid S (by assumption) ?_ | refine ld_kid0 S (by assumption) ?_ | refine ld_some S rfl ?_ | refine ld_ptr S _ rfl ?_ | refine ld_sls S rfl ?_ | refine ld_nil S rfl ?_ | refine ld_bool S rfl ?_ | refine st_it S (by first | omega | (dsimp only; omega)) fun _ S => ?_ | refine st_it0 S (by first | omega | (dsimp only; omega)) fun _ S => ?_ | refine st_kid S (by first | omega | (dsimp only; omega)) none rfl fun _ S => ?_ | refine st_kid S (by first | omega | (dsimp only; omega)) (some _) rfl fun _ S => ?_ | refine st_kid0 S (by first | omega | (dsimp only; omega)) (some _) rfl fun _ S => ?_ | refine st_store S (lt_ble rfl) fun _ S => ?_ | refine st_allocK S fun _ _ S hold => ?_ | refine st_held S rfl ?_ | refine w_guard (by (first | exact inK64 (by omega) (by omega) | omega | (constructor <;> omega) | ((try dsimp only [Sh.T, Sh1.T]); first | exact inK64 (by omega) (by omega) | omega | exact ⟨by decide, inK64 (by omega) (by omega)⟩ | trivial))) ?_ | refine bd_n rfl ?_ | refine bd_e rfl ?_ | refine bd_r ?_ | refine bd_p ?_ | refine ln_r ?_ | refine ln_e ?_ | refine w_true (b := true) rfl ?_ | refine w_false (b := false) rfl ?_ | refine w_guard (show noMeths _ _ by show _ = _; kernel_rfl) ?_ | (refine w_callT (c_leafp (kp := none) (S.rd rfl)) ?_; rintro _ _ ⟨rfl, rfl⟩) | (refine w_callT (c_leafp (kp := some _) (S.rd rfl)) ?_; rintro _ _ ⟨rfl, rfl⟩) | (refine w_callT (c_leafp (S.rd rfl)) ?_; rintro _ _ ⟨rfl, rfl⟩) | (refine w_callT (c_leaf (kp := none) (S.rd rfl)) ?_; rintro _ _ ⟨rfl, rfl⟩) | (refine w_callT (c_leaf (kp := some _) (S.rd rfl)) ?_; rintro _ _ ⟨rfl, rfl⟩) | refine w_it (by assumption) (by assumption) ?_ | refine w_it0 (by assumption) (by assumption) ?_ | refine h_it hold (by assumption) (by assumption) ?_ | refine w_itV (by assumption) (by assumption) ?_ | refine w_itK (by assumption) (by assumption) ?_ | refine h_itV hold (by assumption) (by assumption) ?_ | refine h_itK hold (by assumption) (by assumption) ?_ | refine w_held (hold _ _ (by assumption)) ?_ | refine w_sl (some _, _, _) (by assumption) ?_ | refine w_ptr (some _) (by assumption) ?_ | refine w_ptr none (by assumption) ?_ | refine w_int _ (by assumption) ?_ | refine w_held (by assumption) ?_ | (refine w_callT (c_leafp (kp := none) (by assumption)) ?_; rintro _ _ ⟨rfl, rfl⟩) | (refine w_callT (c_leafp (kp := some _) (by assumption)) ?_; rintro _ _ ⟨rfl, rfl⟩) | (refine w_callT (c_leaf (kp := none) (by assumption)) ?_; rintro _ _ ⟨rfl, rfl⟩) | (refine w_callT (c_leaf (kp := some _) (by assumption)) ?_; rintro _ _ ⟨rfl, rfl⟩))
    refine st_callF S [.ck (K acc)] (fun G' hG' hsub => c_nodeReverse hcb hmx n (k3.sub hsub) ((hA.all S).sub hsub) hkq (hv.2.2 u (List.mem_of_getElem? hu)).1 (by omega) hG') ?_
    rintro _ _ h3 ⟨rfl, rfl⟩ S
    dsimp only [List.cons_append, List.nil_append] at S
    cases hg2 : (run go acc (flatB n u).reverse).2 with
    | false =>
      have e : run go acc W.reverse = run go acc (flatB n u).reverse := by rw [hrev, run_stop _ hg2]
      refine w_true rfl (rt_1 rfl ⟨_, ⟨by rw [e, hg2], rfl⟩, ?_⟩)
      rw [e]; exact S
    | true =>
      have hr0 : run go acc (flatB n u).reverse = ((run go acc (flatB n u).reverse).1, true) := Prod.ext rfl hg2
      obtain ⟨hi0, p, c, q, d, hb, ks, e2, e3, er, e4, ekl, hk⟩ := (hT.all S).node
      dsimp only at e2 er ekl hk
      refine w_false rfl (w_nonnil (w_sl (some p, is.length, c) e2 (w_guard (inK64 (by (first | omega | ((try dsimp only [Sh.T, Sh1.T]); omega))) (by (first | omega | ((try dsimp only [Sh.T, Sh1.T]); omega)))) ?_)))
      refine w_bnd (w_lp (fun r y h' => ∃ (z : Int) (D acc' : List KV), y = (z, ()) ∧ z = (r : Int) - 1 ∧ r ≤ is.length ∧ W.reverse = D ++ (ahead is ts r).reverse ∧ run go acc D = (acc', true) ∧ St h G [K acc'] h') is.length rfl
        ⟨_, _, _, rfl, rfl, Nat.le_refl _, hrev, hr0, S⟩ ?_)
      clear S hr0 hg2 k2 k3 hkq hu hrev hWl hlast
      rintro r _ h4 ⟨z, D, acc', rfl, hz, hi, hD, hr, S⟩
      have hal := run_len go D acc
      rw [hr] at hal
      dsimp only at hal
      by_cases hlt : 0 < r
      · obtain ⟨i, rfl⟩ : ∃ i : Nat, z = i := ⟨z.toNat, by omega⟩
        obtain rfl : r = i + 1 := by omega
        obtain ⟨u, hu⟩ : ∃ u, ts[i]? = some u := ⟨_, List.getElem?_eq_getElem (by omega)⟩
        have hxi := List.getElem?_eq_getElem (show i < is.length by omega)
        have hsuc := ah_succ hl2 hxi hu
        have hD1 : W.reverse = (D ++ [is[i]]) ++ ((flatB n u).reverse ++ (ahead is ts i).reverse) := by rw [hD, hsuc]; simp
        have hD2 : W.reverse = ((D ++ [is[i]]) ++ (flatB n u).reverse) ++ (ahead is ts i).reverse := by rw [hD1]; simp
        have hDl : D.length + (1 + (flatB n u).length) ≤ W.length := by
          have := congrArg List.length hD1
          simp only [List.length_reverse, List.length_append, List.length_cons, List.length_nil] at this
          omega
        have hr1 : run go acc (D ++ [is[i]]) = (acc' ++ [is[i]], go acc' is[i]) := by rw [run_on _ (by rw [hr]), hr, run_one]
        obtain ⟨hi0, p, c, q, d, hb, ks, e2, e3, er, e4, ekl, hk⟩ := (hT.all S).node
        dsimp only at e2 er ekl hk
        refine w_true (decide_eq_true (by (first | omega | ((try dsimp only [Sh.T, Sh1.T]); omega)))) ?_
        simp only [Int.toNat_natCast, toNat_succ, toNat_succ2, toNat_pred]
        have hok := Bes.okp (hT.all S) e2 (by first | exact Nat.zero_lt_of_lt hlt | omega | (dsimp only [itemsB]; omega))
        repeat (first | refine st_there (fun _ h => h) S (lt_ble rfl) ?_ | refine th_it S (by first | omega | (dsimp only; omega)) ?_ | refine w_there hok ?_ | refine w_nonnil ?_ | refine ld_it S (by assumption) ?_ | refine ld_it0 S (by assumption) ?_ | refine ld_val S (by assumption) ?_ | refine ld_key S (by assumption) ?_ | refine ld_int S rfl ?_ | refine w_int _ (S.cnt _) ?_ | refine ld_kid S (by assumption) ?_ | refine ld_kid0 S (by assumption) ?_ | refine ld_some S rfl ?_ | refine ld_ptr S _ rfl ?_ | refine ld_sls S rfl ?_ | refine ld_nil S rfl ?_ | refine ld_bool S rfl ?_ | refine st_it S (by first | omega | (dsimp only; omega)) fun _ S => ?_ | refine st_it0 S (by first | omega | (dsimp only; omega)) fun _ S => ?_ | refine st_kid S (by first | omega | (dsimp only; omega)) none rfl fun _ S => ?_ | refine st_kid S (by first | omega | (dsimp only; omega)) (some _) rfl fun _ S => ?_ | refine st_kid0 S (by first | omega | (dsimp only; omega)) (some _) rfl fun _ S => ?_ | refine st_store S (lt_ble rfl) fun _ S => ?_ | refine st_allocK S fun _ _ S hold => ?_ | refine st_held S rfl ?_ | refine w_guard (by (first | exact inK64 (by omega) (by omega) | omega | (constructor <;> omega) | ((try dsimp only [Sh.T, Sh1.T]); first | exact inK64 (by omega) (by omega) | omega | exact ⟨by decide, inK64 (by omega) (by omega)⟩ | trivial))) ?_ | refine bd_n rfl ?_ | refine bd_e rfl ?_ | refine bd_r ?_ | refine bd_p ?_ | refine ln_r ?_ | refine ln_e ?_ | refine w_true (b := true) rfl ?_ | refine w_false (b := false) rfl ?_ | refine w_guard (show noMeths _ _ by show _ = _; kernel_rfl) ?_ | (refine w_callT (c_leafp (kp := none) (S.rd rfl)) ?_; rintro _ _ ⟨rfl, rfl⟩) | (refine w_callT (c_leafp (kp := some _) (S.rd rfl)) ?_; rintro _ _ ⟨rfl, rfl⟩) | (refine w_callT (c_leafp (S.rd rfl)) ?_; rintro _ _ ⟨rfl, rfl⟩) | (refine w_callT (c_leaf (kp := none) (S.rd rfl)) ?_; rintro _ _ ⟨rfl, rfl⟩) | (refine w_callT (c_leaf (kp := some _) (S.rd rfl)) ?_; rintro _ _ ⟨rfl, rfl⟩) | refine w_it (by assumption) (by assumption) ?_ | refine w_it0 (by assumption) (by assumption) ?_ | refine h_it hold (by assumption) (by assumption) ?_ | refine w_itV (by assumption) (by assumption) ?_ | refine w_itK (by assumption) (by assumption) ?_ | refine h_itV hold (by assumption) (by assumption) ?_ | refine h_itK hold (by assumption) (by assumption) ?_ | refine w_held (hold _ _ (by assumption)) ?_ | refine w_sl (some _, _, _) (by assumption) ?_ | refine w_ptr (some _) (by assumption) ?_ | refine w_ptr none (by assumption) ?_ | refine w_int _ (by assumption) ?_ | refine w_held (by assumption) ?_ | (refine w_callT (c_leafp (kp := none) (by assumption)) ?_; rintro _ _ ⟨rfl, rfl⟩) | (refine w_callT (c_leafp (kp := some _) (by assumption)) ?_; rintro _ _ ⟨rfl, rfl⟩) | (refine w_callT (c_leaf (kp := none) (by assumption)) ?_; rintro _ _ ⟨rfl, rfl⟩) | (refine w_callT (c_leaf (kp := some _) (by assumption)) ?_; rintro _ _ ⟨rfl, rfl⟩))
        refine st_cb S hcb is[i] (by omega) rfl fun h3 S => ?_
        cases hgo : go acc' is[i] with
        | true =>
          rw [hgo] at hr1
          obtain ⟨hi0, p, c, q, d, hb, ks, e2, e3, er, e4, ekl, hk⟩ := (hT.all S).node
          dsimp only at e2 er ekl hk
          obtain ⟨kid, k2, k3⟩ := hk _ u hu
          repeat (first | refine st_there (fun _ h => h) S (lt_ble rfl) ?_ | refine th_it S (by first | omega | (dsimp only; omega)) ?_ | refine w_there hok ?_ | refine w_nonnil ?_ | refine ld_it S (by assumption) ?_ | refine ld_it0 S (by assumption) ?_ | refine ld_val S (by assumption) ?_ | refine ld_key S (by assumption) ?_ | refine ld_int S rfl ?_ | refine w_int _ (S.cnt _) ?_ | refine ld_kid S (by assumption) ?_ | refine ld_kid0 S (by assumption) ?_ | refine ld_some S rfl ?_ | refine ld_ptr S _ rfl ?_ | refine ld_sls S rfl ?_ | refine ld_nil S rfl ?_ | refine ld_bool S rfl ?_ | refine st_it S (by first | omega | (dsimp only; omega)) fun _ S => ?_ | refine st_it0 S (by first | omega | (dsimp only; omega)) fun _ S => ?_ | refine st_kid S (by first | omega | (dsimp only; omega)) none rfl fun _ S => ?_ | refine st_kid S (by first | omega | (dsimp only; omega)) (some _) rfl fun _ S => ?_ | refine st_kid0 S (by first | omega | (dsimp only; omega)) (some _) rfl fun _ S => ?_ | refine st_store S (lt_ble rfl) fun _ S => ?_ | refine st_allocK S fun _ _ S hold => ?_ | refine st_held S rfl ?_ | refine w_guard (by (first | exact inK64 (by omega) (by omega) | omega | (constructor <;> omega) | ((try dsimp only [Sh.T, Sh1.T]); first | exact inK64 (by omega) (by omega) | omega | exact ⟨by decide, inK64 (by omega) (by omega)⟩ | trivial))) ?_ | refine bd_n rfl ?_ | refine bd_e rfl ?_ | refine bd_r ?_ | refine bd_p ?_ | refine ln_r ?_ | refine ln_e ?_ | refine w_true (b := true) rfl ?_ | refine w_false (b := false) rfl ?_ | refine w_guard (show noMeths _ _ by show _ = _; kernel_rfl) ?_ | (refine w_callT (c_leafp (kp := none) (S.rd rfl)) ?_; rintro _ _ ⟨rfl, rfl⟩) | (refine w_callT (c_leafp (kp := some _) (S.rd rfl)) ?_; rintro _ _ ⟨rfl, rfl⟩) | (refine w_callT (c_leafp (S.rd rfl)) ?_; rintro _ _ ⟨rfl, rfl⟩) | (refine w_callT (c_leaf (kp := none) (S.rd rfl)) ?_; rintro _ _ ⟨rfl, rfl⟩) | (refine w_callT (c_leaf (kp := some _) (S.rd rfl)) ?_; rintro _ _ ⟨rfl, rfl⟩) | refine w_it (by assumption) (by assumption) ?_ | refine w_it0 (by assumption) (by assumption) ?_ | refine h_it hold (by assumption) (by assumption) ?_ | refine w_itV (by assumption) (by assumption) ?_ | refine w_itK (by assumption) (by assumption) ?_ | refine h_itV hold (by assumption) (by assumption) ?_ | refine h_itK hold (by assumption) (by assumption) ?_ | refine w_held (hold _ _ (by assumption)) ?_ | refine w_sl (some _, _, _) (by assumption) ?_ | refine w_ptr (some _) (by assumption) ?_ | refine w_ptr none (by assumption) ?_ | refine w_int _ (by assumption) ?_ | refine w_held (by assumption) ?_ | (refine w_callT (c_leafp (kp := none) (by assumption)) ?_; rintro _ _ ⟨rfl, rfl⟩) | (refine w_callT (c_leafp (kp := some _) (by assumption)) ?_; rintro _ _ ⟨rfl, rfl⟩) | (refine w_callT (c_leaf (kp := none) (by assumption)) ?_; rintro _ _ ⟨rfl, rfl⟩) | (refine w_callT (c_leaf (kp := some _) (by assumption)) ?_; rintro _ _ ⟨rfl, rfl⟩))
          refine st_callF S [.ck (K (acc' ++ [is[i]]))] (fun G' hG' hsub => c_nodeReverse hcb hmx n (k3.sub hsub) ((hA.all S).sub hsub) k2 (hv.2.2 u (List.mem_of_getElem? hu)).1 (by simp; omega) hG') ?_
          rintro _ _ h5 ⟨rfl, rfl⟩ S
          dsimp only [List.cons_append, List.nil_append] at S
          have hr2 : run go acc ((D ++ [is[i]]) ++ (flatB n u).reverse) = run go (acc' ++ [is[i]]) (flatB n u).reverse := by rw [run_on _ (by rw [hr1]), hr1]
          cases hg2 : (run go (acc' ++ [is[i]]) (flatB n u).reverse).2 with
          | false =>
            have e : run go acc W.reverse = run go (acc' ++ [is[i]]) (flatB n u).reverse := by rw [hD2, run_stop _ (by rw [hr2, hg2]), hr2]
            refine w_true rfl (ln_r (bd_r (rt_1 rfl ⟨_, ⟨by rw [e, hg2], rfl⟩, ?_⟩)))
            rw [e]; exact S
          | true =>
            repeat (first | refine st_there (fun _ h => h) S (lt_ble rfl) ?_ | refine th_it S (by first | omega | (dsimp only; omega)) ?_ | refine w_there hok ?_ | refine w_nonnil ?_ | refine ld_it S (by assumption) ?_ | refine ld_it0 S (by assumption) ?_ | refine ld_val S (by assumption) ?_ | refine ld_key S (by assumption) ?_ | refine ld_int S rfl ?_ | refine w_int _ (S.cnt _) ?_ | refine ld_kid S (by assumption) ?_ | refine ld_kid0 S (by assumption) ?_ | refine ld_some S rfl ?_ | refine ld_ptr S _ rfl ?_ | refine ld_sls S rfl ?_ | refine ld_nil S rfl ?_ | refine ld_bool S rfl ?_ | refine st_it S (by first | omega | (dsimp only; omega)) fun _ S => ?_ | refine st_it0 S (by first | omega | (dsimp only; omega)) fun _ S => ?_ | refine st_kid S (by first | omega | (dsimp only; omega)) none rfl fun _ S => ?_ | refine st_kid S (by first | omega | (dsimp only; omega)) (some _) rfl fun _ S => ?_ | refine st_kid0 S (by first | omega | (dsimp only; omega)) (some _) rfl fun _ S => ?_ | refine st_store S (lt_ble rfl) fun _ S => ?_ | refine st_allocK S fun _ _ S hold => ?_ | refine st_held S rfl ?_ | refine w_guard (by (first | exact inK64 (by omega) (by omega) | omega | (constructor <;> omega) | ((try dsimp only [Sh.T, Sh1.T]); first | exact inK64 (by omega) (by omega) | omega | exact ⟨by decide, inK64 (by omega) (by omega)⟩ | trivial))) ?_ | refine bd_n rfl ?_ | refine bd_e rfl ?_ | refine bd_r ?_ | refine bd_p ?_ | refine ln_r ?_ | refine ln_e ?_ | refine w_true (b := true) rfl ?_ | refine w_false (b := false) rfl ?_ | refine w_guard (show noMeths _ _ by show _ = _; kernel_rfl) ?_ | (refine w_callT (c_leafp (kp := none) (S.rd rfl)) ?_; rintro _ _ ⟨rfl, rfl⟩) | (refine w_callT (c_leafp (kp := some _) (S.rd rfl)) ?_; rintro _ _ ⟨rfl, rfl⟩) | (refine w_callT (c_leafp (S.rd rfl)) ?_; rintro _ _ ⟨rfl, rfl⟩) | (refine w_callT (c_leaf (kp := none) (S.rd rfl)) ?_; rintro _ _ ⟨rfl, rfl⟩) | (refine w_callT (c_leaf (kp := some _) (S.rd rfl)) ?_; rintro _ _ ⟨rfl, rfl⟩) | refine w_it (by assumption) (by assumption) ?_ | refine w_it0 (by assumption) (by assumption) ?_ | refine h_it hold (by assumption) (by assumption) ?_ | refine w_itV (by assumption) (by assumption) ?_ | refine w_itK (by assumption) (by assumption) ?_ | refine h_itV hold (by assumption) (by assumption) ?_ | refine h_itK hold (by assumption) (by assumption) ?_ | refine w_held (hold _ _ (by assumption)) ?_ | refine w_sl (some _, _, _) (by assumption) ?_ | refine w_ptr (some _) (by assumption) ?_ | refine w_ptr none (by assumption) ?_ | refine w_int _ (by assumption) ?_ | refine w_held (by assumption) ?_ | (refine w_callT (c_leafp (kp := none) (by assumption)) ?_; rintro _ _ ⟨rfl, rfl⟩) | (refine w_callT (c_leafp (kp := some _) (by assumption)) ?_; rintro _ _ ⟨rfl, rfl⟩) | (refine w_callT (c_leaf (kp := none) (by assumption)) ?_; rintro _ _ ⟨rfl, rfl⟩) | (refine w_callT (c_leaf (kp := some _) (by assumption)) ?_; rintro _ _ ⟨rfl, rfl⟩))
            exact ln_n rfl i ⟨_, _, _, rfl, rfl, by omega, hD2, by rw [hr2]; exact Prod.ext rfl hg2, S⟩ (by omega)
        | false =>
          rw [hgo] at hr1
          have e : run go acc W.reverse = (acc' ++ [is[i]], false) := by rw [hD1, run_stop _ (by rw [hr1]), hr1]
          refine w_true rfl (ln_r (bd_r (rt_1 rfl ⟨_, ⟨by rw [e], rfl⟩, ?_⟩)))
          rw [e]; exact S
      · obtain rfl : r = 0 := by omega
        have e : run go acc W.reverse = (acc', true) := by rw [hD, ah_zero, List.reverse_nil, List.append_nil, hr]
        refine w_false (decide_eq_false (by (first | omega | ((try dsimp only [Sh.T, Sh1.T]); omega)))) (ln_e (bd_e rfl (rt_1 rfl ⟨_, ⟨by rw [e], rfl⟩, ?_⟩)))
        rw [e]; exact S
theorem c_reverse {a0 : PA} {iso : Int} {dg N : Nat} {l acc : List KV} {m : Bool} {f : Value} {K : List KV → Ck} {go : List KV → KV → Bool} (hcb : Cbk Try.prog f argO K go N) (hl : acc.length + l.length ≤ N) {G : PA → Prop} (hG : Star [K acc, MpC iso dg a0 l] h G) :
    HT Try.prog fn_ms_reverse [.c (.addr a0), .c (.raw f), .c (.bool m)] true [] h fun x h' => ∃ post, (post = [K (run go acc l.reverse).1, MpC iso dg a0 l]) ∧ St h G post h' := by
  apply hc_ms_reverse
  unfold M_ms_reverse
  have S := (St.start hG).pull1
  rcases open_map S with ⟨ctr, mn, mx, rfl, hg, S⟩ | ⟨ctr, n, b, t, rfl, hs, hv, hi, hg, S⟩
  · repeat (first | refine st_there (fun _ h => h) S (lt_ble rfl) ?_ | refine th_it S (by first | omega | (dsimp only; omega)) ?_ | refine w_there hok ?_ | refine w_nonnil ?_ | refine ld_it S (by assumption) ?_ | refine ld_it0 S (by assumption) ?_ | refine ld_val S (by assumption) ?_ | refine ld_key S (by assumption) ?_ | refine ld_int S rfl ?_ | refine w_int _ (S.cnt _) ?_ | refine ld_kid S (by assumption) ?_ | refine ld_kid0 S (by assumption) ?_ | refine ld_some S rfl ?_ | refine ld_ptr S _ rfl ?_ | refine ld_sls S rfl ?_ | refine ld_nil S rfl ?_ | refine ld_bool S rfl ?_ | refine st_it S (by first | omega | (dsimp only; omega)) fun _ S => ?_ | refine st_it0 S (by first | omega | (dsimp only; omega)) fun _ S => ?_ | refine st_kid S (by first | omega | (dsimp only; omega)) none rfl fun _ S => ?_ | refine st_kid S (by first | omega | (dsimp only; omega)) (some _) rfl fun _ S => ?_ | refine st_kid0 S (by first | omega | (dsimp only; omega)) (some _) rfl fun _ S => ?_ | refine st_store S (lt_ble rfl) fun _ S => ?_ | refine st_alloc S fun _ _ S => ?_ | refine st_held S rfl ?_ | refine w_guard (by (first | exact inK64 (by omega) (by omega) | omega | (constructor <;> omega) | ((try dsimp only [Sh.T, Sh1.T]); first | exact inK64 (by omega) (by omega) | omega | exact ⟨by decide, inK64 (by omega) (by omega)⟩ | trivial))) ?_ | refine bd_n rfl ?_ | refine bd_e rfl ?_ | refine bd_r ?_ | refine bd_p ?_ | refine ln_r ?_ | refine ln_e ?_ | refine w_true (b := true) rfl ?_ | refine w_false (b := false) rfl ?_ | refine w_guard (show noMeths _ _ by show _ = _; kernel_rfl) ?_ | (refine w_callT (c_leafp (kp := none) (S.rd rfl)) ?_; rintro _ _ ⟨rfl, rfl⟩) | (refine w_callT (c_leafp (kp := some _) (S.rd rfl)) ?_; rintro _ _ ⟨rfl, rfl⟩) | (refine w_callT (c_leafp (S.rd rfl)) ?_; rintro _ _ ⟨rfl, rfl⟩) | (refine w_callT (c_leaf (kp := none) (S.rd rfl)) ?_; rintro _ _ ⟨rfl, rfl⟩) | (refine w_callT (c_leaf (kp := some _) (S.rd rfl)) ?_; rintro _ _ ⟨rfl, rfl⟩))
    exact rt_n rfl rfl ⟨_, rfl, (shut_map0 S hg).ats [.ck (K acc), .mp a0]⟩
  · repeat (first | refine st_there (fun _ h => h) S (lt_ble rfl) ?_ | refine th_it S (by first | omega | (dsimp only; omega)) ?_ | refine w_there hok ?_ | refine w_nonnil ?_ | refine ld_it S (by assumption) ?_ | refine ld_it0 S (by assumption) ?_ | refine ld_val S (by assumption) ?_ | refine ld_key S (by assumption) ?_ | refine ld_int S rfl ?_ | refine w_int _ (S.cnt _) ?_ | refine ld_kid S (by assumption) ?_ | refine ld_kid0 S (by assumption) ?_ | refine ld_some S rfl ?_ | refine ld_ptr S _ rfl ?_ | refine ld_sls S rfl ?_ | refine ld_nil S rfl ?_ | refine ld_bool S rfl ?_ | refine st_it S (by first | omega | (dsimp only; omega)) fun _ S => ?_ | refine st_it0 S (by first | omega | (dsimp only; omega)) fun _ S => ?_ | refine st_kid S (by first | omega | (dsimp only; omega)) none rfl fun _ S => ?_ | refine st_kid S (by first | omega | (dsimp only; omega)) (some _) rfl fun _ S => ?_ | refine st_kid0 S (by first | omega | (dsimp only; omega)) (some _) rfl fun _ S => ?_ | refine st_store S (lt_ble rfl) fun _ S => ?_ | refine st_alloc S fun _ _ S => ?_ | refine st_held S rfl ?_ | refine w_guard (by (first | exact inK64 (by omega) (by omega) | omega | (constructor <;> omega) | ((try dsimp only [Sh.T, Sh1.T]); first | exact inK64 (by omega) (by omega) | omega | exact ⟨by decide, inK64 (by omega) (by omega)⟩ | trivial))) ?_ | refine bd_n rfl ?_ | refine bd_e rfl ?_ | refine bd_r ?_ | refine bd_p ?_ | refine ln_r ?_ | refine ln_e ?_ | refine w_true (b := true) rfl ?_ | refine w_false (b := false) rfl ?_ | refine w_guard (show noMeths _ _ by show _ = _; kernel_rfl) ?_ | (refine w_callT (c_leafp (kp := none) (S.rd rfl)) ?_; rintro _ _ ⟨rfl, rfl⟩) | (refine w_callT (c_leafp (kp := some _) (S.rd rfl)) ?_; rintro _ _ ⟨rfl, rfl⟩) | (refine w_callT (c_leafp (S.rd rfl)) ?_; rintro _ _ ⟨rfl, rfl⟩) | (refine w_callT (c_leaf (kp := none) (S.rd rfl)) ?_; rintro _ _ ⟨rfl, rfl⟩) | (refine w_callT (c_leaf (kp := some _) (S.rd rfl)) ?_; rintro _ _ ⟨rfl, rfl⟩))
    obtain ⟨_, hmn, hmb⟩ := hg
    refine st_callB S [.ck (K acc)] (fun G' hG' hb => c_nodeReverse hcb (by omega) n (hb _ (.tail _ (.head _))) (Bes.cell (j := 0) (hb _ (.head _)) rfl) (S.rd rfl) hv hl hG') ?_
    rintro _ _ h3 ⟨rfl, rfl⟩ S
    dsimp only [List.cons_append, List.nil_append] at S
    exact rt_n rfl rfl ⟨_, rfl, (shut_map (S.ats [.ow a0, .tr b]) rfl rfl hs hv hi ⟨rfl, hmn, hmb⟩).ats [.ck (K (run go acc (flatB n t).reverse).1), .mp a0]⟩
theorem c_Reverse {a0 : PA} {iso : Int} {dg N : Nat} {l acc : List KV} {f : Value} {K : List KV → Ck} {go : List KV → KV → Bool} (hcb : Cbk Try.prog f argO K go N) (hl : acc.length + l.length ≤ N) {G : PA → Prop} (hG : Star [K acc, MpC iso dg a0 l] h G) :
    HT Try.prog fn_ms_Reverse [.c (.addr a0), .c (.raw f)] true [] h fun x h' => ∃ post, (post = [K (run go acc l.reverse).1, MpC iso dg a0 l]) ∧ St h G post h' := by
  apply hc_ms_Reverse
  unfold M_ms_Reverse
  refine st_callT (St.start hG) [.ck (K acc), .mp a0] (fun G hG => c_reverse (m := false) hcb hl hG) ?_
  rintro _ _ h2 rfl S
  dsimp only [List.cons_append, List.nil_append] at S
  exact rt_n rfl rfl ⟨_, rfl, S⟩
end
end Go.Proofs.Ytpbmahnieepmiaa.MS
