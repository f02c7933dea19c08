/-
  The tree of interfaces: the items handed on in order, all of them or from a key on. Conditions: none.
-/
import Derived.Test.YtlmiafbcgfegpaaPgR
import Derived.Test.YtlmiafbcgfegpaaZra
import Derived.Test.YtlmiafbcgfegpaaCb
set_option linter.unusedVariables false
set_option linter.unusedSimpArgs false
set_option linter.unusedSectionVars false
set_option maxRecDepth 100000
namespace Go.Proofs.Ytlmiafbcgfegpaa.TB
open Go Go.Proofs.Ytlmiafbcgfegpaa
section
variable {ls : Value} {oc : Ck} {o : List Int} {hp : Option PA} {h : H}
def argO (x : KV) : List AV := [.c (.raw (anyV x))]
set_option maxHeartbeats 1000000 in
theorem c_nodeScan {a0 : PA} {iso : Int} {m : Bool} {mn mx N : Nat} {f : Value} {K : List KV → Ck} {go : List KV → KV → Bool} (hcb : Cbk Try.prog f argO K go N) (hmx : mx ≤ 2147483647) : ∀ (n : Nat) {b : Nat} {t : BT KV n} {a1 : PA} {h : H} {G : PA → Prop} {acc : List KV},
    Bes (TrC L iso n b t) h G → Bes (RdC (a0.1, a0.2) (.int .u64 iso)) h G → rd h a1 = some (kptr b) → Val mn mx n t → acc.length + (flatB n t).length ≤ N → Star [K acc] h G →
    HT Try.prog fn_tb_nodeScan [.c (.addr a0), .c (.addr a1), .c (.raw f), .c (.bool m)] false [.c .bool] h fun r h' =>
      ∃ post, (r = ((run go acc (flatB n t)).2, ()) ∧ post = [K (run go acc (flatB n t)).1]) ∧ St h G post h'
  | 0, b, t, a1, h, G, acc, hT, hA, h1, hv, hlen, hG => by
    apply hc_tb_nodeScan
    unfold M_tb_nodeScan
    have S := St.start hG
    obtain ⟨hi0, p, c, e2, e3, er⟩ := hT.leaf
    refine w_callT (c_isoLoad h1 hi0 hA.rd) ?_
    rintro _ _ ⟨rfl, rfl⟩
    rename_i h
    refine w_callT (c_leafp (kp := none) e3) ?_
    rintro _ _ ⟨rfl, rfl⟩
    rename_i h
    refine w_true rfl ?_
    have hil : (itemsB 0 t).length ≤ mx := hv
    have hfl : flatB 0 t = itemsB 0 t := rfl
    rw [hfl] at hlen ⊢
    refine w_bnd (w_lp (fun r y h' => ∃ (i : Nat) (acc' : List KV), y = ((i : Int), ()) ∧ i + r = (itemsB 0 t).length ∧ run go acc ((itemsB 0 t).take i) = (acc', true) ∧ St h G [K acc'] h') (itemsB 0 t).length rfl
      ⟨0, acc, rfl, by omega, rfl, S⟩ ?_)
    rintro r _ h2 ⟨i, acc', rfl, hi, hr, S⟩
    obtain ⟨hi0, p, c, e2, e3, er⟩ := (hT.all S).leaf
    have hal := run_len go ((itemsB 0 t).take i) acc
    rw [hr, List.length_take] at hal
    dsimp only at hal
    by_cases hlt : i < (itemsB 0 t).length
    · have hxi := List.getElem?_eq_getElem hlt
      have hr1 : run go acc ((itemsB 0 t).take (i + 1)) = (acc' ++ [(itemsB 0 t)[i]], go acc' (itemsB 0 t)[i]) := by rw [List.take_succ_eq_append_getElem hlt, run_on _ (by rw [hr]), hr, run_one]
      simp only [Int.toNat_natCast, toNat_succ, toNat_succ2, toNat_pred]
      refine w_nonnil (w_sl (some p, (itemsB 0 t).length, c) e2 ?_)
      refine w_true (lt_t (by (first | omega | ((try dsimp only [Sh.T, Sh1.T]); omega)))) ?_
      repeat (first | refine ld_nilI S rfl ?_ | refine ld_any S rfl ?_ | refine st_itN S (by first | omega | (dsimp only; omega)) fun _ S => ?_ | refine st_itO S (by first | omega | (dsimp only; omega)) fun _ S => ?_ | refine w_nonnil ?_ | refine ld_it S (by assumption) ?_ | refine ld_it0 S (by assumption) ?_ | refine ld_val S (by assumption) ?_ | refine ld_key S (by assumption) ?_ | refine ld_int S rfl ?_ | refine w_int _ (S.cnt _) ?_ | refine ld_kid S (by assumption) ?_ | refine ld_kid0 S (by assumption) ?_ | refine ld_some S rfl ?_ | refine ld_ptr S _ rfl ?_ | refine ld_sls S rfl ?_ | refine ld_nil S rfl ?_ | refine ld_bool S rfl ?_ | refine st_it S (by first | omega | (dsimp only; omega)) fun _ S => ?_ | refine st_it0 S (by first | omega | (dsimp only; omega)) fun _ S => ?_ | refine st_kid S (by first | omega | (dsimp only; omega)) none rfl fun _ S => ?_ | refine st_kid S (by first | omega | (dsimp only; omega)) (some _) rfl fun _ S => ?_ | refine st_kid0 S (by first | omega | (dsimp only; omega)) (some _) rfl fun _ S => ?_ | refine st_store S (lt_ble rfl) fun _ S => ?_ | refine st_allocK S fun _ _ S hold => ?_ | refine st_held S rfl ?_ | refine w_guard (by (first | exact inK64 (by omega) (by omega) | omega | (constructor <;> omega) | ((try dsimp only [Sh.T, Sh1.T]); first | exact inK64 (by omega) (by omega) | omega | exact ⟨by decide, inK64 (by omega) (by omega)⟩ | trivial))) ?_ | refine bd_n rfl ?_ | refine bd_e rfl ?_ | refine bd_r ?_ | refine bd_p ?_ | refine ln_r ?_ | refine ln_e ?_ | refine w_true (b := true) rfl ?_ | refine w_false (b := false) rfl ?_ | refine w_guard (show noMeths _ _ by show _ = _; kernel_rfl) ?_ | (refine w_callT (c_leafp (kp := none) (S.rd rfl)) ?_; rintro _ _ ⟨rfl, rfl⟩) | (refine w_callT (c_leafp (kp := some _) (S.rd rfl)) ?_; rintro _ _ ⟨rfl, rfl⟩) | (refine w_callT (c_leafp (S.rd rfl)) ?_; rintro _ _ ⟨rfl, rfl⟩) | (refine w_callT (c_leaf (kp := none) (S.rd rfl)) ?_; rintro _ _ ⟨rfl, rfl⟩) | (refine w_callT (c_leaf (kp := some _) (S.rd rfl)) ?_; rintro _ _ ⟨rfl, rfl⟩) | refine w_it (by assumption) (by assumption) ?_ | refine w_it0 (by assumption) (by assumption) ?_ | refine h_it hold (by assumption) (by assumption) ?_ | refine w_itV (by assumption) (by assumption) ?_ | refine w_itK (by assumption) (by assumption) ?_ | refine h_itV hold (by assumption) (by assumption) ?_ | refine h_itK hold (by assumption) (by assumption) ?_ | refine w_held (hold _ _ (by assumption)) ?_ | refine w_sl (some _, _, _) (by assumption) ?_ | refine w_ptr (some _) (by assumption) ?_ | refine w_ptr none (by assumption) ?_ | refine w_int _ (by assumption) ?_ | refine w_held (by assumption) ?_ | (refine w_callT (c_leafp (kp := none) (by assumption)) ?_; rintro _ _ ⟨rfl, rfl⟩) | (refine w_callT (c_leafp (kp := some _) (by assumption)) ?_; rintro _ _ ⟨rfl, rfl⟩) | (refine w_callT (c_leaf (kp := none) (by assumption)) ?_; rintro _ _ ⟨rfl, rfl⟩) | (refine w_callT (c_leaf (kp := some _) (by assumption)) ?_; rintro _ _ ⟨rfl, rfl⟩))
      refine st_cb S hcb (itemsB 0 t)[i] (by omega) rfl fun h3 S => ?_
      cases hgo : go acc' (itemsB 0 t)[i] with
      | true =>
        rw [hgo] at hr1
        repeat (first | refine ld_nilI S rfl ?_ | refine ld_any S rfl ?_ | refine st_itN S (by first | omega | (dsimp only; omega)) fun _ S => ?_ | refine st_itO S (by first | omega | (dsimp only; omega)) fun _ S => ?_ | refine w_nonnil ?_ | refine ld_it S (by assumption) ?_ | refine ld_it0 S (by assumption) ?_ | refine ld_val S (by assumption) ?_ | refine ld_key S (by assumption) ?_ | refine ld_int S rfl ?_ | refine w_int _ (S.cnt _) ?_ | refine ld_kid S (by assumption) ?_ | refine ld_kid0 S (by assumption) ?_ | refine ld_some S rfl ?_ | refine ld_ptr S _ rfl ?_ | refine ld_sls S rfl ?_ | refine ld_nil S rfl ?_ | refine ld_bool S rfl ?_ | refine st_it S (by first | omega | (dsimp only; omega)) fun _ S => ?_ | refine st_it0 S (by first | omega | (dsimp only; omega)) fun _ S => ?_ | refine st_kid S (by first | omega | (dsimp only; omega)) none rfl fun _ S => ?_ | refine st_kid S (by first | omega | (dsimp only; omega)) (some _) rfl fun _ S => ?_ | refine st_kid0 S (by first | omega | (dsimp only; omega)) (some _) rfl fun _ S => ?_ | refine st_store S (lt_ble rfl) fun _ S => ?_ | refine st_allocK S fun _ _ S hold => ?_ | refine st_held S rfl ?_ | refine w_guard (by (first | exact inK64 (by omega) (by omega) | omega | (constructor <;> omega) | ((try dsimp only [Sh.T, Sh1.T]); first | exact inK64 (by omega) (by omega) | omega | exact ⟨by decide, inK64 (by omega) (by omega)⟩ | trivial))) ?_ | refine bd_n rfl ?_ | refine bd_e rfl ?_ | refine bd_r ?_ | refine bd_p ?_ | refine ln_r ?_ | refine ln_e ?_ | refine w_true (b := true) rfl ?_ | refine w_false (b := false) rfl ?_ | refine w_guard (show noMeths _ _ by show _ = _; kernel_rfl) ?_ | (refine w_callT (c_leafp (kp := none) (S.rd rfl)) ?_; rintro _ _ ⟨rfl, rfl⟩) | (refine w_callT (c_leafp (kp := some _) (S.rd rfl)) ?_; rintro _ _ ⟨rfl, rfl⟩) | (refine w_callT (c_leafp (S.rd rfl)) ?_; rintro _ _ ⟨rfl, rfl⟩) | (refine w_callT (c_leaf (kp := none) (S.rd rfl)) ?_; rintro _ _ ⟨rfl, rfl⟩) | (refine w_callT (c_leaf (kp := some _) (S.rd rfl)) ?_; rintro _ _ ⟨rfl, rfl⟩) | refine w_it (by assumption) (by assumption) ?_ | refine w_it0 (by assumption) (by assumption) ?_ | refine h_it hold (by assumption) (by assumption) ?_ | refine w_itV (by assumption) (by assumption) ?_ | refine w_itK (by assumption) (by assumption) ?_ | refine h_itV hold (by assumption) (by assumption) ?_ | refine h_itK hold (by assumption) (by assumption) ?_ | refine w_held (hold _ _ (by assumption)) ?_ | refine w_sl (some _, _, _) (by assumption) ?_ | refine w_ptr (some _) (by assumption) ?_ | refine w_ptr none (by assumption) ?_ | refine w_int _ (by assumption) ?_ | refine w_held (by assumption) ?_ | (refine w_callT (c_leafp (kp := none) (by assumption)) ?_; rintro _ _ ⟨rfl, rfl⟩) | (refine w_callT (c_leafp (kp := some _) (by assumption)) ?_; rintro _ _ ⟨rfl, rfl⟩) | (refine w_callT (c_leaf (kp := none) (by assumption)) ?_; rintro _ _ ⟨rfl, rfl⟩) | (refine w_callT (c_leaf (kp := some _) (by assumption)) ?_; rintro _ _ ⟨rfl, rfl⟩))
        exact ln_n rfl (r - 1) ⟨i + 1, _, rfl, by omega, hr1, S⟩ (by omega)
      | false =>
        rw [hgo] at hr1
        have e : run go acc (itemsB 0 t) = (acc' ++ [(itemsB 0 t)[i]], false) := by
          have := run_stop (go := go) ((itemsB 0 t).drop (i + 1)) (by rw [hr1])
          rw [List.take_append_drop] at this
          rw [this, hr1]
        refine w_true rfl (ln_r (bd_r (rt_1 rfl ⟨_, ⟨by rw [e], rfl⟩, ?_⟩)))
        rw [e]; exact S
    · refine w_nonnil (w_sl (some p, (itemsB 0 t).length, c) e2 ?_)
      rw [List.take_of_length_le (by omega)] at hr
      refine w_false (lt_f (by (first | omega | ((try dsimp only [Sh.T, Sh1.T]); omega)))) (ln_e (bd_e rfl (rt_1 rfl ⟨_, ⟨by rw [hr], rfl⟩, ?_⟩)))
      rw [hr]; exact S
  | n + 1, b, t, a1, h, G, acc, hT, hA, h1, hv, hlen, hG => by
    apply hc_tb_nodeScan
    unfold M_tb_nodeScan
    have S := St.start hG
    obtain ⟨hi0, p, c, q, d, hb, ks, e2, e3, er, e4, ekl, hk⟩ := hT.node
    obtain ⟨is, ts⟩ := t
    have hl2 : ts.length = is.length + 1 := hv.2.1
    have hil : is.length ≤ mx := hv.1
    refine w_callT (c_isoLoad h1 hi0 hA.rd) ?_
    rintro _ _ ⟨rfl, rfl⟩
    rename_i h
    refine w_callT (c_leafp (kp := some _) e3) ?_
    rintro _ _ ⟨rfl, rfl⟩
    rename_i h
    refine w_false rfl ?_
    refine w_bnd (w_lp (fun r y h' => ∃ (i : Nat) (acc' : List KV), y = ((i : Int), ()) ∧ i + r = is.length ∧ run go acc (ahead is ts i) = (acc', true) ∧ St h G [K acc'] h') is.length rfl
      ⟨0, acc, rfl, by omega, by rw [ah_zero]; rfl, S⟩ ?_)
    rintro r _ h2 ⟨i, acc', rfl, hi, hr, S⟩
    obtain ⟨u, hu⟩ : ∃ u, ts[i]? = some u := ⟨_, List.getElem?_eq_getElem (by omega)⟩
    have hmem : u ∈ ts := List.mem_of_getElem? hu
    have hal := ah_len hl2 hu
    have har := run_len go (ahead is ts i) acc
    rw [hr] at har
    dsimp only at har
    obtain ⟨hi0, p, c, q, d, hb, ks, e2, e3, er, e4, ekl, hk⟩ := (hT.all S).node
    dsimp only at e2 er ekl hk
    obtain ⟨kid, k2, k3⟩ := hk i u hu
    by_cases hlt : i < is.length
    · have hxi := List.getElem?_eq_getElem hlt
      have hsuc := ah_succ hl2 hxi hu
      obtain ⟨B, hB⟩ := ah_at hl2 hu
      obtain ⟨B2, hB2⟩ := ah_at2 hl2 hu hxi
      have hru : run go acc (ahead is ts i ++ flatB n u) = run go acc' (flatB n u) := by rw [run_on _ (by rw [hr]), hr]
      have hlu := run_len go (flatB n u) acc'
      simp only [Int.toNat_natCast, toNat_succ, toNat_succ2, toNat_pred]
      refine w_nonnil (w_sl (some p, is.length, c) e2 ?_)
      refine w_true (lt_t (by (first | omega | ((try dsimp only [Sh.T, Sh1.T]); omega)))) ?_
      repeat (first | refine ld_nilI S rfl ?_ | refine ld_any S rfl ?_ | refine st_itN S (by first | omega | (dsimp only; omega)) fun _ S => ?_ | refine st_itO S (by first | omega | (dsimp only; omega)) fun _ S => ?_ | refine w_nonnil ?_ | refine ld_it S (by assumption) ?_ | refine ld_it0 S (by assumption) ?_ | refine ld_val S (by assumption) ?_ | refine ld_key S (by assumption) ?_ | refine ld_int S rfl ?_ | refine w_int _ (S.cnt _) ?_ | refine ld_kid S (by assumption) ?_ | refine ld_kid0 S (by assumption) ?_ | refine ld_some S rfl ?_ | refine ld_ptr S _ rfl ?_ | refine ld_sls S rfl ?_ | refine ld_nil S rfl ?_ | refine ld_bool S rfl ?_ | refine st_it S (by first | omega | (dsimp only; omega)) fun _ S => ?_ | refine st_it0 S (by first | omega | (dsimp only; omega)) fun _ S => ?_ | refine st_kid S (by first | omega | (dsimp only; omega)) none rfl fun _ S => ?_ | refine st_kid S (by first | omega | (dsimp only; omega)) (some _) rfl fun _ S => ?_ | refine st_kid0 S (by first | omega | (dsimp only; omega)) (some _) rfl fun _ S => ?_ | refine st_store S (lt_ble rfl) fun _ S => ?_ | refine st_allocK S fun _ _ S hold => ?_ | refine st_held S rfl ?_ | refine w_guard (by (first | exact inK64 (by omega) (by omega) | omega | (constructor <;> omega) | ((try dsimp only [Sh.T, Sh1.T]); first | exact inK64 (by omega) (by omega) | omega | exact ⟨by decide, inK64 (by omega) (by omega)⟩ | trivial))) ?_ | refine bd_n rfl ?_ | refine bd_e rfl ?_ | refine bd_r ?_ | refine bd_p ?_ | refine ln_r ?_ | refine ln_e ?_ | refine w_true (b := true) rfl ?_ | refine w_false (b := false) rfl ?_ | refine w_guard (show noMeths _ _ by show _ = _; kernel_rfl) ?_ | (refine w_callT (c_leafp (kp := none) (S.rd rfl)) ?_; rintro _ _ ⟨rfl, rfl⟩) | (refine w_callT (c_leafp (kp := some _) (S.rd rfl)) ?_; rintro _ _ ⟨rfl, rfl⟩) | (refine w_callT (c_leafp (S.rd rfl)) ?_; rintro _ _ ⟨rfl, rfl⟩) | (refine w_callT (c_leaf (kp := none) (S.rd rfl)) ?_; rintro _ _ ⟨rfl, rfl⟩) | (refine w_callT (c_leaf (kp := some _) (S.rd rfl)) ?_; rintro _ _ ⟨rfl, rfl⟩) | refine w_it (by assumption) (by assumption) ?_ | refine w_it0 (by assumption) (by assumption) ?_ | refine h_it hold (by assumption) (by assumption) ?_ | refine w_itV (by assumption) (by assumption) ?_ | refine w_itK (by assumption) (by assumption) ?_ | refine h_itV hold (by assumption) (by assumption) ?_ | refine h_itK hold (by assumption) (by assumption) ?_ | refine w_held (hold _ _ (by assumption)) ?_ | refine w_sl (some _, _, _) (by assumption) ?_ | refine w_ptr (some _) (by assumption) ?_ | refine w_ptr none (by assumption) ?_ | refine w_int _ (by assumption) ?_ | refine w_held (by assumption) ?_ | (refine w_callT (c_leafp (kp := none) (by assumption)) ?_; rintro _ _ ⟨rfl, rfl⟩) | (refine w_callT (c_leafp (kp := some _) (by assumption)) ?_; rintro _ _ ⟨rfl, rfl⟩) | (refine w_callT (c_leaf (kp := none) (by assumption)) ?_; rintro _ _ ⟨rfl, rfl⟩) | (refine w_callT (c_leaf (kp := some _) (by assumption)) ?_; rintro _ _ ⟨rfl, rfl⟩))
      refine st_callF S [.ck (K acc')] (fun G' hG' hsub => c_nodeScan hcb hmx n (k3.sub hsub) ((hA.all S).sub hsub) k2 (hv.2.2 u hmem).1 (by omega) hG') ?_
      rintro _ _ h3 ⟨rfl, rfl⟩ S
      dsimp only [List.cons_append, List.nil_append] at S
      cases hg2 : (run go acc' (flatB n u)).2 with
      | false =>
        have e : run go acc (flatB (n + 1) ((is, ts) : BT KV (n + 1))) = run go acc' (flatB n u) := by
          rw [hB, ← List.append_assoc, run_stop _ (by rw [hru, hg2]), hru]
        refine w_true rfl (ln_r (bd_r (rt_1 rfl ⟨_, ⟨by rw [e, hg2], rfl⟩, ?_⟩)))
        rw [e]; exact S
      | true =>
        generalize hacc : (run go acc' (flatB n u)).1 = acc2 at *
        have hru2 : run go acc (ahead is ts i ++ flatB n u) = (acc2, true) := by rw [hru, ← hg2, ← hacc]
        have hr1 : run go acc (ahead is ts (i + 1)) = (acc2 ++ [is[i]], go acc2 is[i]) := by rw [hsuc, ← List.append_assoc, run_on _ (by rw [hru2]), hru2, run_one]
        obtain ⟨hi0, p, c, q, d, hb, ks, e2, e3, er, e4, ekl, hk⟩ := (hT.all S).node
        dsimp only at e2 er ekl hk
        repeat (first | refine ld_nilI S rfl ?_ | refine ld_any S rfl ?_ | refine st_itN S (by first | omega | (dsimp only; omega)) fun _ S => ?_ | refine st_itO S (by first | omega | (dsimp only; omega)) fun _ S => ?_ | refine w_nonnil ?_ | refine ld_it S (by assumption) ?_ | refine ld_it0 S (by assumption) ?_ | refine ld_val S (by assumption) ?_ | refine ld_key S (by assumption) ?_ | refine ld_int S rfl ?_ | refine w_int _ (S.cnt _) ?_ | refine ld_kid S (by assumption) ?_ | refine ld_kid0 S (by assumption) ?_ | refine ld_some S rfl ?_ | refine ld_ptr S _ rfl ?_ | refine ld_sls S rfl ?_ | refine ld_nil S rfl ?_ | refine ld_bool S rfl ?_ | refine st_it S (by first | omega | (dsimp only; omega)) fun _ S => ?_ | refine st_it0 S (by first | omega | (dsimp only; omega)) fun _ S => ?_ | refine st_kid S (by first | omega | (dsimp only; omega)) none rfl fun _ S => ?_ | refine st_kid S (by first | omega | (dsimp only; omega)) (some _) rfl fun _ S => ?_ | refine st_kid0 S (by first | omega | (dsimp only; omega)) (some _) rfl fun _ S => ?_ | refine st_store S (lt_ble rfl) fun _ S => ?_ | refine st_allocK S fun _ _ S hold => ?_ | refine st_held S rfl ?_ | refine w_guard (by (first | exact inK64 (by omega) (by omega) | omega | (constructor <;> omega) | ((try dsimp only [Sh.T, Sh1.T]); first | exact inK64 (by omega) (by omega) | omega | exact ⟨by decide, inK64 (by omega) (by omega)⟩ | trivial))) ?_ | refine bd_n rfl ?_ | refine bd_e rfl ?_ | refine bd_r ?_ | refine bd_p ?_ | refine ln_r ?_ | refine ln_e ?_ | refine w_true (b := true) rfl ?_ | refine w_false (b := false) rfl ?_ | refine w_guard (show noMeths _ _ by show _ = _; kernel_rfl) ?_ | (refine w_callT (c_leafp (kp := none) (S.rd rfl)) ?_; rintro _ _ ⟨rfl, rfl⟩) | (refine w_callT (c_leafp (kp := some _) (S.rd rfl)) ?_; rintro _ _ ⟨rfl, rfl⟩) | (refine w_callT (c_leafp (S.rd rfl)) ?_; rintro _ _ ⟨rfl, rfl⟩) | (refine w_callT (c_leaf (kp := none) (S.rd rfl)) ?_; rintro _ _ ⟨rfl, rfl⟩) | (refine w_callT (c_leaf (kp := some _) (S.rd rfl)) ?_; rintro _ _ ⟨rfl, rfl⟩) | refine w_it (by assumption) (by assumption) ?_ | refine w_it0 (by assumption) (by assumption) ?_ | refine h_it hold (by assumption) (by assumption) ?_ | refine w_itV (by assumption) (by assumption) ?_ | refine w_itK (by assumption) (by assumption) ?_ | refine h_itV hold (by assumption) (by assumption) ?_ | refine h_itK hold (by assumption) (by assumption) ?_ | refine w_held (hold _ _ (by assumption)) ?_ | refine w_sl (some _, _, _) (by assumption) ?_ | refine w_ptr (some _) (by assumption) ?_ | refine w_ptr none (by assumption) ?_ | refine w_int _ (by assumption) ?_ | refine w_held (by assumption) ?_ | (refine w_callT (c_leafp (kp := none) (by assumption)) ?_; rintro _ _ ⟨rfl, rfl⟩) | (refine w_callT (c_leafp (kp := some _) (by assumption)) ?_; rintro _ _ ⟨rfl, rfl⟩) | (refine w_callT (c_leaf (kp := none) (by assumption)) ?_; rintro _ _ ⟨rfl, rfl⟩) | (refine w_callT (c_leaf (kp := some _) (by assumption)) ?_; rintro _ _ ⟨rfl, rfl⟩))
        refine st_cb S hcb is[i] (by omega) rfl fun h4 S => ?_
        cases hgo : go acc2 is[i] with
        | true =>
          rw [hgo] at hr1
          repeat (first | refine ld_nilI S rfl ?_ | refine ld_any S rfl ?_ | refine st_itN S (by first | omega | (dsimp only; omega)) fun _ S => ?_ | refine st_itO S (by first | omega | (dsimp only; omega)) fun _ S => ?_ | refine w_nonnil ?_ | refine ld_it S (by assumption) ?_ | refine ld_it0 S (by assumption) ?_ | refine ld_val S (by assumption) ?_ | refine ld_key S (by assumption) ?_ | refine ld_int S rfl ?_ | refine w_int _ (S.cnt _) ?_ | refine ld_kid S (by assumption) ?_ | refine ld_kid0 S (by assumption) ?_ | refine ld_some S rfl ?_ | refine ld_ptr S _ rfl ?_ | refine ld_sls S rfl ?_ | refine ld_nil S rfl ?_ | refine ld_bool S rfl ?_ | refine st_it S (by first | omega | (dsimp only; omega)) fun _ S => ?_ | refine st_it0 S (by first | omega | (dsimp only; omega)) fun _ S => ?_ | refine st_kid S (by first | omega | (dsimp only; omega)) none rfl fun _ S => ?_ | refine st_kid S (by first | omega | (dsimp only; omega)) (some _) rfl fun _ S => ?_ | refine st_kid0 S (by first | omega | (dsimp only; omega)) (some _) rfl fun _ S => ?_ | refine st_store S (lt_ble rfl) fun _ S => ?_ | refine st_allocK S fun _ _ S hold => ?_ | refine st_held S rfl ?_ | refine w_guard (by (first | exact inK64 (by omega) (by omega) | omega | (constructor <;> omega) | ((try dsimp only [Sh.T, Sh1.T]); first | exact inK64 (by omega) (by omega) | omega | exact ⟨by decide, inK64 (by omega) (by omega)⟩ | trivial))) ?_ | refine bd_n rfl ?_ | refine bd_e rfl ?_ | refine bd_r ?_ | refine bd_p ?_ | refine ln_r ?_ | refine ln_e ?_ | refine w_true (b := true) rfl ?_ | refine w_false (b := false) rfl ?_ | refine w_guard (show noMeths _ _ by show _ = _; kernel_rfl) ?_ | (refine w_callT (c_leafp (kp := none) (S.rd rfl)) ?_; rintro _ _ ⟨rfl, rfl⟩) | (refine w_callT (c_leafp (kp := some _) (S.rd rfl)) ?_; rintro _ _ ⟨rfl, rfl⟩) | (refine w_callT (c_leafp (S.rd rfl)) ?_; rintro _ _ ⟨rfl, rfl⟩) | (refine w_callT (c_leaf (kp := none) (S.rd rfl)) ?_; rintro _ _ ⟨rfl, rfl⟩) | (refine w_callT (c_leaf (kp := some _) (S.rd rfl)) ?_; rintro _ _ ⟨rfl, rfl⟩) | refine w_it (by assumption) (by assumption) ?_ | refine w_it0 (by assumption) (by assumption) ?_ | refine h_it hold (by assumption) (by assumption) ?_ | refine w_itV (by assumption) (by assumption) ?_ | refine w_itK (by assumption) (by assumption) ?_ | refine h_itV hold (by assumption) (by assumption) ?_ | refine h_itK hold (by assumption) (by assumption) ?_ | refine w_held (hold _ _ (by assumption)) ?_ | refine w_sl (some _, _, _) (by assumption) ?_ | refine w_ptr (some _) (by assumption) ?_ | refine w_ptr none (by assumption) ?_ | refine w_int _ (by assumption) ?_ | refine w_held (by assumption) ?_ | (refine w_callT (c_leafp (kp := none) (by assumption)) ?_; rintro _ _ ⟨rfl, rfl⟩) | (refine w_callT (c_leafp (kp := some _) (by assumption)) ?_; rintro _ _ ⟨rfl, rfl⟩) | (refine w_callT (c_leaf (kp := none) (by assumption)) ?_; rintro _ _ ⟨rfl, rfl⟩) | (refine w_callT (c_leaf (kp := some _) (by assumption)) ?_; rintro _ _ ⟨rfl, rfl⟩))
          exact ln_n rfl (r - 1) ⟨i + 1, _, rfl, by omega, hr1, S⟩ (by omega)
        | false =>
          rw [hgo] at hr1
          have e : run go acc (flatB (n + 1) ((is, ts) : BT KV (n + 1))) = (acc2 ++ [is[i]], false) := by
            rw [hB2, ← hsuc, run_stop _ (by rw [hr1]), hr1]
          refine w_true rfl (ln_r (bd_r (rt_1 rfl ⟨_, ⟨by rw [e], rfl⟩, ?_⟩)))
          rw [e]; exact S
    · have hie : i = is.length := by omega
      subst hie
      simp only [Int.toNat_natCast, toNat_succ, toNat_succ2, toNat_pred]
      refine w_nonnil (w_sl (some p, is.length, c) e2 ?_)
      refine w_false (lt_f (by (first | omega | ((try dsimp only [Sh.T, Sh1.T]); omega)))) (ln_e (bd_e rfl ?_))
      have hkq : rd h2 (q.1, q.2 + (ks - 1)) = some (kptr kid) := by rw [show ks - 1 = is.length by omega]; exact k2
      repeat (first | refine ld_nilI S rfl ?_ | refine ld_any S rfl ?_ | refine st_itN S (by first | omega | (dsimp only; omega)) fun _ S => ?_ | refine st_itO S (by first | omega | (dsimp only; omega)) fun _ S => ?_ | refine w_nonnil ?_ | refine ld_it S (by assumption) ?_ | refine ld_it0 S (by assumption) ?_ | refine ld_val S (by assumption) ?_ | refine ld_key S (by assumption) ?_ | refine ld_int S rfl ?_ | refine w_int _ (S.cnt _) ?_ | refine ld_kid S (by assumption) ?_ | refine ld_kid0 S (by assumption) ?_ | refine ld_some S rfl ?_ | refine ld_ptr S _ rfl ?_ | refine ld_sls S rfl ?_ | refine ld_nil S rfl ?_ | refine ld_bool S rfl ?_ | refine st_it S (by first | omega | (dsimp only; omega)) fun _ S => ?_ | refine st_it0 S (by first | omega | (dsimp only; omega)) fun _ S => ?_ | refine st_kid S (by first | omega | (dsimp only; omega)) none rfl fun _ S => ?_ | refine st_kid S (by first | omega | (dsimp only; omega)) (some _) rfl fun _ S => ?_ | refine st_kid0 S (by first | omega | (dsimp only; omega)) (some _) rfl fun _ S => ?_ | refine st_store S (lt_ble rfl) fun _ S => ?_ | refine st_allocK S fun _ _ S hold => ?_ | refine st_held S rfl ?_ | refine w_guard (by (first | exact inK64 (by omega) (by omega) | omega | (constructor <;> omega) | ((try dsimp only [Sh.T, Sh1.T]); first | exact inK64 (by omega) (by omega) | omega | exact ⟨by decide, inK64 (by omega) (by omega)⟩ | trivial))) ?_ | refine bd_n rfl ?_ | refine bd_e rfl ?_ | refine bd_r ?_ | refine bd_p ?_ | refine ln_r ?_ | refine ln_e ?_ | refine w_true (b := true) rfl ?_ | refine w_false (b := false) rfl ?_ | refine w_guard (show noMeths _ _ by show _ = _; kernel_rfl) ?_ | (refine w_callT (c_leafp (kp := none) (S.rd rfl)) ?_; rintro _ _ ⟨rfl, rfl⟩) | (refine w_callT (c_leafp (kp := some _) (S.rd rfl)) ?_; rintro _ _ ⟨rfl, rfl⟩) | (refine w_callT (c_leafp (S.rd rfl)) ?_; rintro _ _ ⟨rfl, rfl⟩) | (refine w_callT (c_leaf (kp := none) (S.rd rfl)) ?_; rintro _ _ ⟨rfl, rfl⟩) | (refine w_callT (c_leaf (kp := some _) (S.rd rfl)) ?_; rintro _ _ ⟨rfl, rfl⟩) | refine w_it (by assumption) (by assumption) ?_ | refine w_it0 (by assumption) (by assumption) ?_ | refine h_it hold (by assumption) (by assumption) ?_ | refine w_itV (by assumption) (by assumption) ?_ | refine w_itK (by assumption) (by assumption) ?_ | refine h_itV hold (by assumption) (by assumption) ?_ | refine h_itK hold (by assumption) (by assumption) ?_ | refine w_held (hold _ _ (by assumption)) ?_ | refine w_sl (some _, _, _) (by assumption) ?_ | refine w_ptr (some _) (by assumption) ?_ | refine w_ptr none (by assumption) ?_ | refine w_int _ (by assumption) ?_ | refine w_held (by assumption) ?_ | (refine w_callT (c_leafp (kp := none) (by assumption)) ?_; rintro _ _ ⟨rfl, rfl⟩) | (refine w_callT (c_leafp (kp := some _) (by assumption)) ?_; rintro _ _ ⟨rfl, rfl⟩) | (refine w_callT (c_leaf (kp := none) (by assumption)) ?_; rintro _ _ ⟨rfl, rfl⟩) | (refine w_callT (c_leaf (kp := some _) (by assumption)) ?_; rintro _ _ ⟨rfl, rfl⟩))
      refine st_callF S [.ck (K acc')] (fun G' hG' hsub => c_nodeScan hcb hmx n (k3.sub hsub) ((hA.all S).sub hsub) hkq (hv.2.2 u hmem).1 (by omega) hG') ?_
      rintro _ _ h3 ⟨rfl, rfl⟩ S
      dsimp only [List.cons_append, List.nil_append] at S
      have e : run go acc (flatB (n + 1) ((is, ts) : BT KV (n + 1))) = run go acc' (flatB n u) := by rw [ah_last hl2 hu, run_on _ (by rw [hr]), hr]
      refine rt_1 rfl ⟨_, ⟨by rw [e], rfl⟩, ?_⟩
      rw [e]; exact S
theorem c_scan {a0 : PA} {iso : Int} {dg N : Nat} {l acc : List KV} {m : Bool} {f : Value} {K : List KV → Ck} {go : List KV → KV → Bool} (hcb : Cbk Try.prog f argO K go N) (hl : acc.length + l.length ≤ N) {G : PA → Prop} (hG : Star [K acc, MpC ls o iso dg a0 l] h G) :
    HT Try.prog fn_tb_scan [.c (.addr a0), .c (.raw f), .c (.bool m)] true [] h fun x h' => ∃ post, (post = [K (run go acc l).1, MpC ls o iso dg a0 l]) ∧ St h G post h' := by
  apply hc_tb_scan
  unfold M_tb_scan
  (refine w_callT c_lock ?_; rintro _ hk ⟨rfl, rfl⟩; refine w_bnd (w_false rfl (bd_n rfl ?_)))
  have S := (St.start hG).pull1
  rcases open_map S with ⟨ctr, mn, mx, rfl, hg, S⟩ | ⟨ctr, n, b, t, rfl, hs, hv, hi, hg, S⟩
  · repeat (first | refine ld_nilI S rfl ?_ | refine ld_any S rfl ?_ | refine st_itN S (by first | omega | (dsimp only; omega)) fun _ S => ?_ | refine st_itO S (by first | omega | (dsimp only; omega)) fun _ S => ?_ | refine w_nonnil ?_ | refine ld_it S (by assumption) ?_ | refine ld_it0 S (by assumption) ?_ | refine ld_val S (by assumption) ?_ | refine ld_key S (by assumption) ?_ | refine ld_int S rfl ?_ | refine w_int _ (S.cnt _) ?_ | refine ld_kid S (by assumption) ?_ | refine ld_kid0 S (by assumption) ?_ | refine ld_some S rfl ?_ | refine ld_ptr S _ rfl ?_ | refine ld_sls S rfl ?_ | refine ld_nil S rfl ?_ | refine ld_bool S rfl ?_ | refine st_it S (by first | omega | (dsimp only; omega)) fun _ S => ?_ | refine st_it0 S (by first | omega | (dsimp only; omega)) fun _ S => ?_ | refine st_kid S (by first | omega | (dsimp only; omega)) none rfl fun _ S => ?_ | refine st_kid S (by first | omega | (dsimp only; omega)) (some _) rfl fun _ S => ?_ | refine st_kid0 S (by first | omega | (dsimp only; omega)) (some _) rfl fun _ S => ?_ | refine st_store S (lt_ble rfl) fun _ S => ?_ | refine st_alloc S fun _ _ S => ?_ | refine st_held S rfl ?_ | refine w_guard (by (first | exact inK64 (by omega) (by omega) | omega | (constructor <;> omega) | ((try dsimp only [Sh.T, Sh1.T]); first | exact inK64 (by omega) (by omega) | omega | exact ⟨by decide, inK64 (by omega) (by omega)⟩ | trivial))) ?_ | refine bd_n rfl ?_ | refine bd_e rfl ?_ | refine bd_r ?_ | refine bd_p ?_ | refine ln_r ?_ | refine ln_e ?_ | refine w_true (b := true) rfl ?_ | refine w_false (b := false) rfl ?_ | refine w_guard (show noMeths _ _ by show _ = _; kernel_rfl) ?_ | (refine w_callT (c_leafp (kp := none) (S.rd rfl)) ?_; rintro _ _ ⟨rfl, rfl⟩) | (refine w_callT (c_leafp (kp := some _) (S.rd rfl)) ?_; rintro _ _ ⟨rfl, rfl⟩) | (refine w_callT (c_leafp (S.rd rfl)) ?_; rintro _ _ ⟨rfl, rfl⟩) | (refine w_callT (c_leaf (kp := none) (S.rd rfl)) ?_; rintro _ _ ⟨rfl, rfl⟩) | (refine w_callT (c_leaf (kp := some _) (S.rd rfl)) ?_; rintro _ _ ⟨rfl, rfl⟩))
    exact rt_n rfl rfl ⟨_, rfl, (shut_map0 S hg).ats [.ck (K acc), .mp a0]⟩
  · repeat (first | refine ld_nilI S rfl ?_ | refine ld_any S rfl ?_ | refine st_itN S (by first | omega | (dsimp only; omega)) fun _ S => ?_ | refine st_itO S (by first | omega | (dsimp only; omega)) fun _ S => ?_ | refine w_nonnil ?_ | refine ld_it S (by assumption) ?_ | refine ld_it0 S (by assumption) ?_ | refine ld_val S (by assumption) ?_ | refine ld_key S (by assumption) ?_ | refine ld_int S rfl ?_ | refine w_int _ (S.cnt _) ?_ | refine ld_kid S (by assumption) ?_ | refine ld_kid0 S (by assumption) ?_ | refine ld_some S rfl ?_ | refine ld_ptr S _ rfl ?_ | refine ld_sls S rfl ?_ | refine ld_nil S rfl ?_ | refine ld_bool S rfl ?_ | refine st_it S (by first | omega | (dsimp only; omega)) fun _ S => ?_ | refine st_it0 S (by first | omega | (dsimp only; omega)) fun _ S => ?_ | refine st_kid S (by first | omega | (dsimp only; omega)) none rfl fun _ S => ?_ | refine st_kid S (by first | omega | (dsimp only; omega)) (some _) rfl fun _ S => ?_ | refine st_kid0 S (by first | omega | (dsimp only; omega)) (some _) rfl fun _ S => ?_ | refine st_store S (lt_ble rfl) fun _ S => ?_ | refine st_alloc S fun _ _ S => ?_ | refine st_held S rfl ?_ | refine w_guard (by (first | exact inK64 (by omega) (by omega) | omega | (constructor <;> omega) | ((try dsimp only [Sh.T, Sh1.T]); first | exact inK64 (by omega) (by omega) | omega | exact ⟨by decide, inK64 (by omega) (by omega)⟩ | trivial))) ?_ | refine bd_n rfl ?_ | refine bd_e rfl ?_ | refine bd_r ?_ | refine bd_p ?_ | refine ln_r ?_ | refine ln_e ?_ | refine w_true (b := true) rfl ?_ | refine w_false (b := false) rfl ?_ | refine w_guard (show noMeths _ _ by show _ = _; kernel_rfl) ?_ | (refine w_callT (c_leafp (kp := none) (S.rd rfl)) ?_; rintro _ _ ⟨rfl, rfl⟩) | (refine w_callT (c_leafp (kp := some _) (S.rd rfl)) ?_; rintro _ _ ⟨rfl, rfl⟩) | (refine w_callT (c_leafp (S.rd rfl)) ?_; rintro _ _ ⟨rfl, rfl⟩) | (refine w_callT (c_leaf (kp := none) (S.rd rfl)) ?_; rintro _ _ ⟨rfl, rfl⟩) | (refine w_callT (c_leaf (kp := some _) (S.rd rfl)) ?_; rintro _ _ ⟨rfl, rfl⟩))
    obtain ⟨_, hmn, hmb⟩ := hg
    refine st_callB S [.ck (K acc)] (fun G' hG' hb => c_nodeScan hcb (by omega) n (hb _ (.tail _ (.head _))) (Bes.cell (j := 0) (hb _ (.head _)) rfl) (S.rd rfl) hv hl hG') ?_
    rintro _ _ h3 ⟨rfl, rfl⟩ S
    dsimp only [List.cons_append, List.nil_append] at S
    exact rt_n rfl rfl ⟨_, rfl, (shut_map (S.ats [.ow a0, .tr b]) rfl rfl hs hv hi ⟨rfl, hmn, hmb⟩).ats [.ck (K (run go acc (flatB n t)).1), .mp a0]⟩
theorem c_Scan {a0 : PA} {iso : Int} {dg N : Nat} {l acc : List KV} {f : Value} {K : List KV → Ck} {go : List KV → KV → Bool} (hcb : Cbk Try.prog f argO K go N) (hl : acc.length + l.length ≤ N) {G : PA → Prop} (hG : Star [K acc, MpC ls o iso dg a0 l] h G) :
    HT Try.prog fn_tb_Scan [.c (.addr a0), .c (.raw f)] true [] h fun x h' => ∃ post, (post = [K (run go acc l).1, MpC ls o iso dg a0 l]) ∧ St h G post h' := by
  apply hc_tb_Scan
  unfold M_tb_Scan
  refine st_callT (St.start hG) [.ck (K acc), .mp a0] (fun G hG => c_scan (m := false) hcb hl hG) ?_
  rintro _ _ h2 rfl S
  dsimp only [List.cons_append, List.nil_append] at S
  exact rt_n rfl rfl ⟨_, rfl, S⟩
end
end Go.Proofs.Ytlmiafbcgfegpaa.TB
