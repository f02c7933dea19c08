/-
  The tree of interfaces: the item at an index. Conditions: none.
-/
import Derived.Test.YtlhbdmjeomffhaaPgR
import Derived.Test.YtlhbdmjeomffhaaZra
import Derived.Test.YtlhbdmjeomffhaaYc
import Derived.Test.YtlhbdmjeomffhaaSp
set_option linter.unusedVariables false
set_option linter.unusedSimpArgs false
set_option linter.unusedSectionVars false
set_option maxRecDepth 100000
namespace Go.Proofs.Ytlhbdmjeomffhaa.TB
open Go Go.Proofs.Ytlhbdmjeomffhaa
section
variable {ls : Value} {oc : Ck} {o : List Int} {hp : Option PA} {h h0 : H} {G0 : PA → Prop} {r : List Ck}
set_option maxHeartbeats 2000000 in
theorem c_getAt {a0 : PA} {iso : Int} {dg : Nat} {i : Int} {l : List KV} {m : Bool} (hl : l.length ≤ 4294967295) {G : PA → Prop} (hG : Star [MpC ls o iso dg a0 l] h G) :
    HT Try.prog fn_tb_getAt [.c (.addr a0), .c (.int .i64 i), .c (.bool m)] true [.c .raw, .c .bool] h fun r h' => ∃ post, (r = itR (atO l i) ∧ post = [MpC ls o iso dg a0 l]) ∧ St h G post h' := by
  apply hc_tb_getAt
  unfold M_tb_getAt
  have S := St.start hG
  (refine w_callT c_lock ?_; rintro _ hk ⟨rfl, rfl⟩; refine w_bnd (w_false rfl (bd_n rfl ?_)))
  rcases open_map (S.at (.mp a0)) with ⟨ctr, mn, mx, rfl, hg, S⟩ | ⟨ctr, n, b, t, rfl, hs, hv, hi, hg, S⟩
  · refine w_bnd (ld_nil S rfl (w_true rfl (bd_n rfl (w_true rfl ?_))))
    repeat (first | refine ld_nilI S rfl ?_ | refine ld_any S rfl ?_ | refine st_itN S (by first | omega | (dsimp only; omega)) fun _ S => ?_ | refine st_itO S (by first | omega | (dsimp only; omega)) fun _ S => ?_ | refine w_nonnil ?_ | refine ld_it S (by assumption) ?_ | refine ld_it0 S (by assumption) ?_ | refine ld_val S (by assumption) ?_ | refine ld_key S (by assumption) ?_ | refine ld_int S rfl ?_ | refine w_int _ (S.cnt _) ?_ | refine ld_kid S (by assumption) ?_ | refine ld_kid0 S (by assumption) ?_ | refine ld_some S rfl ?_ | refine ld_ptr S _ rfl ?_ | refine ld_sls S rfl ?_ | refine ld_nil S rfl ?_ | refine ld_bool S rfl ?_ | refine st_it S (by first | omega | (dsimp only; omega)) fun _ S => ?_ | refine st_it0 S (by first | omega | (dsimp only; omega)) fun _ S => ?_ | refine st_kid S (by first | omega | (dsimp only; omega)) none rfl fun _ S => ?_ | refine st_kid S (by first | omega | (dsimp only; omega)) (some _) rfl fun _ S => ?_ | refine st_kid0 S (by first | omega | (dsimp only; omega)) (some _) rfl fun _ S => ?_ | refine st_store S (lt_ble rfl) fun _ S => ?_ | refine st_alloc S fun _ _ S => ?_ | refine st_held S rfl ?_ | refine w_guard (by (first | exact inK64 (by omega) (by omega) | omega | (constructor <;> omega) | ((try dsimp only [Sh.T, Sh1.T]); first | exact inK64 (by omega) (by omega) | omega | exact ⟨by decide, inK64 (by omega) (by omega)⟩ | trivial))) ?_ | refine bd_n rfl ?_ | refine bd_e rfl ?_ | refine bd_r ?_ | refine bd_p ?_ | refine ln_r ?_ | refine ln_e ?_ | refine w_true (b := true) rfl ?_ | refine w_false (b := false) rfl ?_ | (refine w_callT (c_leafp (kp := none) (S.rd rfl)) ?_; rintro _ _ ⟨rfl, rfl⟩) | (refine w_callT (c_leafp (kp := some _) (S.rd rfl)) ?_; rintro _ _ ⟨rfl, rfl⟩) | (refine w_callT (c_leafp (S.rd rfl)) ?_; rintro _ _ ⟨rfl, rfl⟩) | (refine w_callT (c_leaf (kp := none) (S.rd rfl)) ?_; rintro _ _ ⟨rfl, rfl⟩) | (refine w_callT (c_leaf (kp := some _) (S.rd rfl)) ?_; rintro _ _ ⟨rfl, rfl⟩))
    have e : atO ([] : List KV) i = none := by unfold atO; split <;> simp
    exact rt_n rfl rfl ⟨_, ⟨by rw [e]; rfl, rfl⟩, (shut_map0 (S.at (.ow a0)) hg).only [.mp a0]⟩
  · refine w_mid' none (fun (y : SV [.c .bool]) h' => y = (decide (i < 0) || decide (i ≥ (flatB n t).length), ()) ∧ h' = hk) ?_ ?_
    · refine ld_some S rfl (w_false rfl ?_)
      by_cases h0 : i < 0
      · exact w_true (decide_eq_true h0) (md_n rfl ⟨by rw [decide_eq_true h0]; rfl, rfl⟩)
      · exact w_false (decide_eq_false h0) (ld_int S rfl (md_n rfl ⟨by rw [decide_eq_false h0]; rfl, rfl⟩))
    rintro _ hk ⟨rfl, rfl⟩
    by_cases hout : i < 0 ∨ i ≥ (flatB n t).length
    · refine w_true (by simpa using hout) ?_
      repeat (first | refine ld_nilI S rfl ?_ | refine ld_any S rfl ?_ | refine st_itN S (by first | omega | (dsimp only; omega)) fun _ S => ?_ | refine st_itO S (by first | omega | (dsimp only; omega)) fun _ S => ?_ | refine w_nonnil ?_ | refine ld_it S (by assumption) ?_ | refine ld_it0 S (by assumption) ?_ | refine ld_val S (by assumption) ?_ | refine ld_key S (by assumption) ?_ | refine ld_int S rfl ?_ | refine w_int _ (S.cnt _) ?_ | refine ld_kid S (by assumption) ?_ | refine ld_kid0 S (by assumption) ?_ | refine ld_some S rfl ?_ | refine ld_ptr S _ rfl ?_ | refine ld_sls S rfl ?_ | refine ld_nil S rfl ?_ | refine ld_bool S rfl ?_ | refine st_it S (by first | omega | (dsimp only; omega)) fun _ S => ?_ | refine st_it0 S (by first | omega | (dsimp only; omega)) fun _ S => ?_ | refine st_kid S (by first | omega | (dsimp only; omega)) none rfl fun _ S => ?_ | refine st_kid S (by first | omega | (dsimp only; omega)) (some _) rfl fun _ S => ?_ | refine st_kid0 S (by first | omega | (dsimp only; omega)) (some _) rfl fun _ S => ?_ | refine st_store S (lt_ble rfl) fun _ S => ?_ | refine st_alloc S fun _ _ S => ?_ | refine st_held S rfl ?_ | refine w_guard (by (first | exact inK64 (by omega) (by omega) | omega | (constructor <;> omega) | ((try dsimp only [Sh.T, Sh1.T]); first | exact inK64 (by omega) (by omega) | omega | exact ⟨by decide, inK64 (by omega) (by omega)⟩ | trivial))) ?_ | refine bd_n rfl ?_ | refine bd_e rfl ?_ | refine bd_r ?_ | refine bd_p ?_ | refine ln_r ?_ | refine ln_e ?_ | refine w_true (b := true) rfl ?_ | refine w_false (b := false) rfl ?_ | (refine w_callT (c_leafp (kp := none) (S.rd rfl)) ?_; rintro _ _ ⟨rfl, rfl⟩) | (refine w_callT (c_leafp (kp := some _) (S.rd rfl)) ?_; rintro _ _ ⟨rfl, rfl⟩) | (refine w_callT (c_leafp (S.rd rfl)) ?_; rintro _ _ ⟨rfl, rfl⟩) | (refine w_callT (c_leaf (kp := none) (S.rd rfl)) ?_; rintro _ _ ⟨rfl, rfl⟩) | (refine w_callT (c_leaf (kp := some _) (S.rd rfl)) ?_; rintro _ _ ⟨rfl, rfl⟩))
      have e : atO (flatB n t) i = none := by
        unfold atO
        split
        · rfl
        · exact List.getElem?_eq_none (by omega)
      exact rt_n rfl rfl ⟨_, ⟨by rw [e]; rfl, rfl⟩, (shut_map (S.ats [.ow a0, .tr b]) rfl rfl hs hv hi hg).only [.mp a0]⟩
    · refine w_false (by simpa using hout) ?_
      obtain ⟨k, rfl⟩ : ∃ k : Nat, i = k := ⟨i.toNat, by omega⟩
      have hat : atO (flatB n t) (k : Int) = (flatB n t)[k]? := by unfold atO; rw [if_neg (by omega), Int.toNat_natCast]
      rw [hat]
      refine w_callT (c_isoLoad (S.rd rfl) (S.iso b) (S.rd rfl)) ?_
      rintro _ h2 ⟨rfl, rfl⟩
      obtain ⟨GA, hA, hb, hsub, back⟩ := St.cutB (A := []) (B := [_, _]) (S.ats [.ow a0, .tr b])
      have hba : ∀ (j : Nat) (v : Value), (mapC ls iso ctr (some (b, 0)) (flatB n t).length dg (2 * dg + 1) false false)[j]? = some v → Bes (RdC (a0.1, a0.2 + j) v) h2 GA := fun j v hj => Bes.cell (hb _ (.head _)) hj
      have hbt : Bes (TrC L iso n b t) h2 GA := hb _ (.tail _ (.head _))
      have hmn := hg.2.1
      have hmb := hg.2.2
      refine w_lp (fun r y h' => ∃ (b' : Nat) (t' : BT KV r) (idx : Nat), y = (some (b', 0), (idx : Int), ()) ∧ Bes (TrC L iso r b' t') h2 GA ∧ Val dg (2 * dg + 1) r t' ∧ 1 ≤ (itemsB r t').length ∧ (flatB r t')[idx]? = (flatB n t)[k]? ∧ idx < (flatB r t').length ∧ (flatB r t').length ≤ (flatB n t).length ∧
          St h2 GA [] h')
        n rfl ⟨b, t, k, rfl, hbt, hv, hi, rfl, by omega, Nat.le_refl _, St.start hA⟩ ?_
      rintro r _ _ ⟨b', t', idx, rfl, hT, hv', hi', hix, hlt, hle, S⟩
      obtain ⟨p, c, kp, hc, hkp, b0, b1, b2, b3, br⟩ := hT.nd
      have hil := Val.items hv'
      refine w_callT (c_leafp (b3.now S).rd) ?_
      rintro _ _ ⟨rfl, rfl⟩
      cases r with
      | zero =>
        have hli : (flatB 0 t').length = (itemsB 0 t').length := rfl
        obtain ⟨y, hy⟩ : ∃ y, (itemsB 0 t')[idx]? = some y := ⟨_, List.getElem?_eq_getElem (by omega)⟩
        have hy2 : (flatB 0 t')[idx]? = some y := hy
        refine w_true hkp (w_nonnil (w_sl (some p, (itemsB 0 t').length, c) (b2.now S).rd (w_nonnil (w_guard ⟨by (first | omega | ((try dsimp only [Sh.T, Sh1.T]); omega)), by (first | omega | ((try dsimp only [Sh.T, Sh1.T]); omega))⟩ ?_))))
        simp only [Int.toNat_natCast, toNat_succ, toNat_succ2, toNat_pred]
        refine w_it (br.now S).rds hy ?_
        repeat (first | refine ld_nilI S rfl ?_ | refine ld_any S rfl ?_ | refine st_itN S (by first | omega | (dsimp only; omega)) fun _ S => ?_ | refine st_itO S (by first | omega | (dsimp only; omega)) fun _ S => ?_ | refine w_nonnil ?_ | refine ld_it S (by assumption) ?_ | refine ld_it0 S (by assumption) ?_ | refine ld_val S (by assumption) ?_ | refine ld_key S (by assumption) ?_ | refine ld_int S rfl ?_ | refine w_int _ (S.cnt _) ?_ | refine ld_kid S (by assumption) ?_ | refine ld_kid0 S (by assumption) ?_ | refine ld_some S rfl ?_ | refine ld_ptr S _ rfl ?_ | refine ld_sls S rfl ?_ | refine ld_nil S rfl ?_ | refine ld_bool S rfl ?_ | refine st_it S (by first | omega | (dsimp only; omega)) fun _ S => ?_ | refine st_it0 S (by first | omega | (dsimp only; omega)) fun _ S => ?_ | refine st_kid S (by first | omega | (dsimp only; omega)) none rfl fun _ S => ?_ | refine st_kid S (by first | omega | (dsimp only; omega)) (some _) rfl fun _ S => ?_ | refine st_kid0 S (by first | omega | (dsimp only; omega)) (some _) rfl fun _ S => ?_ | refine st_store S (lt_ble rfl) fun _ S => ?_ | refine st_alloc S fun _ _ S => ?_ | refine st_held S rfl ?_ | refine w_guard (by (first | exact inK64 (by omega) (by omega) | omega | (constructor <;> omega) | ((try dsimp only [Sh.T, Sh1.T]); first | exact inK64 (by omega) (by omega) | omega | exact ⟨by decide, inK64 (by omega) (by omega)⟩ | trivial))) ?_ | refine bd_n rfl ?_ | refine bd_e rfl ?_ | refine bd_r ?_ | refine bd_p ?_ | refine ln_r ?_ | refine ln_e ?_ | refine w_true (b := true) rfl ?_ | refine w_false (b := false) rfl ?_ | (refine w_callT (c_leafp (kp := none) (S.rd rfl)) ?_; rintro _ _ ⟨rfl, rfl⟩) | (refine w_callT (c_leafp (kp := some _) (S.rd rfl)) ?_; rintro _ _ ⟨rfl, rfl⟩) | (refine w_callT (c_leafp (S.rd rfl)) ?_; rintro _ _ ⟨rfl, rfl⟩) | (refine w_callT (c_leaf (kp := none) (S.rd rfl)) ?_; rintro _ _ ⟨rfl, rfl⟩) | (refine w_callT (c_leaf (kp := some _) (S.rd rfl)) ?_; rintro _ _ ⟨rfl, rfl⟩))
        have S := back _ _ S
        dsimp only [List.cons_append, List.nil_append] at S
        refine rt_n rfl rfl ⟨_, ⟨?_, rfl⟩, (shut_map (S.ats [.ow a0, .tr b]) rfl rfl hs hv hi hg).only [.mp a0]⟩
        rw [← hix, hy2]; rfl
      | succ r =>
        obtain ⟨hb1, q, cc, k3, k0, hkd⟩ := hT.kids
        obtain ⟨xs, ts⟩ := t'
        have hl2 : ts.length = xs.length + 1 := hv'.2.1
        have hil : xs.length ≤ 2 * dg + 1 := hil
        refine w_false hkp ?_
        refine w_mid' (some 2) (fun (y : SV [.c (.int .i64), .c (.int .i64)]) h' => ∃ (j idx' : Nat) (u : BT KV r), y = ((j : Int), (idx' : Int), ()) ∧ ts[j]? = some u ∧ idx = (ahead xs ts j).length + idx' ∧ idx' < (flatB r u).length ∧ St h2 GA [] h') ?_ ?_
        · refine w_lp (fun m y h' => ∃ (j idx' : Nat), y = ((j : Int), (idx' : Int), ()) ∧ j + m = xs.length ∧ idx = (ahead xs ts j).length + idx' ∧ St h2 GA [] h') xs.length rfl
            ⟨0, idx, rfl, by omega, by rw [ah_zero]; simp, S⟩ ?_
          clear S
          rintro m _ _ ⟨j, idx', rfl, hj, hidx, S⟩
          refine w_nonnil (w_sl (some p, xs.length, c) (b2.now S).rd ?_)
          obtain ⟨u, hu⟩ : ∃ u, ts[j]? = some u := ⟨_, List.getElem?_eq_getElem (by omega)⟩
          obtain ⟨kid, kr, kt⟩ := hkd _ u hu
          obtain ⟨_, _, _, _, _, _, kb1, _⟩ := kt.nd
          have hal := ah_len hl2 hu
          by_cases hlt : j < xs.length
          · have hxj := List.getElem?_eq_getElem hlt
            refine w_true (lt_t (by (first | omega | ((try dsimp only [Sh.T, Sh1.T]); omega)))) ?_
            simp only [Int.toNat_natCast, toNat_succ, toNat_succ2, toNat_pred]
            refine w_nonnil (w_ptr (some (hb1, 0)) (k3.now S).rd (w_nonnil (w_sl (some q, ts.length, cc) (k0.now S).rd (w_nonnil (w_guard ⟨by (first | omega | ((try dsimp only [Sh.T, Sh1.T]); omega)), by (first | omega | ((try dsimp only [Sh.T, Sh1.T]); omega))⟩ (w_ptr (some (kid, 0)) (kr.now S).rd (w_nonnil (w_int _ (kb1.now S).rd ?_))))))))
            by_cases h1 : idx' < (flatB r u).length
            · exact w_true (lt_t (by (first | omega | ((try dsimp only [Sh.T, Sh1.T]); omega)))) (ln_e (md_e rfl ⟨j, idx', u, rfl, hu, hidx, h1, S⟩))
            · refine w_false (lt_f (by (first | omega | ((try dsimp only [Sh.T, Sh1.T]); omega)))) ?_
              refine w_nonnil (w_ptr (some (hb1, 0)) (k3.now S).rd (w_nonnil (w_sl (some q, ts.length, cc) (k0.now S).rd (w_nonnil (w_guard ⟨by (first | omega | ((try dsimp only [Sh.T, Sh1.T]); omega)), by (first | omega | ((try dsimp only [Sh.T, Sh1.T]); omega))⟩ (w_ptr (some (kid, 0)) (kr.now S).rd (w_nonnil (w_int _ (kb1.now S).rd ?_))))))))
              by_cases h2e : idx' = (flatB r u).length
              · refine w_true (beq_t (by (first | omega | ((try dsimp only [Sh.T, Sh1.T]); omega)))) ?_
                obtain ⟨B, hB⟩ := ah_at2 hl2 hu hxj
                have hy2 : (flatB (r + 1) ((xs, ts) : BT KV (r + 1)))[idx]? = some xs[j] := by
                  rw [hB, hidx, h2e, List.append_assoc, List.getElem?_append_right (by omega), Nat.add_sub_cancel_left, List.append_assoc, List.getElem?_append_right (by omega), Nat.sub_self]; rfl
                refine w_nonnil (w_sl (some p, xs.length, c) (b2.now S).rd (w_nonnil (w_guard ⟨by (first | omega | ((try dsimp only [Sh.T, Sh1.T]); omega)), by (first | omega | ((try dsimp only [Sh.T, Sh1.T]); omega))⟩ ?_)))
                refine w_it (br.now S).rds hxj ?_
                repeat (first | refine ld_nilI S rfl ?_ | refine ld_any S rfl ?_ | refine st_itN S (by first | omega | (dsimp only; omega)) fun _ S => ?_ | refine st_itO S (by first | omega | (dsimp only; omega)) fun _ S => ?_ | refine w_nonnil ?_ | refine ld_it S (by assumption) ?_ | refine ld_it0 S (by assumption) ?_ | refine ld_val S (by assumption) ?_ | refine ld_key S (by assumption) ?_ | refine ld_int S rfl ?_ | refine w_int _ (S.cnt _) ?_ | refine ld_kid S (by assumption) ?_ | refine ld_kid0 S (by assumption) ?_ | refine ld_some S rfl ?_ | refine ld_ptr S _ rfl ?_ | refine ld_sls S rfl ?_ | refine ld_nil S rfl ?_ | refine ld_bool S rfl ?_ | refine st_it S (by first | omega | (dsimp only; omega)) fun _ S => ?_ | refine st_it0 S (by first | omega | (dsimp only; omega)) fun _ S => ?_ | refine st_kid S (by first | omega | (dsimp only; omega)) none rfl fun _ S => ?_ | refine st_kid S (by first | omega | (dsimp only; omega)) (some _) rfl fun _ S => ?_ | refine st_kid0 S (by first | omega | (dsimp only; omega)) (some _) rfl fun _ S => ?_ | refine st_store S (lt_ble rfl) fun _ S => ?_ | refine st_alloc S fun _ _ S => ?_ | refine st_held S rfl ?_ | refine w_guard (by (first | exact inK64 (by omega) (by omega) | omega | (constructor <;> omega) | ((try dsimp only [Sh.T, Sh1.T]); first | exact inK64 (by omega) (by omega) | omega | exact ⟨by decide, inK64 (by omega) (by omega)⟩ | trivial))) ?_ | refine bd_n rfl ?_ | refine bd_e rfl ?_ | refine bd_r ?_ | refine bd_p ?_ | refine ln_r ?_ | refine ln_e ?_ | refine w_true (b := true) rfl ?_ | refine w_false (b := false) rfl ?_ | (refine w_callT (c_leafp (kp := none) (S.rd rfl)) ?_; rintro _ _ ⟨rfl, rfl⟩) | (refine w_callT (c_leafp (kp := some _) (S.rd rfl)) ?_; rintro _ _ ⟨rfl, rfl⟩) | (refine w_callT (c_leafp (S.rd rfl)) ?_; rintro _ _ ⟨rfl, rfl⟩) | (refine w_callT (c_leaf (kp := none) (S.rd rfl)) ?_; rintro _ _ ⟨rfl, rfl⟩) | (refine w_callT (c_leaf (kp := some _) (S.rd rfl)) ?_; rintro _ _ ⟨rfl, rfl⟩))
                refine md_r (ln_r ?_)
                have S := back _ _ S
                dsimp only [List.cons_append, List.nil_append] at S
                refine rt_n rfl rfl ⟨_, ⟨?_, rfl⟩, (shut_map (S.ats [.ow a0, .tr b]) rfl rfl hs hv hi hg).only [.mp a0]⟩
                rw [← hix, hy2]; rfl
              · refine w_false (beq_f (by (first | omega | ((try dsimp only [Sh.T, Sh1.T]); omega)))) ?_
                refine w_nonnil (w_ptr (some (hb1, 0)) (k3.now S).rd (w_nonnil (w_sl (some q, ts.length, cc) (k0.now S).rd (w_nonnil (w_guard ⟨by (first | omega | ((try dsimp only [Sh.T, Sh1.T]); omega)), by (first | omega | ((try dsimp only [Sh.T, Sh1.T]); omega))⟩ (w_ptr (some (kid, 0)) (kr.now S).rd (w_nonnil (w_int _ (kb1.now S).rd ?_))))))))
                refine w_guard (inK64 (by (first | omega | ((try dsimp only [Sh.T, Sh1.T]); omega))) (by (first | omega | ((try dsimp only [Sh.T, Sh1.T]); omega)))) (w_guard (inK64 (by (first | omega | ((try dsimp only [Sh.T, Sh1.T]); omega))) (by (first | omega | ((try dsimp only [Sh.T, Sh1.T]); omega)))) (w_guard (inK64 (by (first | omega | ((try dsimp only [Sh.T, Sh1.T]); omega))) (by (first | omega | ((try dsimp only [Sh.T, Sh1.T]); omega)))) ?_))
                have hsuc := ah_succ hl2 hxj hu
                refine ln_n rfl (m - 1) ⟨j + 1, idx' - ((flatB r u).length + 1), ?_, by omega, by rw [hsuc]; simp; omega, S⟩ (by omega)
                rw [show ((idx' - ((flatB r u).length + 1) : Nat) : Int) = (idx' : Int) - (((flatB r u).length : Int) + 1) by omega]; rfl
          · have hje : j = xs.length := by omega
            subst hje
            have hla := ah_last hl2 hu
            have hlt2 : idx < (flatB (r + 1) ((xs, ts) : BT KV (r + 1))).length := by assumption
            rw [hla, List.length_append] at hlt2
            exact w_false (lt_f (by (first | omega | ((try dsimp only [Sh.T, Sh1.T]); omega)))) (ln_e (md_e rfl ⟨_, idx', u, rfl, hu, hidx, by omega, S⟩))
        · clear S
          rintro _ _ ⟨j, idx', u, rfl, hu, hidx, hlu, S⟩
          have hjl := (List.getElem?_eq_some_iff.1 hu).1
          obtain ⟨kid, kr, kt⟩ := hkd _ u hu
          obtain ⟨_, _, _, _, _, kb0, _, _⟩ := kt.nd
          obtain ⟨R, hR⟩ := ah_at hl2 hu
          have hvu := hv'.2.2 u (List.mem_of_getElem? hu)
          have hal := ah_len hl2 hu
          simp only [Int.toNat_natCast, toNat_succ, toNat_succ2, toNat_pred]
          refine w_nonnil (w_ptr (some (hb1, 0)) (k3.now S).rd (w_nonnil (w_sl (some q, ts.length, cc) (k0.now S).rd (w_nonnil (w_guard ⟨by (first | omega | ((try dsimp only [Sh.T, Sh1.T]); omega)), by (first | omega | ((try dsimp only [Sh.T, Sh1.T]); omega))⟩ ?_)))))
          refine w_callT (c_isoLoad (kr.now S).rd (kb0.now S).rd ((hba 0 _ rfl).now S).rd) ?_
          rintro _ _ ⟨rfl, rfl⟩
          refine ln_n rfl r ⟨kid, u, idx', rfl, kt, hvu.1, by omega, ?_, hlu, by omega, S⟩ (by omega)
          rw [← hix, hR, hidx, List.getElem?_append_right (by omega), Nat.add_sub_cancel_left, List.getElem?_append_left hlu]
theorem c_GetAt {a0 : PA} {iso : Int} {dg : Nat} {i : Int} {l : List KV} (hl : l.length ≤ 4294967295) {G : PA → Prop} (hG : Star [MpC ls o iso dg a0 l] h G) :
    HT Try.prog fn_tb_GetAt [.c (.addr a0), .c (.int .i64 i)] true [.c .raw, .c .bool] h fun r h' => ∃ post, (r = itR (atO l i) ∧ post = [MpC ls o iso dg a0 l]) ∧ St h G post h' := by
  apply hc_tb_GetAt
  unfold M_tb_GetAt
  have S := St.start hG
  refine st_callT S [.mp a0] (fun G hG => c_getAt hl hG) ?_
  rintro _ _ _ ⟨rfl, rfl⟩ S
  dsimp only [List.cons_append, List.nil_append] at S
  repeat (first | refine ld_nilI S rfl ?_ | refine ld_any S rfl ?_ | refine st_itN S (by first | omega | (dsimp only; omega)) fun _ S => ?_ | refine st_itO S (by first | omega | (dsimp only; omega)) fun _ S => ?_ | refine w_nonnil ?_ | refine ld_it S (by assumption) ?_ | refine ld_it0 S (by assumption) ?_ | refine ld_val S (by assumption) ?_ | refine ld_key S (by assumption) ?_ | refine ld_int S rfl ?_ | refine w_int _ (S.cnt _) ?_ | refine ld_kid S (by assumption) ?_ | refine ld_kid0 S (by assumption) ?_ | refine ld_some S rfl ?_ | refine ld_ptr S _ rfl ?_ | refine ld_sls S rfl ?_ | refine ld_nil S rfl ?_ | refine ld_bool S rfl ?_ | refine st_it S (by first | omega | (dsimp only; omega)) fun _ S => ?_ | refine st_it0 S (by first | omega | (dsimp only; omega)) fun _ S => ?_ | refine st_kid S (by first | omega | (dsimp only; omega)) none rfl fun _ S => ?_ | refine st_kid S (by first | omega | (dsimp only; omega)) (some _) rfl fun _ S => ?_ | refine st_kid0 S (by first | omega | (dsimp only; omega)) (some _) rfl fun _ S => ?_ | refine st_store S (lt_ble rfl) fun _ S => ?_ | refine st_alloc S fun _ _ S => ?_ | refine st_held S rfl ?_ | refine w_guard (by (first | exact inK64 (by omega) (by omega) | omega | (constructor <;> omega) | ((try dsimp only [Sh.T, Sh1.T]); first | exact inK64 (by omega) (by omega) | omega | exact ⟨by decide, inK64 (by omega) (by omega)⟩ | trivial))) ?_ | refine bd_n rfl ?_ | refine bd_e rfl ?_ | refine bd_r ?_ | refine bd_p ?_ | refine ln_r ?_ | refine ln_e ?_ | refine w_true (b := true) rfl ?_ | refine w_false (b := false) rfl ?_ | (refine w_callT (c_leafp (kp := none) (S.rd rfl)) ?_; rintro _ _ ⟨rfl, rfl⟩) | (refine w_callT (c_leafp (kp := some _) (S.rd rfl)) ?_; rintro _ _ ⟨rfl, rfl⟩) | (refine w_callT (c_leafp (S.rd rfl)) ?_; rintro _ _ ⟨rfl, rfl⟩) | (refine w_callT (c_leaf (kp := none) (S.rd rfl)) ?_; rintro _ _ ⟨rfl, rfl⟩) | (refine w_callT (c_leaf (kp := some _) (S.rd rfl)) ?_; rintro _ _ ⟨rfl, rfl⟩))
  exact rt_n rfl rfl ⟨_, ⟨rfl, rfl⟩, S.only [.mp a0]⟩
end
end Go.Proofs.Ytlhbdmjeomffhaa.TB
