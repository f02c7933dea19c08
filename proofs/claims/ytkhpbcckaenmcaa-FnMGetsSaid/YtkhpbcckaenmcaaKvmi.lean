/-
  The map of numbers: all keys and all values. Conditions: none.
-/
import Derived.Test.YtkhpbcckaenmcaaPgR
import Derived.Test.YtkhpbcckaenmcaaVbmi
import Derived.Test.YtkhpbcckaenmcaaVkmi
set_option linter.unusedVariables false
set_option linter.unusedSimpArgs false
set_option linter.unusedSectionVars false
set_option maxRecDepth 100000
namespace Go.Proofs.Ytkhpbcckaenmcaa.MI
open Go Go.Proofs.Ytkhpbcckaenmcaa

section
variable {h : H}
set_option maxHeartbeats 2000000 in
theorem c_nodeKeyValues {a0 : PA} {iso : Int} {m : Bool} {mn mx : Nat} : ∀ (n : Nat) {b : Nat} {t : BT KV n} {a1 : PA} {h : H} {G : PA → Prop} {s v : SlT} {xs ys : List Int},
    Bes (TrC L iso n b t) h G → Bes (RdC (a0.1, a0.2) (.int .u64 iso)) h G → rd h a1 = some (kptr b) → OwnL LN s xs → OwnL LN v ys → Val mn mx n t → mx ≤ 2147483647 → xs.length + (flatB n t).length ≤ 4294967296 → ys.length + (flatB n t).length ≤ 4294967296 → Star [SlC s LN.sz (LN.flat xs), SlC v LN.sz (LN.flat ys)] h G →
    HT Try.prog fn_mi_nodeKeyValues [.c (.addr a0), .c (.addr a1), .c (.sl s.1 s.2.1 s.2.2), .c (.sl v.1 v.2.1 v.2.2), .c (.bool m)] true [.c .sl, .c .sl] h fun r h' =>
      ∃ post, (∃ s' v' : SlT, r = (s', v', ()) ∧ OwnL LN s' (xs ++ kO (flatB n t)) ∧ OwnL LN v' (ys ++ vO (flatB n t)) ∧ post = [SlC s' LN.sz (LN.flat (xs ++ kO (flatB n t))), SlC v' LN.sz (LN.flat (ys ++ vO (flatB n t)))]) ∧ St h G post h'
  | 0, b, t, a1, h, G, s, v, xs, ys, hT, hA, h1, hs, hw, hv, hmx, hlen, hlen2, hG => by
    apply hc_mi_nodeKeyValues
    unfold M_mi_nodeKeyValues
    have S := St.start hG
    obtain ⟨hi0, p, c, e2, e3, er⟩ := hT.leaf
    refine w_callT (c_isoLoad h1 hi0 hA.rd) ?_
    rintro _ _ ⟨rfl, rfl⟩
    rename_i h
    refine w_callT (c_leafp (kp := none) e3) ?_
    rintro _ _ ⟨rfl, rfl⟩
    rename_i h
    refine w_true rfl ?_
    have hil : (itemsB 0 t).length ≤ mx := hv
    have hfl : flatB 0 t = itemsB 0 t := rfl
    refine w_bnd (w_lp (fun r y h' => ∃ (i : Nat) (s' v' : SlT), y = ((i : Int), v', s', ()) ∧ i + r = (itemsB 0 t).length ∧ OwnL LN s' (xs ++ kO ((itemsB 0 t).take i)) ∧ OwnL LN v' (ys ++ vO ((itemsB 0 t).take i)) ∧ St h G [SlC s' LN.sz (LN.flat (xs ++ kO ((itemsB 0 t).take i))), SlC v' LN.sz (LN.flat (ys ++ vO ((itemsB 0 t).take i)))] h') (itemsB 0 t).length rfl
      ⟨0, s, v, rfl, by omega, by simpa [kO] using hs, by simpa [vO] using hw, by simpa [kO, vO] using S⟩ ?_)
    rintro r _ h2 ⟨i, s', v', rfl, hi, hs', hw', S⟩
    obtain ⟨s1, s2, s3⟩ := s'
    obtain ⟨v1, v2, v3⟩ := v'
    obtain ⟨hi0, p, c, e2, e3, er⟩ := (hT.all S).leaf
    have hxl : (xs ++ kO ((itemsB 0 t).take i)).length = xs.length + i := by rw [List.length_append, kO_len, List.length_take]; omega
    have hyl : (ys ++ vO ((itemsB 0 t).take i)).length = ys.length + i := by rw [List.length_append, vO_len, List.length_take]; omega
    by_cases hlt : i < (itemsB 0 t).length
    · have hxi := List.getElem?_eq_getElem hlt
      simp only [Int.toNat_natCast, toNat_succ, toNat_succ2, toNat_pred]
      refine w_nonnil (w_sl (some p, (itemsB 0 t).length, c) e2 ?_)
      refine w_true (lt_t (by (first | omega | ((try dsimp only [Sh.T, Sh1.T]); omega)))) ?_
      repeat (first | refine w_nonnil ?_ | refine ld_it S (by assumption) ?_ | refine ld_it0 S (by assumption) ?_ | refine ld_val S (by assumption) ?_ | refine ld_key S (by assumption) ?_ | refine ld_int S rfl ?_ | refine w_int _ (S.cnt _) ?_ | refine ld_kid S (by assumption) ?_ | refine ld_kid0 S (by assumption) ?_ | refine ld_some S rfl ?_ | refine ld_ptr S _ rfl ?_ | refine ld_sls S rfl ?_ | refine ld_nil S rfl ?_ | refine ld_bool S rfl ?_ | refine st_it S (by first | omega | (dsimp only; omega)) fun _ S => ?_ | refine st_it0 S (by first | omega | (dsimp only; omega)) fun _ S => ?_ | refine st_kid S (by first | omega | (dsimp only; omega)) none rfl fun _ S => ?_ | refine st_kid S (by first | omega | (dsimp only; omega)) (some _) rfl fun _ S => ?_ | refine st_kid0 S (by first | omega | (dsimp only; omega)) (some _) rfl fun _ S => ?_ | refine st_store S (lt_ble rfl) fun _ S => ?_ | refine st_allocK S fun _ _ S hold => ?_ | refine st_held S rfl ?_ | refine w_guard (by (first | exact inK64 (by omega) (by omega) | omega | (constructor <;> omega) | ((try dsimp only [Sh.T, Sh1.T]); first | exact inK64 (by omega) (by omega) | omega | exact ⟨by decide, inK64 (by omega) (by omega)⟩ | trivial))) ?_ | refine bd_n rfl ?_ | refine bd_e rfl ?_ | refine bd_r ?_ | refine bd_p ?_ | refine ln_r ?_ | refine ln_e ?_ | refine w_true (b := true) rfl ?_ | refine w_false (b := false) rfl ?_ | (refine w_callT (c_leafp (kp := none) (S.rd rfl)) ?_; rintro _ _ ⟨rfl, rfl⟩) | (refine w_callT (c_leafp (kp := some _) (S.rd rfl)) ?_; rintro _ _ ⟨rfl, rfl⟩) | (refine w_callT (c_leafp (S.rd rfl)) ?_; rintro _ _ ⟨rfl, rfl⟩) | (refine w_callT (c_leaf (kp := none) (S.rd rfl)) ?_; rintro _ _ ⟨rfl, rfl⟩) | (refine w_callT (c_leaf (kp := some _) (S.rd rfl)) ?_; rintro _ _ ⟨rfl, rfl⟩) | refine w_it (by assumption) (by assumption) ?_ | refine w_it0 (by assumption) (by assumption) ?_ | refine h_it hold (by assumption) (by assumption) ?_ | refine w_itV (by assumption) (by assumption) ?_ | refine w_itK (by assumption) (by assumption) ?_ | refine h_itV hold (by assumption) (by assumption) ?_ | refine h_itK hold (by assumption) (by assumption) ?_ | refine w_held (hold _ _ (by assumption)) ?_ | refine w_sl (some _, _, _) (by assumption) ?_ | refine w_ptr (some _) (by assumption) ?_ | refine w_ptr none (by assumption) ?_ | refine w_int _ (by assumption) ?_ | refine w_held (by assumption) ?_ | (refine w_callT (c_leafp (kp := none) (by assumption)) ?_; rintro _ _ ⟨rfl, rfl⟩) | (refine w_callT (c_leafp (kp := some _) (by assumption)) ?_; rintro _ _ ⟨rfl, rfl⟩) | (refine w_callT (c_leaf (kp := none) (by assumption)) ?_; rintro _ _ ⟨rfl, rfl⟩) | (refine w_callT (c_leaf (kp := some _) (by assumption)) ?_; rintro _ _ ⟨rfl, rfl⟩))
      rw [hfl] at hlen hlen2
      refine st_apo (L := LN) (xs := xs ++ kO ((itemsB 0 t).take i)) (y := (itemsB 0 t)[i].1) S hs' rfl rfl (S.rsl (LN.flat [(itemsB 0 t)[i].1]) 1 1 1 (fun i v h => by rw [Nat.zero_add]; exact h) rfl) ⟨by omega, by omega⟩ fun s' _ hs' S => ?_
      have e : xs ++ kO ((itemsB 0 t).take i) ++ [(itemsB 0 t)[i].1] = xs ++ kO ((itemsB 0 t).take (i + 1)) := by rw [kO_snoc hlt, List.append_assoc]
      rw [e] at S hs'
      have S := S.only [.sl s', .sl (v1, v2, v3)]
      obtain ⟨hi0, p, c, e2, e3, er⟩ := (hT.all S).leaf
      repeat (first | refine w_nonnil ?_ | refine ld_it S (by assumption) ?_ | refine ld_it0 S (by assumption) ?_ | refine ld_val S (by assumption) ?_ | refine ld_key S (by assumption) ?_ | refine ld_int S rfl ?_ | refine w_int _ (S.cnt _) ?_ | refine ld_kid S (by assumption) ?_ | refine ld_kid0 S (by assumption) ?_ | refine ld_some S rfl ?_ | refine ld_ptr S _ rfl ?_ | refine ld_sls S rfl ?_ | refine ld_nil S rfl ?_ | refine ld_bool S rfl ?_ | refine st_it S (by first | omega | (dsimp only; omega)) fun _ S => ?_ | refine st_it0 S (by first | omega | (dsimp only; omega)) fun _ S => ?_ | refine st_kid S (by first | omega | (dsimp only; omega)) none rfl fun _ S => ?_ | refine st_kid S (by first | omega | (dsimp only; omega)) (some _) rfl fun _ S => ?_ | refine st_kid0 S (by first | omega | (dsimp only; omega)) (some _) rfl fun _ S => ?_ | refine st_store S (lt_ble rfl) fun _ S => ?_ | refine st_allocK S fun _ _ S hold => ?_ | refine st_held S rfl ?_ | refine w_guard (by (first | exact inK64 (by omega) (by omega) | omega | (constructor <;> omega) | ((try dsimp only [Sh.T, Sh1.T]); first | exact inK64 (by omega) (by omega) | omega | exact ⟨by decide, inK64 (by omega) (by omega)⟩ | trivial))) ?_ | refine bd_n rfl ?_ | refine bd_e rfl ?_ | refine bd_r ?_ | refine bd_p ?_ | refine ln_r ?_ | refine ln_e ?_ | refine w_true (b := true) rfl ?_ | refine w_false (b := false) rfl ?_ | (refine w_callT (c_leafp (kp := none) (S.rd rfl)) ?_; rintro _ _ ⟨rfl, rfl⟩) | (refine w_callT (c_leafp (kp := some _) (S.rd rfl)) ?_; rintro _ _ ⟨rfl, rfl⟩) | (refine w_callT (c_leafp (S.rd rfl)) ?_; rintro _ _ ⟨rfl, rfl⟩) | (refine w_callT (c_leaf (kp := none) (S.rd rfl)) ?_; rintro _ _ ⟨rfl, rfl⟩) | (refine w_callT (c_leaf (kp := some _) (S.rd rfl)) ?_; rintro _ _ ⟨rfl, rfl⟩) | refine w_it (by assumption) (by assumption) ?_ | refine w_it0 (by assumption) (by assumption) ?_ | refine h_it hold (by assumption) (by assumption) ?_ | refine w_itV (by assumption) (by assumption) ?_ | refine w_itK (by assumption) (by assumption) ?_ | refine h_itV hold (by assumption) (by assumption) ?_ | refine h_itK hold (by assumption) (by assumption) ?_ | refine w_held (hold _ _ (by assumption)) ?_ | refine w_sl (some _, _, _) (by assumption) ?_ | refine w_ptr (some _) (by assumption) ?_ | refine w_ptr none (by assumption) ?_ | refine w_int _ (by assumption) ?_ | refine w_held (by assumption) ?_ | (refine w_callT (c_leafp (kp := none) (by assumption)) ?_; rintro _ _ ⟨rfl, rfl⟩) | (refine w_callT (c_leafp (kp := some _) (by assumption)) ?_; rintro _ _ ⟨rfl, rfl⟩) | (refine w_callT (c_leaf (kp := none) (by assumption)) ?_; rintro _ _ ⟨rfl, rfl⟩) | (refine w_callT (c_leaf (kp := some _) (by assumption)) ?_; rintro _ _ ⟨rfl, rfl⟩))
      refine st_apo (L := LN) (xs := ys ++ vO ((itemsB 0 t).take i)) (y := (itemsB 0 t)[i].2) S hw' rfl rfl (S.rsl (LN.flat [(itemsB 0 t)[i].2]) 1 1 1 (fun i v h => by rw [Nat.zero_add]; exact h) rfl) ⟨by omega, by omega⟩ fun v' _ hw' S => ?_
      have e : ys ++ vO ((itemsB 0 t).take i) ++ [(itemsB 0 t)[i].2] = ys ++ vO ((itemsB 0 t).take (i + 1)) := by rw [vO_snoc hlt, List.append_assoc]
      rw [e] at S hw'
      refine w_guard (inK64 (by (first | omega | ((try dsimp only [Sh.T, Sh1.T]); omega))) (by (first | omega | ((try dsimp only [Sh.T, Sh1.T]); omega)))) ?_
      exact ln_n rfl (r - 1) ⟨i + 1, s', v', rfl, by omega, hs', hw', S.only [.sl s', .sl v']⟩ (by omega)
    · refine w_nonnil (w_sl (some p, (itemsB 0 t).length, c) e2 ?_)
      refine w_false (lt_f (by (first | omega | ((try dsimp only [Sh.T, Sh1.T]); omega)))) (ln_e (bd_e rfl (rt_n rfl rfl ⟨_, ⟨(s1, s2, s3), (v1, v2, v3), rfl, ?_⟩, S⟩)))
      rw [List.take_of_length_le (by omega)] at hs' hw' ⊢
      exact ⟨hs', hw', rfl⟩
  | n + 1, b, t, a1, h, G, s, v, xs, ys, hT, hA, h1, hs, hw, hv, hmx, hlen, hlen2, hG => by
    apply hc_mi_nodeKeyValues
    unfold M_mi_nodeKeyValues
    have S := St.start hG
    obtain ⟨hi0, p, c, q, d, hb, ks, e2, e3, er, e4, ekl, hk⟩ := hT.node
    obtain ⟨is, ts⟩ := t
    have hl2 : ts.length = is.length + 1 := hv.2.1
    have hil : is.length ≤ mx := hv.1
    refine w_callT (c_isoLoad h1 hi0 hA.rd) ?_
    rintro _ _ ⟨rfl, rfl⟩
    rename_i h
    refine w_callT (c_leafp (kp := some _) e3) ?_
    rintro _ _ ⟨rfl, rfl⟩
    rename_i h
    refine w_false rfl ?_
    refine w_bnd (w_lp (fun r y h' => ∃ (i : Nat) (s' v' : SlT), y = ((i : Int), v', s', ()) ∧ i + r = is.length ∧ OwnL LN s' (xs ++ kO (ahead is ts i)) ∧ OwnL LN v' (ys ++ vO (ahead is ts i)) ∧ St h G [SlC s' LN.sz (LN.flat (xs ++ kO (ahead is ts i))), SlC v' LN.sz (LN.flat (ys ++ vO (ahead is ts i)))] h') is.length rfl
      ⟨0, s, v, rfl, by omega, by simpa [ah_zero, kO] using hs, by simpa [ah_zero, vO] using hw, by simpa [ah_zero, kO, vO] using S⟩ ?_)
    rintro r _ h2 ⟨i, s', v', rfl, hi, hs', hw', S⟩
    obtain ⟨s1, s2, s3⟩ := s'
    obtain ⟨v1, v2, v3⟩ := v'
    have hile : i ≤ is.length := by omega
    obtain ⟨u, hu⟩ : ∃ u, ts[i]? = some u := ⟨_, List.getElem?_eq_getElem (by omega)⟩
    have hmem : u ∈ ts := List.mem_of_getElem? hu
    have hal := ah_len hl2 hu
    obtain ⟨hi0, p, c, q, d, hb, ks, e2, e3, er, e4, ekl, hk⟩ := (hT.all S).node
    dsimp only at e2 er ekl hk
    obtain ⟨kid, k2, k3⟩ := hk i u hu
    have hx1 : (xs ++ kO (ahead is ts i)).length = xs.length + (ahead is ts i).length := by rw [List.length_append, kO_len]
    have hy1 : (ys ++ vO (ahead is ts i)).length = ys.length + (ahead is ts i).length := by rw [List.length_append, vO_len]
    by_cases hlt : i < is.length
    · have hxi := List.getElem?_eq_getElem hlt
      have hsuc := ah_succ hl2 hxi hu
      simp only [Int.toNat_natCast, toNat_succ, toNat_succ2, toNat_pred]
      refine w_nonnil (w_sl (some p, is.length, c) e2 ?_)
      refine w_true (lt_t (by (first | omega | ((try dsimp only [Sh.T, Sh1.T]); omega)))) ?_
      repeat (first | refine w_nonnil ?_ | refine ld_it S (by assumption) ?_ | refine ld_it0 S (by assumption) ?_ | refine ld_val S (by assumption) ?_ | refine ld_key S (by assumption) ?_ | refine ld_int S rfl ?_ | refine w_int _ (S.cnt _) ?_ | refine ld_kid S (by assumption) ?_ | refine ld_kid0 S (by assumption) ?_ | refine ld_some S rfl ?_ | refine ld_ptr S _ rfl ?_ | refine ld_sls S rfl ?_ | refine ld_nil S rfl ?_ | refine ld_bool S rfl ?_ | refine st_it S (by first | omega | (dsimp only; omega)) fun _ S => ?_ | refine st_it0 S (by first | omega | (dsimp only; omega)) fun _ S => ?_ | refine st_kid S (by first | omega | (dsimp only; omega)) none rfl fun _ S => ?_ | refine st_kid S (by first | omega | (dsimp only; omega)) (some _) rfl fun _ S => ?_ | refine st_kid0 S (by first | omega | (dsimp only; omega)) (some _) rfl fun _ S => ?_ | refine st_store S (lt_ble rfl) fun _ S => ?_ | refine st_allocK S fun _ _ S hold => ?_ | refine st_held S rfl ?_ | refine w_guard (by (first | exact inK64 (by omega) (by omega) | omega | (constructor <;> omega) | ((try dsimp only [Sh.T, Sh1.T]); first | exact inK64 (by omega) (by omega) | omega | exact ⟨by decide, inK64 (by omega) (by omega)⟩ | trivial))) ?_ | refine bd_n rfl ?_ | refine bd_e rfl ?_ | refine bd_r ?_ | refine bd_p ?_ | refine ln_r ?_ | refine ln_e ?_ | refine w_true (b := true) rfl ?_ | refine w_false (b := false) rfl ?_ | (refine w_callT (c_leafp (kp := none) (S.rd rfl)) ?_; rintro _ _ ⟨rfl, rfl⟩) | (refine w_callT (c_leafp (kp := some _) (S.rd rfl)) ?_; rintro _ _ ⟨rfl, rfl⟩) | (refine w_callT (c_leafp (S.rd rfl)) ?_; rintro _ _ ⟨rfl, rfl⟩) | (refine w_callT (c_leaf (kp := none) (S.rd rfl)) ?_; rintro _ _ ⟨rfl, rfl⟩) | (refine w_callT (c_leaf (kp := some _) (S.rd rfl)) ?_; rintro _ _ ⟨rfl, rfl⟩) | refine w_it (by assumption) (by assumption) ?_ | refine w_it0 (by assumption) (by assumption) ?_ | refine h_it hold (by assumption) (by assumption) ?_ | refine w_itV (by assumption) (by assumption) ?_ | refine w_itK (by assumption) (by assumption) ?_ | refine h_itV hold (by assumption) (by assumption) ?_ | refine h_itK hold (by assumption) (by assumption) ?_ | refine w_held (hold _ _ (by assumption)) ?_ | refine w_sl (some _, _, _) (by assumption) ?_ | refine w_ptr (some _) (by assumption) ?_ | refine w_ptr none (by assumption) ?_ | refine w_int _ (by assumption) ?_ | refine w_held (by assumption) ?_ | (refine w_callT (c_leafp (kp := none) (by assumption)) ?_; rintro _ _ ⟨rfl, rfl⟩) | (refine w_callT (c_leafp (kp := some _) (by assumption)) ?_; rintro _ _ ⟨rfl, rfl⟩) | (refine w_callT (c_leaf (kp := none) (by assumption)) ?_; rintro _ _ ⟨rfl, rfl⟩) | (refine w_callT (c_leaf (kp := some _) (by assumption)) ?_; rintro _ _ ⟨rfl, rfl⟩))
      refine st_callF S [.sl (s1, s2, s3), .sl (v1, v2, v3)] (fun G' hG' hsub => c_nodeKeyValues n (s := (s1, s2, s3)) (v := (v1, v2, v3)) (k3.sub hsub) ((hA.all S).sub hsub) k2 hs' hw' (hv.2.2 u hmem).1 hmx (by omega) (by omega) hG') ?_
      rintro _ _ h3 ⟨s', v', rfl, hs', hw', rfl⟩ S
      dsimp only [List.cons_append, List.nil_append] at S
      obtain ⟨hi0, p, c, q, d, hb, ks, e2, e3, er, e4, ekl, hk⟩ := (hT.all S).node
      dsimp only at e2 er ekl hk
      have hx2 : (xs ++ kO (ahead is ts i) ++ kO (flatB n u)).length = xs.length + (ahead is ts i).length + (flatB n u).length := by rw [List.length_append, hx1, kO_len]
      have hy2 : (ys ++ vO (ahead is ts i) ++ vO (flatB n u)).length = ys.length + (ahead is ts i).length + (flatB n u).length := by rw [List.length_append, hy1, vO_len]
      obtain ⟨s1, s2, s3⟩ := s'
      obtain ⟨v1, v2, v3⟩ := v'
      repeat (first | refine w_nonnil ?_ | refine ld_it S (by assumption) ?_ | refine ld_it0 S (by assumption) ?_ | refine ld_val S (by assumption) ?_ | refine ld_key S (by assumption) ?_ | refine ld_int S rfl ?_ | refine w_int _ (S.cnt _) ?_ | refine ld_kid S (by assumption) ?_ | refine ld_kid0 S (by assumption) ?_ | refine ld_some S rfl ?_ | refine ld_ptr S _ rfl ?_ | refine ld_sls S rfl ?_ | refine ld_nil S rfl ?_ | refine ld_bool S rfl ?_ | refine st_it S (by first | omega | (dsimp only; omega)) fun _ S => ?_ | refine st_it0 S (by first | omega | (dsimp only; omega)) fun _ S => ?_ | refine st_kid S (by first | omega | (dsimp only; omega)) none rfl fun _ S => ?_ | refine st_kid S (by first | omega | (dsimp only; omega)) (some _) rfl fun _ S => ?_ | refine st_kid0 S (by first | omega | (dsimp only; omega)) (some _) rfl fun _ S => ?_ | refine st_store S (lt_ble rfl) fun _ S => ?_ | refine st_allocK S fun _ _ S hold => ?_ | refine st_held S rfl ?_ | refine w_guard (by (first | exact inK64 (by omega) (by omega) | omega | (constructor <;> omega) | ((try dsimp only [Sh.T, Sh1.T]); first | exact inK64 (by omega) (by omega) | omega | exact ⟨by decide, inK64 (by omega) (by omega)⟩ | trivial))) ?_ | refine bd_n rfl ?_ | refine bd_e rfl ?_ | refine bd_r ?_ | refine bd_p ?_ | refine ln_r ?_ | refine ln_e ?_ | refine w_true (b := true) rfl ?_ | refine w_false (b := false) rfl ?_ | (refine w_callT (c_leafp (kp := none) (S.rd rfl)) ?_; rintro _ _ ⟨rfl, rfl⟩) | (refine w_callT (c_leafp (kp := some _) (S.rd rfl)) ?_; rintro _ _ ⟨rfl, rfl⟩) | (refine w_callT (c_leafp (S.rd rfl)) ?_; rintro _ _ ⟨rfl, rfl⟩) | (refine w_callT (c_leaf (kp := none) (S.rd rfl)) ?_; rintro _ _ ⟨rfl, rfl⟩) | (refine w_callT (c_leaf (kp := some _) (S.rd rfl)) ?_; rintro _ _ ⟨rfl, rfl⟩) | refine w_it (by assumption) (by assumption) ?_ | refine w_it0 (by assumption) (by assumption) ?_ | refine h_it hold (by assumption) (by assumption) ?_ | refine w_itV (by assumption) (by assumption) ?_ | refine w_itK (by assumption) (by assumption) ?_ | refine h_itV hold (by assumption) (by assumption) ?_ | refine h_itK hold (by assumption) (by assumption) ?_ | refine w_held (hold _ _ (by assumption)) ?_ | refine w_sl (some _, _, _) (by assumption) ?_ | refine w_ptr (some _) (by assumption) ?_ | refine w_ptr none (by assumption) ?_ | refine w_int _ (by assumption) ?_ | refine w_held (by assumption) ?_ | (refine w_callT (c_leafp (kp := none) (by assumption)) ?_; rintro _ _ ⟨rfl, rfl⟩) | (refine w_callT (c_leafp (kp := some _) (by assumption)) ?_; rintro _ _ ⟨rfl, rfl⟩) | (refine w_callT (c_leaf (kp := none) (by assumption)) ?_; rintro _ _ ⟨rfl, rfl⟩) | (refine w_callT (c_leaf (kp := some _) (by assumption)) ?_; rintro _ _ ⟨rfl, rfl⟩))
      refine st_apo (L := LN) (xs := xs ++ kO (ahead is ts i) ++ kO (flatB n u)) (y := is[i].1) S hs' rfl rfl (S.rsl (LN.flat [is[i].1]) 1 1 1 (fun i v h => by rw [Nat.zero_add]; exact h) rfl) ⟨by omega, by omega⟩ fun s' _ hs' S => ?_
      have e : xs ++ kO (ahead is ts i) ++ kO (flatB n u) ++ [is[i].1] = xs ++ kO (ahead is ts (i + 1)) := by rw [hsuc, kO_app, kO_app]; simp [kO]
      rw [e] at S hs'
      have S := S.only [.sl s', .sl (v1, v2, v3)]
      obtain ⟨hi0, p, c, q, d, hb, ks, e2, e3, er, e4, ekl, hk⟩ := (hT.all S).node
      dsimp only at e2 er ekl hk
      repeat (first | refine w_nonnil ?_ | refine ld_it S (by assumption) ?_ | refine ld_it0 S (by assumption) ?_ | refine ld_val S (by assumption) ?_ | refine ld_key S (by assumption) ?_ | refine ld_int S rfl ?_ | refine w_int _ (S.cnt _) ?_ | refine ld_kid S (by assumption) ?_ | refine ld_kid0 S (by assumption) ?_ | refine ld_some S rfl ?_ | refine ld_ptr S _ rfl ?_ | refine ld_sls S rfl ?_ | refine ld_nil S rfl ?_ | refine ld_bool S rfl ?_ | refine st_it S (by first | omega | (dsimp only; omega)) fun _ S => ?_ | refine st_it0 S (by first | omega | (dsimp only; omega)) fun _ S => ?_ | refine st_kid S (by first | omega | (dsimp only; omega)) none rfl fun _ S => ?_ | refine st_kid S (by first | omega | (dsimp only; omega)) (some _) rfl fun _ S => ?_ | refine st_kid0 S (by first | omega | (dsimp only; omega)) (some _) rfl fun _ S => ?_ | refine st_store S (lt_ble rfl) fun _ S => ?_ | refine st_allocK S fun _ _ S hold => ?_ | refine st_held S rfl ?_ | refine w_guard (by (first | exact inK64 (by omega) (by omega) | omega | (constructor <;> omega) | ((try dsimp only [Sh.T, Sh1.T]); first | exact inK64 (by omega) (by omega) | omega | exact ⟨by decide, inK64 (by omega) (by omega)⟩ | trivial))) ?_ | refine bd_n rfl ?_ | refine bd_e rfl ?_ | refine bd_r ?_ | refine bd_p ?_ | refine ln_r ?_ | refine ln_e ?_ | refine w_true (b := true) rfl ?_ | refine w_false (b := false) rfl ?_ | (refine w_callT (c_leafp (kp := none) (S.rd rfl)) ?_; rintro _ _ ⟨rfl, rfl⟩) | (refine w_callT (c_leafp (kp := some _) (S.rd rfl)) ?_; rintro _ _ ⟨rfl, rfl⟩) | (refine w_callT (c_leafp (S.rd rfl)) ?_; rintro _ _ ⟨rfl, rfl⟩) | (refine w_callT (c_leaf (kp := none) (S.rd rfl)) ?_; rintro _ _ ⟨rfl, rfl⟩) | (refine w_callT (c_leaf (kp := some _) (S.rd rfl)) ?_; rintro _ _ ⟨rfl, rfl⟩) | refine w_it (by assumption) (by assumption) ?_ | refine w_it0 (by assumption) (by assumption) ?_ | refine h_it hold (by assumption) (by assumption) ?_ | refine w_itV (by assumption) (by assumption) ?_ | refine w_itK (by assumption) (by assumption) ?_ | refine h_itV hold (by assumption) (by assumption) ?_ | refine h_itK hold (by assumption) (by assumption) ?_ | refine w_held (hold _ _ (by assumption)) ?_ | refine w_sl (some _, _, _) (by assumption) ?_ | refine w_ptr (some _) (by assumption) ?_ | refine w_ptr none (by assumption) ?_ | refine w_int _ (by assumption) ?_ | refine w_held (by assumption) ?_ | (refine w_callT (c_leafp (kp := none) (by assumption)) ?_; rintro _ _ ⟨rfl, rfl⟩) | (refine w_callT (c_leafp (kp := some _) (by assumption)) ?_; rintro _ _ ⟨rfl, rfl⟩) | (refine w_callT (c_leaf (kp := none) (by assumption)) ?_; rintro _ _ ⟨rfl, rfl⟩) | (refine w_callT (c_leaf (kp := some _) (by assumption)) ?_; rintro _ _ ⟨rfl, rfl⟩))
      refine st_apo (L := LN) (xs := ys ++ vO (ahead is ts i) ++ vO (flatB n u)) (y := is[i].2) S hw' rfl rfl (S.rsl (LN.flat [is[i].2]) 1 1 1 (fun i v h => by rw [Nat.zero_add]; exact h) rfl) ⟨by omega, by omega⟩ fun v' _ hw' S => ?_
      have e : ys ++ vO (ahead is ts i) ++ vO (flatB n u) ++ [is[i].2] = ys ++ vO (ahead is ts (i + 1)) := by rw [hsuc, vO_app, vO_app]; simp [vO]
      rw [e] at S hw'
      refine w_guard (inK64 (by (first | omega | ((try dsimp only [Sh.T, Sh1.T]); omega))) (by (first | omega | ((try dsimp only [Sh.T, Sh1.T]); omega)))) ?_
      exact ln_n rfl (r - 1) ⟨i + 1, s', v', rfl, by omega, hs', hw', S.only [.sl s', .sl v']⟩ (by omega)
    · have hie : i = is.length := by omega
      subst hie
      simp only [Int.toNat_natCast, toNat_succ, toNat_succ2, toNat_pred]
      refine w_nonnil (w_sl (some p, is.length, c) e2 ?_)
      refine w_false (lt_f (by (first | omega | ((try dsimp only [Sh.T, Sh1.T]); omega)))) (ln_e (bd_e rfl ?_))
      have hkq : rd h2 (q.1, q.2 + (ks - 1)) = some (kptr kid) := by rw [show ks - 1 = is.length by omega]; exact k2
      repeat (first | refine w_nonnil ?_ | refine ld_it S (by assumption) ?_ | refine ld_it0 S (by assumption) ?_ | refine ld_val S (by assumption) ?_ | refine ld_key S (by assumption) ?_ | refine ld_int S rfl ?_ | refine w_int _ (S.cnt _) ?_ | refine ld_kid S (by assumption) ?_ | refine ld_kid0 S (by assumption) ?_ | refine ld_some S rfl ?_ | refine ld_ptr S _ rfl ?_ | refine ld_sls S rfl ?_ | refine ld_nil S rfl ?_ | refine ld_bool S rfl ?_ | refine st_it S (by first | omega | (dsimp only; omega)) fun _ S => ?_ | refine st_it0 S (by first | omega | (dsimp only; omega)) fun _ S => ?_ | refine st_kid S (by first | omega | (dsimp only; omega)) none rfl fun _ S => ?_ | refine st_kid S (by first | omega | (dsimp only; omega)) (some _) rfl fun _ S => ?_ | refine st_kid0 S (by first | omega | (dsimp only; omega)) (some _) rfl fun _ S => ?_ | refine st_store S (lt_ble rfl) fun _ S => ?_ | refine st_allocK S fun _ _ S hold => ?_ | refine st_held S rfl ?_ | refine w_guard (by (first | exact inK64 (by omega) (by omega) | omega | (constructor <;> omega) | ((try dsimp only [Sh.T, Sh1.T]); first | exact inK64 (by omega) (by omega) | omega | exact ⟨by decide, inK64 (by omega) (by omega)⟩ | trivial))) ?_ | refine bd_n rfl ?_ | refine bd_e rfl ?_ | refine bd_r ?_ | refine bd_p ?_ | refine ln_r ?_ | refine ln_e ?_ | refine w_true (b := true) rfl ?_ | refine w_false (b := false) rfl ?_ | (refine w_callT (c_leafp (kp := none) (S.rd rfl)) ?_; rintro _ _ ⟨rfl, rfl⟩) | (refine w_callT (c_leafp (kp := some _) (S.rd rfl)) ?_; rintro _ _ ⟨rfl, rfl⟩) | (refine w_callT (c_leafp (S.rd rfl)) ?_; rintro _ _ ⟨rfl, rfl⟩) | (refine w_callT (c_leaf (kp := none) (S.rd rfl)) ?_; rintro _ _ ⟨rfl, rfl⟩) | (refine w_callT (c_leaf (kp := some _) (S.rd rfl)) ?_; rintro _ _ ⟨rfl, rfl⟩) | refine w_it (by assumption) (by assumption) ?_ | refine w_it0 (by assumption) (by assumption) ?_ | refine h_it hold (by assumption) (by assumption) ?_ | refine w_itV (by assumption) (by assumption) ?_ | refine w_itK (by assumption) (by assumption) ?_ | refine h_itV hold (by assumption) (by assumption) ?_ | refine h_itK hold (by assumption) (by assumption) ?_ | refine w_held (hold _ _ (by assumption)) ?_ | refine w_sl (some _, _, _) (by assumption) ?_ | refine w_ptr (some _) (by assumption) ?_ | refine w_ptr none (by assumption) ?_ | refine w_int _ (by assumption) ?_ | refine w_held (by assumption) ?_ | (refine w_callT (c_leafp (kp := none) (by assumption)) ?_; rintro _ _ ⟨rfl, rfl⟩) | (refine w_callT (c_leafp (kp := some _) (by assumption)) ?_; rintro _ _ ⟨rfl, rfl⟩) | (refine w_callT (c_leaf (kp := none) (by assumption)) ?_; rintro _ _ ⟨rfl, rfl⟩) | (refine w_callT (c_leaf (kp := some _) (by assumption)) ?_; rintro _ _ ⟨rfl, rfl⟩))
      refine st_callF S [.sl (s1, s2, s3), .sl (v1, v2, v3)] (fun G' hG' hsub => c_nodeKeyValues n (s := (s1, s2, s3)) (v := (v1, v2, v3)) (k3.sub hsub) ((hA.all S).sub hsub) hkq hs' hw' (hv.2.2 u hmem).1 hmx (by omega) (by omega) hG') ?_
      rintro _ _ h3 ⟨s', v', rfl, hs', hw', rfl⟩ S
      dsimp only [List.cons_append, List.nil_append] at S
      have e : xs ++ kO (ahead is ts is.length) ++ kO (flatB n u) = xs ++ kO (flatB (n + 1) ((is, ts) : BT KV (n + 1))) := by rw [ah_last hl2 hu, kO_app]; simp
      have e2 : ys ++ vO (ahead is ts is.length) ++ vO (flatB n u) = ys ++ vO (flatB (n + 1) ((is, ts) : BT KV (n + 1))) := by rw [ah_last hl2 hu, vO_app]; simp
      rw [e] at S hs'
      rw [e2] at S hw'
      exact rt_n rfl rfl ⟨_, ⟨s', v', rfl, hs', hw', rfl⟩, S.only [.sl s', .sl v']⟩
theorem c_keyValues {a0 : PA} {iso : Int} {dg : Nat} {l : List KV} {m : Bool} (hl : l.length ≤ 4294967296) {G : PA → Prop} (hG : Star [MpC iso dg a0 l] h G) :
    HT Try.prog fn_mi_keyValues [.c (.addr a0), .c (.bool m)] true [.c .sl, .c .sl] h fun x h' => ∃ post, (∃ s v : SlT, x = (s, v, ()) ∧ OwnL LN s (kO l) ∧ OwnL LN v (vO l) ∧ post = [MpC iso dg a0 l, SlC v LN.sz (LN.flat (vO l)), SlC s LN.sz (LN.flat (kO l))]) ∧ St h G post h' := by
  apply hc_mi_keyValues
  unfold M_mi_keyValues
  have S := St.start hG
  rcases open_map S with ⟨ctr, mn, mx, rfl, hg, S⟩ | ⟨ctr, n, b, t, rfl, hs, hv, hi, hg, S⟩
  · refine w_callT (c_LenF (S.rd rfl)) ?_
    rintro _ _ ⟨rfl, rfl⟩
    have e0 : (madeCells (List.map Cell.val [Cell.int IntKind.i64 0]).toArray (Int.toNat 0 * 1)).toList = LN.flat [] := by simp [madeCells, Lay.flat]
    refine st_make S rfl (by decide) (by decide) (by decide) (by decide) fun p _ S => ?_
    rw [e0] at S
    refine w_callT (c_LenF ((S.at (.ow a0)).rd (j := 3) rfl)) ?_
    rintro _ _ ⟨rfl, rfl⟩
    refine st_make S rfl (by decide) (by decide) (by decide) (by decide) fun p2 _ S => ?_
    rw [e0] at S
    repeat (first | refine w_nonnil ?_ | refine ld_it S (by assumption) ?_ | refine ld_it0 S (by assumption) ?_ | refine ld_val S (by assumption) ?_ | refine ld_key S (by assumption) ?_ | refine ld_int S rfl ?_ | refine w_int _ (S.cnt _) ?_ | refine ld_kid S (by assumption) ?_ | refine ld_kid0 S (by assumption) ?_ | refine ld_some S rfl ?_ | refine ld_ptr S _ rfl ?_ | refine ld_sls S rfl ?_ | refine ld_nil S rfl ?_ | refine ld_bool S rfl ?_ | refine st_it S (by first | omega | (dsimp only; omega)) fun _ S => ?_ | refine st_it0 S (by first | omega | (dsimp only; omega)) fun _ S => ?_ | refine st_kid S (by first | omega | (dsimp only; omega)) none rfl fun _ S => ?_ | refine st_kid S (by first | omega | (dsimp only; omega)) (some _) rfl fun _ S => ?_ | refine st_kid0 S (by first | omega | (dsimp only; omega)) (some _) rfl fun _ S => ?_ | refine st_store S (lt_ble rfl) fun _ S => ?_ | refine st_alloc S fun _ _ S => ?_ | refine st_held S rfl ?_ | refine w_guard (by (first | exact inK64 (by omega) (by omega) | omega | (constructor <;> omega) | ((try dsimp only [Sh.T, Sh1.T]); first | exact inK64 (by omega) (by omega) | omega | exact ⟨by decide, inK64 (by omega) (by omega)⟩ | trivial))) ?_ | refine w_bnd ?_ | refine bd_n rfl ?_ | refine bd_e rfl ?_ | refine bd_r ?_ | refine bd_p ?_ | refine ln_r ?_ | refine ln_e ?_ | refine w_true (b := true) rfl ?_ | refine w_false (b := false) rfl ?_ | (refine w_callT (c_leafp (kp := none) (S.rd rfl)) ?_; rintro _ _ ⟨rfl, rfl⟩) | (refine w_callT (c_leafp (kp := some _) (S.rd rfl)) ?_; rintro _ _ ⟨rfl, rfl⟩) | (refine w_callT (c_leafp (S.rd rfl)) ?_; rintro _ _ ⟨rfl, rfl⟩) | (refine w_callT (c_leaf (kp := none) (S.rd rfl)) ?_; rintro _ _ ⟨rfl, rfl⟩) | (refine w_callT (c_leaf (kp := some _) (S.rd rfl)) ?_; rintro _ _ ⟨rfl, rfl⟩))
    have S := shut_map0 (S.ats [.ow a0]) hg
    exact rt_n rfl rfl ⟨_, ⟨_, _, rfl, ⟨rfl, Nat.le_refl _, .inr rfl⟩, ⟨rfl, Nat.le_refl _, .inr rfl⟩, rfl⟩, S⟩
  · refine w_callT (c_LenF (S.rd rfl)) ?_
    rintro _ _ ⟨rfl, rfl⟩
    rename_i h
    have e0 : (madeCells (List.map Cell.val [Cell.int IntKind.i64 0]).toArray (Int.toNat 0 * 1)).toList = LN.flat [] := by simp [madeCells, Lay.flat]
    refine st_make S rfl (by decide) (by omega) (by omega) (by omega) fun p _ S => ?_
    rw [e0] at S
    refine w_callT (c_LenF ((S.at (.ow a0)).rd (j := 3) rfl)) ?_
    rintro _ _ ⟨rfl, rfl⟩
    rename_i h
    refine st_make S rfl (by decide) (by omega) (by omega) (by omega) fun p2 _ S => ?_
    rw [e0] at S
    repeat (first | refine w_nonnil ?_ | refine ld_it S (by assumption) ?_ | refine ld_it0 S (by assumption) ?_ | refine ld_val S (by assumption) ?_ | refine ld_key S (by assumption) ?_ | refine ld_int S rfl ?_ | refine w_int _ (S.cnt _) ?_ | refine ld_kid S (by assumption) ?_ | refine ld_kid0 S (by assumption) ?_ | refine ld_some S rfl ?_ | refine ld_ptr S _ rfl ?_ | refine ld_sls S rfl ?_ | refine ld_nil S rfl ?_ | refine ld_bool S rfl ?_ | refine st_it S (by first | omega | (dsimp only; omega)) fun _ S => ?_ | refine st_it0 S (by first | omega | (dsimp only; omega)) fun _ S => ?_ | refine st_kid S (by first | omega | (dsimp only; omega)) none rfl fun _ S => ?_ | refine st_kid S (by first | omega | (dsimp only; omega)) (some _) rfl fun _ S => ?_ | refine st_kid0 S (by first | omega | (dsimp only; omega)) (some _) rfl fun _ S => ?_ | refine st_store S (lt_ble rfl) fun _ S => ?_ | refine st_alloc S fun _ _ S => ?_ | refine st_held S rfl ?_ | refine w_guard (by (first | exact inK64 (by omega) (by omega) | omega | (constructor <;> omega) | ((try dsimp only [Sh.T, Sh1.T]); first | exact inK64 (by omega) (by omega) | omega | exact ⟨by decide, inK64 (by omega) (by omega)⟩ | trivial))) ?_ | refine w_bnd ?_ | refine bd_n rfl ?_ | refine bd_e rfl ?_ | refine bd_r ?_ | refine bd_p ?_ | refine ln_r ?_ | refine ln_e ?_ | refine w_true (b := true) rfl ?_ | refine w_false (b := false) rfl ?_ | (refine w_callT (c_leafp (kp := none) (S.rd rfl)) ?_; rintro _ _ ⟨rfl, rfl⟩) | (refine w_callT (c_leafp (kp := some _) (S.rd rfl)) ?_; rintro _ _ ⟨rfl, rfl⟩) | (refine w_callT (c_leafp (S.rd rfl)) ?_; rintro _ _ ⟨rfl, rfl⟩) | (refine w_callT (c_leaf (kp := none) (S.rd rfl)) ?_; rintro _ _ ⟨rfl, rfl⟩) | (refine w_callT (c_leaf (kp := some _) (S.rd rfl)) ?_; rintro _ _ ⟨rfl, rfl⟩))
    obtain ⟨_, hmn, hmb⟩ := hg
    have S := S.ats [.sl (some (p, 0), Int.toNat 0, ((flatB n t).length : Int).toNat), .sl (some (p2, 0), Int.toNat 0, ((flatB n t).length : Int).toNat), .ow a0, .tr b]
    refine st_callB S [.sl (some (p, 0), Int.toNat 0, ((flatB n t).length : Int).toNat), .sl (some (p2, 0), Int.toNat 0, ((flatB n t).length : Int).toNat)] (fun G' hG' hb => c_nodeKeyValues n (s := (some (p, 0), 0, ((flatB n t).length : Int).toNat)) (v := (some (p2, 0), 0, ((flatB n t).length : Int).toNat)) (xs := []) (ys := []) (hb _ (.tail _ (.head _))) (Bes.cell (j := 0) (hb _ (.head _)) rfl) (S.rd rfl) ⟨rfl, Nat.zero_le _, .inr rfl⟩ ⟨rfl, Nat.zero_le _, .inr rfl⟩ hv (by omega) (by simpa using hl) (by simpa using hl) hG') ?_
    rintro _ _ h3 ⟨s', v', rfl, hs', hw', rfl⟩ S
    dsimp only [List.cons_append, List.nil_append] at S
    exact md_n rfl (rt_n rfl rfl ⟨_, ⟨_, _, rfl, hs', hw', rfl⟩, (shut_map (S.ats [.ow a0, .tr b]) rfl rfl hs hv hi ⟨rfl, hmn, hmb⟩).ats [.mp a0, .sl v', .sl s']⟩)
theorem c_KeyValues {a0 : PA} {iso : Int} {dg : Nat} {l : List KV} (hl : l.length ≤ 4294967296) {G : PA → Prop} (hG : Star [MpC iso dg a0 l] h G) :
    HT Try.prog fn_mi_KeyValues [.c (.addr a0)] true [.c .sl, .c .sl] h fun x h' => ∃ post, (∃ s v : SlT, x = (s, v, ()) ∧ OwnL LN s (kO l) ∧ OwnL LN v (vO l) ∧ post = [MpC iso dg a0 l, SlC v LN.sz (LN.flat (vO l)), SlC s LN.sz (LN.flat (kO l))]) ∧ St h G post h' := by
  apply hc_mi_KeyValues
  unfold M_mi_KeyValues
  refine st_callT (St.start hG) [.mp a0] (fun G hG => c_keyValues (m := false) hl hG) ?_
  rintro _ _ h2 ⟨s, v, rfl, hs, hv, rfl⟩ S
  dsimp only [List.cons_append, List.nil_append] at S
  exact rt_n rfl rfl ⟨_, ⟨s, v, rfl, hs, hv, rfl⟩, S⟩
end
end Go.Proofs.Ytkhpbcckaenmcaa.MI
