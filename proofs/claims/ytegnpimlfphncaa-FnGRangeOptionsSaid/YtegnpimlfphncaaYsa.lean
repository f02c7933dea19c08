/-
  The map tg: counts, and a node split. Conditions: none.
-/
import Derived.Test.YtegnpimlfphncaaPgA
import Derived.Test.YtegnpimlfphncaaYma
set_option linter.unusedVariables false
set_option linter.unusedSimpArgs false
set_option linter.unusedSectionVars false
set_option maxRecDepth 100000
namespace Go.Proofs.Ytegnpimlfphncaa.TG
open Go Go.Proofs.Ytegnpimlfphncaa
section
variable {ls : Value} {h : H}
def ksum {ht : Nat} (ts : List (BT KV ht)) : Nat := (ts.map (fun t => (flatB ht t).length)).sum
theorem ksum_len {ht : Nat} {xs : List KV} {ts : List (BT KV ht)} (hl : ts.length = xs.length + 1) : (flatB (ht + 1) ((xs, ts) : BT KV (ht + 1))).length = xs.length + ksum ts := flatB_len hl
theorem ksum_take {ht : Nat} {ts : List (BT KV ht)} {i : Nat} {t : BT KV ht} (h : ts[i]? = some t) : ksum (ts.take (i + 1)) = ksum (ts.take i) + (flatB ht t).length := by
  obtain ⟨h1, h2⟩ := List.getElem?_eq_some_iff.1 h
  unfold ksum
  rw [List.take_succ_eq_append_getElem h1, h2]; simp
theorem ksum_le {ht : Nat} {ts : List (BT KV ht)} (i : Nat) : ksum (ts.take i) + ksum (ts.drop i) = ksum ts := by
  unfold ksum
  rw [← List.sum_append, ← List.map_append, List.take_append_drop]
set_option maxHeartbeats 1000000 in
theorem c_updateNode {b hb : Nat} {iso c0 : Int} {p q : PA} {n m c d ht kk : Nat} {ks : List Nat} {ts : List (BT KV ht)} (hm : m = ks.length) (hmb : m ≤ 4294967296) (hl : ks.length = ts.length) (hbd : n + ksum ts ≤ 4294967296) {G : PA → Prop}
    (hG : Star [Ow (b, 0) [.int .u64 iso, .int .i64 c0, .slice (some p.val) n c, .pointer (some (PA.val (hb, 0)))] 0, Ow (hb, 0) (hdC (some q, m, d)) 0, Ow q (LK.flat (ks.map some)) kk, FoC L iso ht ks ts] h G) :
    HT Try.prog fn_ng_updateCount [.c (.addr (b, 0))] true [] h fun x h' => ∃ post, post = [Ow (b, 0) (nodeC iso (n + ksum ts : Nat) (some p, n, c) (some (hb, 0))) 0, Ow (hb, 0) (hdC (some q, m, d)) 0, Ow q (LK.flat (ks.map some)) kk, FoC L iso ht ks ts] ∧ St h G post h' := by
  apply hc_ng_updateCount
  unfold M_ng_updateCount
  have S := St.start hG
  repeat (first | refine w_nonnil ?_ | refine ld_int S rfl ?_ | refine w_int _ (S.cnt _) ?_ | refine ld_kid S (by assumption) ?_ | refine ld_some S rfl ?_ | refine ld_sls S rfl ?_ | refine st_store S (lt_ble rfl) fun _ S => ?_ | refine w_guard (by (first | exact inK64 (by omega) (by omega) | omega | (constructor <;> omega) | ((try dsimp only [Sh.T, Sh1.T]); first | exact inK64 (by omega) (by omega) | omega | exact ⟨by decide, inK64 (by omega) (by omega)⟩ | trivial))) ?_ | refine bd_n rfl ?_ | refine bd_e rfl ?_ | refine ln_e ?_ | refine w_true (b := true) rfl ?_ | refine w_false (b := false) rfl ?_ | refine w_guard (show noMeths _ _ by show _ = _; kernel_rfl) ?_ | (refine w_callT (c_leafp (kp := none) (S.rd rfl)) ?_; rintro _ _ ⟨rfl, rfl⟩) | (refine w_callT (c_leafp (kp := some _) (S.rd rfl)) ?_; rintro _ _ ⟨rfl, rfl⟩) | (refine w_callT (c_leafp (S.rd rfl)) ?_; rintro _ _ ⟨rfl, rfl⟩) )
  refine w_bnd (w_true rfl (w_bnd ?_))
  refine w_lp (fun r y h' => ∃ i : Nat, y = ((i : Int), ()) ∧ i + r = m ∧ St h G [Ow (b, 0) [.int .u64 iso, .int .i64 ((n + ksum (ts.take i) : Nat) : Int), .slice (some p.val) n c, .pointer (some (PA.val (hb, 0)))] 0,
    Ow (hb, 0) (hdC (some q, m, d)) 0, Ow q (LK.flat (ks.map some)) kk, FoC L iso ht ks ts] h') m rfl ⟨0, rfl, by omega, by rw [List.take_zero]; exact S⟩ ?_
  rintro r _ _ ⟨i, rfl, hi, S⟩
  simp only [Int.toNat_natCast, toNat_succ, toNat_succ2, toNat_pred]
  repeat (first | refine w_nonnil ?_ | refine ld_int S rfl ?_ | refine w_int _ (S.cnt _) ?_ | refine ld_kid S (by assumption) ?_ | refine ld_some S rfl ?_ | refine ld_sls S rfl ?_ | refine st_store S (lt_ble rfl) fun _ S => ?_ | refine w_guard (by (first | exact inK64 (by omega) (by omega) | omega | (constructor <;> omega) | ((try dsimp only [Sh.T, Sh1.T]); first | exact inK64 (by omega) (by omega) | omega | exact ⟨by decide, inK64 (by omega) (by omega)⟩ | trivial))) ?_ | refine bd_n rfl ?_ | refine bd_e rfl ?_ | refine ln_e ?_ | refine w_true (b := true) rfl ?_ | refine w_false (b := false) rfl ?_ | refine w_guard (show noMeths _ _ by show _ = _; kernel_rfl) ?_ | (refine w_callT (c_leafp (kp := none) (S.rd rfl)) ?_; rintro _ _ ⟨rfl, rfl⟩) | (refine w_callT (c_leafp (kp := some _) (S.rd rfl)) ?_; rintro _ _ ⟨rfl, rfl⟩) | (refine w_callT (c_leafp (S.rd rfl)) ?_; rintro _ _ ⟨rfl, rfl⟩) )
  by_cases hlt : i < m
  · refine w_true (by simpa using hlt) ?_
    obtain ⟨KB, kid, KD, hke, hKB⟩ := split_at (xs := ks) (j := i) (by omega)
    obtain ⟨B, u, D, hte, hB⟩ := split_at (xs := ts) (j := i) (by omega)
    have hkid : (ks.map some)[i]? = some (some kid) := by rw [List.getElem?_map, hke, get_mid hKB]; rfl
    have hst := ksum_take (ts := ts) (i := i) (t := u) (by rw [hte, get_mid hB])
    have hle := ksum_le (ts := ts) (i + 1)
    have S := fo_uncons L iso (fo_split L iso (by omega) (fo_re L iso (S.at (.fo ks)) hke hte)).pull1
    repeat (first | refine w_nonnil ?_ | refine ld_int S rfl ?_ | refine w_int _ (S.cnt _) ?_ | refine ld_kid S (by assumption) ?_ | refine ld_some S rfl ?_ | refine ld_sls S rfl ?_ | refine st_store S (lt_ble rfl) fun _ S => ?_ | refine w_guard (by (first | exact inK64 (by omega) (by omega) | omega | (constructor <;> omega) | ((try dsimp only [Sh.T, Sh1.T]); first | exact inK64 (by omega) (by omega) | omega | exact ⟨by decide, inK64 (by omega) (by omega)⟩ | trivial))) ?_ | refine bd_n rfl ?_ | refine bd_e rfl ?_ | refine ln_e ?_ | refine w_true (b := true) rfl ?_ | refine w_false (b := false) rfl ?_ | refine w_guard (show noMeths _ _ by show _ = _; kernel_rfl) ?_ | (refine w_callT (c_leafp (kp := none) (S.rd rfl)) ?_; rintro _ _ ⟨rfl, rfl⟩) | (refine w_callT (c_leafp (kp := some _) (S.rd rfl)) ?_; rintro _ _ ⟨rfl, rfl⟩) | (refine w_callT (c_leafp (S.rd rfl)) ?_; rintro _ _ ⟨rfl, rfl⟩) )
    have S := fo_app L iso ((fo_cons L iso (S.ats [.tr kid, .fo KD])).ats [.fo KB, .fo (kid :: KD)])
    have S := fo_re L iso S hke.symm hte.symm
    refine ln_n rfl (r - 1) ⟨i + 1, rfl, by omega, ?_⟩ (by omega)
    rw [hst, ← Nat.add_assoc]
    exact S.ats [.ow (b, 0), .ow (hb, 0), .ow q, .fo ks]
  · refine w_false (by simpa using hlt) (ln_e ?_)
    repeat (first | refine w_nonnil ?_ | refine ld_int S rfl ?_ | refine w_int _ (S.cnt _) ?_ | refine ld_kid S (by assumption) ?_ | refine ld_some S rfl ?_ | refine ld_sls S rfl ?_ | refine st_store S (lt_ble rfl) fun _ S => ?_ | refine w_guard (by (first | exact inK64 (by omega) (by omega) | omega | (constructor <;> omega) | ((try dsimp only [Sh.T, Sh1.T]); first | exact inK64 (by omega) (by omega) | omega | exact ⟨by decide, inK64 (by omega) (by omega)⟩ | trivial))) ?_ | refine w_bnd ?_ | refine bd_n rfl ?_ | refine bd_e rfl ?_ | refine ln_e ?_ | refine w_true (b := true) rfl ?_ | refine w_false (b := false) rfl ?_ | refine w_guard (show noMeths _ _ by show _ = _; kernel_rfl) ?_ | (refine w_callT (c_leafp (kp := none) (S.rd rfl)) ?_; rintro _ _ ⟨rfl, rfl⟩) | (refine w_callT (c_leafp (kp := some _) (S.rd rfl)) ?_; rintro _ _ ⟨rfl, rfl⟩) | (refine w_callT (c_leafp (S.rd rfl)) ?_; rintro _ _ ⟨rfl, rfl⟩) )
    refine rt_n rfl rfl ⟨_, rfl, ?_⟩
    rw [List.take_of_length_le (by omega)] at S
    exact S
theorem mid_of {mx : Nat} : ((mx : Int).tdiv 2) = ((mx / 2 : Nat) : Int) := by rw [Int.tdiv_eq_ediv_of_nonneg (by omega)]; omega
set_option maxHeartbeats 1000000 in
theorem c_splitLeaf {a0 : PA} {b mn mx : Nat} {iso cnt : Int} {ctr root : Option PA} {cv icv : Bool} {xs : List KV} (hl : xs.length = mx) (h3 : 3 ≤ mx) (hm : mx ≤ 255) {k : KV} (hk : xs[mx / 2]? = some k) {G : PA → Prop}
    (hG : Star [Ow a0 (mapC ls iso ctr root cnt mn mx cv icv) 0, TrC L iso 0 b xs] h G) :
    HT Try.prog fn_tg_nodeSplit [.c (.addr a0), .c (.addr (b, 0))] true [.c .ptr, .agg [.int .i64, .int .i64]] h fun x h' => ∃ post, (∃ r, x = (some (r, 0), (k.1, k.2, ()), ()) ∧
      post = [Ow a0 (mapC ls iso ctr root cnt mn mx cv icv) 0, TrC L iso 0 b (cutL 0 xs (mx / 2)), TrC L iso 0 r (cutR 0 xs (mx / 2))]) ∧ St h G post h' := by
  apply hc_tg_nodeSplit
  unfold M_tg_nodeSplit
  obtain ⟨p, c, hc, S⟩ := open_leaf L iso ((St.start hG).at (.tr b))
  simp only [itemsB, hl] at hc S
  have hmid : mx / 2 < mx := by omega
  have hmo := @mid_of mx
  generalize hmd : mx / 2 = mid at *
  refine st_alloc S fun n0 _ S => ?_
  repeat (first | refine w_nonnil ?_ | refine ld_it S (by assumption) ?_ | refine ld_int S rfl ?_ | refine ld_sls S rfl ?_ | refine st_it S (by first | omega | (dsimp only; omega)) fun _ S => ?_ | refine st_store S (lt_ble rfl) fun _ S => ?_ | refine st_alloc S fun _ _ S => ?_ | refine w_guard (by (first | exact inK64 (by omega) (by omega) | omega | (constructor <;> omega) | ((try dsimp only [Sh.T, Sh1.T]); first | exact inK64 (by omega) (by omega) | omega | exact ⟨by decide, inK64 (by omega) (by omega)⟩ | trivial))) ?_ | refine bd_n rfl ?_ | refine w_false (b := false) rfl ?_ | refine w_guard (show noMeths _ _ by show _ = _; kernel_rfl) ?_ | (refine w_callT (c_leafp (kp := none) (S.rd rfl)) ?_; rintro _ _ ⟨rfl, rfl⟩) | (refine w_callT (c_leafp (kp := some _) (S.rd rfl)) ?_; rintro _ _ ⟨rfl, rfl⟩) | (refine w_callT (c_leafp (S.rd rfl)) ?_; rintro _ _ ⟨rfl, rfl⟩) )
  simp only [hmo, Int.toNat_natCast, toNat_succ]
  repeat (first | refine w_nonnil ?_ | refine ld_it S (by assumption) ?_ | refine ld_int S rfl ?_ | refine ld_sls S rfl ?_ | refine st_it S (by first | omega | (dsimp only; omega)) fun _ S => ?_ | refine st_store S (lt_ble rfl) fun _ S => ?_ | refine st_alloc S fun _ _ S => ?_ | refine w_guard (by (first | exact inK64 (by omega) (by omega) | omega | (constructor <;> omega) | ((try dsimp only [Sh.T, Sh1.T]); first | exact inK64 (by omega) (by omega) | omega | exact ⟨by decide, inK64 (by omega) (by omega)⟩ | trivial))) ?_ | refine bd_n rfl ?_ | refine w_false (b := false) rfl ?_ | refine w_guard (show noMeths _ _ by show _ = _; kernel_rfl) ?_ | (refine w_callT (c_leafp (kp := none) (S.rd rfl)) ?_; rintro _ _ ⟨rfl, rfl⟩) | (refine w_callT (c_leafp (kp := some _) (S.rd rfl)) ?_; rintro _ _ ⟨rfl, rfl⟩) | (refine w_callT (c_leafp (S.rd rfl)) ?_; rintro _ _ ⟨rfl, rfl⟩) )
  refine st_callT S [] (fun G hG => c_newLeaf (S.rd rfl) hG) ?_
  rintro _ _ _ ⟨r, rfl, rfl⟩ S
  dsimp only [List.cons_append, List.nil_append] at S
  repeat (first | refine w_nonnil ?_ | refine ld_it S (by assumption) ?_ | refine ld_int S rfl ?_ | refine ld_sls S rfl ?_ | refine st_it S (by first | omega | (dsimp only; omega)) fun _ S => ?_ | refine st_store S (lt_ble rfl) fun _ S => ?_ | refine st_alloc S fun _ _ S => ?_ | refine w_guard (by (first | exact inK64 (by omega) (by omega) | omega | (constructor <;> omega) | ((try dsimp only [Sh.T, Sh1.T]); first | exact inK64 (by omega) (by omega) | omega | exact ⟨by decide, inK64 (by omega) (by omega)⟩ | trivial))) ?_ | refine w_bnd ?_ | refine bd_n rfl ?_ | refine w_false (b := false) rfl ?_ | refine w_guard (show noMeths _ _ by show _ = _; kernel_rfl) ?_ | (refine w_callT (c_leafp (kp := none) (S.rd rfl)) ?_; rintro _ _ ⟨rfl, rfl⟩) | (refine w_callT (c_leafp (kp := some _) (S.rd rfl)) ?_; rintro _ _ ⟨rfl, rfl⟩) | (refine w_callT (c_leafp (S.rd rfl)) ?_; rintro _ _ ⟨rfl, rfl⟩) )
  refine st_callV S [.ow (r, 0)] (args' := [.c (.addr (r, 0))]) rfl (fun G hG => c_updateLeaf (p := (p.1, p.2 + (mid + 1) * 2)) (n := mx - (mid + 1)) (c := c - (mid + 1)) (by simpa [slBase_in (show mid + 1 < c by omega), nodeC, Cell.val] using hG) ) ?_
  rintro _ _ _ rfl S
  dsimp only [List.cons_append, List.nil_append] at S
  repeat (first | refine w_nonnil ?_ | refine ld_it S (by assumption) ?_ | refine ld_int S rfl ?_ | refine ld_sls S rfl ?_ | refine st_it S (by first | omega | (dsimp only; omega)) fun _ S => ?_ | refine st_store S (lt_ble rfl) fun _ S => ?_ | refine st_alloc S fun _ _ S => ?_ | refine w_guard (by (first | exact inK64 (by omega) (by omega) | omega | (constructor <;> omega) | ((try dsimp only [Sh.T, Sh1.T]); first | exact inK64 (by omega) (by omega) | omega | exact ⟨by decide, inK64 (by omega) (by omega)⟩ | trivial))) ?_ | refine bd_n rfl ?_ | refine w_false (b := false) rfl ?_ | refine w_guard (show noMeths _ _ by show _ = _; kernel_rfl) ?_ | (refine w_callT (c_leafp (kp := none) (S.rd rfl)) ?_; rintro _ _ ⟨rfl, rfl⟩) | (refine w_callT (c_leafp (kp := some _) (S.rd rfl)) ?_; rintro _ _ ⟨rfl, rfl⟩) | (refine w_callT (c_leafp (S.rd rfl)) ?_; rintro _ _ ⟨rfl, rfl⟩) )
  refine w_bnd (w_false rfl ?_)
  repeat (first | refine w_nonnil ?_ | refine ld_it S (by assumption) ?_ | refine ld_int S rfl ?_ | refine ld_sls S rfl ?_ | refine st_it S (by first | omega | (dsimp only; omega)) fun _ S => ?_ | refine st_store S (lt_ble rfl) fun _ S => ?_ | refine st_alloc S fun _ _ S => ?_ | refine w_guard (by (first | exact inK64 (by omega) (by omega) | omega | (constructor <;> omega) | ((try dsimp only [Sh.T, Sh1.T]); first | exact inK64 (by omega) (by omega) | omega | exact ⟨by decide, inK64 (by omega) (by omega)⟩ | trivial))) ?_ | refine bd_n rfl ?_ | refine w_false (b := false) rfl ?_ | refine w_guard (show noMeths _ _ by show _ = _; kernel_rfl) ?_ | (refine w_callT (c_leafp (kp := none) (S.rd rfl)) ?_; rintro _ _ ⟨rfl, rfl⟩) | (refine w_callT (c_leafp (kp := some _) (S.rd rfl)) ?_; rintro _ _ ⟨rfl, rfl⟩) | (refine w_callT (c_leafp (S.rd rfl)) ?_; rintro _ _ ⟨rfl, rfl⟩) )
  refine st_callV S [.ow (b, 0)] (args' := [.c (.addr (b, 0))]) rfl (fun G hG => c_updateLeaf (p := p) (n := mid) (c := mid) (by simpa [slBase_zero, nodeC, Cell.val] using hG)) ?_
  rintro _ _ _ rfl S
  dsimp only [List.cons_append, List.nil_append] at S
  repeat (first | refine w_nonnil ?_ | refine ld_it S (by assumption) ?_ | refine ld_int S rfl ?_ | refine ld_sls S rfl ?_ | refine st_it S (by first | omega | (dsimp only; omega)) fun _ S => ?_ | refine st_store S (lt_ble rfl) fun _ S => ?_ | refine st_alloc S fun _ _ S => ?_ | refine w_guard (by (first | exact inK64 (by omega) (by omega) | omega | (constructor <;> omega) | ((try dsimp only [Sh.T, Sh1.T]); first | exact inK64 (by omega) (by omega) | omega | exact ⟨by decide, inK64 (by omega) (by omega)⟩ | trivial))) ?_ | refine bd_n rfl ?_ | refine w_false (b := false) rfl ?_ | refine w_guard (show noMeths _ _ by show _ = _; kernel_rfl) ?_ | (refine w_callT (c_leafp (kp := none) (S.rd rfl)) ?_; rintro _ _ ⟨rfl, rfl⟩) | (refine w_callT (c_leafp (kp := some _) (S.rd rfl)) ?_; rintro _ _ ⟨rfl, rfl⟩) | (refine w_callT (c_leafp (S.rd rfl)) ?_; rintro _ _ ⟨rfl, rfl⟩) )
  have e2 : xs.set mid (0, 0) = xs.take mid ++ (0, 0) :: xs.drop (mid + 1) := by rw [List.set_eq_take_append_cons_drop, if_pos (by omega)]
  have S := ((S.at (.ow p)).re p (L.flat (xs.take mid) ++ (L.flat [(0, 0)] ++ L.flat (xs.drop (mid + 1)))) _ rfl (by rw [← L.flat_append, ← L.flat_append, e2]; rfl) rfl).cut.pull1.cut.drop
  have S := S.re (p.1, p.2 + (mid + 1) * 2) (L.flat (xs.drop (mid + 1))) ((c - (mid + 1) - (mx - (mid + 1))) * L.sz) (pa_eq rfl (by
    rw [L.flat_length, L.flat_length, List.length_take, Nat.min_eq_left (by omega)]
    show p.2 + mid * 2 + 1 * 2 = p.2 + (mid + 1) * 2
    omega)) rfl (by congr 1; omega)
  have S := shut_leaf L iso (xs := xs.drop (mid + 1)) (S.ats [.ow (r, 0), .ow (p.1, p.2 + (mid + 1) * 2)]) rfl rfl (by rw [List.length_drop, hl]) rfl (by omega) rfl
  have S := shut_leaf L iso (xs := xs.take mid) (S.ats [.ow (b, 0), .ow p]) rfl rfl (by rw [List.length_take]; omega) rfl (Nat.le_refl _) (by simp)
  refine rt_n rfl rfl ⟨_, ⟨r, rfl, rfl⟩, ?_⟩
  exact S.only [.ow a0, .tr b, .tr r]
set_option maxHeartbeats 1000000 in
theorem c_splitNode {ht : Nat} {a0 : PA} {b mn mx : Nat} {iso cnt : Int} {ctr root : Option PA} {cv icv : Bool} {t : BT KV (ht + 1)} (hl : t.1.length = mx) (hts : t.2.length = t.1.length + 1) (hfl : (flatB (ht + 1) t).length ≤ 4294967296)
    (h3 : 3 ≤ mx) (hm : mx ≤ 255) {k : KV} (hk : t.1[mx / 2]? = some k) {G : PA → Prop}
    (hG : Star [Ow a0 (mapC ls iso ctr root cnt mn mx cv icv) 0, TrC L iso (ht + 1) b t] h G) :
    HT Try.prog fn_tg_nodeSplit [.c (.addr a0), .c (.addr (b, 0))] true [.c .ptr, .agg [.int .i64, .int .i64]] h fun x h' => ∃ post, (∃ r, x = (some (r, 0), (k.1, k.2, ()), ()) ∧
      post = [Ow a0 (mapC ls iso ctr root cnt mn mx cv icv) 0, TrC L iso (ht + 1) b (cutL (ht + 1) t (mx / 2)), TrC L iso (ht + 1) r (cutR (ht + 1) t (mx / 2))]) ∧ St h G post h' := by
  apply hc_tg_nodeSplit
  unfold M_tg_nodeSplit
  obtain ⟨xs, ts⟩ := t
  dsimp only at hl hts hk
  obtain ⟨p, c, q, d, hb, ks, hc, hkd, hkl, S⟩ := open_node L iso ((St.start hG).at (.tr b))
  simp only [hl] at hc S
  dsimp only at hkl
  rw [← LK_flat] at S
  have hflat := ksum_len (xs := xs) (ts := ts) hts
  have hmid : mx / 2 < mx := by omega
  have hmo := @mid_of mx
  generalize hmd : mx / 2 = mid at *
  have hks := ksum_le (ts := ts) (mid + 1)
  obtain ⟨m2, hm2⟩ : ∃ m2, m2 = ks.length := ⟨_, rfl⟩
  rw [← hm2] at S hkd hkl
  have hktl : (ks.take (mid + 1)).length = mid + 1 := by rw [List.length_take]; omega
  have hkdl : (ks.drop (mid + 1)).length = m2 - (mid + 1) := by rw [List.length_drop]; omega
  refine st_alloc S fun n0 _ S => ?_
  repeat (first | refine w_nonnil ?_ | refine ld_it S (by assumption) ?_ | refine ld_int S rfl ?_ | refine ld_some S rfl ?_ | refine ld_sls S rfl ?_ | refine st_it S (by first | omega | (dsimp only; omega)) fun _ S => ?_ | refine st_store S (lt_ble rfl) fun _ S => ?_ | refine st_alloc S fun _ _ S => ?_ | refine w_guard (by (first | exact inK64 (by omega) (by omega) | omega | (constructor <;> omega) | ((try dsimp only [Sh.T, Sh1.T]); first | exact inK64 (by omega) (by omega) | omega | exact ⟨by decide, inK64 (by omega) (by omega)⟩ | trivial))) ?_ | refine bd_n rfl ?_ | refine w_true (b := true) rfl ?_ | refine w_guard (show noMeths _ _ by show _ = _; kernel_rfl) ?_ | (refine w_callT (c_leafp (kp := none) (S.rd rfl)) ?_; rintro _ _ ⟨rfl, rfl⟩) | (refine w_callT (c_leafp (kp := some _) (S.rd rfl)) ?_; rintro _ _ ⟨rfl, rfl⟩) | (refine w_callT (c_leafp (S.rd rfl)) ?_; rintro _ _ ⟨rfl, rfl⟩) )
  simp only [hmo, Int.toNat_natCast, toNat_succ]
  repeat (first | refine w_nonnil ?_ | refine ld_it S (by assumption) ?_ | refine ld_int S rfl ?_ | refine ld_some S rfl ?_ | refine ld_sls S rfl ?_ | refine st_it S (by first | omega | (dsimp only; omega)) fun _ S => ?_ | refine st_store S (lt_ble rfl) fun _ S => ?_ | refine st_alloc S fun _ _ S => ?_ | refine w_guard (by (first | exact inK64 (by omega) (by omega) | omega | (constructor <;> omega) | ((try dsimp only [Sh.T, Sh1.T]); first | exact inK64 (by omega) (by omega) | omega | exact ⟨by decide, inK64 (by omega) (by omega)⟩ | trivial))) ?_ | refine bd_n rfl ?_ | refine w_true (b := true) rfl ?_ | refine w_guard (show noMeths _ _ by show _ = _; kernel_rfl) ?_ | (refine w_callT (c_leafp (kp := none) (S.rd rfl)) ?_; rintro _ _ ⟨rfl, rfl⟩) | (refine w_callT (c_leafp (kp := some _) (S.rd rfl)) ?_; rintro _ _ ⟨rfl, rfl⟩) | (refine w_callT (c_leafp (S.rd rfl)) ?_; rintro _ _ ⟨rfl, rfl⟩) )
  refine st_callT S [] (fun G hG => c_newBranch (S.rd rfl) hG) ?_
  rintro _ _ _ ⟨r, m, rfl, rfl⟩ S
  dsimp only [List.cons_append, List.nil_append] at S
  repeat (first | refine w_nonnil ?_ | refine ld_it S (by assumption) ?_ | refine ld_int S rfl ?_ | refine ld_some S rfl ?_ | refine ld_sls S rfl ?_ | refine st_it S (by first | omega | (dsimp only; omega)) fun _ S => ?_ | refine st_store S (lt_ble rfl) fun _ S => ?_ | refine st_alloc S fun _ _ S => ?_ | refine w_guard (by (first | exact inK64 (by omega) (by omega) | omega | (constructor <;> omega) | ((try dsimp only [Sh.T, Sh1.T]); first | exact inK64 (by omega) (by omega) | omega | exact ⟨by decide, inK64 (by omega) (by omega)⟩ | trivial))) ?_ | refine bd_n rfl ?_ | refine w_true (b := true) rfl ?_ | refine w_guard (show noMeths _ _ by show _ = _; kernel_rfl) ?_ | (refine w_callT (c_leafp (kp := none) (S.rd rfl)) ?_; rintro _ _ ⟨rfl, rfl⟩) | (refine w_callT (c_leafp (kp := some _) (S.rd rfl)) ?_; rintro _ _ ⟨rfl, rfl⟩) | (refine w_callT (c_leafp (S.rd rfl)) ?_; rintro _ _ ⟨rfl, rfl⟩) )
  refine w_bnd (w_true rfl ?_)
  repeat (first | refine w_nonnil ?_ | refine ld_it S (by assumption) ?_ | refine ld_int S rfl ?_ | refine ld_some S rfl ?_ | refine ld_sls S rfl ?_ | refine st_it S (by first | omega | (dsimp only; omega)) fun _ S => ?_ | refine st_store S (lt_ble rfl) fun _ S => ?_ | refine st_alloc S fun _ _ S => ?_ | refine w_guard (by (first | exact inK64 (by omega) (by omega) | omega | (constructor <;> omega) | ((try dsimp only [Sh.T, Sh1.T]); first | exact inK64 (by omega) (by omega) | omega | exact ⟨by decide, inK64 (by omega) (by omega)⟩ | trivial))) ?_ | refine bd_n rfl ?_ | refine w_true (b := true) rfl ?_ | refine w_guard (show noMeths _ _ by show _ = _; kernel_rfl) ?_ | (refine w_callT (c_leafp (kp := none) (S.rd rfl)) ?_; rintro _ _ ⟨rfl, rfl⟩) | (refine w_callT (c_leafp (kp := some _) (S.rd rfl)) ?_; rintro _ _ ⟨rfl, rfl⟩) | (refine w_callT (c_leafp (S.rd rfl)) ?_; rintro _ _ ⟨rfl, rfl⟩) )
  -- the children's array, and the children, cut in two
  have S := fo_split L iso (ks := ks.take (mid + 1)) (ls := ks.drop (mid + 1)) (ts := ts.take (mid + 1)) (us := ts.drop (mid + 1)) (by simp; omega) (fo_re L iso (S.at (.fo ks)) (List.take_append_drop _ _).symm (List.take_append_drop _ _).symm)
  have S := ((S.at (.ow q)).re q (LK.flat ((ks.take (mid + 1)).map some) ++ LK.flat ((ks.drop (mid + 1)).map some)) _ rfl (by rw [← LK.flat_append, ← List.map_append, List.take_append_drop]) rfl).cut
  have S := S.pull1.re (q.1, q.2 + (mid + 1) * 1) _ _ (pa_eq rfl (by rw [LK.flat_length, List.length_map, hktl]; rfl)) rfl rfl
  refine st_callV S [.ow (r, 0), .ow (m, 0), .ow (q.1, q.2 + (mid + 1) * 1), .fo (ks.drop (mid + 1))] (args' := [.c (.addr (r, 0))]) rfl (fun G hG => c_updateNode (ks := ks.drop (mid + 1)) (ts := ts.drop (mid + 1)) (p := (p.1, p.2 + (mid + 1) * 2)) (n := mx - (mid + 1)) (c := c - (mid + 1)) (q := (q.1, q.2 + (mid + 1) * 1)) (m := m2 - (mid + 1)) (d := d - (mid + 1)) hkdl.symm (by omega) (by simp; omega) (by omega) (by simpa [slBase_in (show mid + 1 < c by omega), slBase_in (show mid + 1 < d by omega), nodeC, hdC, Cell.val] using hG)) ?_
  rintro _ _ _ rfl S
  dsimp only [List.cons_append, List.nil_append] at S
  repeat (first | refine w_nonnil ?_ | refine ld_it S (by assumption) ?_ | refine ld_int S rfl ?_ | refine ld_some S rfl ?_ | refine ld_sls S rfl ?_ | refine st_it S (by first | omega | (dsimp only; omega)) fun _ S => ?_ | refine st_store S (lt_ble rfl) fun _ S => ?_ | refine st_alloc S fun _ _ S => ?_ | refine w_guard (by (first | exact inK64 (by omega) (by omega) | omega | (constructor <;> omega) | ((try dsimp only [Sh.T, Sh1.T]); first | exact inK64 (by omega) (by omega) | omega | exact ⟨by decide, inK64 (by omega) (by omega)⟩ | trivial))) ?_ | refine bd_n rfl ?_ | refine w_true (b := true) rfl ?_ | refine w_guard (show noMeths _ _ by show _ = _; kernel_rfl) ?_ | (refine w_callT (c_leafp (kp := none) (S.rd rfl)) ?_; rintro _ _ ⟨rfl, rfl⟩) | (refine w_callT (c_leafp (kp := some _) (S.rd rfl)) ?_; rintro _ _ ⟨rfl, rfl⟩) | (refine w_callT (c_leafp (S.rd rfl)) ?_; rintro _ _ ⟨rfl, rfl⟩) )
  refine w_bnd (w_true rfl ?_)
  repeat (first | refine w_nonnil ?_ | refine ld_it S (by assumption) ?_ | refine ld_int S rfl ?_ | refine ld_some S rfl ?_ | refine ld_sls S rfl ?_ | refine st_it S (by first | omega | (dsimp only; omega)) fun _ S => ?_ | refine st_store S (lt_ble rfl) fun _ S => ?_ | refine st_alloc S fun _ _ S => ?_ | refine w_guard (by (first | exact inK64 (by omega) (by omega) | omega | (constructor <;> omega) | ((try dsimp only [Sh.T, Sh1.T]); first | exact inK64 (by omega) (by omega) | omega | exact ⟨by decide, inK64 (by omega) (by omega)⟩ | trivial))) ?_ | refine bd_n rfl ?_ | refine w_true (b := true) rfl ?_ | refine w_guard (show noMeths _ _ by show _ = _; kernel_rfl) ?_ | (refine w_callT (c_leafp (kp := none) (S.rd rfl)) ?_; rintro _ _ ⟨rfl, rfl⟩) | (refine w_callT (c_leafp (kp := some _) (S.rd rfl)) ?_; rintro _ _ ⟨rfl, rfl⟩) | (refine w_callT (c_leafp (S.rd rfl)) ?_; rintro _ _ ⟨rfl, rfl⟩) )
  refine st_callV S [.ow (b, 0), .ow (hb, 0), .ow q, .fo (ks.take (mid + 1))] (args' := [.c (.addr (b, 0))]) rfl (fun G hG => c_updateNode (ks := ks.take (mid + 1)) (ts := ts.take (mid + 1)) (p := p) (n := mid) (c := mid) (q := q) (m := mid + 1) (d := mid + 1) hktl.symm (by omega) (by simp; omega) (by omega) (by simpa [slBase_zero, nodeC, hdC, Cell.val] using hG)) ?_
  rintro _ _ _ rfl S
  dsimp only [List.cons_append, List.nil_append] at S
  repeat (first | refine w_nonnil ?_ | refine ld_it S (by assumption) ?_ | refine ld_int S rfl ?_ | refine ld_some S rfl ?_ | refine ld_sls S rfl ?_ | refine st_it S (by first | omega | (dsimp only; omega)) fun _ S => ?_ | refine st_store S (lt_ble rfl) fun _ S => ?_ | refine st_alloc S fun _ _ S => ?_ | refine w_guard (by (first | exact inK64 (by omega) (by omega) | omega | (constructor <;> omega) | ((try dsimp only [Sh.T, Sh1.T]); first | exact inK64 (by omega) (by omega) | omega | exact ⟨by decide, inK64 (by omega) (by omega)⟩ | trivial))) ?_ | refine bd_n rfl ?_ | refine w_true (b := true) rfl ?_ | refine w_guard (show noMeths _ _ by show _ = _; kernel_rfl) ?_ | (refine w_callT (c_leafp (kp := none) (S.rd rfl)) ?_; rintro _ _ ⟨rfl, rfl⟩) | (refine w_callT (c_leafp (kp := some _) (S.rd rfl)) ?_; rintro _ _ ⟨rfl, rfl⟩) | (refine w_callT (c_leafp (S.rd rfl)) ?_; rintro _ _ ⟨rfl, rfl⟩) )
  have hD : (flatB (ht + 1) ((xs.drop (mid + 1), ts.drop (mid + 1)) : BT KV (ht + 1))).length = (mx - (mid + 1)) + ksum (ts.drop (mid + 1)) := by
    rw [ksum_len (by simp; omega), List.length_drop, hl]
  have hT : (flatB (ht + 1) ((xs.take mid, ts.take (mid + 1)) : BT KV (ht + 1))).length = mid + ksum (ts.take (mid + 1)) := by
    rw [ksum_len (by simp; omega), List.length_take, Nat.min_eq_left (by omega)]
  have e2 : xs.set mid (0, 0) = xs.take mid ++ (0, 0) :: xs.drop (mid + 1) := by rw [List.set_eq_take_append_cons_drop, if_pos (by omega)]
  have S := ((S.at (.ow p)).re p (L.flat (xs.take mid) ++ (L.flat [(0, 0)] ++ L.flat (xs.drop (mid + 1)))) _ rfl (by rw [← L.flat_append, ← L.flat_append, e2]; rfl) rfl).cut.pull1.cut.drop
  have S := S.re (p.1, p.2 + (mid + 1) * 2) (L.flat (xs.drop (mid + 1))) ((c - (mid + 1) - (mx - (mid + 1))) * L.sz) (pa_eq rfl (by
    rw [L.flat_length, L.flat_length, List.length_take, Nat.min_eq_left (by omega)]
    show p.2 + mid * 2 + 1 * 2 = p.2 + (mid + 1) * 2
    omega)) rfl (by congr 1; omega)
  rw [LK_flat] at S
  rw [LK_flat] at S
  have S := shut_node L iso (xs := xs.drop (mid + 1)) (ts := ts.drop (mid + 1)) (S.ats [.ow (r, 0), .ow (p.1, p.2 + (mid + 1) * 2), .ow (m, 0), .ow (q.1, q.2 + (mid + 1) * 1), .fo (ks.drop (mid + 1))]) rfl rfl rfl rfl (by rw [List.length_drop, hl]) hkdl.symm hD.symm (by omega) rfl (by omega) (by omega)
  have S := shut_node L iso (xs := xs.take mid) (ts := ts.take (mid + 1)) (S.ats [.ow (b, 0), .ow p, .ow (hb, 0), .ow q, .fo (ks.take (mid + 1))]) rfl rfl rfl rfl (by rw [List.length_take]; omega) (by rw [List.length_take]; omega) hT.symm (Nat.le_refl _) (by simp) (by omega) (by omega)
  refine rt_n rfl rfl ⟨_, ⟨r, rfl, rfl⟩, S.only [.ow a0, .tr b, .tr r]⟩
theorem c_split {ht : Nat} {a0 : PA} {b mn mx : Nat} {iso cnt : Int} {ctr root : Option PA} {cv icv : Bool} {t : BT KV ht} (hl : (itemsB ht t).length = mx) (hv : Val mn mx ht t) (hfl : (flatB ht t).length ≤ 4294967296)
    (h3 : 3 ≤ mx) (hm : mx ≤ 255) {k : KV} (hk : (itemsB ht t)[mx / 2]? = some k) {G : PA → Prop}
    (hG : Star [Ow a0 (mapC ls iso ctr root cnt mn mx cv icv) 0, TrC L iso ht b t] h G) :
    HT Try.prog fn_tg_nodeSplit [.c (.addr a0), .c (.addr (b, 0))] true [.c .ptr, .agg [.int .i64, .int .i64]] h fun x h' => ∃ post, (∃ r, x = (some (r, 0), (k.1, k.2, ()), ()) ∧
      post = [Ow a0 (mapC ls iso ctr root cnt mn mx cv icv) 0, TrC L iso ht b (cutL ht t (mx / 2)), TrC L iso ht r (cutR ht t (mx / 2))]) ∧ St h G post h' := by
  cases ht with
  | zero => exact c_splitLeaf hl h3 hm hk hG
  | succ ht => exact c_splitNode hl hv.2.1 hfl h3 hm hk hG
end
end Go.Proofs.Ytegnpimlfphncaa.TG
