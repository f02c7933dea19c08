/-
  The map ms: Height. Conditions: none.
-/
import Derived.Test.YtpbmahnieepmiaaPgR
import Derived.Test.YtpbmahnieepmiaaSdms
set_option linter.unusedVariables false
set_option linter.unusedSimpArgs false
set_option linter.unusedSectionVars false
set_option maxRecDepth 100000
namespace Go.Proofs.Ytpbmahnieepmiaa.MS
open Go Go.Proofs.Ytpbmahnieepmiaa
section
variable {h h0 : H} {G0 : PA → Prop}
theorem ht_num {mn mx : Nat} (h1 : 1 ≤ mn) : ∀ (n : Nat) (t : BT KV n), Val mn mx n t → 1 ≤ (itemsB n t).length → 2 ^ (n + 1) ≤ (flatB n t).length + 1 ∧ (flatB n t).length + 1 ≤ (mx + 1) ^ (n + 1)
  | 0, t, hv, hi => by
    have h2 : (itemsB 0 t).length ≤ mx := hv
    have h3 : (flatB 0 t).length = (itemsB 0 t).length := rfl
    simp; omega
  | n + 1, (xs, ts), hv, hi => by
    have hl : ts.length = xs.length + 1 := hv.2.1
    have hx : xs.length ≤ mx := hv.1
    have hi : 1 ≤ xs.length := hi
    have key : ∀ (us : List (BT KV n)), (∀ u ∈ us, Val mn mx n u ∧ mn ≤ (itemsB n u).length) → us.length * 2 ^ (n + 1) ≤ (us.map fun u => (flatB n u).length).sum + us.length ∧ (us.map fun u => (flatB n u).length).sum + us.length ≤ us.length * (mx + 1) ^ (n + 1) := by
      intro us
      induction us with
      | nil => intro _; simp
      | cons u us ih =>
        intro hu
        obtain ⟨g1, g2⟩ := ih fun w hw => hu w (by simp [hw])
        have hu1 := hu u (by simp)
        obtain ⟨g3, g4⟩ := ht_num h1 n u hu1.1 (by omega)
        simp only [List.map_cons, List.sum_cons, List.length_cons, Nat.add_mul, Nat.one_mul]
        omega
    obtain ⟨g1, g2⟩ := key ts hv.2.2
    have hfl := flatB_len (n := n) (t := ((xs, ts) : BT KV (n + 1))) hl
    dsimp only at hfl
    have e1 : (flatB (n + 1) ((xs, ts) : BT KV (n + 1))).length + 1 = (ts.map fun u => (flatB n u).length).sum + ts.length := by rw [hfl]; omega
    rw [e1]
    refine ⟨Nat.le_trans ?_ g1, Nat.le_trans g2 ?_⟩
    · rw [Nat.pow_succ, Nat.mul_comm]
      exact Nat.mul_le_mul_right _ (by omega)
    · rw [Nat.pow_succ (m := n + 1), Nat.mul_comm]
      exact Nat.mul_le_mul_left _ (by omega)
def HtOK (dg k m : Nat) : Prop := (k = 0 ↔ m = 0) ∧ 2 ^ k ≤ m + 1 ∧ m + 1 ≤ (2 * dg + 2) ^ k
theorem c_Height {a0 : PA} {iso : Int} {dg : Nat} {l : List KV} (hl : l.length ≤ 4294967295) {G : PA → Prop} (hG : Star [MpC iso dg a0 l] h G) :
    HT Try.prog fn_ms_Height [.c (.addr a0)] false [.c (.int .i64)] h fun x h' => ∃ post, ((∃ k : Nat, x = ((k : Int), ()) ∧ HtOK dg k l.length) ∧ post = [MpC iso dg a0 l]) ∧ St h G post h' := by
  apply hc_ms_Height
  unfold M_ms_Height
  have S := St.start hG
  rcases open_map S with ⟨ctr, mn, mx, rfl, hg, S⟩ | ⟨ctr, n, b, t, rfl, hs, hv, hi, hg, S⟩
  · repeat (first | refine st_there (fun _ h => h) S (lt_ble rfl) ?_ | refine th_it S (by first | omega | (dsimp only; omega)) ?_ | refine w_there hok ?_ | refine w_nonnil ?_ | refine ld_it S (by assumption) ?_ | refine ld_it0 S (by assumption) ?_ | refine ld_val S (by assumption) ?_ | refine ld_key S (by assumption) ?_ | refine ld_int S rfl ?_ | refine w_int _ (S.cnt _) ?_ | refine ld_kid S (by assumption) ?_ | refine ld_kid0 S (by assumption) ?_ | refine ld_some S rfl ?_ | refine ld_ptr S _ rfl ?_ | refine ld_sls S rfl ?_ | refine ld_nil S rfl ?_ | refine ld_bool S rfl ?_ | refine st_it S (by first | omega | (dsimp only; omega)) fun _ S => ?_ | refine st_it0 S (by first | omega | (dsimp only; omega)) fun _ S => ?_ | refine st_kid S (by first | omega | (dsimp only; omega)) none rfl fun _ S => ?_ | refine st_kid S (by first | omega | (dsimp only; omega)) (some _) rfl fun _ S => ?_ | refine st_kid0 S (by first | omega | (dsimp only; omega)) (some _) rfl fun _ S => ?_ | refine st_store S (lt_ble rfl) fun _ S => ?_ | refine st_alloc S fun _ _ S => ?_ | refine st_held S rfl ?_ | refine w_guard (by (first | exact inK64 (by omega) (by omega) | omega | (constructor <;> omega) | ((try dsimp only [Sh.T, Sh1.T]); first | exact inK64 (by omega) (by omega) | omega | exact ⟨by decide, inK64 (by omega) (by omega)⟩ | trivial))) ?_ | refine w_bnd ?_ | refine bd_n rfl ?_ | refine bd_e rfl ?_ | refine bd_r ?_ | refine bd_p ?_ | refine ln_r ?_ | refine ln_e ?_ | refine w_true (b := true) rfl ?_ | refine w_false (b := false) rfl ?_ | refine w_guard (show noMeths _ _ by show _ = _; kernel_rfl) ?_ | (refine w_callT (c_leafp (kp := none) (S.rd rfl)) ?_; rintro _ _ ⟨rfl, rfl⟩) | (refine w_callT (c_leafp (kp := some _) (S.rd rfl)) ?_; rintro _ _ ⟨rfl, rfl⟩) | (refine w_callT (c_leafp (S.rd rfl)) ?_; rintro _ _ ⟨rfl, rfl⟩) | (refine w_callT (c_leaf (kp := none) (S.rd rfl)) ?_; rintro _ _ ⟨rfl, rfl⟩) | (refine w_callT (c_leaf (kp := some _) (S.rd rfl)) ?_; rintro _ _ ⟨rfl, rfl⟩))
    exact rt_1 rfl ⟨_, ⟨⟨0, rfl, by simp [HtOK]⟩, rfl⟩, shut_map0 S hg⟩
  · have hnum := ht_num hg.2.1 n t hv hi
    have hnl : n < (flatB n t).length := by
      have h1 := Nat.lt_two_pow_self (n := n)
      have h2 : 2 ^ (n + 1) = 2 * 2 ^ n := by rw [Nat.pow_succ, Nat.mul_comm]
      have h3 := hnum.1
      omega
    have hil := items_le hv
    have hmn := hg.2.1
    obtain ⟨F, hF⟩ := S.fct (.tr b)
    refine ld_some S rfl (w_bnd (w_true rfl (ld_some S rfl ?_)))
    refine w_mid' (some 0) (fun (y : SV [.c (.int .i64)]) h' => y = (((n + 1 : Nat) : Int), ()) ∧ h' = h) ?_ ?_
    · refine w_lp (fun r y h' => h' = h ∧ ∃ (d b' : Nat) (t' : BT KV r) (F' : PA → Prop), y = (some (b', 0), (d : Int), ()) ∧ d + r = n ∧ Tr L iso r h b' t' F' ∧ Val dg (2 * dg + 1) r t' ∧ 1 ≤ (itemsB r t').length)
        n rfl ⟨rfl, 0, b, t, F, rfl, by omega, hF, hv, hi⟩ ?_
      rintro r _ _ ⟨rfl, d, b', t', F', rfl, hd, hT, hv', hi'⟩
      refine w_guard (inK64 (by (first | omega | ((try dsimp only [Sh.T, Sh1.T]); omega))) (by (first | omega | ((try dsimp only [Sh.T, Sh1.T]); omega)))) ?_
      cases r with
      | zero =>
        obtain ⟨p, c, e2, e3, er⟩ := tr_leaf L iso hT
        refine w_callT (c_leafp (kp := none) e3) ?_
        rintro _ _ ⟨rfl, rfl⟩
        refine w_true rfl (ln_e (md_e rfl ⟨?_, rfl⟩))
        rw [show d = n by omega]; rfl
      | succ r =>
        obtain ⟨p, c, q, dd, hb, ks, FK, e2, e3, er, e4, eq, hFo, hkl⟩ := tr_node L iso hT
        obtain ⟨xs, ts⟩ := t'
        have hl2 : ts.length = xs.length + 1 := hv'.2.1
        have hkl : ks.length = ts.length := hkl
        obtain ⟨u, hu⟩ : ∃ u, ts[0]? = some u := ⟨_, List.getElem?_eq_getElem (by omega)⟩
        obtain ⟨kid, FI, k1, k2, k3⟩ := fo_kid L iso hFo hu eq
        have hvu := hv'.2.2 u (List.mem_of_getElem? hu)
        refine w_callT (c_leafp (kp := some _) e3) ?_
        rintro _ _ ⟨rfl, rfl⟩
        refine w_false rfl (w_nonnil (w_ptr (some (hb, 0)) e3 (w_nonnil (w_sl (some q, ks.length, dd) e4 (w_nonnil (w_guard ⟨by (first | omega | ((try dsimp only [Sh.T, Sh1.T]); omega)), by (first | omega | ((try dsimp only [Sh.T, Sh1.T]); omega))⟩ (w_ptr (some (kid, 0)) (by simpa [kptr] using k2) ?_)))))))
        exact ln_n rfl r ⟨rfl, d + 1, kid, u, FI, rfl, by omega, k3, hvu.1, by omega⟩ (by omega)
    rintro _ _ ⟨rfl, rfl⟩
    refine bd_n rfl (rt_1 rfl ⟨_, ⟨⟨n + 1, rfl, ⟨by omega, fun h => by omega⟩, hnum.1, hnum.2⟩, rfl⟩, shut_map S rfl rfl hs hv hi hg⟩)
end
end Go.Proofs.Ytpbmahnieepmiaa.MS
