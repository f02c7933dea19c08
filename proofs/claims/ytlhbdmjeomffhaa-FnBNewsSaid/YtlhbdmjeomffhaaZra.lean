/-
  The tree of interfaces: the greatest item; a key sought. Conditions: none.
-/
import Derived.Test.YtlhbdmjeomffhaaPgR
import Derived.Test.YtlhbdmjeomffhaaZsd
import Derived.Test.YtlhbdmjeomffhaaCb
set_option linter.unusedVariables false
set_option linter.unusedSimpArgs false
set_option linter.unusedSectionVars false
set_option maxRecDepth 100000
namespace Go.Proofs.Ytlhbdmjeomffhaa.TB
open Go Go.Proofs.Ytlhbdmjeomffhaa
section
variable {ls : Value} {oc : Ck} {o : List Int} {hp : Option PA} {h h0 : H} {G0 : PA → Prop} {r : List Ck}
theorem last_child {mn mx n : Nat} {xs : List KV} {ts : List (BT KV n)} {u : BT KV n} (h1 : 1 ≤ mn) (hv : Val mn mx (n + 1) (xs, ts)) (hu : ts[ts.length - 1]? = some u) : (flatB (n + 1) ((xs, ts) : BT KV (n + 1))).getLast? = (flatB n u).getLast? ∧ Val mn mx n u ∧ 1 ≤ (itemsB n u).length := by
  have hl : ts.length = xs.length + 1 := hv.2.1
  obtain ⟨B, w, rfl⟩ := snoc_of (l := ts) (by omega)
  obtain rfl : w = u := by simpa using hu
  have hw := hv.2.2 w (by simp)
  have hne : flatB n w ≠ [] := fun e => by
    have h2 := items_le hw.1
    have h3 : (itemsB n w).length ≤ 0 := by rw [e] at h2; exact h2
    omega
  refine ⟨?_, hw.1, by omega⟩
  simp only [flatB, List.map_append, List.map_cons, List.map_nil]
  rw [weave_last (by simp at hl ⊢; omega), List.getLast?_append]
  cases hq : (flatB n w).getLast? with
  | none => exact (hne (List.getLast?_eq_none_iff.1 hq)).elim
  | some y => rfl
def itR (f : Option KV) : SV [.c .raw, .c .bool] := (valO f, f.isSome, ())
set_option maxHeartbeats 1000000 in
theorem c_maxMut {a0 : PA} {iso : Int} {dg : Nat} {l : List KV} {m : Bool} (hl : l.length ≤ 4294967296) {G : PA → Prop} (hG : Star [MpC ls o iso dg a0 l] h G) :
    HT Try.prog fn_tb_maxMut [.c (.addr a0), .c (.bool m)] true [.c .raw, .c .bool] h fun x h' => ∃ post, (x = itR l.getLast? ∧ post = [MpC ls o iso dg a0 l]) ∧ St h G post h' := by
  apply hc_tb_maxMut
  unfold M_tb_maxMut
  (refine w_callT c_lock ?_; rintro _ hk ⟨rfl, rfl⟩; refine w_bnd (w_false rfl (bd_n rfl ?_)))
  rcases open_map (St.start hG) with ⟨ctr, mn, mx, rfl, hg, S⟩ | ⟨ctr, n, b, t, rfl, hs, hv, hi, hg, S⟩
  · repeat (first | refine ld_nilI S rfl ?_ | refine ld_any S rfl ?_ | refine st_itN S (by first | omega | (dsimp only; omega)) fun _ S => ?_ | refine st_itO S (by first | omega | (dsimp only; omega)) fun _ S => ?_ | refine w_nonnil ?_ | refine ld_it S (by assumption) ?_ | refine ld_it0 S (by assumption) ?_ | refine ld_val S (by assumption) ?_ | refine ld_key S (by assumption) ?_ | refine ld_int S rfl ?_ | refine w_int _ (S.cnt _) ?_ | refine ld_kid S (by assumption) ?_ | refine ld_kid0 S (by assumption) ?_ | refine ld_some S rfl ?_ | refine ld_ptr S _ rfl ?_ | refine ld_sls S rfl ?_ | refine ld_nil S rfl ?_ | refine ld_bool S rfl ?_ | refine st_it S (by first | omega | (dsimp only; omega)) fun _ S => ?_ | refine st_it0 S (by first | omega | (dsimp only; omega)) fun _ S => ?_ | refine st_kid S (by first | omega | (dsimp only; omega)) none rfl fun _ S => ?_ | refine st_kid S (by first | omega | (dsimp only; omega)) (some _) rfl fun _ S => ?_ | refine st_kid0 S (by first | omega | (dsimp only; omega)) (some _) rfl fun _ S => ?_ | refine st_store S (lt_ble rfl) fun _ S => ?_ | refine st_alloc S fun _ _ S => ?_ | refine st_held S rfl ?_ | refine w_guard (by (first | exact inK64 (by omega) (by omega) | omega | (constructor <;> omega) | ((try dsimp only [Sh.T, Sh1.T]); first | exact inK64 (by omega) (by omega) | omega | exact ⟨by decide, inK64 (by omega) (by omega)⟩ | trivial))) ?_ | refine bd_n rfl ?_ | refine bd_e rfl ?_ | refine bd_r ?_ | refine bd_p ?_ | refine ln_r ?_ | refine ln_e ?_ | refine w_true (b := true) rfl ?_ | refine w_false (b := false) rfl ?_ | (refine w_callT (c_leafp (kp := none) (S.rd rfl)) ?_; rintro _ _ ⟨rfl, rfl⟩) | (refine w_callT (c_leafp (kp := some _) (S.rd rfl)) ?_; rintro _ _ ⟨rfl, rfl⟩) | (refine w_callT (c_leafp (S.rd rfl)) ?_; rintro _ _ ⟨rfl, rfl⟩) | (refine w_callT (c_leaf (kp := none) (S.rd rfl)) ?_; rintro _ _ ⟨rfl, rfl⟩) | (refine w_callT (c_leaf (kp := some _) (S.rd rfl)) ?_; rintro _ _ ⟨rfl, rfl⟩))
    exact rt_n rfl rfl ⟨_, ⟨rfl, rfl⟩, (shut_map0 (S.only [.ow a0]) hg)⟩
  · repeat (first | refine ld_nilI S rfl ?_ | refine ld_any S rfl ?_ | refine st_itN S (by first | omega | (dsimp only; omega)) fun _ S => ?_ | refine st_itO S (by first | omega | (dsimp only; omega)) fun _ S => ?_ | refine w_nonnil ?_ | refine ld_it S (by assumption) ?_ | refine ld_it0 S (by assumption) ?_ | refine ld_val S (by assumption) ?_ | refine ld_key S (by assumption) ?_ | refine ld_int S rfl ?_ | refine w_int _ (S.cnt _) ?_ | refine ld_kid S (by assumption) ?_ | refine ld_kid0 S (by assumption) ?_ | refine ld_some S rfl ?_ | refine ld_ptr S _ rfl ?_ | refine ld_sls S rfl ?_ | refine ld_nil S rfl ?_ | refine ld_bool S rfl ?_ | refine st_it S (by first | omega | (dsimp only; omega)) fun _ S => ?_ | refine st_it0 S (by first | omega | (dsimp only; omega)) fun _ S => ?_ | refine st_kid S (by first | omega | (dsimp only; omega)) none rfl fun _ S => ?_ | refine st_kid S (by first | omega | (dsimp only; omega)) (some _) rfl fun _ S => ?_ | refine st_kid0 S (by first | omega | (dsimp only; omega)) (some _) rfl fun _ S => ?_ | refine st_store S (lt_ble rfl) fun _ S => ?_ | refine st_alloc S fun _ _ S => ?_ | refine st_held S rfl ?_ | refine w_guard (by (first | exact inK64 (by omega) (by omega) | omega | (constructor <;> omega) | ((try dsimp only [Sh.T, Sh1.T]); first | exact inK64 (by omega) (by omega) | omega | exact ⟨by decide, inK64 (by omega) (by omega)⟩ | trivial))) ?_ | refine bd_n rfl ?_ | refine bd_e rfl ?_ | refine bd_r ?_ | refine bd_p ?_ | refine ln_r ?_ | refine ln_e ?_ | refine w_true (b := true) rfl ?_ | refine w_false (b := false) rfl ?_ | (refine w_callT (c_leafp (kp := none) (S.rd rfl)) ?_; rintro _ _ ⟨rfl, rfl⟩) | (refine w_callT (c_leafp (kp := some _) (S.rd rfl)) ?_; rintro _ _ ⟨rfl, rfl⟩) | (refine w_callT (c_leafp (S.rd rfl)) ?_; rintro _ _ ⟨rfl, rfl⟩) | (refine w_callT (c_leaf (kp := none) (S.rd rfl)) ?_; rintro _ _ ⟨rfl, rfl⟩) | (refine w_callT (c_leaf (kp := some _) (S.rd rfl)) ?_; rintro _ _ ⟨rfl, rfl⟩))
    refine w_callT (c_isoLoad (S.rd rfl) (S.iso b) (S.rd rfl)) ?_
    rintro _ h2 ⟨rfl, rfl⟩
    obtain ⟨F, hF⟩ := S.fct (.tr b)
    refine w_lp (fun r y h' => h' = h2 ∧ ∃ (b' : Nat) (t' : BT KV r) (F' : PA → Prop), y = (some (b', 0), ()) ∧ Tr L iso r h2 b' t' F' ∧ Val dg (2 * dg + 1) r t' ∧ 1 ≤ (itemsB r t').length ∧ (flatB r t').getLast? = (flatB n t).getLast?)
      n rfl ⟨rfl, b, t, F, rfl, hF, hv, hi, rfl⟩ ?_
    rintro r _ _ ⟨rfl, b', t', F', rfl, hT, hv', hi', hlast⟩
    obtain ⟨_, hmn, hmb⟩ := hg
    cases r with
    | zero =>
      obtain ⟨p, c, e2, e3, er⟩ := tr_leaf L iso hT
      have hil : (itemsB 0 t').length ≤ 2 * dg + 1 := hv'
      obtain ⟨y, hy⟩ : ∃ y, (itemsB 0 t')[(itemsB 0 t').length - 1]? = some y := ⟨_, List.getElem?_eq_getElem (by omega)⟩
      have hly : (flatB n t).getLast? = some y := by rw [← hlast, List.getLast?_eq_getElem?]; exact hy
      simp only [Int.toNat_natCast, toNat_succ, toNat_succ2, toNat_pred]
      repeat (first | refine ld_nilI S rfl ?_ | refine ld_any S rfl ?_ | refine st_itN S (by first | omega | (dsimp only; omega)) fun _ S => ?_ | refine st_itO S (by first | omega | (dsimp only; omega)) fun _ S => ?_ | refine w_nonnil ?_ | refine ld_it S (by assumption) ?_ | refine ld_it0 S (by assumption) ?_ | refine ld_val S (by assumption) ?_ | refine ld_key S (by assumption) ?_ | refine ld_int S rfl ?_ | refine w_int _ (S.cnt _) ?_ | refine ld_kid S (by assumption) ?_ | refine ld_kid0 S (by assumption) ?_ | refine ld_some S rfl ?_ | refine ld_ptr S _ rfl ?_ | refine ld_sls S rfl ?_ | refine ld_nil S rfl ?_ | refine ld_bool S rfl ?_ | refine st_it S (by first | omega | (dsimp only; omega)) fun _ S => ?_ | refine st_it0 S (by first | omega | (dsimp only; omega)) fun _ S => ?_ | refine st_kid S (by first | omega | (dsimp only; omega)) none rfl fun _ S => ?_ | refine st_kid S (by first | omega | (dsimp only; omega)) (some _) rfl fun _ S => ?_ | refine st_kid0 S (by first | omega | (dsimp only; omega)) (some _) rfl fun _ S => ?_ | refine st_store S (lt_ble rfl) fun _ S => ?_ | refine st_allocK S fun _ _ S hold => ?_ | refine st_held S rfl ?_ | refine w_guard (by (first | exact inK64 (by omega) (by omega) | omega | (constructor <;> omega) | ((try dsimp only [Sh.T, Sh1.T]); first | exact inK64 (by omega) (by omega) | omega | exact ⟨by decide, inK64 (by omega) (by omega)⟩ | trivial))) ?_ | refine bd_n rfl ?_ | refine bd_e rfl ?_ | refine bd_r ?_ | refine bd_p ?_ | refine ln_r ?_ | refine ln_e ?_ | refine w_true (b := true) rfl ?_ | refine w_false (b := false) rfl ?_ | (refine w_callT (c_leafp (kp := none) (S.rd rfl)) ?_; rintro _ _ ⟨rfl, rfl⟩) | (refine w_callT (c_leafp (kp := some _) (S.rd rfl)) ?_; rintro _ _ ⟨rfl, rfl⟩) | (refine w_callT (c_leafp (S.rd rfl)) ?_; rintro _ _ ⟨rfl, rfl⟩) | (refine w_callT (c_leaf (kp := none) (S.rd rfl)) ?_; rintro _ _ ⟨rfl, rfl⟩) | (refine w_callT (c_leaf (kp := some _) (S.rd rfl)) ?_; rintro _ _ ⟨rfl, rfl⟩) | refine w_it (by assumption) (by assumption) ?_ | refine w_it0 (by assumption) (by assumption) ?_ | refine h_it hold (by assumption) (by assumption) ?_ | refine w_itV (by assumption) (by assumption) ?_ | refine w_itK (by assumption) (by assumption) ?_ | refine h_itV hold (by assumption) (by assumption) ?_ | refine h_itK hold (by assumption) (by assumption) ?_ | refine w_held (hold _ _ (by assumption)) ?_ | refine w_sl (some _, _, _) (by assumption) ?_ | refine w_ptr (some _) (by assumption) ?_ | refine w_ptr none (by assumption) ?_ | refine w_int _ (by assumption) ?_ | refine w_held (by assumption) ?_ | (refine w_callT (c_leafp (kp := none) (by assumption)) ?_; rintro _ _ ⟨rfl, rfl⟩) | (refine w_callT (c_leafp (kp := some _) (by assumption)) ?_; rintro _ _ ⟨rfl, rfl⟩) | (refine w_callT (c_leaf (kp := none) (by assumption)) ?_; rintro _ _ ⟨rfl, rfl⟩) | (refine w_callT (c_leaf (kp := some _) (by assumption)) ?_; rintro _ _ ⟨rfl, rfl⟩))
      refine rt_n rfl rfl ⟨_, ⟨?_, rfl⟩, shut_map (S.only [.ow a0, .tr b]) rfl rfl hs hv hi ⟨rfl, hmn, hmb⟩⟩
      rw [hly]; rfl
    | succ r =>
      obtain ⟨p, c, q, d, hb, ks, FK, e2, e3, er, e4, eq, hFo, hkl⟩ := tr_node L iso hT
      obtain ⟨xs, ts⟩ := t'
      have hl2 : ts.length = xs.length + 1 := hv'.2.1
      have hxl : xs.length ≤ 2 * dg + 1 := hv'.1
      have hkl : ks.length = ts.length := hkl
      obtain ⟨u, hu⟩ : ∃ u, ts[ts.length - 1]? = some u := ⟨_, List.getElem?_eq_getElem (by omega)⟩
      obtain ⟨g1, g2, g3⟩ := last_child hmn hv' hu
      obtain ⟨kid, FI, k1, k2, k3⟩ := fo_kid L iso hFo hu eq
      rw [← hkl] at k2
      simp only [Int.toNat_natCast, toNat_succ, toNat_succ2, toNat_pred]
      repeat (first | refine ld_nilI S rfl ?_ | refine ld_any S rfl ?_ | refine st_itN S (by first | omega | (dsimp only; omega)) fun _ S => ?_ | refine st_itO S (by first | omega | (dsimp only; omega)) fun _ S => ?_ | refine w_nonnil ?_ | refine ld_it S (by assumption) ?_ | refine ld_it0 S (by assumption) ?_ | refine ld_val S (by assumption) ?_ | refine ld_key S (by assumption) ?_ | refine ld_int S rfl ?_ | refine w_int _ (S.cnt _) ?_ | refine ld_kid S (by assumption) ?_ | refine ld_kid0 S (by assumption) ?_ | refine ld_some S rfl ?_ | refine ld_ptr S _ rfl ?_ | refine ld_sls S rfl ?_ | refine ld_nil S rfl ?_ | refine ld_bool S rfl ?_ | refine st_it S (by first | omega | (dsimp only; omega)) fun _ S => ?_ | refine st_it0 S (by first | omega | (dsimp only; omega)) fun _ S => ?_ | refine st_kid S (by first | omega | (dsimp only; omega)) none rfl fun _ S => ?_ | refine st_kid S (by first | omega | (dsimp only; omega)) (some _) rfl fun _ S => ?_ | refine st_kid0 S (by first | omega | (dsimp only; omega)) (some _) rfl fun _ S => ?_ | refine st_store S (lt_ble rfl) fun _ S => ?_ | refine st_allocK S fun _ _ S hold => ?_ | refine st_held S rfl ?_ | refine w_guard (by (first | exact inK64 (by omega) (by omega) | omega | (constructor <;> omega) | ((try dsimp only [Sh.T, Sh1.T]); first | exact inK64 (by omega) (by omega) | omega | exact ⟨by decide, inK64 (by omega) (by omega)⟩ | trivial))) ?_ | refine bd_n rfl ?_ | refine bd_e rfl ?_ | refine bd_r ?_ | refine bd_p ?_ | refine ln_r ?_ | refine ln_e ?_ | refine w_true (b := true) rfl ?_ | refine w_false (b := false) rfl ?_ | (refine w_callT (c_leafp (kp := none) (S.rd rfl)) ?_; rintro _ _ ⟨rfl, rfl⟩) | (refine w_callT (c_leafp (kp := some _) (S.rd rfl)) ?_; rintro _ _ ⟨rfl, rfl⟩) | (refine w_callT (c_leafp (S.rd rfl)) ?_; rintro _ _ ⟨rfl, rfl⟩) | (refine w_callT (c_leaf (kp := none) (S.rd rfl)) ?_; rintro _ _ ⟨rfl, rfl⟩) | (refine w_callT (c_leaf (kp := some _) (S.rd rfl)) ?_; rintro _ _ ⟨rfl, rfl⟩) | refine w_it (by assumption) (by assumption) ?_ | refine w_it0 (by assumption) (by assumption) ?_ | refine h_it hold (by assumption) (by assumption) ?_ | refine w_itV (by assumption) (by assumption) ?_ | refine w_itK (by assumption) (by assumption) ?_ | refine h_itV hold (by assumption) (by assumption) ?_ | refine h_itK hold (by assumption) (by assumption) ?_ | refine w_held (hold _ _ (by assumption)) ?_ | refine w_sl (some _, _, _) (by assumption) ?_ | refine w_ptr (some _) (by assumption) ?_ | refine w_ptr none (by assumption) ?_ | refine w_int _ (by assumption) ?_ | refine w_held (by assumption) ?_ | (refine w_callT (c_leafp (kp := none) (by assumption)) ?_; rintro _ _ ⟨rfl, rfl⟩) | (refine w_callT (c_leafp (kp := some _) (by assumption)) ?_; rintro _ _ ⟨rfl, rfl⟩) | (refine w_callT (c_leaf (kp := none) (by assumption)) ?_; rintro _ _ ⟨rfl, rfl⟩) | (refine w_callT (c_leaf (kp := some _) (by assumption)) ?_; rintro _ _ ⟨rfl, rfl⟩))
      refine w_callT (c_isoLoad k2 (tr_iso k3) (S.rd rfl)) ?_
      rintro _ _ ⟨rfl, rfl⟩
      exact ln_n rfl r ⟨rfl, kid, u, FI, rfl, k3, g2, g3, by rw [← g1]; exact hlast⟩ (by omega)
end
end Go.Proofs.Ytlhbdmjeomffhaa.TB
