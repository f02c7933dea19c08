/-
  The map ms: the item at an index deleted. Conditions: nodes of at most 255 items.
-/
import Derived.Test.YtpbmahnieepmiaaPgP
import Derived.Test.YtpbmahnieepmiaaPoms
import Derived.Test.YtpbmahnieepmiaaWu
import Derived.Test.YtpbmahnieepmiaaSp
import Derived.Test.YtpbmahnieepmiaaVa
set_option linter.unusedVariables false
set_option linter.unusedSimpArgs false
set_option linter.unusedSectionVars false
set_option maxRecDepth 100000
namespace Go.Proofs.Ytpbmahnieepmiaa.MS
open Go Go.Proofs.Ytpbmahnieepmiaa
section
variable {h : H}
def atK (l : List KV) (i : Int) : Option KV := if i < 0 then none else l[i.toNat]?
def cutK (l : List KV) (i : Int) : List KV := if i < 0 then l else l.eraseIdx i.toNat
set_option maxHeartbeats 4000000 in
theorem c_DeleteAt {a0 : PA} {iso : Int} {dg : Nat} {i : Int} {l : List KV} (hdg : 2 * dg + 1 ≤ 255) (hl : l.length ≤ 4294967296) {G : PA → Prop} (hG : Star [MpC iso dg a0 l] h G) :
    HT Try.prog fn_ms_DeleteAt [.c (.addr a0), .c (.int .i64 i)] true [.c (.int .i64), .agg [], .c .bool] h fun x h' => ∃ post, (x = opR (atK l i) ∧ post = [MpC iso dg a0 (cutK l i)]) ∧ St h G post h' := by
  apply hc_ms_DeleteAt
  unfold M_ms_DeleteAt
  have S := St.start hG
  refine st_alloc S fun nz0 hz S => ?_
  rcases open_map (S.at (.mp a0)) with ⟨ctr, mn, mx, rfl, hg, S⟩ | ⟨ctr, n, b, t, rfl, hs, hv, hi, hg, S⟩
  · refine w_bnd (ld_nil S rfl (w_true rfl (bd_n rfl (w_true rfl ?_))))
    have e1 : atK ([] : List KV) i = none := by unfold atK; split <;> simp
    have e2 : cutK ([] : List KV) i = [] := by unfold cutK; split <;> simp
    rw [e1, e2]
    repeat (first | refine st_there (fun _ h => h) S (lt_ble rfl) ?_ | refine th_it S (by first | omega | (dsimp only; omega)) ?_ | refine w_there hok ?_ | refine w_nonnil ?_ | refine ld_it S (by assumption) ?_ | refine ld_it0 S (by assumption) ?_ | refine ld_val S (by assumption) ?_ | refine ld_key S (by assumption) ?_ | refine ld_int S rfl ?_ | refine w_int _ (S.cnt _) ?_ | refine ld_kid S (by assumption) ?_ | refine ld_kid0 S (by assumption) ?_ | refine ld_some S rfl ?_ | refine ld_ptr S _ rfl ?_ | refine ld_sls S rfl ?_ | refine ld_nil S rfl ?_ | refine ld_bool S rfl ?_ | refine st_it S (by first | omega | (dsimp only; omega)) fun _ S => ?_ | refine st_it0 S (by first | omega | (dsimp only; omega)) fun _ S => ?_ | refine st_kid S (by first | omega | (dsimp only; omega)) none rfl fun _ S => ?_ | refine st_kid S (by first | omega | (dsimp only; omega)) (some _) rfl fun _ S => ?_ | refine st_kid0 S (by first | omega | (dsimp only; omega)) (some _) rfl fun _ S => ?_ | refine st_store S (lt_ble rfl) fun _ S => ?_ | refine st_alloc S fun _ _ S => ?_ | refine st_held S rfl ?_ | refine w_guard (by (first | exact inK64 (by omega) (by omega) | omega | (constructor <;> omega) | ((try dsimp only [Sh.T, Sh1.T]); first | exact inK64 (by omega) (by omega) | omega | exact ⟨by decide, inK64 (by omega) (by omega)⟩ | trivial))) ?_ | refine bd_n rfl ?_ | refine bd_e rfl ?_ | refine bd_r ?_ | refine bd_p ?_ | refine ln_r ?_ | refine ln_e ?_ | refine w_true (b := true) rfl ?_ | refine w_false (b := false) rfl ?_ | refine w_guard (show noMeths _ _ by show _ = _; kernel_rfl) ?_ | (refine w_callT (c_leafp (kp := none) (S.rd rfl)) ?_; rintro _ _ ⟨rfl, rfl⟩) | (refine w_callT (c_leafp (kp := some _) (S.rd rfl)) ?_; rintro _ _ ⟨rfl, rfl⟩) | (refine w_callT (c_leafp (S.rd rfl)) ?_; rintro _ _ ⟨rfl, rfl⟩) | (refine w_callT (c_leaf (kp := none) (S.rd rfl)) ?_; rintro _ _ ⟨rfl, rfl⟩) | (refine w_callT (c_leaf (kp := some _) (S.rd rfl)) ?_; rintro _ _ ⟨rfl, rfl⟩))
    exact rt_n rfl rfl ⟨_, ⟨rfl, rfl⟩, shut_map0 (S.only [.ow a0]) hg⟩
  · obtain ⟨hmx, hmn, hmb⟩ := hg
    have hil := items_le hv
    refine w_mid' none (fun (y : SV [.c .bool]) h' => y = (decide (i < 0) || decide (i ≥ (flatB n t).length), ()) ∧ h' = hz) ?_ ?_
    · refine ld_some S rfl (w_false rfl ?_)
      by_cases h0 : i < 0
      · exact w_true (decide_eq_true h0) (md_n rfl ⟨by rw [decide_eq_true h0]; rfl, rfl⟩)
      · exact w_false (decide_eq_false h0) (ld_int S rfl (md_n rfl ⟨by rw [decide_eq_false h0]; rfl, rfl⟩))
    rintro _ hz ⟨rfl, rfl⟩
    by_cases hout : i < 0 ∨ i ≥ (flatB n t).length
    · refine w_true (by simpa using hout) ?_
      have e1 : atK (flatB n t) i = none := by
        unfold atK
        split
        · rfl
        · exact List.getElem?_eq_none (by omega)
      have e2 : cutK (flatB n t) i = flatB n t := by
        unfold cutK
        split
        · rfl
        · exact List.eraseIdx_of_length_le (by omega)
      rw [e1, e2]
      repeat (first | refine st_there (fun _ h => h) S (lt_ble rfl) ?_ | refine th_it S (by first | omega | (dsimp only; omega)) ?_ | refine w_there hok ?_ | refine w_nonnil ?_ | refine ld_it S (by assumption) ?_ | refine ld_it0 S (by assumption) ?_ | refine ld_val S (by assumption) ?_ | refine ld_key S (by assumption) ?_ | refine ld_int S rfl ?_ | refine w_int _ (S.cnt _) ?_ | refine ld_kid S (by assumption) ?_ | refine ld_kid0 S (by assumption) ?_ | refine ld_some S rfl ?_ | refine ld_ptr S _ rfl ?_ | refine ld_sls S rfl ?_ | refine ld_nil S rfl ?_ | refine ld_bool S rfl ?_ | refine st_it S (by first | omega | (dsimp only; omega)) fun _ S => ?_ | refine st_it0 S (by first | omega | (dsimp only; omega)) fun _ S => ?_ | refine st_kid S (by first | omega | (dsimp only; omega)) none rfl fun _ S => ?_ | refine st_kid S (by first | omega | (dsimp only; omega)) (some _) rfl fun _ S => ?_ | refine st_kid0 S (by first | omega | (dsimp only; omega)) (some _) rfl fun _ S => ?_ | refine st_store S (lt_ble rfl) fun _ S => ?_ | refine st_alloc S fun _ _ S => ?_ | refine st_held S rfl ?_ | refine w_guard (by (first | exact inK64 (by omega) (by omega) | omega | (constructor <;> omega) | ((try dsimp only [Sh.T, Sh1.T]); first | exact inK64 (by omega) (by omega) | omega | exact ⟨by decide, inK64 (by omega) (by omega)⟩ | trivial))) ?_ | refine bd_n rfl ?_ | refine bd_e rfl ?_ | refine bd_r ?_ | refine bd_p ?_ | refine ln_r ?_ | refine ln_e ?_ | refine w_true (b := true) rfl ?_ | refine w_false (b := false) rfl ?_ | refine w_guard (show noMeths _ _ by show _ = _; kernel_rfl) ?_ | (refine w_callT (c_leafp (kp := none) (S.rd rfl)) ?_; rintro _ _ ⟨rfl, rfl⟩) | (refine w_callT (c_leafp (kp := some _) (S.rd rfl)) ?_; rintro _ _ ⟨rfl, rfl⟩) | (refine w_callT (c_leafp (S.rd rfl)) ?_; rintro _ _ ⟨rfl, rfl⟩) | (refine w_callT (c_leaf (kp := none) (S.rd rfl)) ?_; rintro _ _ ⟨rfl, rfl⟩) | (refine w_callT (c_leaf (kp := some _) (S.rd rfl)) ?_; rintro _ _ ⟨rfl, rfl⟩))
      exact rt_n rfl rfl ⟨_, ⟨rfl, rfl⟩, shut_map (S.only [.ow a0, .tr b]) rfl rfl hs hv hi ⟨hmx, hmn, hmb⟩⟩
    refine w_false (by simpa using hout) ?_
    obtain ⟨J, rfl⟩ : ∃ J : Nat, i = J := ⟨i.toNat, by omega⟩
    have hJ : J < (flatB n t).length := by omega
    obtain ⟨y, hy⟩ : ∃ y, (flatB n t)[J]? = some y := ⟨_, List.getElem?_eq_getElem hJ⟩
    have e1 : atK (flatB n t) (J : Int) = some y := by unfold atK; rw [if_neg (by omega), Int.toNat_natCast, hy]
    have e2 : cutK (flatB n t) (J : Int) = (flatB n t).eraseIdx J := by unfold cutK; rw [if_neg (by omega), Int.toNat_natCast]
    rw [e1, e2]
    refine st_alloc S fun n5 _ S => ?_
    refine w_guard ⟨by decide, by decide⟩ ?_
    refine st_alloc S fun n6 _ S => ?_
    refine w_callT (c_isoLoad (S.rd rfl) (S.iso b) (S.rd rfl)) ?_
    rintro _ h2 ⟨rfl, rfl⟩
    have S := (((S.at (.ow (n5, 0))).re (n5, 0) (LU.flat [] ++ List.replicate 8 (.int .u8 0)) 0 rfl rfl rfl).shrink).close_sl (n := 0) (c := 8) (sz := LU.sz) (by decide) rfl
    rw [slBase_zero]
    have S := wd_id (PaC L iso dg (2 * dg + 1) n b t J) S
    refine w_mid' (some 0) (fun (x : SV [.c .sl]) h' => ∃ (s : SlT) (w : List Nat) (k : Nat), x = (s, ()) ∧ OwnL LU s ((w ++ [k]).map Int.ofNat) ∧ EndOK n t w k ∧
        St h G [DmC L iso n w b t, Ow (n6, 0) ([.int .i64 y.1]) 0, Ow a0 (mapC iso ctr (some (b, 0)) (flatB n t).length dg (2 * dg + 1) false false) 0, SlC s LU.sz (LU.flat ((w ++ [k]).map Int.ofNat))] h') ?_ ?_
    · refine w_lp (fun r x h' => ∃ (b' : Nat) (u : BT KV r) (idx : Nat) (s : SlT) (w : List Nat) (T : Option (List Nat) → Ck), x = (some (b', 0), (idx : Int), s, ()) ∧ Val dg (2 * dg + 1) r u ∧ 1 ≤ (itemsB r u).length ∧ (flatB r u)[idx]? = some y ∧ idx < (flatB r u).length ∧ (flatB r u).length ≤ (flatB n t).length ∧ w.length + r = n ∧
        OwnL LU s (w.map Int.ofNat) ∧ T none = PaC L iso dg (2 * dg + 1) n b t J none ∧ (∀ p, T (some p) = DmC L iso n (w ++ p) b t) ∧ (∀ p k, EndOK r u p k → EndOK n t (w ++ p) k) ∧
        St h G [WdC (PaC L iso dg (2 * dg + 1) r b' u idx) T, TrC L iso r b' u, Ow (n6, 0) ([.int .i64 (z0 : KV).1]) 0, Ow a0 (mapC iso ctr (some (b, 0)) (flatB n t).length dg (2 * dg + 1) false false) 0, SlC s LU.sz (LU.flat (w.map Int.ofNat))] h') n rfl
        ⟨b, t, J, (some (n5, 0), 0, 8), [], _, rfl, hv, hi, hy, hJ, Nat.le_refl _, by simp, ⟨rfl, Nat.zero_le _, .inl rfl⟩, rfl, fun p => rfl, fun p k hp => hp, S.only [.kd none, .tr b, .ow (n6, 0), .ow a0, .sl (some (n5, 0), 0, 8)]⟩ ?_
      clear S
      rintro r _ _ ⟨b', u, idx, s, w, T, rfl, hvu, hiu, hyu, hlt, hlu, hwl, hso, hT0, hT1, hE, S⟩
      have hpos : 1 ≤ (flatB r u).length := Nat.le_trans hiu (items_le hvu)
      have hwn : (w.map Int.ofNat).length = w.length := List.length_map _
      have hnl : n ≤ 4294967296 := by have := ht_lt hmn n t hv hi; omega
      obtain ⟨p, c, kp, hc, hkp, S⟩ := open_nd L iso (S.at (.tr b'))
      cases r with
      | zero =>
        have S := S.at (.kd kp)
        obtain rfl := kids_leaf L iso S
        have S := S.drop
        have hil0 : (itemsB 0 u).length ≤ 2 * dg + 1 := hvu
        have hyi : (itemsB 0 u)[idx]? = some y := hyu
        have hfi : (flatB 0 u).length = (itemsB 0 u).length := rfl
        obtain ⟨s1, s2, s3⟩ := s
        repeat (first | refine st_there (fun _ h => h) S (lt_ble rfl) ?_ | refine th_it S (by first | omega | (dsimp only; omega)) ?_ | refine w_there hok ?_ | refine w_nonnil ?_ | refine ld_it S (by assumption) ?_ | refine ld_it0 S (by assumption) ?_ | refine ld_val S (by assumption) ?_ | refine ld_key S (by assumption) ?_ | refine ld_int S rfl ?_ | refine w_int _ (S.cnt _) ?_ | refine ld_kid S (by assumption) ?_ | refine ld_kid0 S (by assumption) ?_ | refine ld_some S rfl ?_ | refine ld_ptr S _ rfl ?_ | refine ld_sls S rfl ?_ | refine ld_nil S rfl ?_ | refine ld_bool S rfl ?_ | refine st_it S (by first | omega | (dsimp only; omega)) fun _ S => ?_ | refine st_it0 S (by first | omega | (dsimp only; omega)) fun _ S => ?_ | refine st_kid S (by first | omega | (dsimp only; omega)) none rfl fun _ S => ?_ | refine st_kid S (by first | omega | (dsimp only; omega)) (some _) rfl fun _ S => ?_ | refine st_kid0 S (by first | omega | (dsimp only; omega)) (some _) rfl fun _ S => ?_ | refine st_store S (lt_ble rfl) fun _ S => ?_ | refine st_alloc S fun _ _ S => ?_ | refine st_held S rfl ?_ | refine w_guard (by (first | exact inK64 (by omega) (by omega) | omega | (constructor <;> omega) | ((try dsimp only [Sh.T, Sh1.T]); first | exact inK64 (by omega) (by omega) | omega | exact ⟨by decide, inK64 (by omega) (by omega)⟩ | trivial))) ?_ | refine bd_n rfl ?_ | refine bd_e rfl ?_ | refine bd_r ?_ | refine bd_p ?_ | refine ln_r ?_ | refine ln_e ?_ | refine w_true (b := true) rfl ?_ | refine w_false (b := false) rfl ?_ | refine w_guard (show noMeths _ _ by show _ = _; kernel_rfl) ?_ | (refine w_callT (c_leafp (kp := none) (S.rd rfl)) ?_; rintro _ _ ⟨rfl, rfl⟩) | (refine w_callT (c_leafp (kp := some _) (S.rd rfl)) ?_; rintro _ _ ⟨rfl, rfl⟩) | (refine w_callT (c_leafp (S.rd rfl)) ?_; rintro _ _ ⟨rfl, rfl⟩) | (refine w_callT (c_leaf (kp := none) (S.rd rfl)) ?_; rintro _ _ ⟨rfl, rfl⟩) | (refine w_callT (c_leaf (kp := some _) (S.rd rfl)) ?_; rintro _ _ ⟨rfl, rfl⟩))
        simp only [Int.toNat_natCast, toNat_succ, toNat_succ2, toNat_pred]
        repeat (first | refine st_there (fun _ h => h) S (lt_ble rfl) ?_ | refine th_it S (by first | omega | (dsimp only; omega)) ?_ | refine w_there hok ?_ | refine w_nonnil ?_ | refine ld_it S (by assumption) ?_ | refine ld_it0 S (by assumption) ?_ | refine ld_val S (by assumption) ?_ | refine ld_key S (by assumption) ?_ | refine ld_int S rfl ?_ | refine w_int _ (S.cnt _) ?_ | refine ld_kid S (by assumption) ?_ | refine ld_kid0 S (by assumption) ?_ | refine ld_some S rfl ?_ | refine ld_ptr S _ rfl ?_ | refine ld_sls S rfl ?_ | refine ld_nil S rfl ?_ | refine ld_bool S rfl ?_ | refine st_it S (by first | omega | (dsimp only; omega)) fun _ S => ?_ | refine st_it0 S (by first | omega | (dsimp only; omega)) fun _ S => ?_ | refine st_kid S (by first | omega | (dsimp only; omega)) none rfl fun _ S => ?_ | refine st_kid S (by first | omega | (dsimp only; omega)) (some _) rfl fun _ S => ?_ | refine st_kid0 S (by first | omega | (dsimp only; omega)) (some _) rfl fun _ S => ?_ | refine st_store S (lt_ble rfl) fun _ S => ?_ | refine st_alloc S fun _ _ S => ?_ | refine st_held S rfl ?_ | refine w_guard (by (first | exact inK64 (by omega) (by omega) | omega | (constructor <;> omega) | ((try dsimp only [Sh.T, Sh1.T]); first | exact inK64 (by omega) (by omega) | omega | exact ⟨by decide, inK64 (by omega) (by omega)⟩ | trivial))) ?_ | refine bd_n rfl ?_ | refine bd_e rfl ?_ | refine bd_r ?_ | refine bd_p ?_ | refine ln_r ?_ | refine ln_e ?_ | refine w_true (b := true) rfl ?_ | refine w_false (b := false) rfl ?_ | refine w_guard (show noMeths _ _ by show _ = _; kernel_rfl) ?_ | (refine w_callT (c_leafp (kp := none) (S.rd rfl)) ?_; rintro _ _ ⟨rfl, rfl⟩) | (refine w_callT (c_leafp (kp := some _) (S.rd rfl)) ?_; rintro _ _ ⟨rfl, rfl⟩) | (refine w_callT (c_leafp (S.rd rfl)) ?_; rintro _ _ ⟨rfl, rfl⟩) | (refine w_callT (c_leaf (kp := none) (S.rd rfl)) ?_; rintro _ _ ⟨rfl, rfl⟩) | (refine w_callT (c_leaf (kp := some _) (S.rd rfl)) ?_; rintro _ _ ⟨rfl, rfl⟩))
        by_cases he : (itemsB 0 u).length = dg
        · refine w_true (beq_t (by (first | omega | ((try dsimp only [Sh.T, Sh1.T]); omega)))) (w_guard (inU8 (by omega)) ?_)
          refine st_alloc S fun n21 _ S => ?_
          refine st_apo (L := LU) (xs := w.map Int.ofNat) (y := (idx : Int)) S hso rfl rfl (S.rsl (LU.flat [(idx : Int)]) 1 1 1 (fun i v h => by rw [Nat.zero_add]; exact h) rfl) ⟨by omega, by omega⟩ fun s' _ hs' S => ?_
          have ew : w.map Int.ofNat ++ [(idx : Int)] = (w ++ [idx]).map Int.ofNat := by simp
          rw [ew] at hs' S
          refine ln_e (md_e rfl ⟨s', w, idx, rfl, hs', by have := hE [] idx rfl; simpa using this, ?_⟩)
          have S := shut_dm0 L iso (n := 0) (t := u) (shut_nokids L iso (t := u) S |>.ats [.ow (b', 0), .ow p, .kd none]) rfl (by simp [nodeC, Cell.val]; omega) rfl rfl hc rfl
          have S := wd_use (some []) (S.ats [.kd none, .tr b'])
          rw [hT1, List.append_nil] at S
          exact S.only [.tr b, .ow (n6, 0), .ow a0, .sl s']
        · refine w_false (beq_f (by (first | omega | ((try dsimp only [Sh.T, Sh1.T]); omega)))) ?_
          repeat (first | refine st_there (fun _ h => h) S (lt_ble rfl) ?_ | refine th_it S (by first | omega | (dsimp only; omega)) ?_ | refine w_there hok ?_ | refine w_nonnil ?_ | refine ld_it S (by assumption) ?_ | refine ld_it0 S (by assumption) ?_ | refine ld_val S (by assumption) ?_ | refine ld_key S (by assumption) ?_ | refine ld_int S rfl ?_ | refine w_int _ (S.cnt _) ?_ | refine ld_kid S (by assumption) ?_ | refine ld_kid0 S (by assumption) ?_ | refine ld_some S rfl ?_ | refine ld_ptr S _ rfl ?_ | refine ld_sls S rfl ?_ | refine ld_nil S rfl ?_ | refine ld_bool S rfl ?_ | refine st_it S (by first | omega | (dsimp only; omega)) fun _ S => ?_ | refine st_it0 S (by first | omega | (dsimp only; omega)) fun _ S => ?_ | refine st_kid S (by first | omega | (dsimp only; omega)) none rfl fun _ S => ?_ | refine st_kid S (by first | omega | (dsimp only; omega)) (some _) rfl fun _ S => ?_ | refine st_kid0 S (by first | omega | (dsimp only; omega)) (some _) rfl fun _ S => ?_ | refine st_store S (lt_ble rfl) fun _ S => ?_ | refine st_alloc S fun _ _ S => ?_ | refine st_held S rfl ?_ | refine w_guard (by (first | exact inK64 (by omega) (by omega) | omega | (constructor <;> omega) | ((try dsimp only [Sh.T, Sh1.T]); first | exact inK64 (by omega) (by omega) | omega | exact ⟨by decide, inK64 (by omega) (by omega)⟩ | trivial))) ?_ | refine bd_n rfl ?_ | refine bd_e rfl ?_ | refine bd_r ?_ | refine bd_p ?_ | refine ln_r ?_ | refine ln_e ?_ | refine w_true (b := true) rfl ?_ | refine w_false (b := false) rfl ?_ | refine w_guard (show noMeths _ _ by show _ = _; kernel_rfl) ?_ | (refine w_callT (c_leafp (kp := none) (S.rd rfl)) ?_; rintro _ _ ⟨rfl, rfl⟩) | (refine w_callT (c_leafp (kp := some _) (S.rd rfl)) ?_; rintro _ _ ⟨rfl, rfl⟩) | (refine w_callT (c_leafp (S.rd rfl)) ?_; rintro _ _ ⟨rfl, rfl⟩) | (refine w_callT (c_leaf (kp := none) (S.rd rfl)) ?_; rintro _ _ ⟨rfl, rfl⟩) | (refine w_callT (c_leaf (kp := some _) (S.rd rfl)) ?_; rintro _ _ ⟨rfl, rfl⟩))
          refine st_cpdel (L := L) (ys := itemsB 0 u) (n := (itemsB 0 u).length) (i := idx) S rfl rfl (by omega) hc fun _ zs hzl hzd S => ?_
          have hzd := hzd ((0, ()) : KV)
          repeat (first | refine st_there (fun _ h => h) S (lt_ble rfl) ?_ | refine th_it S (by first | omega | (dsimp only; omega)) ?_ | refine w_there hok ?_ | refine w_nonnil ?_ | refine ld_it S (by assumption) ?_ | refine ld_it0 S (by assumption) ?_ | refine ld_val S (by assumption) ?_ | refine ld_key S (by assumption) ?_ | refine ld_int S rfl ?_ | refine w_int _ (S.cnt _) ?_ | refine ld_kid S (by assumption) ?_ | refine ld_kid0 S (by assumption) ?_ | refine ld_some S rfl ?_ | refine ld_ptr S _ rfl ?_ | refine ld_sls S rfl ?_ | refine ld_nil S rfl ?_ | refine ld_bool S rfl ?_ | refine st_it S (by first | omega | (dsimp only; omega)) fun _ S => ?_ | refine st_it0 S (by first | omega | (dsimp only; omega)) fun _ S => ?_ | refine st_kid S (by first | omega | (dsimp only; omega)) none rfl fun _ S => ?_ | refine st_kid S (by first | omega | (dsimp only; omega)) (some _) rfl fun _ S => ?_ | refine st_kid0 S (by first | omega | (dsimp only; omega)) (some _) rfl fun _ S => ?_ | refine st_store S (lt_ble rfl) fun _ S => ?_ | refine st_alloc S fun _ _ S => ?_ | refine st_held S rfl ?_ | refine w_guard (by (first | exact inK64 (by omega) (by omega) | omega | (constructor <;> omega) | ((try dsimp only [Sh.T, Sh1.T]); first | exact inK64 (by omega) (by omega) | omega | exact ⟨by decide, inK64 (by omega) (by omega)⟩ | trivial))) ?_ | refine bd_n rfl ?_ | refine bd_e rfl ?_ | refine bd_r ?_ | refine bd_p ?_ | refine ln_r ?_ | refine ln_e ?_ | refine w_true (b := true) rfl ?_ | refine w_false (b := false) rfl ?_ | refine w_guard (show noMeths _ _ by show _ = _; kernel_rfl) ?_ | (refine w_callT (c_leafp (kp := none) (S.rd rfl)) ?_; rintro _ _ ⟨rfl, rfl⟩) | (refine w_callT (c_leafp (kp := some _) (S.rd rfl)) ?_; rintro _ _ ⟨rfl, rfl⟩) | (refine w_callT (c_leafp (S.rd rfl)) ?_; rintro _ _ ⟨rfl, rfl⟩) | (refine w_callT (c_leaf (kp := none) (S.rd rfl)) ?_; rintro _ _ ⟨rfl, rfl⟩) | (refine w_callT (c_leaf (kp := some _) (S.rd rfl)) ?_; rintro _ _ ⟨rfl, rfl⟩))
          have heL : ((itemsB 0 u).eraseIdx idx).length = (itemsB 0 u).length - 1 := List.length_eraseIdx_of_lt (by omega)
          have S := ((S.at (.ow p)).re p _ _ rfl (by dsimp only; rw [hzd, L.flat_append]) rfl).shrink
          have S := shut_leaf L iso (xs := (itemsB 0 u).eraseIdx idx) (cnt := ((itemsB 0 u).eraseIdx idx).length) (n := ((itemsB 0 u).eraseIdx idx).length) (c := c) (S.ats [.ow (b', 0), .ow p]) (by simp [nodeC, Cell.val, slBase_zero, heL]; omega) rfl rfl rfl (by omega) (by
            rw [L.flat_length, heL, ← Nat.add_mul]; congr 1; show 1 + _ = _; omega)
          have S := wd_use none ((St.ex_in (α := BT KV 0) (φ := fun t' => Res dg (2 * dg + 1) 0 u t' idx) (f := fun t' => TrC L iso 0 b' t') ((itemsB 0 u).eraseIdx idx) ⟨rfl, by show ((itemsB 0 u).eraseIdx idx).length ≤ _; omega, fun h => absurd rfl h, fun h => by show dg ≤ ((itemsB 0 u).eraseIdx idx).length; omega⟩ (S.at (.tr b'))).ats [.kd none])
          rw [hT0] at S
          obtain ⟨t', hr, S⟩ := S.ex_out
          have hft : flatB n t' = (flatB n t).eraseIdx J := hr.1
          have hlt' : (flatB n t').length + 1 = (flatB n t).length := by rw [hft, List.length_eraseIdx_of_lt hJ]; omega
          have hst : Srt lt ((flatB n t).eraseIdx J) := hs.sublist (List.eraseIdx_sublist _ _)
          repeat (first | refine st_there (fun _ h => h) S (lt_ble rfl) ?_ | refine th_it S (by first | omega | (dsimp only; omega)) ?_ | refine w_there hok ?_ | refine w_nonnil ?_ | refine ld_it S (by assumption) ?_ | refine ld_it0 S (by assumption) ?_ | refine ld_val S (by assumption) ?_ | refine ld_key S (by assumption) ?_ | refine ld_int S rfl ?_ | refine w_int _ (S.cnt _) ?_ | refine ld_kid S (by assumption) ?_ | refine ld_kid0 S (by assumption) ?_ | refine ld_some S rfl ?_ | refine ld_ptr S _ rfl ?_ | refine ld_sls S rfl ?_ | refine ld_nil S rfl ?_ | refine ld_bool S rfl ?_ | refine st_it S (by first | omega | (dsimp only; omega)) fun _ S => ?_ | refine st_it0 S (by first | omega | (dsimp only; omega)) fun _ S => ?_ | refine st_kid S (by first | omega | (dsimp only; omega)) none rfl fun _ S => ?_ | refine st_kid S (by first | omega | (dsimp only; omega)) (some _) rfl fun _ S => ?_ | refine st_kid0 S (by first | omega | (dsimp only; omega)) (some _) rfl fun _ S => ?_ | refine st_store S (lt_ble rfl) fun _ S => ?_ | refine st_alloc S fun _ _ S => ?_ | refine st_held S rfl ?_ | refine w_guard (by (first | exact inK64 (by omega) (by omega) | omega | (constructor <;> omega) | ((try dsimp only [Sh.T, Sh1.T]); first | exact inK64 (by omega) (by omega) | omega | exact ⟨by decide, inK64 (by omega) (by omega)⟩ | trivial))) ?_ | refine bd_n rfl ?_ | refine bd_e rfl ?_ | refine bd_r ?_ | refine bd_p ?_ | refine ln_r ?_ | refine ln_e ?_ | refine w_true (b := true) rfl ?_ | refine w_false (b := false) rfl ?_ | refine w_guard (show noMeths _ _ by show _ = _; kernel_rfl) ?_ | (refine w_callT (c_leafp (kp := none) (S.rd rfl)) ?_; rintro _ _ ⟨rfl, rfl⟩) | (refine w_callT (c_leafp (kp := some _) (S.rd rfl)) ?_; rintro _ _ ⟨rfl, rfl⟩) | (refine w_callT (c_leafp (S.rd rfl)) ?_; rintro _ _ ⟨rfl, rfl⟩) | (refine w_callT (c_leaf (kp := none) (S.rd rfl)) ?_; rintro _ _ ⟨rfl, rfl⟩) | (refine w_callT (c_leaf (kp := some _) (S.rd rfl)) ?_; rintro _ _ ⟨rfl, rfl⟩))
          by_cases hz : (flatB n t').length = 0
          · have e : (flatB n t).eraseIdx J = [] := by rw [← hft]; exact List.length_eq_zero_iff.1 hz
            refine w_bnd (w_true (beq_t (by (first | omega | ((try dsimp only [Sh.T, Sh1.T]); omega)))) ?_)
            repeat (first | refine st_there (fun _ h => h) S (lt_ble rfl) ?_ | refine th_it S (by first | omega | (dsimp only; omega)) ?_ | refine w_there hok ?_ | refine w_nonnil ?_ | refine ld_it S (by assumption) ?_ | refine ld_it0 S (by assumption) ?_ | refine ld_val S (by assumption) ?_ | refine ld_key S (by assumption) ?_ | refine ld_int S rfl ?_ | refine w_int _ (S.cnt _) ?_ | refine ld_kid S (by assumption) ?_ | refine ld_kid0 S (by assumption) ?_ | refine ld_some S rfl ?_ | refine ld_ptr S _ rfl ?_ | refine ld_sls S rfl ?_ | refine ld_nil S rfl ?_ | refine ld_bool S rfl ?_ | refine st_it S (by first | omega | (dsimp only; omega)) fun _ S => ?_ | refine st_it0 S (by first | omega | (dsimp only; omega)) fun _ S => ?_ | refine st_kid S (by first | omega | (dsimp only; omega)) none rfl fun _ S => ?_ | refine st_kid S (by first | omega | (dsimp only; omega)) (some _) rfl fun _ S => ?_ | refine st_kid0 S (by first | omega | (dsimp only; omega)) (some _) rfl fun _ S => ?_ | refine st_store S (lt_ble rfl) fun _ S => ?_ | refine st_alloc S fun _ _ S => ?_ | refine st_held S rfl ?_ | refine w_guard (by (first | exact inK64 (by omega) (by omega) | omega | (constructor <;> omega) | ((try dsimp only [Sh.T, Sh1.T]); first | exact inK64 (by omega) (by omega) | omega | exact ⟨by decide, inK64 (by omega) (by omega)⟩ | trivial))) ?_ | refine bd_n rfl ?_ | refine bd_e rfl ?_ | refine bd_r ?_ | refine bd_p ?_ | refine ln_r ?_ | refine ln_e ?_ | refine w_true (b := true) rfl ?_ | refine w_false (b := false) rfl ?_ | refine w_guard (show noMeths _ _ by show _ = _; kernel_rfl) ?_ | (refine w_callT (c_leafp (kp := none) (S.rd rfl)) ?_; rintro _ _ ⟨rfl, rfl⟩) | (refine w_callT (c_leafp (kp := some _) (S.rd rfl)) ?_; rintro _ _ ⟨rfl, rfl⟩) | (refine w_callT (c_leafp (S.rd rfl)) ?_; rintro _ _ ⟨rfl, rfl⟩) | (refine w_callT (c_leaf (kp := none) (S.rd rfl)) ?_; rintro _ _ ⟨rfl, rfl⟩) | (refine w_callT (c_leaf (kp := some _) (S.rd rfl)) ?_; rintro _ _ ⟨rfl, rfl⟩))
            have S := (S.at (.ow a0)).re a0 (mapC iso ctr none 0 dg (2 * dg + 1) false false) 0 rfl (by simp [mapC, Cell.val]; omega) rfl
            refine md_r (rt_n rfl rfl ⟨_, ⟨rfl, rfl⟩, ?_⟩)
            rw [e]
            exact shut_map0 (S.only [.ow a0]) (.inr ⟨rfl, rfl, hmx, hmn, hmb⟩)
          · refine w_bnd (w_false (beq_f (by (first | omega | ((try dsimp only [Sh.T, Sh1.T]); omega)))) ?_)
            repeat (first | refine st_there (fun _ h => h) S (lt_ble rfl) ?_ | refine th_it S (by first | omega | (dsimp only; omega)) ?_ | refine w_there hok ?_ | refine w_nonnil ?_ | refine ld_it S (by assumption) ?_ | refine ld_it0 S (by assumption) ?_ | refine ld_val S (by assumption) ?_ | refine ld_key S (by assumption) ?_ | refine ld_int S rfl ?_ | refine w_int _ (S.cnt _) ?_ | refine ld_kid S (by assumption) ?_ | refine ld_kid0 S (by assumption) ?_ | refine ld_some S rfl ?_ | refine ld_ptr S _ rfl ?_ | refine ld_sls S rfl ?_ | refine ld_nil S rfl ?_ | refine ld_bool S rfl ?_ | refine st_it S (by first | omega | (dsimp only; omega)) fun _ S => ?_ | refine st_it0 S (by first | omega | (dsimp only; omega)) fun _ S => ?_ | refine st_kid S (by first | omega | (dsimp only; omega)) none rfl fun _ S => ?_ | refine st_kid S (by first | omega | (dsimp only; omega)) (some _) rfl fun _ S => ?_ | refine st_kid0 S (by first | omega | (dsimp only; omega)) (some _) rfl fun _ S => ?_ | refine st_store S (lt_ble rfl) fun _ S => ?_ | refine st_alloc S fun _ _ S => ?_ | refine st_held S rfl ?_ | refine w_guard (by (first | exact inK64 (by omega) (by omega) | omega | (constructor <;> omega) | ((try dsimp only [Sh.T, Sh1.T]); first | exact inK64 (by omega) (by omega) | omega | exact ⟨by decide, inK64 (by omega) (by omega)⟩ | trivial))) ?_ | refine bd_n rfl ?_ | refine bd_e rfl ?_ | refine bd_r ?_ | refine bd_p ?_ | refine ln_r ?_ | refine ln_e ?_ | refine w_true (b := true) rfl ?_ | refine w_false (b := false) rfl ?_ | refine w_guard (show noMeths _ _ by show _ = _; kernel_rfl) ?_ | (refine w_callT (c_leafp (kp := none) (S.rd rfl)) ?_; rintro _ _ ⟨rfl, rfl⟩) | (refine w_callT (c_leafp (kp := some _) (S.rd rfl)) ?_; rintro _ _ ⟨rfl, rfl⟩) | (refine w_callT (c_leafp (S.rd rfl)) ?_; rintro _ _ ⟨rfl, rfl⟩) | (refine w_callT (c_leaf (kp := none) (S.rd rfl)) ?_; rintro _ _ ⟨rfl, rfl⟩) | (refine w_callT (c_leaf (kp := some _) (S.rd rfl)) ?_; rintro _ _ ⟨rfl, rfl⟩))
            have S := (S.at (.ow a0)).re a0 (mapC iso ctr (some (b, 0)) ((flatB n t).eraseIdx J).length dg (2 * dg + 1) false false) 0 rfl (by simp [mapC, Cell.val, ← hft]; omega) rfl
            exact md_r (rt_n rfl rfl ⟨_, ⟨rfl, rfl⟩, shut_map (S.only [.ow a0, .tr b]) rfl hft hst hr.2.1 (of_res hr hi hz) ⟨hmx, hmn, hmb⟩⟩)
      | succ r =>
        obtain ⟨xs, ts⟩ := u
        have hl2 : ts.length = xs.length + 1 := hvu.2.1
        have hxl : xs.length ≤ 2 * dg + 1 := hvu.1
        have hc : xs.length ≤ c := hc
        obtain ⟨hb, q, d, ks, rfl, hd, hkl, S⟩ := open_kids L iso (S.at (.kd kp))
        have hkl : ks.length = ts.length := hkl
        obtain ⟨s1, s2, s3⟩ := s
        repeat (first | refine st_there (fun _ h => h) S (lt_ble rfl) ?_ | refine th_it S (by first | omega | (dsimp only; omega)) ?_ | refine w_there hok ?_ | refine w_nonnil ?_ | refine ld_it S (by assumption) ?_ | refine ld_it0 S (by assumption) ?_ | refine ld_val S (by assumption) ?_ | refine ld_key S (by assumption) ?_ | refine ld_int S rfl ?_ | refine w_int _ (S.cnt _) ?_ | refine ld_kid S (by assumption) ?_ | refine ld_kid0 S (by assumption) ?_ | refine ld_some S rfl ?_ | refine ld_ptr S _ rfl ?_ | refine ld_sls S rfl ?_ | refine ld_nil S rfl ?_ | refine ld_bool S rfl ?_ | refine st_it S (by first | omega | (dsimp only; omega)) fun _ S => ?_ | refine st_it0 S (by first | omega | (dsimp only; omega)) fun _ S => ?_ | refine st_kid S (by first | omega | (dsimp only; omega)) none rfl fun _ S => ?_ | refine st_kid S (by first | omega | (dsimp only; omega)) (some _) rfl fun _ S => ?_ | refine st_kid0 S (by first | omega | (dsimp only; omega)) (some _) rfl fun _ S => ?_ | refine st_store S (lt_ble rfl) fun _ S => ?_ | refine st_alloc S fun _ _ S => ?_ | refine st_held S rfl ?_ | refine w_guard (by (first | exact inK64 (by omega) (by omega) | omega | (constructor <;> omega) | ((try dsimp only [Sh.T, Sh1.T]); first | exact inK64 (by omega) (by omega) | omega | exact ⟨by decide, inK64 (by omega) (by omega)⟩ | trivial))) ?_ | refine bd_n rfl ?_ | refine bd_e rfl ?_ | refine bd_r ?_ | refine bd_p ?_ | refine ln_r ?_ | refine ln_e ?_ | refine w_true (b := true) rfl ?_ | refine w_false (b := false) rfl ?_ | refine w_guard (show noMeths _ _ by show _ = _; kernel_rfl) ?_ | (refine w_callT (c_leafp (kp := none) (S.rd rfl)) ?_; rintro _ _ ⟨rfl, rfl⟩) | (refine w_callT (c_leafp (kp := some _) (S.rd rfl)) ?_; rintro _ _ ⟨rfl, rfl⟩) | (refine w_callT (c_leafp (S.rd rfl)) ?_; rintro _ _ ⟨rfl, rfl⟩) | (refine w_callT (c_leaf (kp := none) (S.rd rfl)) ?_; rintro _ _ ⟨rfl, rfl⟩) | (refine w_callT (c_leaf (kp := some _) (S.rd rfl)) ?_; rintro _ _ ⟨rfl, rfl⟩))
        have S := (S.at (.ow (b', 0))).re (b', 0) (nodeC iso ((flatB (r + 1) ((xs, ts) : BT KV (r + 1))).length - 1) (some p, xs.length, c) (some (hb, 0))) 0 rfl (nodeC_cnt (by omega)) rfl
        have S := S.ats [.ow (b', 0), .ow p, .ow (hb, 0), .ow q, .fo ks, .kd none, .ow (n6, 0), .ow a0, .sl (s1, s2, s3)]
        refine w_mid' (some 2) (fun (x : SV [.c (.int .i64), .c (.int .i64), .c .sl]) h' => ∃ (j idx' : Nat) (v : BT KV r), x = ((j : Int), (idx' : Int), (s1, s2, s3), ()) ∧ ts[j]? = some v ∧ idx = (ahead xs ts j).length + idx' ∧ idx' < (flatB r v).length ∧
          St h G [Ow (b', 0) (nodeC iso ((flatB (r + 1) ((xs, ts) : BT KV (r + 1))).length - 1) (some p, xs.length, c) (some (hb, 0))) 0, Ow p (L.flat xs) ((c - xs.length) * L.sz), Ow (hb, 0) (hdC (some q, ks.length, d)) 0, Ow q (LK.flat (ks.map some)) ((d - ks.length) * LK.sz), FoC L iso r ks ts, WdC (PaC L iso dg (2 * dg + 1) (r + 1) b' (xs, ts) idx) T, Ow (n6, 0) ([.int .i64 (z0 : KV).1]) 0, Ow a0 (mapC iso ctr (some (b, 0)) (flatB n t).length dg (2 * dg + 1) false false) 0, SlC (s1, s2, s3) LU.sz (LU.flat (w.map Int.ofNat))] h') ?_ ?_
        · refine w_lp (fun m x h' => ∃ (j idx' : Nat), x = ((j : Int), (idx' : Int), (s1, s2, s3), ()) ∧ j + m = xs.length ∧ idx = (ahead xs ts j).length + idx' ∧
            St h G [Ow (b', 0) (nodeC iso ((flatB (r + 1) ((xs, ts) : BT KV (r + 1))).length - 1) (some p, xs.length, c) (some (hb, 0))) 0, Ow p (L.flat xs) ((c - xs.length) * L.sz), Ow (hb, 0) (hdC (some q, ks.length, d)) 0, Ow q (LK.flat (ks.map some)) ((d - ks.length) * LK.sz), FoC L iso r ks ts, WdC (PaC L iso dg (2 * dg + 1) (r + 1) b' (xs, ts) idx) T, Ow (n6, 0) ([.int .i64 (z0 : KV).1]) 0, Ow a0 (mapC iso ctr (some (b, 0)) (flatB n t).length dg (2 * dg + 1) false false) 0, SlC (s1, s2, s3) LU.sz (LU.flat (w.map Int.ofNat))] h') xs.length rfl ⟨0, idx, rfl, by omega, by rw [ah_zero]; simp, S⟩ ?_
          clear S
          rintro m _ h5 ⟨j, idx', rfl, hj, hidx, S⟩
          obtain ⟨v, hu⟩ : ∃ v, ts[j]? = some v := ⟨_, List.getElem?_eq_getElem (by omega)⟩
          have hal := ah_len hl2 hu
          obtain ⟨F, hF⟩ := S.fct (.fo ks)
          have hq : rds h5 q (ks.map kptr) := by
            have := S.rds (a := q) (vs := LK.flat (ks.map some)) (j := 0) (LK.flat (ks.map some)) (fun i v h => by rw [Nat.zero_add]; exact h)
            rw [LK_flat] at this; exact this
          obtain ⟨k, FI, k1, k2, k3⟩ := fo_kid L iso hF hu hq
          have kc := tr_count k3
          by_cases hlj : j < xs.length
          · have hxj := List.getElem?_eq_getElem hlj
            refine w_nonnil (ld_sls S rfl (w_true (lt_t (by (first | omega | ((try dsimp only [Sh.T, Sh1.T]); omega)))) ?_))
            simp only [Int.toNat_natCast, toNat_succ, toNat_succ2, toNat_pred]
            refine w_nonnil (ld_some S rfl (w_nonnil (ld_sls S rfl (w_nonnil (w_guard ⟨by (first | omega | ((try dsimp only [Sh.T, Sh1.T]); omega)), by (first | omega | ((try dsimp only [Sh.T, Sh1.T]); omega))⟩ (w_ptr (some (k, 0)) k2 (w_nonnil (w_int _ kc ?_))))))))
            by_cases h1 : idx' < (flatB r v).length
            · exact w_true (lt_t (by (first | omega | ((try dsimp only [Sh.T, Sh1.T]); omega)))) (ln_e (md_e rfl ⟨j, idx', v, rfl, hu, hidx, h1, S⟩))
            · refine w_false (lt_f (by (first | omega | ((try dsimp only [Sh.T, Sh1.T]); omega)))) ?_
              refine w_nonnil (ld_some S rfl (w_nonnil (ld_sls S rfl (w_nonnil (w_guard ⟨by (first | omega | ((try dsimp only [Sh.T, Sh1.T]); omega)), by (first | omega | ((try dsimp only [Sh.T, Sh1.T]); omega))⟩ (w_ptr (some (k, 0)) k2 (w_nonnil (w_int _ kc ?_))))))))
              by_cases h2e : idx' = (flatB r v).length
              · refine w_true (beq_t (by (first | omega | ((try dsimp only [Sh.T, Sh1.T]); omega)))) ?_
                obtain ⟨B, hB⟩ := ah_at2 hl2 hu hxj
                have hy2 : (flatB (r + 1) ((xs, ts) : BT KV (r + 1)))[idx]? = some xs[j] := by
                  rw [hB, hidx, h2e, List.append_assoc, List.getElem?_append_right (by omega), Nat.add_sub_cancel_left, List.append_assoc, List.getElem?_append_right (by omega), Nat.sub_self]; rfl
                obtain rfl : xs[j] = y := Option.some.inj (hy2.symm.trans hyu)
                refine w_nonnil (ld_sls S rfl (w_nonnil (w_guard ⟨by (first | omega | ((try dsimp only [Sh.T, Sh1.T]); omega)), by (first | omega | ((try dsimp only [Sh.T, Sh1.T]); omega))⟩ ?_)))
                refine ld_it S hxj ?_
                refine st_store S (lt_ble rfl) fun _ S => ?_
                skip
                refine w_guard (inU8 (by omega)) ?_
                refine st_alloc S fun n21 _ S => ?_
                refine st_apo (L := LU) (xs := w.map Int.ofNat) (y := (j : Int)) S hso rfl rfl (S.rsl (LU.flat [(j : Int)]) 1 1 1 (fun i v h => by rw [Nat.zero_add]; exact h) rfl) ⟨by omega, by omega⟩ fun s' _ hs' S => ?_
                have ew : w.map Int.ofNat ++ [(j : Int)] = (w ++ [j]).map Int.ofNat := by simp
                rw [ew] at hs' S
                refine ln_e (md_q (by decide) (ln_e (md_e rfl ⟨s', w, j, rfl, hs', by have := hE [] j (by show j < ts.length; omega); simpa using this, ?_⟩)))
                have S := shut_kids L iso (t := ((xs, ts) : BT KV (r + 1))) (S.ats [.ow (hb, 0), .ow q, .fo ks]) rfl rfl rfl hd rfl hkl
                have S := shut_dm0 L iso (n := r + 1) (t := ((xs, ts) : BT KV (r + 1))) (S.ats [.ow (b', 0), .ow p, .kd (some (hb, 0))]) rfl rfl rfl rfl hc rfl
                have S := wd_use (some []) (S.ats [.kd none, .tr b'])
                rw [hT1, List.append_nil] at S
                exact S.only [.tr b, .ow (n6, 0), .ow a0, .sl s']
              · refine w_false (beq_f (by (first | omega | ((try dsimp only [Sh.T, Sh1.T]); omega)))) ?_
                refine w_nonnil (ld_some S rfl (w_nonnil (ld_sls S rfl (w_nonnil (w_guard ⟨by (first | omega | ((try dsimp only [Sh.T, Sh1.T]); omega)), by (first | omega | ((try dsimp only [Sh.T, Sh1.T]); omega))⟩ (w_ptr (some (k, 0)) k2 (w_nonnil (w_int _ kc ?_))))))))
                refine w_guard (inK64 (by (first | omega | ((try dsimp only [Sh.T, Sh1.T]); omega))) (by (first | omega | ((try dsimp only [Sh.T, Sh1.T]); omega)))) (w_guard (inK64 (by (first | omega | ((try dsimp only [Sh.T, Sh1.T]); omega))) (by (first | omega | ((try dsimp only [Sh.T, Sh1.T]); omega)))) (w_guard (inK64 (by (first | omega | ((try dsimp only [Sh.T, Sh1.T]); omega))) (by (first | omega | ((try dsimp only [Sh.T, Sh1.T]); omega)))) ?_))
                have hsuc := ah_succ hl2 hxj hu
                refine ln_n rfl (m - 1) ⟨j + 1, idx' - ((flatB r v).length + 1), ?_, by omega, by rw [hsuc]; simp; omega, S⟩ (by omega)
                rw [show ((idx' - ((flatB r v).length + 1) : Nat) : Int) = (idx' : Int) - (((flatB r v).length : Int) + 1) by omega]; rfl
          · have hje : j = xs.length := by omega
            subst hje
            have hla := ah_last hl2 hu
            have hlt2 := hlt
            rw [hla, List.length_append] at hlt2
            exact w_nonnil (ld_sls S rfl (w_false (lt_f (by (first | omega | ((try dsimp only [Sh.T, Sh1.T]); omega)))) (ln_e (md_e rfl ⟨_, idx', v, rfl, hu, hidx, by omega, S⟩))))
        · clear S
          rintro _ h6 ⟨j, idx', v, rfl, hu, hidx, hlv, S⟩
          have hjl := (List.getElem?_eq_some_iff.1 hu).1
          obtain ⟨gv, gi⟩ := hvu.2.2 v (List.mem_of_getElem? hu)
          obtain ⟨R, hR, _⟩ := kid_flat (xs := xs) (ts := ts) hl2 hu
          refine w_guard (inU8 (by omega)) ?_
          refine st_alloc S fun n80 _ S => ?_
          refine st_apo (L := LU) (xs := w.map Int.ofNat) (y := (j : Int)) S hso rfl rfl (S.rsl (LU.flat [(j : Int)]) 1 1 1 (fun i v h => by rw [Nat.zero_add]; exact h) rfl) ⟨by omega, by omega⟩ fun s' _ hs' S => ?_
          have ew : w.map Int.ofNat ++ [(j : Int)] = (w ++ [j]).map Int.ofNat := by simp
          rw [ew] at hs' S
          obtain ⟨k, hk, S⟩ := fo_at L iso hkl hu (S.at (.fo ks))
          have hk0 : (ks.map some)[j]? = some (some k) := by rw [List.getElem?_map, hk]; rfl
          simp only [Int.toNat_natCast, toNat_succ, toNat_succ2, toNat_pred]
          refine w_nonnil (ld_some S rfl (w_nonnil (ld_sls S rfl (w_nonnil (w_guard ⟨by (first | omega | ((try dsimp only [Sh.T, Sh1.T]); omega)), by (first | omega | ((try dsimp only [Sh.T, Sh1.T]); omega))⟩ ?_)))))
          refine w_callT (c_isoLoad (S.rd (LK_get hk0)) (S.iso k) (S.rd rfl)) ?_
          rintro _ _ ⟨rfl, rfl⟩
          have S := wd_down L iso dg (2 * dg + 1) (i := j) (j := idx') (S.ats [.kd none, .ow (b', 0), .ow p, .ow (hb, 0), .ow q, .fo (ks.drop (j + 1)), .fo (ks.take j)]) rfl rfl rfl rfl rfl rfl hc rfl hd rfl hkl hk hu hvu hlv hidx
          refine ln_n rfl r ⟨k, v, idx', s', w ++ [j], fun a => T (a.map (j :: ·)), rfl, gv, by omega, ?_, hlv, by rw [hR] at hlu; simp at hlu; omega, by simp; omega, hs', hT0, fun p => ?_, fun p k' hp => ?_, S.only [.kd none, .tr k, .ow (n6, 0), .ow a0, .sl s']⟩ (by omega)
          · rw [← hyu, hR, hidx, List.getElem?_append_right (by omega), Nat.add_sub_cancel_left, List.getElem?_append_left hlv]
          · show T (some (j :: p)) = _
            rw [hT1]; simp
          · have := hE (j :: p) k' ⟨v, hu, hp⟩
            simpa using this
    · rintro _ h3 ⟨⟨s1, s2, s3⟩, w, k, rfl, hso, hE, S⟩
      have hs2 : s2 = w.length + 1 := by have := hso.1; simpa using this
      obtain ⟨pp, hpp, hro⟩ := hso.rdr.ptr (by simp)
      dsimp only at hpp
      subst hpp
      have hnl : w.length ≤ 4294967296 + 1 := by
        have h1 := ht_lt hmn n t hv hi
        have key : ∀ (m : Nat) (u : BT KV m) (p : List Nat), EndOK m u p k → p.length ≤ m := by
          intro m
          induction m with
          | zero => intro u p hp; obtain rfl : p = [] := hp; exact Nat.le_refl _
          | succ m ih =>
            intro u p hp
            cases p with
            | nil => exact Nat.zero_le _
            | cons a p =>
              obtain ⟨v, _, hv⟩ := hp
              have := ih v p hv
              simp; omega
        have := key n t w hE
        omega
      repeat (first | refine st_there (fun _ h => h) S (lt_ble rfl) ?_ | refine th_it S (by first | omega | (dsimp only; omega)) ?_ | refine w_there hok ?_ | refine w_nonnil ?_ | refine ld_it S (by assumption) ?_ | refine ld_it0 S (by assumption) ?_ | refine ld_val S (by assumption) ?_ | refine ld_key S (by assumption) ?_ | refine ld_int S rfl ?_ | refine w_int _ (S.cnt _) ?_ | refine ld_kid S (by assumption) ?_ | refine ld_kid0 S (by assumption) ?_ | refine ld_some S rfl ?_ | refine ld_ptr S _ rfl ?_ | refine ld_sls S rfl ?_ | refine ld_nil S rfl ?_ | refine ld_bool S rfl ?_ | refine st_it S (by first | omega | (dsimp only; omega)) fun _ S => ?_ | refine st_it0 S (by first | omega | (dsimp only; omega)) fun _ S => ?_ | refine st_kid S (by first | omega | (dsimp only; omega)) none rfl fun _ S => ?_ | refine st_kid S (by first | omega | (dsimp only; omega)) (some _) rfl fun _ S => ?_ | refine st_kid0 S (by first | omega | (dsimp only; omega)) (some _) rfl fun _ S => ?_ | refine st_store S (lt_ble rfl) fun _ S => ?_ | refine st_alloc S fun _ _ S => ?_ | refine st_held S rfl ?_ | refine w_guard (by (first | exact inK64 (by omega) (by omega) | omega | (constructor <;> omega) | ((try dsimp only [Sh.T, Sh1.T]); first | exact inK64 (by omega) (by omega) | omega | exact ⟨by decide, inK64 (by omega) (by omega)⟩ | trivial))) ?_ | refine bd_n rfl ?_ | refine bd_e rfl ?_ | refine bd_r ?_ | refine bd_p ?_ | refine ln_r ?_ | refine ln_e ?_ | refine w_true (b := true) rfl ?_ | refine w_false (b := false) rfl ?_ | refine w_guard (show noMeths _ _ by show _ = _; kernel_rfl) ?_ | (refine w_callT (c_leafp (kp := none) (S.rd rfl)) ?_; rintro _ _ ⟨rfl, rfl⟩) | (refine w_callT (c_leafp (kp := some _) (S.rd rfl)) ?_; rintro _ _ ⟨rfl, rfl⟩) | (refine w_callT (c_leafp (S.rd rfl)) ?_; rintro _ _ ⟨rfl, rfl⟩) | (refine w_callT (c_leaf (kp := none) (S.rd rfl)) ?_; rintro _ _ ⟨rfl, rfl⟩) | (refine w_callT (c_leaf (kp := some _) (S.rd rfl)) ?_; rintro _ _ ⟨rfl, rfl⟩))
      have S := wd_id (fun _ : Unit => TrC L iso n b t) S
      refine w_mid' (some 4) (fun _ h' => St h G [TrC L iso n b t, Ow (n6, 0) ([.int .i64 y.1]) 0, Ow a0 (mapC iso ctr (some (b, 0)) (flatB n t).length dg (2 * dg + 1) false false) 0] h') ?_ ?_
      · refine w_lp (fun m x h' => ∃ (j : Nat) (nd : Option PA), x = ((j : Int), nd, ()) ∧ j + m = w.length + 1 ∧
          ((m = 0 ∧ St h G [TrC L iso n b t, Ow (n6, 0) ([.int .i64 y.1]) 0, Ow a0 (mapC iso ctr (some (b, 0)) (flatB n t).length dg (2 * dg + 1) false false) 0] h') ∨
           (∃ (r : Nat) (p : List Nat) (b' : Nat) (u : BT KV r), m = p.length + 1 ∧ nd = some (b', 0) ∧ (w ++ [k]).drop j = p ++ [k] ∧ Val dg (2 * dg + 1) r u ∧ 1 ≤ (itemsB r u).length ∧ (flatB r u).length ≤ (flatB n t).length ∧ EndOK r u p k ∧
            St h G [WdC (fun _ : Unit => TrC L iso r b' u) (fun _ => TrC L iso n b t), DmC L iso r p b' u, Ow (n6, 0) ([.int .i64 y.1]) 0, Ow a0 (mapC iso ctr (some (b, 0)) (flatB n t).length dg (2 * dg + 1) false false) 0, SlC (some pp, s2, s3) LU.sz (LU.flat ((w ++ [k]).map Int.ofNat))] h'))) (w.length + 1) rfl
          ⟨0, some (b, 0), rfl, by omega, .inr ⟨n, w, b, t, rfl, rfl, rfl, hv, hi, Nat.le_refl _, hE, S.ats [.kd none, .tr b, .ow (n6, 0), .ow a0, .sl (some pp, s2, s3)]⟩⟩ ?_
        clear S hE
        rintro m _ h5 ⟨j, nd, rfl, hj, ⟨rfl, S⟩ | ⟨r, p, b', u, hm, rfl, hdr, hvu, hiu, hlu, hE, S⟩⟩
        · exact w_false (lt_f (by (first | omega | ((try dsimp only [Sh.T, Sh1.T]); omega)))) (ln_e (md_e rfl S))
        have hpos : 1 ≤ (flatB r u).length := Nat.le_trans hiu (items_le hvu)
        refine w_true (lt_t (by (first | omega | ((try dsimp only [Sh.T, Sh1.T]); omega)))) ?_
        have hrd := S.fct (.sl (some pp, s2, s3))
        obtain ⟨Fp, hFp⟩ := hrd
        cases p with
        | nil =>
          have hgj : ((w ++ [k]).map Int.ofNat)[j]? = some (k : Int) := by
            have := congrArg (fun l => l[0]?) hdr
            simp only [List.getElem?_drop, Nat.add_zero] at this
            rw [List.getElem?_map, this]; rfl
          obtain ⟨pi, c, kp, hc, hkp, S⟩ := open_dm0 L iso (S.at (.tr b'))
          cases r with
          | zero =>
            have S := S.at (.kd kp)
            obtain rfl := kids_leaf L iso S
            have S := S.drop
            repeat (first | refine st_there (fun _ h => h) S (lt_ble rfl) ?_ | refine th_it S (by first | omega | (dsimp only; omega)) ?_ | refine w_there hok ?_ | refine w_nonnil ?_ | refine ld_it S (by assumption) ?_ | refine ld_it0 S (by assumption) ?_ | refine ld_val S (by assumption) ?_ | refine ld_key S (by assumption) ?_ | refine ld_int S rfl ?_ | refine w_int _ (S.cnt _) ?_ | refine ld_kid S (by assumption) ?_ | refine ld_kid0 S (by assumption) ?_ | refine ld_some S rfl ?_ | refine ld_ptr S _ rfl ?_ | refine ld_sls S rfl ?_ | refine ld_nil S rfl ?_ | refine ld_bool S rfl ?_ | refine st_it S (by first | omega | (dsimp only; omega)) fun _ S => ?_ | refine st_it0 S (by first | omega | (dsimp only; omega)) fun _ S => ?_ | refine st_kid S (by first | omega | (dsimp only; omega)) none rfl fun _ S => ?_ | refine st_kid S (by first | omega | (dsimp only; omega)) (some _) rfl fun _ S => ?_ | refine st_kid0 S (by first | omega | (dsimp only; omega)) (some _) rfl fun _ S => ?_ | refine st_store S (lt_ble rfl) fun _ S => ?_ | refine st_alloc S fun _ _ S => ?_ | refine st_held S rfl ?_ | refine w_guard (by (first | exact inK64 (by omega) (by omega) | omega | (constructor <;> omega) | ((try dsimp only [Sh.T, Sh1.T]); first | exact inK64 (by omega) (by omega) | omega | exact ⟨by decide, inK64 (by omega) (by omega)⟩ | trivial))) ?_ | refine bd_n rfl ?_ | refine bd_e rfl ?_ | refine bd_r ?_ | refine bd_p ?_ | refine ln_r ?_ | refine ln_e ?_ | refine w_true (b := true) rfl ?_ | refine w_false (b := false) rfl ?_ | refine w_guard (show noMeths _ _ by show _ = _; kernel_rfl) ?_ | (refine w_callT (c_leafp (kp := none) (S.rd rfl)) ?_; rintro _ _ ⟨rfl, rfl⟩) | (refine w_callT (c_leafp (kp := some _) (S.rd rfl)) ?_; rintro _ _ ⟨rfl, rfl⟩) | (refine w_callT (c_leafp (S.rd rfl)) ?_; rintro _ _ ⟨rfl, rfl⟩) | (refine w_callT (c_leaf (kp := none) (S.rd rfl)) ?_; rintro _ _ ⟨rfl, rfl⟩) | (refine w_callT (c_leaf (kp := some _) (S.rd rfl)) ?_; rintro _ _ ⟨rfl, rfl⟩))
            refine w_bnd (w_false rfl (bd_n rfl ?_))
            refine w_guard (inK64 (by (first | omega | ((try dsimp only [Sh.T, Sh1.T]); omega))) (by (first | omega | ((try dsimp only [Sh.T, Sh1.T]); omega)))) ?_
            have S := shut_nd L iso (n := 0) (t := u) (shut_nokids L iso (t := u) S |>.ats [.ow (b', 0), .ow pi, .kd none]) (cnt := (flatB 0 u).length) (nodeC_cnt (by omega)) rfl rfl rfl hc rfl
            have S := wd_use () (S.ats [.kd none, .tr b'])
            exact ln_n rfl 0 ⟨j + 1, _, rfl, by simp at hm; omega, .inl ⟨rfl, S.only [.tr b, .ow (n6, 0), .ow a0]⟩⟩ (by omega)
          | succ r =>
            obtain ⟨xs, ts⟩ := u
            have hl2 : ts.length = xs.length + 1 := hvu.2.1
            have hc : xs.length ≤ c := hc
            have hE : k < ts.length := hE
            obtain ⟨hb, q, d, ks, rfl, hd, hkl, S⟩ := open_kids L iso (S.at (.kd kp))
            have hkl : ks.length = ts.length := hkl
            have hkk : (ks.map some)[k]? = some (some (ks[k]'(by omega))) := by rw [List.getElem?_map, List.getElem?_eq_getElem (by omega)]; rfl
            repeat (first | refine st_there (fun _ h => h) S (lt_ble rfl) ?_ | refine th_it S (by first | omega | (dsimp only; omega)) ?_ | refine w_there hok ?_ | refine w_nonnil ?_ | refine ld_it S (by assumption) ?_ | refine ld_it0 S (by assumption) ?_ | refine ld_val S (by assumption) ?_ | refine ld_key S (by assumption) ?_ | refine ld_int S rfl ?_ | refine w_int _ (S.cnt _) ?_ | refine ld_kid S (by assumption) ?_ | refine ld_kid0 S (by assumption) ?_ | refine ld_some S rfl ?_ | refine ld_ptr S _ rfl ?_ | refine ld_sls S rfl ?_ | refine ld_nil S rfl ?_ | refine ld_bool S rfl ?_ | refine st_it S (by first | omega | (dsimp only; omega)) fun _ S => ?_ | refine st_it0 S (by first | omega | (dsimp only; omega)) fun _ S => ?_ | refine st_kid S (by first | omega | (dsimp only; omega)) none rfl fun _ S => ?_ | refine st_kid S (by first | omega | (dsimp only; omega)) (some _) rfl fun _ S => ?_ | refine st_kid0 S (by first | omega | (dsimp only; omega)) (some _) rfl fun _ S => ?_ | refine st_store S (lt_ble rfl) fun _ S => ?_ | refine st_alloc S fun _ _ S => ?_ | refine st_held S rfl ?_ | refine w_guard (by (first | exact inK64 (by omega) (by omega) | omega | (constructor <;> omega) | ((try dsimp only [Sh.T, Sh1.T]); first | exact inK64 (by omega) (by omega) | omega | exact ⟨by decide, inK64 (by omega) (by omega)⟩ | trivial))) ?_ | refine bd_n rfl ?_ | refine bd_e rfl ?_ | refine bd_r ?_ | refine bd_p ?_ | refine ln_r ?_ | refine ln_e ?_ | refine w_true (b := true) rfl ?_ | refine w_false (b := false) rfl ?_ | refine w_guard (show noMeths _ _ by show _ = _; kernel_rfl) ?_ | (refine w_callT (c_leafp (kp := none) (S.rd rfl)) ?_; rintro _ _ ⟨rfl, rfl⟩) | (refine w_callT (c_leafp (kp := some _) (S.rd rfl)) ?_; rintro _ _ ⟨rfl, rfl⟩) | (refine w_callT (c_leafp (S.rd rfl)) ?_; rintro _ _ ⟨rfl, rfl⟩) | (refine w_callT (c_leaf (kp := none) (S.rd rfl)) ?_; rintro _ _ ⟨rfl, rfl⟩) | (refine w_callT (c_leaf (kp := some _) (S.rd rfl)) ?_; rintro _ _ ⟨rfl, rfl⟩))
            refine w_bnd (w_true rfl ?_)
            refine w_nonnil (ld_some S rfl (w_nonnil (ld_sls S rfl (w_nonnil (w_guard ⟨by (first | omega | ((try dsimp only [Sh.T, Sh1.T]); omega)), by (first | omega | ((try dsimp only [Sh.T, Sh1.T]); omega))⟩ ?_)))))
            simp only [Int.toNat_natCast, toNat_succ, toNat_succ2, toNat_pred]
            have hF2 := S.fct (.sl (some pp, s2, s3))
            obtain ⟨F2, hF2⟩ := hF2
            refine w_lu (hro _ F2 hF2) hgj (w_nonnil (w_guard ⟨by (first | omega | ((try dsimp only [Sh.T, Sh1.T]); omega)), by (first | omega | ((try dsimp only [Sh.T, Sh1.T]); omega))⟩ ?_))
            simp only [Int.toNat_natCast, toNat_succ, toNat_succ2, toNat_pred]
            refine ld_kid S hkk (bd_n rfl ?_)
            refine w_guard (inK64 (by (first | omega | ((try dsimp only [Sh.T, Sh1.T]); omega))) (by (first | omega | ((try dsimp only [Sh.T, Sh1.T]); omega)))) ?_
            have S := shut_kids L iso (t := ((xs, ts) : BT KV (r + 1))) (S.ats [.ow (hb, 0), .ow q, .fo ks]) rfl rfl rfl hd rfl hkl
            have S := shut_nd L iso (n := r + 1) (t := ((xs, ts) : BT KV (r + 1))) (S.ats [.ow (b', 0), .ow pi, .kd (some (hb, 0))]) (cnt := (flatB (r + 1) ((xs, ts) : BT KV (r + 1))).length) (nodeC_cnt (by omega)) rfl rfl rfl hc rfl
            have S := wd_use () (S.ats [.kd none, .tr b'])
            exact ln_n rfl 0 ⟨j + 1, _, rfl, by simp at hm; omega, .inl ⟨rfl, S.only [.tr b, .ow (n6, 0), .ow a0]⟩⟩ (by omega)
        | cons i p =>
          have hgj : ((w ++ [k]).map Int.ofNat)[j]? = some (i : Int) := by
            have := congrArg (fun l => l[0]?) hdr
            simp only [List.getElem?_drop, Nat.add_zero] at this
            rw [List.getElem?_map, this]; rfl
          have hdr2 : (w ++ [k]).drop (j + 1) = p ++ [k] := by
            have := congrArg List.tail hdr
            simpa [List.tail_drop] using this
          cases r with
          | zero => exact (dm_leaf L iso (S.at (.tr b'))).elim
          | succ r =>
            obtain ⟨xs, ts⟩ := u
            have hl2 : ts.length = xs.length + 1 := hvu.2.1
            have hxl : xs.length ≤ 2 * dg + 1 := hvu.1
            obtain ⟨v, hvt, hE⟩ := hE
            obtain ⟨pi, c, hb, q, d, ks, kk, v', hc, hd, hkl, hk, hvt', S⟩ := open_dm L iso (S.at (.tr b'))
            obtain rfl : v = v' := Option.some.inj (hvt.symm.trans hvt')
            have hvt : ts[i]? = some v := hvt
            have hkl : ks.length = ts.length := hkl
            have hil2 := (List.getElem?_eq_some_iff.1 hvt).1
            have hk0 : (ks.map some)[i]? = some (some kk) := by rw [List.getElem?_map, hk]; rfl
            obtain ⟨gv, gi⟩ := hvu.2.2 v (List.mem_of_getElem? hvt)
            obtain ⟨R, hR, _⟩ := kid_flat (xs := xs) (ts := ts) hl2 hvt
            have hlv : (flatB r v).length ≤ (flatB n t).length := by rw [hR] at hlu; simp at hlu; omega
            repeat (first | refine st_there (fun _ h => h) S (lt_ble rfl) ?_ | refine th_it S (by first | omega | (dsimp only; omega)) ?_ | refine w_there hok ?_ | refine w_nonnil ?_ | refine ld_it S (by assumption) ?_ | refine ld_it0 S (by assumption) ?_ | refine ld_val S (by assumption) ?_ | refine ld_key S (by assumption) ?_ | refine ld_int S rfl ?_ | refine w_int _ (S.cnt _) ?_ | refine ld_kid S (by assumption) ?_ | refine ld_kid0 S (by assumption) ?_ | refine ld_some S rfl ?_ | refine ld_ptr S _ rfl ?_ | refine ld_sls S rfl ?_ | refine ld_nil S rfl ?_ | refine ld_bool S rfl ?_ | refine st_it S (by first | omega | (dsimp only; omega)) fun _ S => ?_ | refine st_it0 S (by first | omega | (dsimp only; omega)) fun _ S => ?_ | refine st_kid S (by first | omega | (dsimp only; omega)) none rfl fun _ S => ?_ | refine st_kid S (by first | omega | (dsimp only; omega)) (some _) rfl fun _ S => ?_ | refine st_kid0 S (by first | omega | (dsimp only; omega)) (some _) rfl fun _ S => ?_ | refine st_store S (lt_ble rfl) fun _ S => ?_ | refine st_alloc S fun _ _ S => ?_ | refine st_held S rfl ?_ | refine w_guard (by (first | exact inK64 (by omega) (by omega) | omega | (constructor <;> omega) | ((try dsimp only [Sh.T, Sh1.T]); first | exact inK64 (by omega) (by omega) | omega | exact ⟨by decide, inK64 (by omega) (by omega)⟩ | trivial))) ?_ | refine bd_n rfl ?_ | refine bd_e rfl ?_ | refine bd_r ?_ | refine bd_p ?_ | refine ln_r ?_ | refine ln_e ?_ | refine w_true (b := true) rfl ?_ | refine w_false (b := false) rfl ?_ | refine w_guard (show noMeths _ _ by show _ = _; kernel_rfl) ?_ | (refine w_callT (c_leafp (kp := none) (S.rd rfl)) ?_; rintro _ _ ⟨rfl, rfl⟩) | (refine w_callT (c_leafp (kp := some _) (S.rd rfl)) ?_; rintro _ _ ⟨rfl, rfl⟩) | (refine w_callT (c_leafp (S.rd rfl)) ?_; rintro _ _ ⟨rfl, rfl⟩) | (refine w_callT (c_leaf (kp := none) (S.rd rfl)) ?_; rintro _ _ ⟨rfl, rfl⟩) | (refine w_callT (c_leaf (kp := some _) (S.rd rfl)) ?_; rintro _ _ ⟨rfl, rfl⟩))
            refine w_bnd (w_true rfl ?_)
            refine w_nonnil (ld_some S rfl (w_nonnil (ld_sls S rfl (w_nonnil (w_guard ⟨by (first | omega | ((try dsimp only [Sh.T, Sh1.T]); omega)), by (first | omega | ((try dsimp only [Sh.T, Sh1.T]); omega))⟩ ?_)))))
            simp only [Int.toNat_natCast, toNat_succ, toNat_succ2, toNat_pred]
            have hF2 := S.fct (.sl (some pp, s2, s3))
            obtain ⟨F2, hF2⟩ := hF2
            refine w_lu (hro _ F2 hF2) hgj (w_nonnil (w_guard ⟨by (first | omega | ((try dsimp only [Sh.T, Sh1.T]); omega)), by (first | omega | ((try dsimp only [Sh.T, Sh1.T]); omega))⟩ ?_))
            simp only [Int.toNat_natCast, toNat_succ, toNat_succ2, toNat_pred]
            refine ld_kid S hk0 (bd_n rfl ?_)
            refine w_guard (inK64 (by (first | omega | ((try dsimp only [Sh.T, Sh1.T]); omega))) (by (first | omega | ((try dsimp only [Sh.T, Sh1.T]); omega)))) ?_
            have S := wd_up L iso (i := i) (S.ats [.kd none, .ow (b', 0), .ow pi, .ow (hb, 0), .ow q, .fo (ks.drop (i + 1)), .fo (ks.take i)]) (nodeC_cnt (by omega)) rfl rfl rfl rfl rfl hc rfl hd rfl hkl hk hvt
            exact ln_n rfl (p.length + 1) ⟨j + 1, _, rfl, by simp at hm; omega, .inr ⟨r, p, kk, v, rfl, rfl, hdr2, gv, by omega, hlv, hE, S.ats [.kd none, .tr kk, .ow (n6, 0), .ow a0, .sl (some pp, s2, s3)]⟩⟩ (by simp at hm; omega)
      · rintro _ h4 S
        have S := shut_map (S.ats [.ow a0, .tr b]) rfl rfl hs hv hi ⟨hmx, hmn, hmb⟩
        repeat (first | refine st_there (fun _ h => h) S (lt_ble rfl) ?_ | refine th_it S (by first | omega | (dsimp only; omega)) ?_ | refine w_there hok ?_ | refine w_nonnil ?_ | refine ld_it S (by assumption) ?_ | refine ld_it0 S (by assumption) ?_ | refine ld_val S (by assumption) ?_ | refine ld_key S (by assumption) ?_ | refine ld_int S rfl ?_ | refine w_int _ (S.cnt _) ?_ | refine ld_kid S (by assumption) ?_ | refine ld_kid0 S (by assumption) ?_ | refine ld_some S rfl ?_ | refine ld_ptr S _ rfl ?_ | refine ld_sls S rfl ?_ | refine ld_nil S rfl ?_ | refine ld_bool S rfl ?_ | refine st_it S (by first | omega | (dsimp only; omega)) fun _ S => ?_ | refine st_it0 S (by first | omega | (dsimp only; omega)) fun _ S => ?_ | refine st_kid S (by first | omega | (dsimp only; omega)) none rfl fun _ S => ?_ | refine st_kid S (by first | omega | (dsimp only; omega)) (some _) rfl fun _ S => ?_ | refine st_kid0 S (by first | omega | (dsimp only; omega)) (some _) rfl fun _ S => ?_ | refine st_store S (lt_ble rfl) fun _ S => ?_ | refine st_alloc S fun _ _ S => ?_ | refine st_held S rfl ?_ | refine w_guard (by (first | exact inK64 (by omega) (by omega) | omega | (constructor <;> omega) | ((try dsimp only [Sh.T, Sh1.T]); first | exact inK64 (by omega) (by omega) | omega | exact ⟨by decide, inK64 (by omega) (by omega)⟩ | trivial))) ?_ | refine bd_n rfl ?_ | refine bd_e rfl ?_ | refine bd_r ?_ | refine bd_p ?_ | refine ln_r ?_ | refine ln_e ?_ | refine w_true (b := true) rfl ?_ | refine w_false (b := false) rfl ?_ | refine w_guard (show noMeths _ _ by show _ = _; kernel_rfl) ?_ | (refine w_callT (c_leafp (kp := none) (S.rd rfl)) ?_; rintro _ _ ⟨rfl, rfl⟩) | (refine w_callT (c_leafp (kp := some _) (S.rd rfl)) ?_; rintro _ _ ⟨rfl, rfl⟩) | (refine w_callT (c_leafp (S.rd rfl)) ?_; rintro _ _ ⟨rfl, rfl⟩) | (refine w_callT (c_leaf (kp := none) (S.rd rfl)) ?_; rintro _ _ ⟨rfl, rfl⟩) | (refine w_callT (c_leaf (kp := some _) (S.rd rfl)) ?_; rintro _ _ ⟨rfl, rfl⟩))
        refine st_callT S [.mp a0] (fun G hG => c_Delete hl hG) ?_
        rintro _ _ h4 ⟨rfl, rfl⟩ S
        dsimp only [List.cons_append, List.nil_append] at S
        obtain ⟨_, hf, hdl⟩ := fnd_at ord hs hy (irr_k y).1 (irr_k y).2
        rw [hdl] at S
        refine st_alloc S fun nz1 _ S => ?_
        refine w_true (by first | rw [getR, hf] | simp [getR, hf]) ?_
        repeat (first | refine st_there (fun _ h => h) S (lt_ble rfl) ?_ | refine th_it S (by first | omega | (dsimp only; omega)) ?_ | refine w_there hok ?_ | refine w_nonnil ?_ | refine ld_it S (by assumption) ?_ | refine ld_it0 S (by assumption) ?_ | refine ld_val S (by assumption) ?_ | refine ld_key S (by assumption) ?_ | refine ld_int S rfl ?_ | refine w_int _ (S.cnt _) ?_ | refine ld_kid S (by assumption) ?_ | refine ld_kid0 S (by assumption) ?_ | refine ld_some S rfl ?_ | refine ld_ptr S _ rfl ?_ | refine ld_sls S rfl ?_ | refine ld_nil S rfl ?_ | refine ld_bool S rfl ?_ | refine st_it S (by first | omega | (dsimp only; omega)) fun _ S => ?_ | refine st_it0 S (by first | omega | (dsimp only; omega)) fun _ S => ?_ | refine st_kid S (by first | omega | (dsimp only; omega)) none rfl fun _ S => ?_ | refine st_kid S (by first | omega | (dsimp only; omega)) (some _) rfl fun _ S => ?_ | refine st_kid0 S (by first | omega | (dsimp only; omega)) (some _) rfl fun _ S => ?_ | refine st_store S (lt_ble rfl) fun _ S => ?_ | refine st_alloc S fun _ _ S => ?_ | refine st_held S rfl ?_ | refine w_guard (by (first | exact inK64 (by omega) (by omega) | omega | (constructor <;> omega) | ((try dsimp only [Sh.T, Sh1.T]); first | exact inK64 (by omega) (by omega) | omega | exact ⟨by decide, inK64 (by omega) (by omega)⟩ | trivial))) ?_ | refine bd_n rfl ?_ | refine bd_e rfl ?_ | refine bd_r ?_ | refine bd_p ?_ | refine ln_r ?_ | refine ln_e ?_ | refine w_true (b := true) rfl ?_ | refine w_false (b := false) rfl ?_ | refine w_guard (show noMeths _ _ by show _ = _; kernel_rfl) ?_ | (refine w_callT (c_leafp (kp := none) (S.rd rfl)) ?_; rintro _ _ ⟨rfl, rfl⟩) | (refine w_callT (c_leafp (kp := some _) (S.rd rfl)) ?_; rintro _ _ ⟨rfl, rfl⟩) | (refine w_callT (c_leafp (S.rd rfl)) ?_; rintro _ _ ⟨rfl, rfl⟩) | (refine w_callT (c_leaf (kp := none) (S.rd rfl)) ?_; rintro _ _ ⟨rfl, rfl⟩) | (refine w_callT (c_leaf (kp := some _) (S.rd rfl)) ?_; rintro _ _ ⟨rfl, rfl⟩))
        exact rt_n rfl rfl ⟨_, ⟨by first | (rw [getR, hf]; rfl) | rfl, rfl⟩, S.only [.mp a0]⟩
end
end Go.Proofs.Ytpbmahnieepmiaa.MS
