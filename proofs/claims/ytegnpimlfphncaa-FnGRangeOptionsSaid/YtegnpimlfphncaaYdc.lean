/-
  The map tg: two neighbours brought into balance. Conditions: none.
-/
import Derived.Test.YtegnpimlfphncaaPgD
import Derived.Test.YtegnpimlfphncaaYdb
set_option linter.unusedVariables false
set_option linter.unusedSimpArgs false
set_option linter.unusedSectionVars false
set_option maxRecDepth 100000
namespace Go.Proofs.Ytegnpimlfphncaa.TG
open Go Go.Proofs.Ytegnpimlfphncaa
section
variable {ls : Value} {o : List Int} {h : H}
set_option maxHeartbeats 4000000 in
theorem c_rebB {ht : Nat} {a0 : PA} {b mn mx i : Nat} {iso cnt : Int} {ctr root : Option PA} {cv icv : Bool} {t : BT KV (ht + 1)} (hx : 1 ≤ t.1.length) (hxm : t.1.length ≤ mx) (hl : t.2.length = t.1.length + 1) (hi : i ≤ t.1.length)
    (hk : ∀ j u, t.2[j]? = some u → Val mn mx ht u ∧ (if j = i then (itemsB ht u).length + 1 = mn else mn ≤ (itemsB ht u).length)) (hmn : mx = 2 * mn + 1) (h1 : 1 ≤ mn) (hm : mx ≤ 255) (hfl : (flatB (ht + 1) t).length ≤ 4294967296)
    (hcs : ∀ tl tr, t.2[if i = t.1.length then i - 1 else i]? = some tl → t.2[(if i = t.1.length then i - 1 else i) + 1]? = some tr → mx ≤ (itemsB ht tl).length + (itemsB ht tr).length ∧ (itemsB ht tr).length < (itemsB ht tl).length)
    {G : PA → Prop} (hG : Star [Ow a0 (mapC ls iso ctr root cnt mn mx cv icv) 0, TrC L iso (ht + 1) b t] h G) :
    HT Try.prog fn_tg_nodeRebalance [.c (.addr a0), .c (.addr (b, 0)), .c (.int .i64 i)] true [] h fun x h' => ∃ post, RebR a0 (mapC ls iso ctr root cnt mn mx cv icv) iso mn mx ht b t i post ∧ St h G post h' := by
  apply hc_tg_nodeRebalance
  unfold M_tg_nodeRebalance
  obtain ⟨xs, ts⟩ := t
  dsimp only at hx hxm hl hi hk hcs
  obtain ⟨p, c, q, d, hb, ks, hc, hd, hkl, S⟩ := open_node L iso ((St.start hG).at (.tr b))
  dsimp only at hc hkl S
  rw [← LK_flat] at S
  obtain ⟨n, hn⟩ : ∃ n, n = xs.length := ⟨_, rfl⟩
  obtain ⟨m, hm2⟩ : ∃ m, m = ks.length := ⟨_, rfl⟩
  rw [← hn] at hc S hx hxm hl hi hcs
  rw [← hm2] at hd S hkl
  repeat (first | refine w_nonnil ?_ | refine ld_it S (by assumption) ?_ | refine ld_int S rfl ?_ | refine w_int _ (S.cnt _) ?_ | refine ld_kid S (by assumption) ?_ | refine ld_kid0 S (by assumption) ?_ | refine ld_some S rfl ?_ | refine ld_sls S rfl ?_ | refine st_it S (by first | omega | (dsimp only; omega)) fun _ S => ?_ | refine st_it0 S (by first | omega | (dsimp only; omega)) fun _ S => ?_ | refine st_kid S (by first | omega | (dsimp only; omega)) none rfl fun _ S => ?_ | refine st_kid S (by first | omega | (dsimp only; omega)) (some _) rfl fun _ S => ?_ | refine st_kid0 S (by first | omega | (dsimp only; omega)) (some _) rfl fun _ S => ?_ | refine st_store S (lt_ble rfl) fun _ S => ?_ | refine st_alloc S fun _ _ S => ?_ | refine st_held S rfl ?_ | refine w_guard (by (first | exact inK64 (by omega) (by omega) | omega | (constructor <;> omega) | ((try dsimp only [Sh.T, Sh1.T]); first | exact inK64 (by omega) (by omega) | omega | exact ⟨by decide, inK64 (by omega) (by omega)⟩ | trivial))) ?_ | refine bd_n rfl ?_ | refine w_true (b := true) rfl ?_ | refine w_false (b := false) rfl ?_ | refine w_guard (show noMeths _ _ by show _ = _; kernel_rfl) ?_ | (refine w_callT (c_leafp (kp := none) (S.rd rfl)) ?_; rintro _ _ ⟨rfl, rfl⟩) | (refine w_callT (c_leafp (kp := some _) (S.rd rfl)) ?_; rintro _ _ ⟨rfl, rfl⟩) | (refine w_callT (c_leafp (S.rd rfl)) ?_; rintro _ _ ⟨rfl, rfl⟩) )
  refine w_bind (fun vs h' => h' = h ∧ ∃ j : Nat, vs.map AV.val = [.int .i64 j] ∧ j < n ∧ j = (if i = n then i - 1 else i)) ?_ ?_
  · refine w_ite (fun hb => ?_) (fun hb => ?_)
    · have e : ((i : Nat) : Int) = (n : Int) := by simpa using hb
      repeat (first | refine w_nonnil ?_ | refine ld_it S (by assumption) ?_ | refine ld_int S rfl ?_ | refine w_int _ (S.cnt _) ?_ | refine ld_kid S (by assumption) ?_ | refine ld_kid0 S (by assumption) ?_ | refine ld_some S rfl ?_ | refine ld_sls S rfl ?_ | refine st_it S (by first | omega | (dsimp only; omega)) fun _ S => ?_ | refine st_it0 S (by first | omega | (dsimp only; omega)) fun _ S => ?_ | refine st_kid S (by first | omega | (dsimp only; omega)) none rfl fun _ S => ?_ | refine st_kid S (by first | omega | (dsimp only; omega)) (some _) rfl fun _ S => ?_ | refine st_kid0 S (by first | omega | (dsimp only; omega)) (some _) rfl fun _ S => ?_ | refine st_store S (lt_ble rfl) fun _ S => ?_ | refine st_alloc S fun _ _ S => ?_ | refine st_held S rfl ?_ | refine w_guard (by (first | exact inK64 (by omega) (by omega) | omega | (constructor <;> omega) | ((try dsimp only [Sh.T, Sh1.T]); first | exact inK64 (by omega) (by omega) | omega | exact ⟨by decide, inK64 (by omega) (by omega)⟩ | trivial))) ?_ | refine bd_n rfl ?_ | refine w_true (b := true) rfl ?_ | refine w_false (b := false) rfl ?_ | refine w_guard (show noMeths _ _ by show _ = _; kernel_rfl) ?_ | (refine w_callT (c_leafp (kp := none) (S.rd rfl)) ?_; rintro _ _ ⟨rfl, rfl⟩) | (refine w_callT (c_leafp (kp := some _) (S.rd rfl)) ?_; rintro _ _ ⟨rfl, rfl⟩) | (refine w_callT (c_leafp (S.rd rfl)) ?_; rintro _ _ ⟨rfl, rfl⟩) )
      refine ⟨rfl, n - 1, ?_, by omega, by rw [if_pos (by omega)]; omega⟩
      simp only [List.map, AV.val, Cell.val]
      rw [show ((i : Int) - 1) = ((n - 1 : Nat) : Int) by omega]
    · have e : ¬ ((i : Nat) : Int) = (n : Int) := by simpa using hb
      exact ⟨rfl, i, rfl, by omega, by rw [if_neg (by omega)]⟩
  rintro vs _ ⟨rfl, j, e, hj, hj0⟩
  refine ⟨((j : Int), ()), e.symm, ?_⟩
  clear e
  have hji : j = i ∨ j + 1 = i := by split at hj0 <;> omega
  rw [← hj0] at hcs
  clear hj0
  simp only [Int.toNat_natCast, toNat_succ, toNat_succ2, toNat_pred]
  obtain ⟨A, x, C, rfl, hA⟩ := split_at (xs := xs) (j := j) (by omega)
  obtain ⟨B, tl, tr, D, rfl, hB⟩ := split_at2 (xs := ts) (j := j) (by omega)
  obtain ⟨KB, kl, kr, KD, rfl, hKB⟩ := split_at2 (xs := ks) (j := j) (by omega)
  have S := S.at (.fo (KB ++ kl :: kr :: KD))
  have S := fo_uncons L iso ((fo_split L iso (by omega) S).pull1)
  have S := fo_uncons L iso S.pull1
  have hxj := get_mid (A := A) (x := x) (C := C) hA
  have hkj : ((KB ++ kl :: kr :: KD).map some)[j]? = some (some kl) := by rw [List.getElem?_map, get_mid hKB]; rfl
  have hkj1 : ((KB ++ kl :: kr :: KD).map some)[j + 1]? = some (some kr) := by rw [List.getElem?_map, get_mid1 hKB]; rfl
  have hvl := hk j tl (get_mid hB)
  have hvr := hk (j + 1) tr (get_mid1 hB)
  have hn' : A.length + C.length + 1 = n := by rw [hn]; simp; omega
  have hm' : KB.length + KD.length + 2 = m := by rw [hm2]; simp; omega
  have hl' : B.length + D.length + 2 = n + 1 := by rw [← hl]; simp; omega
  have hkD : KD.length = D.length := by omega
  have hflat : (flatB (ht + 1) ((A ++ x :: C, B ++ tl :: tr :: D) : BT KV (ht + 1))) = pre (B.map (flatB ht)) A ++ (flatB ht tl ++ x :: (flatB ht tr ++ post C (D.map (flatB ht)))) := by
    simp only [flatB, List.map_append, List.map_cons]
    exact weave_mid (by simp; omega)
  rw [hflat] at hfl
  simp only [List.length_append, List.length_cons] at hfl
  repeat (first | refine w_nonnil ?_ | refine ld_it S (by assumption) ?_ | refine ld_int S rfl ?_ | refine w_int _ (S.cnt _) ?_ | refine ld_kid S (by assumption) ?_ | refine ld_kid0 S (by assumption) ?_ | refine ld_some S rfl ?_ | refine ld_sls S rfl ?_ | refine st_it S (by first | omega | (dsimp only; omega)) fun _ S => ?_ | refine st_it0 S (by first | omega | (dsimp only; omega)) fun _ S => ?_ | refine st_kid S (by first | omega | (dsimp only; omega)) none rfl fun _ S => ?_ | refine st_kid S (by first | omega | (dsimp only; omega)) (some _) rfl fun _ S => ?_ | refine st_kid0 S (by first | omega | (dsimp only; omega)) (some _) rfl fun _ S => ?_ | refine st_store S (lt_ble rfl) fun _ S => ?_ | refine st_alloc S fun _ _ S => ?_ | refine st_held S rfl ?_ | refine w_guard (by (first | exact inK64 (by omega) (by omega) | omega | (constructor <;> omega) | ((try dsimp only [Sh.T, Sh1.T]); first | exact inK64 (by omega) (by omega) | omega | exact ⟨by decide, inK64 (by omega) (by omega)⟩ | trivial))) ?_ | refine bd_n rfl ?_ | refine w_true (b := true) rfl ?_ | refine w_false (b := false) rfl ?_ | refine w_guard (show noMeths _ _ by show _ = _; kernel_rfl) ?_ | (refine w_callT (c_leafp (kp := none) (S.rd rfl)) ?_; rintro _ _ ⟨rfl, rfl⟩) | (refine w_callT (c_leafp (kp := some _) (S.rd rfl)) ?_; rintro _ _ ⟨rfl, rfl⟩) | (refine w_callT (c_leafp (S.rd rfl)) ?_; rintro _ _ ⟨rfl, rfl⟩) )
  refine w_callT (c_isoLoad (m := true) (b := kl) (S.rd (LK_get hkj)) (S.iso kl) (S.rd rfl)) ?_
  rintro _ _ ⟨rfl, rfl⟩
  repeat (first | refine w_nonnil ?_ | refine ld_it S (by assumption) ?_ | refine ld_int S rfl ?_ | refine w_int _ (S.cnt _) ?_ | refine ld_kid S (by assumption) ?_ | refine ld_kid0 S (by assumption) ?_ | refine ld_some S rfl ?_ | refine ld_sls S rfl ?_ | refine st_it S (by first | omega | (dsimp only; omega)) fun _ S => ?_ | refine st_it0 S (by first | omega | (dsimp only; omega)) fun _ S => ?_ | refine st_kid S (by first | omega | (dsimp only; omega)) none rfl fun _ S => ?_ | refine st_kid S (by first | omega | (dsimp only; omega)) (some _) rfl fun _ S => ?_ | refine st_kid0 S (by first | omega | (dsimp only; omega)) (some _) rfl fun _ S => ?_ | refine st_store S (lt_ble rfl) fun _ S => ?_ | refine st_alloc S fun _ _ S => ?_ | refine st_held S rfl ?_ | refine w_guard (by (first | exact inK64 (by omega) (by omega) | omega | (constructor <;> omega) | ((try dsimp only [Sh.T, Sh1.T]); first | exact inK64 (by omega) (by omega) | omega | exact ⟨by decide, inK64 (by omega) (by omega)⟩ | trivial))) ?_ | refine bd_n rfl ?_ | refine w_true (b := true) rfl ?_ | refine w_false (b := false) rfl ?_ | refine w_guard (show noMeths _ _ by show _ = _; kernel_rfl) ?_ | (refine w_callT (c_leafp (kp := none) (S.rd rfl)) ?_; rintro _ _ ⟨rfl, rfl⟩) | (refine w_callT (c_leafp (kp := some _) (S.rd rfl)) ?_; rintro _ _ ⟨rfl, rfl⟩) | (refine w_callT (c_leafp (S.rd rfl)) ?_; rintro _ _ ⟨rfl, rfl⟩) )
  refine w_callT (c_isoLoad (m := true) (b := kr) (S.rd (LK_get hkj1)) (S.iso kr) (S.rd rfl)) ?_
  rintro _ _ ⟨rfl, rfl⟩
  obtain ⟨pl, cl, kpl, hcl, hkpl, S⟩ := open_nd L iso (S.at (.tr kl))
  obtain ⟨pr, cr, kpr, hcr, hkpr, S⟩ := open_nd L iso (S.at (.tr kr))
  obtain ⟨nl, hnl⟩ : ∃ nl, nl = (itemsB ht tl).length := ⟨_, rfl⟩
  obtain ⟨nr, hnr⟩ : ∃ nr, nr = (itemsB ht tr).length := ⟨_, rfl⟩
  rw [← hnl] at hcl hvl S
  rw [← hnr] at hcr hvr S
  have hcs := hcs tl tr (get_mid hB) (get_mid1 hB)
  rw [← hnl, ← hnr] at hcs
  have hle := hvl.1.items
  have hre := hvr.1.items
  rw [← hnl] at hle
  rw [← hnr] at hre
  repeat (first | refine w_nonnil ?_ | refine ld_it S (by assumption) ?_ | refine ld_int S rfl ?_ | refine w_int _ (S.cnt _) ?_ | refine ld_kid S (by assumption) ?_ | refine ld_kid0 S (by assumption) ?_ | refine ld_some S rfl ?_ | refine ld_sls S rfl ?_ | refine st_it S (by first | omega | (dsimp only; omega)) fun _ S => ?_ | refine st_it0 S (by first | omega | (dsimp only; omega)) fun _ S => ?_ | refine st_kid S (by first | omega | (dsimp only; omega)) none rfl fun _ S => ?_ | refine st_kid S (by first | omega | (dsimp only; omega)) (some _) rfl fun _ S => ?_ | refine st_kid0 S (by first | omega | (dsimp only; omega)) (some _) rfl fun _ S => ?_ | refine st_store S (lt_ble rfl) fun _ S => ?_ | refine st_alloc S fun _ _ S => ?_ | refine st_held S rfl ?_ | refine w_guard (by (first | exact inK64 (by omega) (by omega) | omega | (constructor <;> omega) | ((try dsimp only [Sh.T, Sh1.T]); first | exact inK64 (by omega) (by omega) | omega | exact ⟨by decide, inK64 (by omega) (by omega)⟩ | trivial))) ?_ | refine bd_n rfl ?_ | refine w_true (b := true) rfl ?_ | refine w_false (b := false) rfl ?_ | refine w_guard (show noMeths _ _ by show _ = _; kernel_rfl) ?_ | (refine w_callT (c_leafp (kp := none) (S.rd rfl)) ?_; rintro _ _ ⟨rfl, rfl⟩) | (refine w_callT (c_leafp (kp := some _) (S.rd rfl)) ?_; rintro _ _ ⟨rfl, rfl⟩) | (refine w_callT (c_leafp (S.rd rfl)) ?_; rintro _ _ ⟨rfl, rfl⟩) )
  obtain ⟨hge, hgt⟩ := hcs
  refine w_bnd (w_false (by simpa using (show (mx : Int) ≤ nl + nr by omega)) ?_)
  repeat (first | refine w_nonnil ?_ | refine ld_it S (by assumption) ?_ | refine ld_int S rfl ?_ | refine w_int _ (S.cnt _) ?_ | refine ld_kid S (by assumption) ?_ | refine ld_kid0 S (by assumption) ?_ | refine ld_some S rfl ?_ | refine ld_sls S rfl ?_ | refine st_it S (by first | omega | (dsimp only; omega)) fun _ S => ?_ | refine st_it0 S (by first | omega | (dsimp only; omega)) fun _ S => ?_ | refine st_kid S (by first | omega | (dsimp only; omega)) none rfl fun _ S => ?_ | refine st_kid S (by first | omega | (dsimp only; omega)) (some _) rfl fun _ S => ?_ | refine st_kid0 S (by first | omega | (dsimp only; omega)) (some _) rfl fun _ S => ?_ | refine st_store S (lt_ble rfl) fun _ S => ?_ | refine st_alloc S fun _ _ S => ?_ | refine st_held S rfl ?_ | refine w_guard (by (first | exact inK64 (by omega) (by omega) | omega | (constructor <;> omega) | ((try dsimp only [Sh.T, Sh1.T]); first | exact inK64 (by omega) (by omega) | omega | exact ⟨by decide, inK64 (by omega) (by omega)⟩ | trivial))) ?_ | refine bd_n rfl ?_ | refine w_true (b := true) rfl ?_ | refine w_false (b := false) rfl ?_ | refine w_guard (show noMeths _ _ by show _ = _; kernel_rfl) ?_ | (refine w_callT (c_leafp (kp := none) (S.rd rfl)) ?_; rintro _ _ ⟨rfl, rfl⟩) | (refine w_callT (c_leafp (kp := some _) (S.rd rfl)) ?_; rintro _ _ ⟨rfl, rfl⟩) | (refine w_callT (c_leafp (S.rd rfl)) ?_; rintro _ _ ⟨rfl, rfl⟩) )
  refine w_bnd (w_true (by simpa using (show nr < nl by omega)) ?_)
  have hsz : nr + 1 = mn ∧ mn + 2 ≤ nl := by
    have h2 := hvl.2
    have h3 := hvr.2
    split at h2 <;> split at h3 <;> omega
  obtain ⟨y, hy⟩ : ∃ y, (itemsB ht tl)[nl - 1]? = some y := ⟨_, List.getElem?_eq_getElem (by omega)⟩
  have hyl : (itemsB ht tl).getLast? = some y := by rw [List.getLast?_eq_getElem?, ← hnl]; exact hy
  obtain ⟨hpf, hpv, hpv2, hpl1, hpl2⟩ := popB_flat (x := x) hvl.1 hvr.1 hyl
  repeat (first | refine w_nonnil ?_ | refine ld_it S (by assumption) ?_ | refine ld_int S rfl ?_ | refine w_int _ (S.cnt _) ?_ | refine ld_kid S (by assumption) ?_ | refine ld_kid0 S (by assumption) ?_ | refine ld_some S rfl ?_ | refine ld_sls S rfl ?_ | refine st_it S (by first | omega | (dsimp only; omega)) fun _ S => ?_ | refine st_it0 S (by first | omega | (dsimp only; omega)) fun _ S => ?_ | refine st_kid S (by first | omega | (dsimp only; omega)) none rfl fun _ S => ?_ | refine st_kid S (by first | omega | (dsimp only; omega)) (some _) rfl fun _ S => ?_ | refine st_kid0 S (by first | omega | (dsimp only; omega)) (some _) rfl fun _ S => ?_ | refine st_store S (lt_ble rfl) fun _ S => ?_ | refine st_alloc S fun _ _ S => ?_ | refine st_held S rfl ?_ | refine w_guard (by (first | exact inK64 (by omega) (by omega) | omega | (constructor <;> omega) | ((try dsimp only [Sh.T, Sh1.T]); first | exact inK64 (by omega) (by omega) | omega | exact ⟨by decide, inK64 (by omega) (by omega)⟩ | trivial))) ?_ | refine bd_n rfl ?_ | refine w_true (b := true) rfl ?_ | refine w_false (b := false) rfl ?_ | refine w_guard (show noMeths _ _ by show _ = _; kernel_rfl) ?_ | (refine w_callT (c_leafp (kp := none) (S.rd rfl)) ?_; rintro _ _ ⟨rfl, rfl⟩) | (refine w_callT (c_leafp (kp := some _) (S.rd rfl)) ?_; rintro _ _ ⟨rfl, rfl⟩) | (refine w_callT (c_leafp (S.rd rfl)) ?_; rintro _ _ ⟨rfl, rfl⟩) )
  refine st_app (L := L) (n := nr) (c := cr) (k := 1) (ys := [(0, 0)]) S rfl rfl hnr hcr rfl rfl (S.rsl (L.flat [(0, 0)]) 1 1 2 (fun i v h => by rw [Nat.zero_add]; exact h) rfl) ⟨by omega, by omega⟩ fun pr1 cr1 _ hcr1 S => ?_
  repeat (first | refine w_nonnil ?_ | refine ld_it S (by assumption) ?_ | refine ld_int S rfl ?_ | refine w_int _ (S.cnt _) ?_ | refine ld_kid S (by assumption) ?_ | refine ld_kid0 S (by assumption) ?_ | refine ld_some S rfl ?_ | refine ld_sls S rfl ?_ | refine st_it S (by first | omega | (dsimp only; omega)) fun _ S => ?_ | refine st_it0 S (by first | omega | (dsimp only; omega)) fun _ S => ?_ | refine st_kid S (by first | omega | (dsimp only; omega)) none rfl fun _ S => ?_ | refine st_kid S (by first | omega | (dsimp only; omega)) (some _) rfl fun _ S => ?_ | refine st_kid0 S (by first | omega | (dsimp only; omega)) (some _) rfl fun _ S => ?_ | refine st_store S (lt_ble rfl) fun _ S => ?_ | refine st_alloc S fun _ _ S => ?_ | refine st_held S rfl ?_ | refine w_guard (by (first | exact inK64 (by omega) (by omega) | omega | (constructor <;> omega) | ((try dsimp only [Sh.T, Sh1.T]); first | exact inK64 (by omega) (by omega) | omega | exact ⟨by decide, inK64 (by omega) (by omega)⟩ | trivial))) ?_ | refine bd_n rfl ?_ | refine w_true (b := true) rfl ?_ | refine w_false (b := false) rfl ?_ | refine w_guard (show noMeths _ _ by show _ = _; kernel_rfl) ?_ | (refine w_callT (c_leafp (kp := none) (S.rd rfl)) ?_; rintro _ _ ⟨rfl, rfl⟩) | (refine w_callT (c_leafp (kp := some _) (S.rd rfl)) ?_; rintro _ _ ⟨rfl, rfl⟩) | (refine w_callT (c_leafp (S.rd rfl)) ?_; rintro _ _ ⟨rfl, rfl⟩) )
  refine st_cpins0 (L := L) (n := nr + 1) (c := cr1) S rfl (by omega) hcr1 fun _ zs hzl hzs S => ?_
  repeat (first | refine w_nonnil ?_ | refine ld_it S (by assumption) ?_ | refine ld_int S rfl ?_ | refine w_int _ (S.cnt _) ?_ | refine ld_kid S (by assumption) ?_ | refine ld_kid0 S (by assumption) ?_ | refine ld_some S rfl ?_ | refine ld_sls S rfl ?_ | refine st_it S (by first | omega | (dsimp only; omega)) fun _ S => ?_ | refine st_it0 S (by first | omega | (dsimp only; omega)) fun _ S => ?_ | refine st_kid S (by first | omega | (dsimp only; omega)) none rfl fun _ S => ?_ | refine st_kid S (by first | omega | (dsimp only; omega)) (some _) rfl fun _ S => ?_ | refine st_kid0 S (by first | omega | (dsimp only; omega)) (some _) rfl fun _ S => ?_ | refine st_store S (lt_ble rfl) fun _ S => ?_ | refine st_alloc S fun _ _ S => ?_ | refine st_held S rfl ?_ | refine w_guard (by (first | exact inK64 (by omega) (by omega) | omega | (constructor <;> omega) | ((try dsimp only [Sh.T, Sh1.T]); first | exact inK64 (by omega) (by omega) | omega | exact ⟨by decide, inK64 (by omega) (by omega)⟩ | trivial))) ?_ | refine bd_n rfl ?_ | refine w_true (b := true) rfl ?_ | refine w_false (b := false) rfl ?_ | refine w_guard (show noMeths _ _ by show _ = _; kernel_rfl) ?_ | (refine w_callT (c_leafp (kp := none) (S.rd rfl)) ?_; rintro _ _ ⟨rfl, rfl⟩) | (refine w_callT (c_leafp (kp := some _) (S.rd rfl)) ?_; rintro _ _ ⟨rfl, rfl⟩) | (refine w_callT (c_leafp (S.rd rfl)) ?_; rintro _ _ ⟨rfl, rfl⟩) )
  rw [hzs] at S
  refine w_jnt S [.kd kpl, .kd kpr, .ow (kl, 0), .ow (kr, 0)] [KdC L iso ht kpl (popB ht tl), KdC L iso ht kpr (pushB ht tl x tr),
    Ow (kl, 0) (nodeC iso (flatB ht (popB ht tl)).length (some pl, nl - 1, cl) kpl) 0, Ow (kr, 0) (nodeC iso (flatB ht (pushB ht tl x tr)).length (some pr1, nr + 1, cr1) kpr) 0] ?_ fun _ S => ?_
  · have S := S.ats [.kd kpl, .kd kpr, .ow (kl, 0), .ow (kr, 0)]
    cases ht with
    | zero =>
      obtain rfl := kids_leaf L iso S
      have S := S.drop
      obtain rfl := kids_leaf L iso S
      have S := S.drop
      have c1 : (flatB 0 (popB 0 tl)).length + 1 = (flatB 0 tl).length := hpl1
      have c2 : (flatB 0 (pushB 0 tl x tr)).length = (flatB 0 tr).length + 1 := hpl2
      refine w_false rfl (jo_n ⟨rfl, ?_⟩)
      have S := S.re (kl, 0) (nodeC iso (flatB 0 (popB 0 tl)).length (some pl, nl - 1, cl) none) 0 rfl (by simp [nodeC, Cell.val, slBase_zero]; omega) rfl
      have S := S.pull1.re (kr, 0) (nodeC iso (flatB 0 (pushB 0 tl x tr)).length (some pr1, nr + 1, cr1) none) 0 rfl (by simp [nodeC, Cell.val]; omega) rfl
      exact shut_nokids L iso (shut_nokids L iso S.pull1)
    | succ ht =>
      obtain ⟨lx, lk⟩ := tl
      obtain ⟨la, lc, rfl⟩ := snoc_of (l := lk) (by have := hvl.1.2.1; dsimp only at this; omega)
      obtain ⟨hbl, ql, dl, kls, rfl, hdl, hkll, S⟩ := open_kids L iso S
      obtain ⟨hbr, qr, dr, krs, rfl, hdr, hkrl, S⟩ := open_kids L iso (S.at (.kd kpr))
      obtain ⟨ka, kc, rfl⟩ := snoc_of (l := kls) (by simp at hkll; omega)
      have hka : ka.length = la.length := by simpa using hkll
      have hll : la.length = lx.length := by have : (la ++ [lc]).length = lx.length + 1 := hvl.1.2.1; simpa using this
      have hrl : tr.2.length = tr.1.length + 1 := hvr.1.2.1
      have hlm : lx.length ≤ mx := hvl.1.1
      have hlx : nl = lx.length := hnl
      have hrm : tr.1.length ≤ mx := hvr.1.1
      have c0 : (flatB (ht + 1) ((lx, la ++ [lc]) : BT KV (ht + 1))).length = lx.length + ((la.map (fun u => (flatB ht u).length)).sum + (flatB ht lc).length) := by
        rw [flatB_len (by simp; omega)]; simp
      have c1 : (flatB (ht + 1) (popB (ht + 1) ((lx, la ++ [lc]) : BT KV (ht + 1)))).length = lx.length - 1 + (la.map (fun u => (flatB ht u).length)).sum := by
        rw [flatB_len (by simp [popB]; omega)]; simp [popB]
      have c2 : (flatB (ht + 1) (pushB (ht + 1) ((lx, la ++ [lc]) : BT KV (ht + 1)) x tr)).length = (flatB (ht + 1) tr).length + 1 + (flatB ht lc).length := by
        rw [flatB_len (by simp [pushB]; omega), flatB_len hrl]; simp [pushB]; omega
      obtain ⟨nk, hnk⟩ : ∃ nk, nk = (ka ++ [kc]).length := ⟨_, rfl⟩
      rw [← hnk] at S hdl
      have hnk' : nk = ka.length + 1 := by simpa using hnk
      have hkc : ((ka ++ [kc]).map some)[nk - 1]? = some (some kc) := by rw [List.getElem?_map, hnk']; simp
      have hml : ((ka ++ [kc]).map some).length = nk := by rw [List.length_map]; exact hnk.symm
      have S := (fo_uncons L iso (fo_split L iso hka (S.at (.fo (ka ++ [kc])))).pull1)
      refine w_true rfl ?_
      repeat (first | refine w_nonnil ?_ | refine ld_it S (by assumption) ?_ | refine ld_int S rfl ?_ | refine w_int _ (S.cnt _) ?_ | refine ld_kid S (by assumption) ?_ | refine ld_kid0 S (by assumption) ?_ | refine ld_some S rfl ?_ | refine ld_sls S rfl ?_ | refine st_it S (by first | omega | (dsimp only; omega)) fun _ S => ?_ | refine st_it0 S (by first | omega | (dsimp only; omega)) fun _ S => ?_ | refine st_kid S (by first | omega | (dsimp only; omega)) none rfl fun _ S => ?_ | refine st_kid S (by first | omega | (dsimp only; omega)) (some _) rfl fun _ S => ?_ | refine st_kid0 S (by first | omega | (dsimp only; omega)) (some _) rfl fun _ S => ?_ | refine st_store S (lt_ble rfl) fun _ S => ?_ | refine st_alloc S fun _ _ S => ?_ | refine st_held S rfl ?_ | refine w_guard (by (first | exact inK64 (by omega) (by omega) | omega | (constructor <;> omega) | ((try dsimp only [Sh.T, Sh1.T]); first | exact inK64 (by omega) (by omega) | omega | exact ⟨by decide, inK64 (by omega) (by omega)⟩ | trivial))) ?_ | refine bd_n rfl ?_ | refine w_true (b := true) rfl ?_ | refine w_false (b := false) rfl ?_ | refine w_guard (show noMeths _ _ by show _ = _; kernel_rfl) ?_ | (refine w_callT (c_leafp (kp := none) (S.rd rfl)) ?_; rintro _ _ ⟨rfl, rfl⟩) | (refine w_callT (c_leafp (kp := some _) (S.rd rfl)) ?_; rintro _ _ ⟨rfl, rfl⟩) | (refine w_callT (c_leafp (S.rd rfl)) ?_; rintro _ _ ⟨rfl, rfl⟩) )
      refine st_app (L := LK) (n := krs.length) (c := dr) (k := 1) (ys := [none]) S rfl rfl (by simp) hdr rfl rfl (S.rsl (LK.flat [none]) 1 1 1 (fun i v h => by rw [Nat.zero_add]; exact h) rfl) ⟨by omega, by omega⟩ fun qr1 dr1 _ hdr1 S => ?_
      repeat (first | refine w_nonnil ?_ | refine ld_it S (by assumption) ?_ | refine ld_int S rfl ?_ | refine w_int _ (S.cnt _) ?_ | refine ld_kid S (by assumption) ?_ | refine ld_kid0 S (by assumption) ?_ | refine ld_some S rfl ?_ | refine ld_sls S rfl ?_ | refine st_it S (by first | omega | (dsimp only; omega)) fun _ S => ?_ | refine st_it0 S (by first | omega | (dsimp only; omega)) fun _ S => ?_ | refine st_kid S (by first | omega | (dsimp only; omega)) none rfl fun _ S => ?_ | refine st_kid S (by first | omega | (dsimp only; omega)) (some _) rfl fun _ S => ?_ | refine st_kid0 S (by first | omega | (dsimp only; omega)) (some _) rfl fun _ S => ?_ | refine st_store S (lt_ble rfl) fun _ S => ?_ | refine st_alloc S fun _ _ S => ?_ | refine st_held S rfl ?_ | refine w_guard (by (first | exact inK64 (by omega) (by omega) | omega | (constructor <;> omega) | ((try dsimp only [Sh.T, Sh1.T]); first | exact inK64 (by omega) (by omega) | omega | exact ⟨by decide, inK64 (by omega) (by omega)⟩ | trivial))) ?_ | refine bd_n rfl ?_ | refine w_true (b := true) rfl ?_ | refine w_false (b := false) rfl ?_ | refine w_guard (show noMeths _ _ by show _ = _; kernel_rfl) ?_ | (refine w_callT (c_leafp (kp := none) (S.rd rfl)) ?_; rintro _ _ ⟨rfl, rfl⟩) | (refine w_callT (c_leafp (kp := some _) (S.rd rfl)) ?_; rintro _ _ ⟨rfl, rfl⟩) | (refine w_callT (c_leafp (S.rd rfl)) ?_; rintro _ _ ⟨rfl, rfl⟩) )
      refine st_cpins0 (L := LK) (xs := krs.map some) (n := krs.length + 1) (c := dr1) S rfl (by simp) hdr1 fun _ zs2 hzl2 hzs2 S => ?_
      have hz0 : (zs2.set 0 (some kc))[0]? = some (some kc) := by rw [hzs2]; rfl
      repeat (first | refine w_nonnil ?_ | refine ld_it S (by assumption) ?_ | refine ld_int S rfl ?_ | refine w_int _ (S.cnt _) ?_ | refine ld_kid S (by assumption) ?_ | refine ld_kid0 S (by assumption) ?_ | refine ld_some S rfl ?_ | refine ld_sls S rfl ?_ | refine st_it S (by first | omega | (dsimp only; omega)) fun _ S => ?_ | refine st_it0 S (by first | omega | (dsimp only; omega)) fun _ S => ?_ | refine st_kid S (by first | omega | (dsimp only; omega)) none rfl fun _ S => ?_ | refine st_kid S (by first | omega | (dsimp only; omega)) (some _) rfl fun _ S => ?_ | refine st_kid0 S (by first | omega | (dsimp only; omega)) (some _) rfl fun _ S => ?_ | refine st_store S (lt_ble rfl) fun _ S => ?_ | refine st_alloc S fun _ _ S => ?_ | refine st_held S rfl ?_ | refine w_guard (by (first | exact inK64 (by omega) (by omega) | omega | (constructor <;> omega) | ((try dsimp only [Sh.T, Sh1.T]); first | exact inK64 (by omega) (by omega) | omega | exact ⟨by decide, inK64 (by omega) (by omega)⟩ | trivial))) ?_ | refine bd_n rfl ?_ | refine w_true (b := true) rfl ?_ | refine w_false (b := false) rfl ?_ | refine w_guard (show noMeths _ _ by show _ = _; kernel_rfl) ?_ | (refine w_callT (c_leafp (kp := none) (S.rd rfl)) ?_; rintro _ _ ⟨rfl, rfl⟩) | (refine w_callT (c_leafp (kp := some _) (S.rd rfl)) ?_; rintro _ _ ⟨rfl, rfl⟩) | (refine w_callT (c_leafp (S.rd rfl)) ?_; rintro _ _ ⟨rfl, rfl⟩) )
      refine jo_n ⟨rfl, ?_⟩
      have S := fo_cons L iso (S.ats [.tr kc, .fo krs])
      have S := ((S.at (.ow ql)).re ql (LK.flat (ka.map some) ++ LK.flat [none]) _ rfl (by rw [← LK.flat_append]; congr 1; rw [← hml, set_last (by omega)]; simp) rfl).shrink
      have S := (S.at (.ow qr1)).re qr1 (LK.flat ((kc :: krs).map some)) _ rfl (by rw [hzs2]; rfl) rfl
      have S := shut_kidsE L iso (t := pushB (ht + 1) ((lx, la ++ [lc]) : BT KV (ht + 1)) x tr) (ks := kc :: krs) (m := krs.length + 1) (d := dr1) (S.ats [.ow (hbr, 0), .ow qr1, .fo (kc :: krs)]) (by simp [pushB]) rfl rfl rfl hdr1 rfl (by simp [pushB]; omega)
      have S := shut_kidsE L iso (t := popB (ht + 1) ((lx, la ++ [lc]) : BT KV (ht + 1))) (ks := ka) (m := nk - 1) (d := dl) (S.ats [.ow (hbl, 0), .ow ql, .fo ka]) (by simp [popB]) (by simp [hdC, Cell.val, slBase_zero]) rfl (by omega) (by omega) (by rw [LK.flat_length]; show 1 * 1 + (dl - nk) * 1 = _; show _ = (dl - (nk - 1)) * 1; omega) (by simp [popB]; omega)
      have S := (S.at (.ow (kl, 0))).re (kl, 0) (nodeC iso (flatB (ht + 1) (popB (ht + 1) ((lx, la ++ [lc]) : BT KV (ht + 1)))).length (some pl, nl - 1, cl) (some (hbl, 0))) 0 rfl (by simp [nodeC, Cell.val, slBase_zero]; omega) rfl
      have S := (S.at (.ow (kr, 0))).re (kr, 0) (nodeC iso (flatB (ht + 1) (pushB (ht + 1) ((lx, la ++ [lc]) : BT KV (ht + 1)) x tr)).length (some pr1, nr + 1, cr1) (some (hbr, 0))) 0 rfl (by simp [nodeC, Cell.val]; omega) rfl
      exact ((S.pull4.drop).del (.fo [])).ats [.kd (some (hbl, 0)), .kd (some (hbr, 0)), .ow (kl, 0), .ow (kr, 0)]
  dsimp only [List.cons_append, List.nil_append] at S
  repeat (first | refine w_nonnil ?_ | refine ld_it S (by assumption) ?_ | refine ld_int S rfl ?_ | refine w_int _ (S.cnt _) ?_ | refine ld_kid S (by assumption) ?_ | refine ld_kid0 S (by assumption) ?_ | refine ld_some S rfl ?_ | refine ld_sls S rfl ?_ | refine st_it S (by first | omega | (dsimp only; omega)) fun _ S => ?_ | refine st_it0 S (by first | omega | (dsimp only; omega)) fun _ S => ?_ | refine st_kid S (by first | omega | (dsimp only; omega)) none rfl fun _ S => ?_ | refine st_kid S (by first | omega | (dsimp only; omega)) (some _) rfl fun _ S => ?_ | refine st_kid0 S (by first | omega | (dsimp only; omega)) (some _) rfl fun _ S => ?_ | refine st_store S (lt_ble rfl) fun _ S => ?_ | refine st_alloc S fun _ _ S => ?_ | refine st_held S rfl ?_ | refine w_guard (by (first | exact inK64 (by omega) (by omega) | omega | (constructor <;> omega) | ((try dsimp only [Sh.T, Sh1.T]); first | exact inK64 (by omega) (by omega) | omega | exact ⟨by decide, inK64 (by omega) (by omega)⟩ | trivial))) ?_ | refine bd_n rfl ?_ | refine w_true (b := true) rfl ?_ | refine w_false (b := false) rfl ?_ | refine w_guard (show noMeths _ _ by show _ = _; kernel_rfl) ?_ | (refine w_callT (c_leafp (kp := none) (S.rd rfl)) ?_; rintro _ _ ⟨rfl, rfl⟩) | (refine w_callT (c_leafp (kp := some _) (S.rd rfl)) ?_; rintro _ _ ⟨rfl, rfl⟩) | (refine w_callT (c_leafp (S.rd rfl)) ?_; rintro _ _ ⟨rfl, rfl⟩) )
  have hpi := popB_items ht tl
  have hui := pushB_items ht tl x tr
  have S := ((S.at (.ow pl)).re pl (L.flat (itemsB ht (popB ht tl)) ++ L.flat [(0, 0)]) _ rfl (by rw [← L.flat_append, hpi]; congr 1; show (itemsB ht tl).set (nl - 1) _ = _; rw [hnl, set_last (by omega)]) rfl).shrink
  have S := shut_nd L iso (t := popB ht tl) (S.ats [.ow (kl, 0), .ow pl, .kd kpl]) rfl rfl (by omega) rfl (by omega) (by rw [L.flat_length, ← Nat.add_mul]; congr 1; show 1 + _ = _; omega)
  have S := shut_nd L iso (t := pushB ht tl x tr) (S.ats [.ow (kr, 0), .ow pr1, .kd kpr]) rfl (by rw [hui]) (by omega) rfl hcr1 rfl
  have S := fo_cons L iso (S.ats [.tr kr, .fo KD])
  have S := fo_cons L iso (S.ats [.tr kl, .fo (kr :: KD)])
  have S := fo_app L iso (S.ats [.fo KB, .fo (kl :: kr :: KD)])
  have hfl2 : flatB (ht + 1) ((A ++ y :: C, B ++ popB ht tl :: pushB ht tl x tr :: D) : BT KV (ht + 1)) = flatB (ht + 1) ((A ++ x :: C, B ++ tl :: tr :: D) : BT KV (ht + 1)) := by
    rw [hflat]
    simp only [flatB, List.map_append, List.map_cons]
    rw [weave_mid (by simp; omega)]
    have := congrArg (fun l => pre (B.map (flatB ht)) A ++ (l ++ post C (D.map (flatB ht)))) hpf
    simpa using this
  rw [LK_flat] at S
  have S := shut_node L iso (xs := A ++ y :: C) (ts := B ++ popB ht tl :: pushB ht tl x tr :: D) (m := n) (c := c) (m2 := m) (d := d) (cnt := (flatB (ht + 1) ((A ++ x :: C, B ++ tl :: tr :: D) : BT KV (ht + 1))).length) (S.ats [.ow (b, 0), .ow p, .ow (hb, 0), .ow q, .fo (KB ++ kl :: kr :: KD)])
    rfl (by rw [set_mid hA]) rfl rfl (by simp; omega) hm2 (by rw [hfl2]) hc rfl hd (Nat.mul_one _)
  have hj1 : j + 1 = i := by
    have h2 := hvl.2
    have h3 := hvr.2
    split at h2 <;> split at h3 <;> omega
  have hrbt : RbT i ((A ++ x :: C, B ++ tl :: tr :: D) : BT KV (ht + 1)) ((A ++ y :: C, B ++ popB ht tl :: pushB ht tl x tr :: D) : BT KV (ht + 1)) := fun Cp Ob hC q1 q2 q3 hg => by
    obtain ⟨g1, g2, g3⟩ := gd_right (by omega) hg
    have hyf : y ∈ flatB ht tl := its_mem hvl.1 y (List.mem_of_getElem? hy)
    exact gd_two (by omega) hg (left_no hA hji q1) (gd_pop g1) (gd_push hvl.1 g1 g2 (q1 j x (by omega) (get_mid hA))) fun ho => absurd ho (q2 j tl (by omega) (get_mid hB) y hyf)
  refine rt_n rfl rfl ⟨_, ⟨(A ++ y :: C, B ++ popB ht tl :: pushB ht tl x tr :: D), rfl, hfl2, ⟨by show (A ++ y :: C).length ≤ mx; simp; omega, by show (B ++ popB ht tl :: pushB ht tl x tr :: D).length = (A ++ y :: C).length + 1; simp; omega, ?_⟩, by show (A ++ x :: C).length ≤ (A ++ y :: C).length + 1; simp, hrbt⟩, S.only [.ow a0, .tr b]⟩
  intro u hu
  rcases List.mem_append.1 hu with hu | hu
  · obtain ⟨w, hw⟩ := List.mem_iff_getElem?.1 hu
    have hwl := (List.getElem?_eq_some_iff.1 hw).1
    have := hk w u (by rw [List.getElem?_append_left hwl]; exact hw)
    rw [if_neg (by omega)] at this
    exact this
  · rcases List.mem_cons.1 hu with rfl | hu
    · exact ⟨hpv, by omega⟩
    · rcases List.mem_cons.1 hu with rfl | hu
      · exact ⟨hpv2 (by omega), by omega⟩
      · obtain ⟨w, hw⟩ := List.mem_iff_getElem?.1 hu
        have := hk (B.length + 2 + w) u (by rw [List.getElem?_append_right (by omega), show B.length + 2 + w - B.length = w + 2 by omega]; exact hw)
        rw [if_neg (by omega)] at this
        exact this
end
end Go.Proofs.Ytegnpimlfphncaa.TG
