/-
  The map tg: two neighbours brought into balance. Conditions: none.
-/
import Derived.Test.YtegnpimlfphncaaPgD
import Derived.Test.YtegnpimlfphncaaYma
import Derived.Test.YtegnpimlfphncaaYc
import Derived.Test.YtegnpimlfphncaaQg
set_option linter.unusedVariables false
set_option linter.unusedSimpArgs false
set_option linter.unusedSectionVars false
set_option maxRecDepth 100000
namespace Go.Proofs.Ytegnpimlfphncaa.TG
open Go Go.Proofs.Ytegnpimlfphncaa
section
variable {ls : Value} {o : List Int} {h : H}
def RbT {ht : Nat} (i : Nat) (t t' : BT KV (ht + 1)) : Prop := ∀ (Cp : List KV → Prop) (Ob : KV → Prop), Icl Cp → (∀ l a, l < i → t.1[l]? = some a → ¬ Ob a) → (∀ l u, l < i → t.2[l]? = some u → ∀ a ∈ flatB ht u, ¬ Ob a) →
  (∀ r, t.2[i + 1]? = some r → (∃ a ∈ flatB ht r, Ob a) → Cp (flatB ht r)) → Gd Cp Ob (ht + 1) t → Gd Cp Ob (ht + 1) t'
theorem left_no {ht i j : Nat} {A C : List KV} {x : KV} {ts : List (BT KV ht)} {Ob : KV → Prop} (hA : A.length = j) (hji : j = i ∨ j + 1 = i) (q1 : ∀ l a, l < i → ((A ++ x :: C, ts) : BT KV (ht + 1)).1[l]? = some a → ¬ Ob a) : ∀ a ∈ A, ¬ Ob a := fun a ha => by
  obtain ⟨l, hl⟩ := List.mem_iff_getElem?.1 ha
  have hll := (List.getElem?_eq_some_iff.1 hl).1
  exact q1 l a (by omega) (by dsimp only; rw [List.getElem?_append_left hll]; exact hl)
def RebR (a0 : PA) (mc : List Value) (iso : Int) (mn mx ht b : Nat) (t : BT KV (ht + 1)) (i : Nat) (post : List Ck) : Prop :=
  ∃ t' : BT KV (ht + 1), post = [Ow a0 mc 0, TrC L iso (ht + 1) b t'] ∧ flatB (ht + 1) t' = flatB (ht + 1) t ∧ Val mn mx (ht + 1) t' ∧ t.1.length ≤ t'.1.length + 1 ∧ RbT i t t'
set_option maxHeartbeats 4000000 in
theorem c_rebA {ht : Nat} {a0 : PA} {b mn mx i : Nat} {iso cnt : Int} {ctr root : Option PA} {cv icv : Bool} {t : BT KV (ht + 1)} (hx : 1 ≤ t.1.length) (hxm : t.1.length ≤ mx) (hl : t.2.length = t.1.length + 1) (hi : i ≤ t.1.length)
    (hk : ∀ j u, t.2[j]? = some u → Val mn mx ht u ∧ (if j = i then (itemsB ht u).length + 1 = mn else mn ≤ (itemsB ht u).length)) (hmn : mx = 2 * mn + 1) (h1 : 1 ≤ mn) (hm : mx ≤ 255) (hfl : (flatB (ht + 1) t).length ≤ 4294967296)
    (hcs : ∀ tl tr, t.2[if i = t.1.length then i - 1 else i]? = some tl → t.2[(if i = t.1.length then i - 1 else i) + 1]? = some tr → (itemsB ht tl).length + (itemsB ht tr).length < mx)
    {G : PA → Prop} (hG : Star [Ow a0 (mapC ls iso ctr root cnt mn mx cv icv) 0, TrC L iso (ht + 1) b t] h G) :
    HT Try.prog fn_tg_nodeRebalance [.c (.addr a0), .c (.addr (b, 0)), .c (.int .i64 i)] true [] h fun x h' => ∃ post, RebR a0 (mapC ls iso ctr root cnt mn mx cv icv) iso mn mx ht b t i post ∧ St h G post h' := by
  apply hc_tg_nodeRebalance
  unfold M_tg_nodeRebalance
  obtain ⟨xs, ts⟩ := t
  dsimp only at hx hxm hl hi hk hcs
  obtain ⟨p, c, q, d, hb, ks, hc, hd, hkl, S⟩ := open_node L iso ((St.start hG).at (.tr b))
  dsimp only at hc hkl S
  rw [← LK_flat] at S
  obtain ⟨n, hn⟩ : ∃ n, n = xs.length := ⟨_, rfl⟩
  obtain ⟨m, hm2⟩ : ∃ m, m = ks.length := ⟨_, rfl⟩
  rw [← hn] at hc S hx hxm hl hi hcs
  rw [← hm2] at hd S hkl
  repeat (first | refine w_nonnil ?_ | refine ld_it S (by assumption) ?_ | refine ld_int S rfl ?_ | refine ld_some S rfl ?_ | refine ld_sls S rfl ?_ | refine st_it S (by first | omega | (dsimp only; omega)) fun _ S => ?_ | refine st_kid S (by first | omega | (dsimp only; omega)) none rfl fun _ S => ?_ | refine st_kid S (by first | omega | (dsimp only; omega)) (some _) rfl fun _ S => ?_ | refine st_store S (lt_ble rfl) fun _ S => ?_ | refine st_alloc S fun _ _ S => ?_ | refine st_held S rfl ?_ | refine w_guard (by (first | exact inK64 (by omega) (by omega) | omega | (constructor <;> omega) | ((try dsimp only [Sh.T, Sh1.T]); first | exact inK64 (by omega) (by omega) | omega | exact ⟨by decide, inK64 (by omega) (by omega)⟩ | trivial))) ?_ | refine bd_n rfl ?_ | refine w_true (b := true) rfl ?_ | refine w_false (b := false) rfl ?_ | refine w_guard (show noMeths _ _ by show _ = _; kernel_rfl) ?_ | (refine w_callT (c_leafp (kp := none) (S.rd rfl)) ?_; rintro _ _ ⟨rfl, rfl⟩) | (refine w_callT (c_leafp (kp := some _) (S.rd rfl)) ?_; rintro _ _ ⟨rfl, rfl⟩) | (refine w_callT (c_leafp (S.rd rfl)) ?_; rintro _ _ ⟨rfl, rfl⟩) )
  refine w_bind (fun vs h' => h' = h ∧ ∃ j : Nat, vs.map AV.val = [.int .i64 j] ∧ j < n ∧ j = (if i = n then i - 1 else i)) ?_ ?_
  · refine w_ite (fun hb => ?_) (fun hb => ?_)
    · have e : ((i : Nat) : Int) = (n : Int) := by simpa using hb
      repeat (first | refine w_nonnil ?_ | refine ld_it S (by assumption) ?_ | refine ld_int S rfl ?_ | refine ld_some S rfl ?_ | refine ld_sls S rfl ?_ | refine st_it S (by first | omega | (dsimp only; omega)) fun _ S => ?_ | refine st_kid S (by first | omega | (dsimp only; omega)) none rfl fun _ S => ?_ | refine st_kid S (by first | omega | (dsimp only; omega)) (some _) rfl fun _ S => ?_ | refine st_store S (lt_ble rfl) fun _ S => ?_ | refine st_alloc S fun _ _ S => ?_ | refine st_held S rfl ?_ | refine w_guard (by (first | exact inK64 (by omega) (by omega) | omega | (constructor <;> omega) | ((try dsimp only [Sh.T, Sh1.T]); first | exact inK64 (by omega) (by omega) | omega | exact ⟨by decide, inK64 (by omega) (by omega)⟩ | trivial))) ?_ | refine bd_n rfl ?_ | refine w_true (b := true) rfl ?_ | refine w_false (b := false) rfl ?_ | refine w_guard (show noMeths _ _ by show _ = _; kernel_rfl) ?_ | (refine w_callT (c_leafp (kp := none) (S.rd rfl)) ?_; rintro _ _ ⟨rfl, rfl⟩) | (refine w_callT (c_leafp (kp := some _) (S.rd rfl)) ?_; rintro _ _ ⟨rfl, rfl⟩) | (refine w_callT (c_leafp (S.rd rfl)) ?_; rintro _ _ ⟨rfl, rfl⟩) )
      refine ⟨rfl, n - 1, ?_, by omega, by rw [if_pos (by omega)]; omega⟩
      simp only [List.map, AV.val, Cell.val]
      rw [show ((i : Int) - 1) = ((n - 1 : Nat) : Int) by omega]
    · have e : ¬ ((i : Nat) : Int) = (n : Int) := by simpa using hb
      exact ⟨rfl, i, rfl, by omega, by rw [if_neg (by omega)]⟩
  rintro vs _ ⟨rfl, j, e, hj, hj0⟩
  refine ⟨((j : Int), ()), e.symm, ?_⟩
  clear e
  have hji : j = i ∨ j + 1 = i := by split at hj0 <;> omega
  rw [← hj0] at hcs
  clear hj0
  simp only [Int.toNat_natCast, toNat_succ, toNat_succ2, toNat_pred]
  obtain ⟨A, x, C, rfl, hA⟩ := split_at (xs := xs) (j := j) (by omega)
  obtain ⟨B, tl, tr, D, rfl, hB⟩ := split_at2 (xs := ts) (j := j) (by omega)
  obtain ⟨KB, kl, kr, KD, rfl, hKB⟩ := split_at2 (xs := ks) (j := j) (by omega)
  have S := S.at (.fo (KB ++ kl :: kr :: KD))
  have S := fo_uncons L iso ((fo_split L iso (by omega) S).pull1)
  have S := fo_uncons L iso S.pull1
  have hxj := get_mid (A := A) (x := x) (C := C) hA
  have hkj : ((KB ++ kl :: kr :: KD).map some)[j]? = some (some kl) := by rw [List.getElem?_map, get_mid hKB]; rfl
  have hkj1 : ((KB ++ kl :: kr :: KD).map some)[j + 1]? = some (some kr) := by rw [List.getElem?_map, get_mid1 hKB]; rfl
  have hvl := hk j tl (get_mid hB)
  have hvr := hk (j + 1) tr (get_mid1 hB)
  have hn' : A.length + C.length + 1 = n := by rw [hn]; simp; omega
  have hm' : KB.length + KD.length + 2 = m := by rw [hm2]; simp; omega
  have hl' : B.length + D.length + 2 = n + 1 := by rw [← hl]; simp; omega
  have hkD : KD.length = D.length := by omega
  have hflat : (flatB (ht + 1) ((A ++ x :: C, B ++ tl :: tr :: D) : BT KV (ht + 1))) = pre (B.map (flatB ht)) A ++ (flatB ht tl ++ x :: (flatB ht tr ++ post C (D.map (flatB ht)))) := by
    simp only [flatB, List.map_append, List.map_cons]
    exact weave_mid (by simp; omega)
  rw [hflat] at hfl
  simp only [List.length_append, List.length_cons] at hfl
  repeat (first | refine w_nonnil ?_ | refine ld_it S (by assumption) ?_ | refine ld_int S rfl ?_ | refine ld_some S rfl ?_ | refine ld_sls S rfl ?_ | refine st_it S (by first | omega | (dsimp only; omega)) fun _ S => ?_ | refine st_kid S (by first | omega | (dsimp only; omega)) none rfl fun _ S => ?_ | refine st_kid S (by first | omega | (dsimp only; omega)) (some _) rfl fun _ S => ?_ | refine st_store S (lt_ble rfl) fun _ S => ?_ | refine st_alloc S fun _ _ S => ?_ | refine st_held S rfl ?_ | refine w_guard (by (first | exact inK64 (by omega) (by omega) | omega | (constructor <;> omega) | ((try dsimp only [Sh.T, Sh1.T]); first | exact inK64 (by omega) (by omega) | omega | exact ⟨by decide, inK64 (by omega) (by omega)⟩ | trivial))) ?_ | refine bd_n rfl ?_ | refine w_true (b := true) rfl ?_ | refine w_false (b := false) rfl ?_ | refine w_guard (show noMeths _ _ by show _ = _; kernel_rfl) ?_ | (refine w_callT (c_leafp (kp := none) (S.rd rfl)) ?_; rintro _ _ ⟨rfl, rfl⟩) | (refine w_callT (c_leafp (kp := some _) (S.rd rfl)) ?_; rintro _ _ ⟨rfl, rfl⟩) | (refine w_callT (c_leafp (S.rd rfl)) ?_; rintro _ _ ⟨rfl, rfl⟩) )
  refine w_callT (c_isoLoad (m := true) (b := kl) (S.rd (LK_get hkj)) (S.iso kl) (S.rd rfl)) ?_
  rintro _ _ ⟨rfl, rfl⟩
  repeat (first | refine w_nonnil ?_ | refine ld_it S (by assumption) ?_ | refine ld_int S rfl ?_ | refine ld_some S rfl ?_ | refine ld_sls S rfl ?_ | refine st_it S (by first | omega | (dsimp only; omega)) fun _ S => ?_ | refine st_kid S (by first | omega | (dsimp only; omega)) none rfl fun _ S => ?_ | refine st_kid S (by first | omega | (dsimp only; omega)) (some _) rfl fun _ S => ?_ | refine st_store S (lt_ble rfl) fun _ S => ?_ | refine st_alloc S fun _ _ S => ?_ | refine st_held S rfl ?_ | refine w_guard (by (first | exact inK64 (by omega) (by omega) | omega | (constructor <;> omega) | ((try dsimp only [Sh.T, Sh1.T]); first | exact inK64 (by omega) (by omega) | omega | exact ⟨by decide, inK64 (by omega) (by omega)⟩ | trivial))) ?_ | refine bd_n rfl ?_ | refine w_true (b := true) rfl ?_ | refine w_false (b := false) rfl ?_ | refine w_guard (show noMeths _ _ by show _ = _; kernel_rfl) ?_ | (refine w_callT (c_leafp (kp := none) (S.rd rfl)) ?_; rintro _ _ ⟨rfl, rfl⟩) | (refine w_callT (c_leafp (kp := some _) (S.rd rfl)) ?_; rintro _ _ ⟨rfl, rfl⟩) | (refine w_callT (c_leafp (S.rd rfl)) ?_; rintro _ _ ⟨rfl, rfl⟩) )
  refine w_callT (c_isoLoad (m := true) (b := kr) (S.rd (LK_get hkj1)) (S.iso kr) (S.rd rfl)) ?_
  rintro _ _ ⟨rfl, rfl⟩
  obtain ⟨pl, cl, kpl, hcl, hkpl, S⟩ := open_nd L iso (S.at (.tr kl))
  obtain ⟨pr, cr, kpr, hcr, hkpr, S⟩ := open_nd L iso (S.at (.tr kr))
  obtain ⟨nl, hnl⟩ : ∃ nl, nl = (itemsB ht tl).length := ⟨_, rfl⟩
  obtain ⟨nr, hnr⟩ : ∃ nr, nr = (itemsB ht tr).length := ⟨_, rfl⟩
  rw [← hnl] at hcl hvl S
  rw [← hnr] at hcr hvr S
  have hcs := hcs tl tr (get_mid hB) (get_mid1 hB)
  rw [← hnl, ← hnr] at hcs
  have hle := hvl.1.items
  have hre := hvr.1.items
  rw [← hnl] at hle
  rw [← hnr] at hre
  repeat (first | refine w_nonnil ?_ | refine ld_it S (by assumption) ?_ | refine ld_int S rfl ?_ | refine ld_some S rfl ?_ | refine ld_sls S rfl ?_ | refine st_it S (by first | omega | (dsimp only; omega)) fun _ S => ?_ | refine st_kid S (by first | omega | (dsimp only; omega)) none rfl fun _ S => ?_ | refine st_kid S (by first | omega | (dsimp only; omega)) (some _) rfl fun _ S => ?_ | refine st_store S (lt_ble rfl) fun _ S => ?_ | refine st_alloc S fun _ _ S => ?_ | refine st_held S rfl ?_ | refine w_guard (by (first | exact inK64 (by omega) (by omega) | omega | (constructor <;> omega) | ((try dsimp only [Sh.T, Sh1.T]); first | exact inK64 (by omega) (by omega) | omega | exact ⟨by decide, inK64 (by omega) (by omega)⟩ | trivial))) ?_ | refine bd_n rfl ?_ | refine w_true (b := true) rfl ?_ | refine w_false (b := false) rfl ?_ | refine w_guard (show noMeths _ _ by show _ = _; kernel_rfl) ?_ | (refine w_callT (c_leafp (kp := none) (S.rd rfl)) ?_; rintro _ _ ⟨rfl, rfl⟩) | (refine w_callT (c_leafp (kp := some _) (S.rd rfl)) ?_; rintro _ _ ⟨rfl, rfl⟩) | (refine w_callT (c_leafp (S.rd rfl)) ?_; rintro _ _ ⟨rfl, rfl⟩) )
  refine w_bnd (w_true (by simpa using (show (nl : Int) + nr < mx by omega)) ?_)
  have hlt : nl + nr < mx := hcs
  repeat (first | refine w_nonnil ?_ | refine ld_it S (by assumption) ?_ | refine ld_int S rfl ?_ | refine ld_some S rfl ?_ | refine ld_sls S rfl ?_ | refine st_it S (by first | omega | (dsimp only; omega)) fun _ S => ?_ | refine st_kid S (by first | omega | (dsimp only; omega)) none rfl fun _ S => ?_ | refine st_kid S (by first | omega | (dsimp only; omega)) (some _) rfl fun _ S => ?_ | refine st_store S (lt_ble rfl) fun _ S => ?_ | refine st_alloc S fun _ _ S => ?_ | refine st_held S rfl ?_ | refine w_guard (by (first | exact inK64 (by omega) (by omega) | omega | (constructor <;> omega) | ((try dsimp only [Sh.T, Sh1.T]); first | exact inK64 (by omega) (by omega) | omega | exact ⟨by decide, inK64 (by omega) (by omega)⟩ | trivial))) ?_ | refine bd_n rfl ?_ | refine w_true (b := true) rfl ?_ | refine w_false (b := false) rfl ?_ | refine w_guard (show noMeths _ _ by show _ = _; kernel_rfl) ?_ | (refine w_callT (c_leafp (kp := none) (S.rd rfl)) ?_; rintro _ _ ⟨rfl, rfl⟩) | (refine w_callT (c_leafp (kp := some _) (S.rd rfl)) ?_; rintro _ _ ⟨rfl, rfl⟩) | (refine w_callT (c_leafp (S.rd rfl)) ?_; rintro _ _ ⟨rfl, rfl⟩) )
  refine st_app (L := L) (n := nl) (c := cl) (k := 1) (ys := [x]) S rfl rfl hnl hcl rfl rfl (S.rsl (L.flat [x]) 1 1 2 (fun i v h => by rw [Nat.zero_add]; exact h) rfl) ⟨by omega, by omega⟩ fun pl1 cl1 _ hcl1 S => ?_
  repeat (first | refine w_nonnil ?_ | refine ld_it S (by assumption) ?_ | refine ld_int S rfl ?_ | refine ld_some S rfl ?_ | refine ld_sls S rfl ?_ | refine st_it S (by first | omega | (dsimp only; omega)) fun _ S => ?_ | refine st_kid S (by first | omega | (dsimp only; omega)) none rfl fun _ S => ?_ | refine st_kid S (by first | omega | (dsimp only; omega)) (some _) rfl fun _ S => ?_ | refine st_store S (lt_ble rfl) fun _ S => ?_ | refine st_alloc S fun _ _ S => ?_ | refine st_held S rfl ?_ | refine w_guard (by (first | exact inK64 (by omega) (by omega) | omega | (constructor <;> omega) | ((try dsimp only [Sh.T, Sh1.T]); first | exact inK64 (by omega) (by omega) | omega | exact ⟨by decide, inK64 (by omega) (by omega)⟩ | trivial))) ?_ | refine bd_n rfl ?_ | refine w_true (b := true) rfl ?_ | refine w_false (b := false) rfl ?_ | refine w_guard (show noMeths _ _ by show _ = _; kernel_rfl) ?_ | (refine w_callT (c_leafp (kp := none) (S.rd rfl)) ?_; rintro _ _ ⟨rfl, rfl⟩) | (refine w_callT (c_leafp (kp := some _) (S.rd rfl)) ?_; rintro _ _ ⟨rfl, rfl⟩) | (refine w_callT (c_leafp (S.rd rfl)) ?_; rintro _ _ ⟨rfl, rfl⟩) )
  refine st_app (L := L) (n := nl + 1) (c := cl1) (k := nr) (ys := itemsB ht tr) S rfl rfl (by simp; omega) hcl1 rfl hnr (S.rsI hnr cr) ⟨by omega, by omega⟩ fun pl2 cl2 _ hcl2 S => ?_
  repeat (first | refine w_nonnil ?_ | refine ld_it S (by assumption) ?_ | refine ld_int S rfl ?_ | refine ld_some S rfl ?_ | refine ld_sls S rfl ?_ | refine st_it S (by first | omega | (dsimp only; omega)) fun _ S => ?_ | refine st_kid S (by first | omega | (dsimp only; omega)) none rfl fun _ S => ?_ | refine st_kid S (by first | omega | (dsimp only; omega)) (some _) rfl fun _ S => ?_ | refine st_store S (lt_ble rfl) fun _ S => ?_ | refine st_alloc S fun _ _ S => ?_ | refine st_held S rfl ?_ | refine w_guard (by (first | exact inK64 (by omega) (by omega) | omega | (constructor <;> omega) | ((try dsimp only [Sh.T, Sh1.T]); first | exact inK64 (by omega) (by omega) | omega | exact ⟨by decide, inK64 (by omega) (by omega)⟩ | trivial))) ?_ | refine bd_n rfl ?_ | refine w_true (b := true) rfl ?_ | refine w_false (b := false) rfl ?_ | refine w_guard (show noMeths _ _ by show _ = _; kernel_rfl) ?_ | (refine w_callT (c_leafp (kp := none) (S.rd rfl)) ?_; rintro _ _ ⟨rfl, rfl⟩) | (refine w_callT (c_leafp (kp := some _) (S.rd rfl)) ?_; rintro _ _ ⟨rfl, rfl⟩) | (refine w_callT (c_leafp (S.rd rfl)) ?_; rintro _ _ ⟨rfl, rfl⟩) )
  refine w_jnt S [.kd kpl, .kd kpr] [KdC L iso ht kpl (joinB ht tl x tr)] ?_ fun _ S => ?_
  · have S := S.ats [.kd kpl, .kd kpr]
    cases ht with
    | zero =>
      obtain rfl := kids_leaf L iso S
      exact w_false rfl (jo_n ⟨rfl, shut_nokids L iso S.drop.drop⟩)
    | succ ht =>
      obtain ⟨hbl, ql, dl, kls, rfl, hdl, hkll, S⟩ := open_kids L iso S
      obtain ⟨hbr, qr, dr, krs, rfl, hdr, hkrl, S⟩ := open_kids L iso (S.at (.kd kpr))
      have hk1 : kls.length ≤ 1073741824 := by have : tl.1.length ≤ mx := hvl.1.1; have := hvl.1.2.1; omega
      have hk2 : krs.length ≤ 1073741824 := by have : tr.1.length ≤ mx := hvr.1.1; have := hvr.1.2.1; omega
      refine w_true rfl ?_
      repeat (first | refine w_nonnil ?_ | refine ld_it S (by assumption) ?_ | refine ld_int S rfl ?_ | refine ld_some S rfl ?_ | refine ld_sls S rfl ?_ | refine st_it S (by first | omega | (dsimp only; omega)) fun _ S => ?_ | refine st_kid S (by first | omega | (dsimp only; omega)) none rfl fun _ S => ?_ | refine st_kid S (by first | omega | (dsimp only; omega)) (some _) rfl fun _ S => ?_ | refine st_store S (lt_ble rfl) fun _ S => ?_ | refine st_alloc S fun _ _ S => ?_ | refine st_held S rfl ?_ | refine w_guard (by (first | exact inK64 (by omega) (by omega) | omega | (constructor <;> omega) | ((try dsimp only [Sh.T, Sh1.T]); first | exact inK64 (by omega) (by omega) | omega | exact ⟨by decide, inK64 (by omega) (by omega)⟩ | trivial))) ?_ | refine bd_n rfl ?_ | refine w_true (b := true) rfl ?_ | refine w_false (b := false) rfl ?_ | refine w_guard (show noMeths _ _ by show _ = _; kernel_rfl) ?_ | (refine w_callT (c_leafp (kp := none) (S.rd rfl)) ?_; rintro _ _ ⟨rfl, rfl⟩) | (refine w_callT (c_leafp (kp := some _) (S.rd rfl)) ?_; rintro _ _ ⟨rfl, rfl⟩) | (refine w_callT (c_leafp (S.rd rfl)) ?_; rintro _ _ ⟨rfl, rfl⟩) )
      refine st_app (L := LK) (n := kls.length) (c := dl) (k := krs.length) (ys := krs.map some) S rfl rfl (by simp) hdl rfl (by simp) (S.rsI (by simp) dr) ⟨by omega, by omega⟩ fun ql1 dl1 _ hdl1 S => ?_
      repeat (first | refine w_nonnil ?_ | refine ld_it S (by assumption) ?_ | refine ld_int S rfl ?_ | refine ld_some S rfl ?_ | refine ld_sls S rfl ?_ | refine st_it S (by first | omega | (dsimp only; omega)) fun _ S => ?_ | refine st_kid S (by first | omega | (dsimp only; omega)) none rfl fun _ S => ?_ | refine st_kid S (by first | omega | (dsimp only; omega)) (some _) rfl fun _ S => ?_ | refine st_store S (lt_ble rfl) fun _ S => ?_ | refine st_alloc S fun _ _ S => ?_ | refine st_held S rfl ?_ | refine w_guard (by (first | exact inK64 (by omega) (by omega) | omega | (constructor <;> omega) | ((try dsimp only [Sh.T, Sh1.T]); first | exact inK64 (by omega) (by omega) | omega | exact ⟨by decide, inK64 (by omega) (by omega)⟩ | trivial))) ?_ | refine bd_n rfl ?_ | refine w_true (b := true) rfl ?_ | refine w_false (b := false) rfl ?_ | refine w_guard (show noMeths _ _ by show _ = _; kernel_rfl) ?_ | (refine w_callT (c_leafp (kp := none) (S.rd rfl)) ?_; rintro _ _ ⟨rfl, rfl⟩) | (refine w_callT (c_leafp (kp := some _) (S.rd rfl)) ?_; rintro _ _ ⟨rfl, rfl⟩) | (refine w_callT (c_leafp (S.rd rfl)) ?_; rintro _ _ ⟨rfl, rfl⟩) )
      refine jo_n ⟨rfl, ?_⟩
      have S := fo_app L iso (S.ats [.fo kls, .fo krs])
      have S := shut_kids L iso (t := joinB (ht + 1) tl x tr) (ks := kls ++ krs) (S.ats [.ow (hbl, 0), .ow ql1, .fo (kls ++ krs)]) rfl (by simp) (by simp) hdl1 rfl (by simp [joinB]; omega)
      exact S.dels [.ow (hbr, 0), .ow qr]
  dsimp only [List.cons_append, List.nil_append] at S
  repeat (first | refine w_nonnil ?_ | refine ld_it S (by assumption) ?_ | refine ld_int S rfl ?_ | refine ld_some S rfl ?_ | refine ld_sls S rfl ?_ | refine st_it S (by first | omega | (dsimp only; omega)) fun _ S => ?_ | refine st_kid S (by first | omega | (dsimp only; omega)) none rfl fun _ S => ?_ | refine st_kid S (by first | omega | (dsimp only; omega)) (some _) rfl fun _ S => ?_ | refine st_store S (lt_ble rfl) fun _ S => ?_ | refine st_alloc S fun _ _ S => ?_ | refine st_held S rfl ?_ | refine w_guard (by (first | exact inK64 (by omega) (by omega) | omega | (constructor <;> omega) | ((try dsimp only [Sh.T, Sh1.T]); first | exact inK64 (by omega) (by omega) | omega | exact ⟨by decide, inK64 (by omega) (by omega)⟩ | trivial))) ?_ | refine bd_n rfl ?_ | refine w_true (b := true) rfl ?_ | refine w_false (b := false) rfl ?_ | refine w_guard (show noMeths _ _ by show _ = _; kernel_rfl) ?_ | (refine w_callT (c_leafp (kp := none) (S.rd rfl)) ?_; rintro _ _ ⟨rfl, rfl⟩) | (refine w_callT (c_leafp (kp := some _) (S.rd rfl)) ?_; rintro _ _ ⟨rfl, rfl⟩) | (refine w_callT (c_leafp (S.rd rfl)) ?_; rintro _ _ ⟨rfl, rfl⟩) )
  refine st_cpdel (L := L) (n := n) (c := c) S rfl hn.symm hj hc fun _ zs hzl hzs S => ?_
  repeat (first | refine w_nonnil ?_ | refine ld_it S (by assumption) ?_ | refine ld_int S rfl ?_ | refine ld_some S rfl ?_ | refine ld_sls S rfl ?_ | refine st_it S (by first | omega | (dsimp only; omega)) fun _ S => ?_ | refine st_kid S (by first | omega | (dsimp only; omega)) none rfl fun _ S => ?_ | refine st_kid S (by first | omega | (dsimp only; omega)) (some _) rfl fun _ S => ?_ | refine st_store S (lt_ble rfl) fun _ S => ?_ | refine st_alloc S fun _ _ S => ?_ | refine st_held S rfl ?_ | refine w_guard (by (first | exact inK64 (by omega) (by omega) | omega | (constructor <;> omega) | ((try dsimp only [Sh.T, Sh1.T]); first | exact inK64 (by omega) (by omega) | omega | exact ⟨by decide, inK64 (by omega) (by omega)⟩ | trivial))) ?_ | refine bd_n rfl ?_ | refine w_true (b := true) rfl ?_ | refine w_false (b := false) rfl ?_ | refine w_guard (show noMeths _ _ by show _ = _; kernel_rfl) ?_ | (refine w_callT (c_leafp (kp := none) (S.rd rfl)) ?_; rintro _ _ ⟨rfl, rfl⟩) | (refine w_callT (c_leafp (kp := some _) (S.rd rfl)) ?_; rintro _ _ ⟨rfl, rfl⟩) | (refine w_callT (c_leafp (S.rd rfl)) ?_; rintro _ _ ⟨rfl, rfl⟩) )
  refine st_cpdel (L := LK) (n := m) (c := d) (i := j + 1) S rfl (by simp; omega) (by omega) hd fun _ ws hwl hws S => ?_
  repeat (first | refine w_nonnil ?_ | refine ld_it S (by assumption) ?_ | refine ld_int S rfl ?_ | refine ld_some S rfl ?_ | refine ld_sls S rfl ?_ | refine st_it S (by first | omega | (dsimp only; omega)) fun _ S => ?_ | refine st_kid S (by first | omega | (dsimp only; omega)) none rfl fun _ S => ?_ | refine st_kid S (by first | omega | (dsimp only; omega)) (some _) rfl fun _ S => ?_ | refine st_store S (lt_ble rfl) fun _ S => ?_ | refine st_alloc S fun _ _ S => ?_ | refine st_held S rfl ?_ | refine w_guard (by (first | exact inK64 (by omega) (by omega) | omega | (constructor <;> omega) | ((try dsimp only [Sh.T, Sh1.T]); first | exact inK64 (by omega) (by omega) | omega | exact ⟨by decide, inK64 (by omega) (by omega)⟩ | trivial))) ?_ | refine bd_n rfl ?_ | refine w_true (b := true) rfl ?_ | refine w_false (b := false) rfl ?_ | refine w_guard (show noMeths _ _ by show _ = _; kernel_rfl) ?_ | (refine w_callT (c_leafp (kp := none) (S.rd rfl)) ?_; rintro _ _ ⟨rfl, rfl⟩) | (refine w_callT (c_leafp (kp := some _) (S.rd rfl)) ?_; rintro _ _ ⟨rfl, rfl⟩) | (refine w_callT (c_leafp (S.rd rfl)) ?_; rintro _ _ ⟨rfl, rfl⟩) )
  have e1 : (A ++ C).length = n - 1 := by simp; omega
  have e2 : (KB ++ kl :: KD).length = m - 1 := by simp; omega
  have hzs := hzs (0, 0)
  have hws := hws none
  rw [erase_mid hA] at hzs
  rw [List.map_append, List.map_cons, List.map_cons, erase_mid1 (by simpa using hKB)] at hws
  have S := ((S.at (.ow p)).re p (L.flat (A ++ C) ++ L.flat [(0, 0)]) _ rfl (by rw [hzs, L.flat_append]) rfl).shrink
  have S := ((S.at (.ow q)).re q (LK.flat ((KB ++ kl :: KD).map some) ++ LK.flat [none]) _ rfl (by rw [← LK.flat_append, hws]; simp) rfl).shrink
  have hitm := joinB_items ht tl x tr
  have hfm := joinB_flat (x := x) hvl.1 hvr.1
  have S := shut_nd L iso (t := joinB ht tl x tr) (S.ats [.ow (kl, 0), .ow pl2, .kd kpl]) rfl (by rw [hitm]; simp) (by rw [hitm]; simp; omega) (by rw [hfm]; simp; try omega) hcl2 rfl
  have S := fo_cons L iso (S.ats [.tr kl, .fo KD])
  have S := fo_app L iso (S.ats [.fo KB, .fo (kl :: KD)])
  have hfl2 : flatB (ht + 1) ((A ++ C, B ++ joinB ht tl x tr :: D) : BT KV (ht + 1)) = flatB (ht + 1) ((A ++ x :: C, B ++ tl :: tr :: D) : BT KV (ht + 1)) := by
    rw [hflat]
    simp only [flatB, List.map_append, List.map_cons]
    rw [weave_one (by simp; omega), hfm]; simp
  rw [LK_flat] at S
  have S := shut_node L iso (xs := A ++ C) (ts := B ++ joinB ht tl x tr :: D) (m := n - 1) (c := c) (m2 := m - 1) (d := d) (cnt := (flatB (ht + 1) ((A ++ x :: C, B ++ tl :: tr :: D) : BT KV (ht + 1))).length) (S.ats [.ow (b, 0), .ow p, .ow (hb, 0), .ow q, .fo (KB ++ kl :: KD)])
    (by simp [nodeC, Cell.val, slBase_zero]) rfl (by simp [hdC, Cell.val, slBase_zero]) rfl e1.symm e2.symm (by rw [hfl2]) (by omega) (by rw [L.flat_length, ← Nat.add_mul]; congr 1; show 1 + _ = _; omega) (by omega) (by rw [LK.flat_length]; show 1 * 1 + (d - m) * 1 = _; omega)
  have hrbt : RbT i ((A ++ x :: C, B ++ tl :: tr :: D) : BT KV (ht + 1)) ((A ++ C, B ++ joinB ht tl x tr :: D) : BT KV (ht + 1)) := fun Cp Ob hC q1 q2 q3 hg => by
    obtain ⟨g1, g2, g3⟩ := gd_right (by omega) hg
    exact gd_one (by omega) hg (left_no hA hji q1) (gd_join hC hvl.1 hvr.1 g1 g2 g3)
  refine rt_n rfl rfl ⟨_, ⟨(A ++ C, B ++ joinB ht tl x tr :: D), rfl, hfl2, ⟨by show (A ++ C).length ≤ mx; omega, by show (B ++ joinB ht tl x tr :: D).length = (A ++ C).length + 1; simp; omega, ?_⟩, by show (A ++ x :: C).length ≤ (A ++ C).length + 1; simp; omega, hrbt⟩, S.only [.ow a0, .tr b]⟩
  intro u hu
  rcases List.mem_append.1 hu with hu | hu
  · obtain ⟨w, hw⟩ := List.mem_iff_getElem?.1 hu
    have hwl := (List.getElem?_eq_some_iff.1 hw).1
    have := hk w u (by rw [List.getElem?_append_left hwl]; exact hw)
    rw [if_neg (by omega)] at this
    exact this
  · rcases List.mem_cons.1 hu with rfl | hu
    · refine ⟨joinB_val hvl.1 hvr.1 (by omega), ?_⟩
      rw [hitm]
      have h2 := hvl.2
      have h3 := hvr.2
      simp only [List.length_append, List.length_cons]
      split at h2 <;> split at h3 <;> omega
    · obtain ⟨w, hw⟩ := List.mem_iff_getElem?.1 hu
      have := hk (B.length + 2 + w) u (by rw [List.getElem?_append_right (by omega), show B.length + 2 + w - B.length = w + 2 by omega]; exact hw)
      rw [if_neg (by omega)] at this
      exact this
end
end Go.Proofs.Ytegnpimlfphncaa.TG
