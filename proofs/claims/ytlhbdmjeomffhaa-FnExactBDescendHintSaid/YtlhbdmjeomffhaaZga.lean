/-
  The tree of interfaces: an item sought. Conditions: none.
-/
import Derived.Test.YtlhbdmjeomffhaaPgR
import Derived.Test.YtlhbdmjeomffhaaPgA
import Derived.Test.YtlhbdmjeomffhaaZra
import Derived.Test.YtlhbdmjeomffhaaYc
set_option linter.unusedVariables false
set_option linter.unusedSimpArgs false
set_option linter.unusedSectionVars false
set_option maxRecDepth 100000
namespace Go.Proofs.Ytlhbdmjeomffhaa.TB
open Go Go.Proofs.Ytlhbdmjeomffhaa
section
variable {ls : Value} {oc : Ck} {o : List Int} {hp : Option PA} {h h0 : H} {G0 : PA → Prop} {r : List Ck}
theorem c_find {c : Ck} (hh : HsOK hp) (hls : Lss ls c o) {a0 a1 p : PA} {x : KV} {xs : List KV} {cap dep : Nat} {kp : Option PA} {G : PA → Prop} (hr : Bes (RdC (a1.1, a1.2 + 2) (.slice (some p.val) xs.length cap)) h G) (hx : Bes (RsC p (L.flat xs)) h G) (hk : Bes (RdC (a1.1, a1.2 + 3) (.pointer (kp.map PA.val))) h G) (hl : Bes (RdC (a0.1, a0.2 + 6) ls) h G) (hc : Bes c h G)
    (hs : Srt (ltO o) xs) (h1 : 0 < xs.length) (hn : xs.length ≤ 255) (hd : dep ≤ 4294967296) (hG : Star [HtC hp] h G) :
    HT Try.prog fn_tb_find [.c (.addr a0), .c (.addr a1), .c (.raw (anyV x)), .c (.ptr hp), .c (.int .i64 dep)] true [.c (.int .i64), .c .bool] h fun r h' => ∃ post, (r = ((pos (ltO o) xs x : Int), (fnd (ltO o) xs x).isSome, ()) ∧ post = [HtC hp]) ∧ St h G post h' := by
  apply hc_tb_find
  unfold M_tb_find
  have S := St.start hG
  rcases hh with rfl | hF
  · refine w_true rfl ?_
    repeat (first | refine ld_nilI S rfl ?_ | refine ld_any S rfl ?_ | refine st_itN S (by first | omega | (dsimp only; omega)) fun _ S => ?_ | refine st_itO S (by first | omega | (dsimp only; omega)) fun _ S => ?_ | refine w_nonnil ?_ | refine ld_it S (by assumption) ?_ | refine ld_it0 S (by assumption) ?_ | refine ld_val S (by assumption) ?_ | refine ld_key S (by assumption) ?_ | refine ld_int S rfl ?_ | refine w_int _ (S.cnt _) ?_ | refine ld_kid S (by assumption) ?_ | refine ld_kid0 S (by assumption) ?_ | refine ld_some S rfl ?_ | refine ld_ptr S _ rfl ?_ | refine ld_sls S rfl ?_ | refine ld_nil S rfl ?_ | refine ld_bool S rfl ?_ | refine st_it S (by first | omega | (dsimp only; omega)) fun _ S => ?_ | refine st_it0 S (by first | omega | (dsimp only; omega)) fun _ S => ?_ | refine st_kid S (by first | omega | (dsimp only; omega)) none rfl fun _ S => ?_ | refine st_kid S (by first | omega | (dsimp only; omega)) (some _) rfl fun _ S => ?_ | refine st_kid0 S (by first | omega | (dsimp only; omega)) (some _) rfl fun _ S => ?_ | refine st_store S (lt_ble rfl) fun _ S => ?_ | refine st_alloc S fun _ _ S => ?_ | refine st_held S rfl ?_ | refine w_guard (by (first | exact inK64 (by omega) (by omega) | omega | (constructor <;> omega) | ((try dsimp only [Sh.T, Sh1.T]); first | exact inK64 (by omega) (by omega) | omega | exact ⟨by decide, inK64 (by omega) (by omega)⟩ | trivial))) ?_ | refine bd_n rfl ?_ | refine bd_e rfl ?_ | refine bd_r ?_ | refine bd_p ?_ | refine ln_r ?_ | refine ln_e ?_ | refine w_true (b := true) rfl ?_ | refine w_false (b := false) rfl ?_ | (refine w_callT (c_leafp (kp := none) (S.rd rfl)) ?_; rintro _ _ ⟨rfl, rfl⟩) | (refine w_callT (c_leafp (kp := some _) (S.rd rfl)) ?_; rintro _ _ ⟨rfl, rfl⟩) | (refine w_callT (c_leafp (S.rd rfl)) ?_; rintro _ _ ⟨rfl, rfl⟩) | (refine w_callT (c_leaf (kp := none) (S.rd rfl)) ?_; rintro _ _ ⟨rfl, rfl⟩) | (refine w_callT (c_leaf (kp := some _) (S.rd rfl)) ?_; rintro _ _ ⟨rfl, rfl⟩))
    refine st_callF S [.ck (HtC none)] (fun G' hG' hsub => c_bsearch hls (hr.step S hsub) (hx.step S hsub) (hl.step S hsub) (hc.step S hsub) hs (by omega) hG') ?_
    rintro _ _ _ ⟨rfl, rfl⟩ S
    dsimp only [List.cons_append, List.nil_append] at S
    exact rt_n rfl rfl ⟨_, ⟨rfl, rfl⟩, S.only [.ck (HtC none)]⟩
  · cases hp with
    | none =>
      refine w_true rfl ?_
      repeat (first | refine ld_nilI S rfl ?_ | refine ld_any S rfl ?_ | refine st_itN S (by first | omega | (dsimp only; omega)) fun _ S => ?_ | refine st_itO S (by first | omega | (dsimp only; omega)) fun _ S => ?_ | refine w_nonnil ?_ | refine ld_it S (by assumption) ?_ | refine ld_it0 S (by assumption) ?_ | refine ld_val S (by assumption) ?_ | refine ld_key S (by assumption) ?_ | refine ld_int S rfl ?_ | refine w_int _ (S.cnt _) ?_ | refine ld_kid S (by assumption) ?_ | refine ld_kid0 S (by assumption) ?_ | refine ld_some S rfl ?_ | refine ld_ptr S _ rfl ?_ | refine ld_sls S rfl ?_ | refine ld_nil S rfl ?_ | refine ld_bool S rfl ?_ | refine st_it S (by first | omega | (dsimp only; omega)) fun _ S => ?_ | refine st_it0 S (by first | omega | (dsimp only; omega)) fun _ S => ?_ | refine st_kid S (by first | omega | (dsimp only; omega)) none rfl fun _ S => ?_ | refine st_kid S (by first | omega | (dsimp only; omega)) (some _) rfl fun _ S => ?_ | refine st_kid0 S (by first | omega | (dsimp only; omega)) (some _) rfl fun _ S => ?_ | refine st_store S (lt_ble rfl) fun _ S => ?_ | refine st_alloc S fun _ _ S => ?_ | refine st_held S rfl ?_ | refine w_guard (by (first | exact inK64 (by omega) (by omega) | omega | (constructor <;> omega) | ((try dsimp only [Sh.T, Sh1.T]); first | exact inK64 (by omega) (by omega) | omega | exact ⟨by decide, inK64 (by omega) (by omega)⟩ | trivial))) ?_ | refine bd_n rfl ?_ | refine bd_e rfl ?_ | refine bd_r ?_ | refine bd_p ?_ | refine ln_r ?_ | refine ln_e ?_ | refine w_true (b := true) rfl ?_ | refine w_false (b := false) rfl ?_ | (refine w_callT (c_leafp (kp := none) (S.rd rfl)) ?_; rintro _ _ ⟨rfl, rfl⟩) | (refine w_callT (c_leafp (kp := some _) (S.rd rfl)) ?_; rintro _ _ ⟨rfl, rfl⟩) | (refine w_callT (c_leafp (S.rd rfl)) ?_; rintro _ _ ⟨rfl, rfl⟩) | (refine w_callT (c_leaf (kp := none) (S.rd rfl)) ?_; rintro _ _ ⟨rfl, rfl⟩) | (refine w_callT (c_leaf (kp := some _) (S.rd rfl)) ?_; rintro _ _ ⟨rfl, rfl⟩))
      refine st_callF S [.ck (HtC none)] (fun G' hG' hsub => c_bsearch hls (hr.step S hsub) (hx.step S hsub) (hl.step S hsub) (hc.step S hsub) hs (by omega) hG') ?_
      rintro _ _ _ ⟨rfl, rfl⟩ S
      dsimp only [List.cons_append, List.nil_append] at S
      exact rt_n rfl rfl ⟨_, ⟨rfl, rfl⟩, S.only [.ck (HtC none)]⟩
    | some a =>
      refine w_false rfl ?_
      repeat (first | refine ld_nilI S rfl ?_ | refine ld_any S rfl ?_ | refine st_itN S (by first | omega | (dsimp only; omega)) fun _ S => ?_ | refine st_itO S (by first | omega | (dsimp only; omega)) fun _ S => ?_ | refine w_nonnil ?_ | refine ld_it S (by assumption) ?_ | refine ld_it0 S (by assumption) ?_ | refine ld_val S (by assumption) ?_ | refine ld_key S (by assumption) ?_ | refine ld_int S rfl ?_ | refine w_int _ (S.cnt _) ?_ | refine ld_kid S (by assumption) ?_ | refine ld_kid0 S (by assumption) ?_ | refine ld_some S rfl ?_ | refine ld_ptr S _ rfl ?_ | refine ld_sls S rfl ?_ | refine ld_nil S rfl ?_ | refine ld_bool S rfl ?_ | refine st_it S (by first | omega | (dsimp only; omega)) fun _ S => ?_ | refine st_it0 S (by first | omega | (dsimp only; omega)) fun _ S => ?_ | refine st_kid S (by first | omega | (dsimp only; omega)) none rfl fun _ S => ?_ | refine st_kid S (by first | omega | (dsimp only; omega)) (some _) rfl fun _ S => ?_ | refine st_kid0 S (by first | omega | (dsimp only; omega)) (some _) rfl fun _ S => ?_ | refine st_store S (lt_ble rfl) fun _ S => ?_ | refine st_alloc S fun _ _ S => ?_ | refine st_held S rfl ?_ | refine w_guard (by (first | exact inK64 (by omega) (by omega) | omega | (constructor <;> omega) | ((try dsimp only [Sh.T, Sh1.T]); first | exact inK64 (by omega) (by omega) | omega | exact ⟨by decide, inK64 (by omega) (by omega)⟩ | trivial))) ?_ | refine bd_n rfl ?_ | refine bd_e rfl ?_ | refine bd_r ?_ | refine bd_p ?_ | refine ln_r ?_ | refine ln_e ?_ | refine w_true (b := true) rfl ?_ | refine w_false (b := false) rfl ?_ | (refine w_callT (c_leafp (kp := none) (S.rd rfl)) ?_; rintro _ _ ⟨rfl, rfl⟩) | (refine w_callT (c_leafp (kp := some _) (S.rd rfl)) ?_; rintro _ _ ⟨rfl, rfl⟩) | (refine w_callT (c_leafp (S.rd rfl)) ?_; rintro _ _ ⟨rfl, rfl⟩) | (refine w_callT (c_leaf (kp := none) (S.rd rfl)) ?_; rintro _ _ ⟨rfl, rfl⟩) | (refine w_callT (c_leaf (kp := some _) (S.rd rfl)) ?_; rintro _ _ ⟨rfl, rfl⟩))
      refine st_callF S [.ck (HtC (some a))] (fun G' hG' hsub => hF hls dep (hr.step S hsub) (hx.step S hsub) (hk.step S hsub) (hl.step S hsub) (hc.step S hsub) hs h1 hn hd hG') ?_
      rintro _ _ _ ⟨rfl, rfl⟩ S
      dsimp only [List.cons_append, List.nil_append] at S
      exact rt_n rfl rfl ⟨_, ⟨rfl, rfl⟩, S.only [.ck (HtC (some a))]⟩
set_option maxHeartbeats 1000000 in
theorem c_getHint {a0 : PA} {iso : Int} {dg : Nat} {x : KV} {l : List KV} {m : Bool} (hh : HsOK hp) (hls : Lss ls oc o) (hl : l.length ≤ 4294967295) {G : PA → Prop} (hoc : Bes oc h G) (hG : Star [MpC ls o iso dg a0 l, HtC hp] h G) :
    HT Try.prog fn_tb_getHint [.c (.addr a0), .c (.raw (anyV x)), .c (.ptr hp), .c (.bool m)] true [.c .raw, .c .bool] h fun r h' => ∃ post, (r = itR (fnd (ltO o) l x) ∧ post = [MpC ls o iso dg a0 l, HtC hp]) ∧ St h G post h' := by
  apply hc_tb_getHint
  unfold M_tb_getHint
  (refine w_callT c_lock ?_; rintro _ hk ⟨rfl, rfl⟩; refine w_bnd (w_false rfl (bd_n rfl ?_)))
  rcases open_map (St.start hG) with ⟨ctr, mn, mx, rfl, hg, S⟩ | ⟨ctr, n, b, t, rfl, hs, hv, hi, hg, S⟩
  · repeat (first | refine ld_nilI S rfl ?_ | refine ld_any S rfl ?_ | refine st_itN S (by first | omega | (dsimp only; omega)) fun _ S => ?_ | refine st_itO S (by first | omega | (dsimp only; omega)) fun _ S => ?_ | refine w_nonnil ?_ | refine ld_it S (by assumption) ?_ | refine ld_it0 S (by assumption) ?_ | refine ld_val S (by assumption) ?_ | refine ld_key S (by assumption) ?_ | refine ld_int S rfl ?_ | refine w_int _ (S.cnt _) ?_ | refine ld_kid S (by assumption) ?_ | refine ld_kid0 S (by assumption) ?_ | refine ld_some S rfl ?_ | refine ld_ptr S _ rfl ?_ | refine ld_sls S rfl ?_ | refine ld_nil S rfl ?_ | refine ld_bool S rfl ?_ | refine st_it S (by first | omega | (dsimp only; omega)) fun _ S => ?_ | refine st_it0 S (by first | omega | (dsimp only; omega)) fun _ S => ?_ | refine st_kid S (by first | omega | (dsimp only; omega)) none rfl fun _ S => ?_ | refine st_kid S (by first | omega | (dsimp only; omega)) (some _) rfl fun _ S => ?_ | refine st_kid0 S (by first | omega | (dsimp only; omega)) (some _) rfl fun _ S => ?_ | refine st_store S (lt_ble rfl) fun _ S => ?_ | refine st_alloc S fun _ _ S => ?_ | refine st_held S rfl ?_ | refine w_guard (by (first | exact inK64 (by omega) (by omega) | omega | (constructor <;> omega) | ((try dsimp only [Sh.T, Sh1.T]); first | exact inK64 (by omega) (by omega) | omega | exact ⟨by decide, inK64 (by omega) (by omega)⟩ | trivial))) ?_ | refine bd_n rfl ?_ | refine bd_e rfl ?_ | refine bd_r ?_ | refine bd_p ?_ | refine ln_r ?_ | refine ln_e ?_ | refine w_true (b := true) rfl ?_ | refine w_false (b := false) rfl ?_ | (refine w_callT (c_leafp (kp := none) (S.rd rfl)) ?_; rintro _ _ ⟨rfl, rfl⟩) | (refine w_callT (c_leafp (kp := some _) (S.rd rfl)) ?_; rintro _ _ ⟨rfl, rfl⟩) | (refine w_callT (c_leafp (S.rd rfl)) ?_; rintro _ _ ⟨rfl, rfl⟩) | (refine w_callT (c_leaf (kp := none) (S.rd rfl)) ?_; rintro _ _ ⟨rfl, rfl⟩) | (refine w_callT (c_leaf (kp := some _) (S.rd rfl)) ?_; rintro _ _ ⟨rfl, rfl⟩))
    exact rt_n rfl rfl ⟨_, ⟨rfl, rfl⟩, (shut_map0 (S.at (.ow a0)) hg).only [.mp a0, .ck (HtC hp)]⟩
  · repeat (first | refine ld_nilI S rfl ?_ | refine ld_any S rfl ?_ | refine st_itN S (by first | omega | (dsimp only; omega)) fun _ S => ?_ | refine st_itO S (by first | omega | (dsimp only; omega)) fun _ S => ?_ | refine w_nonnil ?_ | refine ld_it S (by assumption) ?_ | refine ld_it0 S (by assumption) ?_ | refine ld_val S (by assumption) ?_ | refine ld_key S (by assumption) ?_ | refine ld_int S rfl ?_ | refine w_int _ (S.cnt _) ?_ | refine ld_kid S (by assumption) ?_ | refine ld_kid0 S (by assumption) ?_ | refine ld_some S rfl ?_ | refine ld_ptr S _ rfl ?_ | refine ld_sls S rfl ?_ | refine ld_nil S rfl ?_ | refine ld_bool S rfl ?_ | refine st_it S (by first | omega | (dsimp only; omega)) fun _ S => ?_ | refine st_it0 S (by first | omega | (dsimp only; omega)) fun _ S => ?_ | refine st_kid S (by first | omega | (dsimp only; omega)) none rfl fun _ S => ?_ | refine st_kid S (by first | omega | (dsimp only; omega)) (some _) rfl fun _ S => ?_ | refine st_kid0 S (by first | omega | (dsimp only; omega)) (some _) rfl fun _ S => ?_ | refine st_store S (lt_ble rfl) fun _ S => ?_ | refine st_alloc S fun _ _ S => ?_ | refine st_held S rfl ?_ | refine w_guard (by (first | exact inK64 (by omega) (by omega) | omega | (constructor <;> omega) | ((try dsimp only [Sh.T, Sh1.T]); first | exact inK64 (by omega) (by omega) | omega | exact ⟨by decide, inK64 (by omega) (by omega)⟩ | trivial))) ?_ | refine bd_n rfl ?_ | refine bd_e rfl ?_ | refine bd_r ?_ | refine bd_p ?_ | refine ln_r ?_ | refine ln_e ?_ | refine w_true (b := true) rfl ?_ | refine w_false (b := false) rfl ?_ | (refine w_callT (c_leafp (kp := none) (S.rd rfl)) ?_; rintro _ _ ⟨rfl, rfl⟩) | (refine w_callT (c_leafp (kp := some _) (S.rd rfl)) ?_; rintro _ _ ⟨rfl, rfl⟩) | (refine w_callT (c_leafp (S.rd rfl)) ?_; rintro _ _ ⟨rfl, rfl⟩) | (refine w_callT (c_leaf (kp := none) (S.rd rfl)) ?_; rintro _ _ ⟨rfl, rfl⟩) | (refine w_callT (c_leaf (kp := some _) (S.rd rfl)) ?_; rintro _ _ ⟨rfl, rfl⟩))
    refine w_callT (c_isoLoad (S.rd rfl) (S.iso b) (S.rd rfl)) ?_
    rintro _ h2 ⟨rfl, rfl⟩
    have hnl := ht_le hg.2.1 n t hv hi
    obtain ⟨GA, hA, hb, hsub, back⟩ := St.cutB (A := [_]) (B := [_, _]) (S.ats [.ck (HtC hp), .ow a0, .tr b])
    have hba : ∀ (j : Nat) (v : Value), (mapC ls iso ctr (some (b, 0)) (flatB n t).length dg (2 * dg + 1) false false)[j]? = some v → Bes (RdC (a0.1, a0.2 + j) v) h2 GA := fun j v hj => Bes.cell (hb _ (.head _)) hj
    have hbt : Bes (TrC L iso n b t) h2 GA := hb _ (.tail _ (.head _))
    have hoc2 : Bes oc h2 GA := hoc.step S hsub
    have S0 := St.start hA
    refine w_lp (fun r y h' => ∃ (dep b' : Nat) (t' : BT KV r), y = ((dep : Int), some (b', 0), ()) ∧ dep + r = n ∧ Bes (TrC L iso r b' t') h2 GA ∧ Val dg (2 * dg + 1) r t' ∧ 1 ≤ (itemsB r t').length ∧ Srt (ltO o) (flatB r t') ∧ fnd (ltO o) (flatB r t') x = fnd (ltO o) (flatB n t) x ∧
        St h2 GA [HtC hp] h')
      n rfl ⟨0, b, t, rfl, by omega, hbt, hv, hi, hs, rfl, S0⟩ ?_
    rintro r _ _ ⟨dep, b', t', rfl, hdr, hT, hv', hi', hs', hfe, S⟩
    obtain ⟨p, c, kp, hc, hkp, b0, b1, b2, b3, br⟩ := hT.nd
    have hil := Val.items hv'
    have hgb := hg.2.2
    have hsx : Srt (ltO o) (itemsB r t') := by
      cases r with
      | zero => exact hs'
      | succ r => exact srt_items (by rw [List.length_map]; exact hv'.2.1) hs'
    repeat (first | refine ld_nilI S rfl ?_ | refine ld_any S rfl ?_ | refine st_itN S (by first | omega | (dsimp only; omega)) fun _ S => ?_ | refine st_itO S (by first | omega | (dsimp only; omega)) fun _ S => ?_ | refine w_nonnil ?_ | refine ld_it S (by assumption) ?_ | refine ld_it0 S (by assumption) ?_ | refine ld_val S (by assumption) ?_ | refine ld_key S (by assumption) ?_ | refine ld_int S rfl ?_ | refine w_int _ (S.cnt _) ?_ | refine ld_kid S (by assumption) ?_ | refine ld_kid0 S (by assumption) ?_ | refine ld_some S rfl ?_ | refine ld_ptr S _ rfl ?_ | refine ld_sls S rfl ?_ | refine ld_nil S rfl ?_ | refine ld_bool S rfl ?_ | refine st_it S (by first | omega | (dsimp only; omega)) fun _ S => ?_ | refine st_it0 S (by first | omega | (dsimp only; omega)) fun _ S => ?_ | refine st_kid S (by first | omega | (dsimp only; omega)) none rfl fun _ S => ?_ | refine st_kid S (by first | omega | (dsimp only; omega)) (some _) rfl fun _ S => ?_ | refine st_kid0 S (by first | omega | (dsimp only; omega)) (some _) rfl fun _ S => ?_ | refine st_store S (lt_ble rfl) fun _ S => ?_ | refine st_alloc S fun _ _ S => ?_ | refine st_held S rfl ?_ | refine w_guard (by (first | exact inK64 (by omega) (by omega) | omega | (constructor <;> omega) | ((try dsimp only [Sh.T, Sh1.T]); first | exact inK64 (by omega) (by omega) | omega | exact ⟨by decide, inK64 (by omega) (by omega)⟩ | trivial))) ?_ | refine bd_n rfl ?_ | refine bd_e rfl ?_ | refine bd_r ?_ | refine bd_p ?_ | refine ln_r ?_ | refine ln_e ?_ | refine w_true (b := true) rfl ?_ | refine w_false (b := false) rfl ?_ | (refine w_callT (c_leafp (kp := none) (S.rd rfl)) ?_; rintro _ _ ⟨rfl, rfl⟩) | (refine w_callT (c_leafp (kp := some _) (S.rd rfl)) ?_; rintro _ _ ⟨rfl, rfl⟩) | (refine w_callT (c_leafp (S.rd rfl)) ?_; rintro _ _ ⟨rfl, rfl⟩) | (refine w_callT (c_leaf (kp := none) (S.rd rfl)) ?_; rintro _ _ ⟨rfl, rfl⟩) | (refine w_callT (c_leaf (kp := some _) (S.rd rfl)) ?_; rintro _ _ ⟨rfl, rfl⟩))
    refine st_callF S [.ck (HtC hp)] (fun G' hG' hsub => c_find (a1 := (b', 0)) hh hls (b2.step S hsub) (br.step S hsub) (b3.step S hsub) ((hba 6 _ rfl).step S hsub) (hoc2.step S hsub) hsx hi' (by omega) (by omega) hG') ?_
    rintro _ _ _ ⟨rfl, rfl⟩ S
    dsimp only [List.cons_append, List.nil_append] at S
    have hpl := pos_le (lt := ltO o) (itemsB r t') x
    cases hf : fnd (ltO o) (itemsB r t') x with
    | some y =>
      have hfn : fnd (ltO o) (flatB r t') x = some y := by
        cases r with
        | zero => exact hf
        | succ r => exact (put_here (ordO o) (by rw [List.length_map]; exact hv'.2.1) hs' hf).2
      obtain ⟨hlt, hy, _⟩ := fnd_some_lt hf
      generalize hposd : pos (ltO o) (itemsB r t') x = i at *
      simp only [Int.toNat_natCast, toNat_succ, toNat_succ2, toNat_pred]
      refine w_true rfl (w_nonnil (w_sl (some p, (itemsB r t').length, c) (b2.now S).rd (w_nonnil (w_guard ⟨by (first | omega | ((try dsimp only [Sh.T, Sh1.T]); omega)), by (first | omega | ((try dsimp only [Sh.T, Sh1.T]); omega))⟩ ?_))))
      refine w_it (br.now S).rds hy ?_
      repeat (first | refine ld_nilI S rfl ?_ | refine ld_any S rfl ?_ | refine st_itN S (by first | omega | (dsimp only; omega)) fun _ S => ?_ | refine st_itO S (by first | omega | (dsimp only; omega)) fun _ S => ?_ | refine w_nonnil ?_ | refine ld_it S (by assumption) ?_ | refine ld_it0 S (by assumption) ?_ | refine ld_val S (by assumption) ?_ | refine ld_key S (by assumption) ?_ | refine ld_int S rfl ?_ | refine w_int _ (S.cnt _) ?_ | refine ld_kid S (by assumption) ?_ | refine ld_kid0 S (by assumption) ?_ | refine ld_some S rfl ?_ | refine ld_ptr S _ rfl ?_ | refine ld_sls S rfl ?_ | refine ld_nil S rfl ?_ | refine ld_bool S rfl ?_ | refine st_it S (by first | omega | (dsimp only; omega)) fun _ S => ?_ | refine st_it0 S (by first | omega | (dsimp only; omega)) fun _ S => ?_ | refine st_kid S (by first | omega | (dsimp only; omega)) none rfl fun _ S => ?_ | refine st_kid S (by first | omega | (dsimp only; omega)) (some _) rfl fun _ S => ?_ | refine st_kid0 S (by first | omega | (dsimp only; omega)) (some _) rfl fun _ S => ?_ | refine st_store S (lt_ble rfl) fun _ S => ?_ | refine st_alloc S fun _ _ S => ?_ | refine st_held S rfl ?_ | refine w_guard (by (first | exact inK64 (by omega) (by omega) | omega | (constructor <;> omega) | ((try dsimp only [Sh.T, Sh1.T]); first | exact inK64 (by omega) (by omega) | omega | exact ⟨by decide, inK64 (by omega) (by omega)⟩ | trivial))) ?_ | refine bd_n rfl ?_ | refine bd_e rfl ?_ | refine bd_r ?_ | refine bd_p ?_ | refine ln_r ?_ | refine ln_e ?_ | refine w_true (b := true) rfl ?_ | refine w_false (b := false) rfl ?_ | (refine w_callT (c_leafp (kp := none) (S.rd rfl)) ?_; rintro _ _ ⟨rfl, rfl⟩) | (refine w_callT (c_leafp (kp := some _) (S.rd rfl)) ?_; rintro _ _ ⟨rfl, rfl⟩) | (refine w_callT (c_leafp (S.rd rfl)) ?_; rintro _ _ ⟨rfl, rfl⟩) | (refine w_callT (c_leaf (kp := none) (S.rd rfl)) ?_; rintro _ _ ⟨rfl, rfl⟩) | (refine w_callT (c_leaf (kp := some _) (S.rd rfl)) ?_; rintro _ _ ⟨rfl, rfl⟩))
      have S := back _ _ S
      dsimp only [List.cons_append, List.nil_append] at S
      refine rt_n rfl rfl ⟨_, ⟨?_, rfl⟩, (shut_map (S.ats [.ow a0, .tr b]) rfl rfl hs hv hi hg).only [.mp a0, .ck (HtC hp)]⟩
      rw [← hfe, hfn]; rfl
    | none =>
      cases r with
      | zero =>
        obtain rfl : kp = none := by cases kp with | none => rfl | some _ => cases hkp
        refine w_false rfl (w_nonnil (w_ptr none (b3.now S).rd (w_true rfl ?_)))
        refine w_nilI ((hba 7 _ rfl).now S).rd ?_
        repeat (first | refine ld_nilI S rfl ?_ | refine ld_any S rfl ?_ | refine st_itN S (by first | omega | (dsimp only; omega)) fun _ S => ?_ | refine st_itO S (by first | omega | (dsimp only; omega)) fun _ S => ?_ | refine w_nonnil ?_ | refine ld_it S (by assumption) ?_ | refine ld_it0 S (by assumption) ?_ | refine ld_val S (by assumption) ?_ | refine ld_key S (by assumption) ?_ | refine ld_int S rfl ?_ | refine w_int _ (S.cnt _) ?_ | refine ld_kid S (by assumption) ?_ | refine ld_kid0 S (by assumption) ?_ | refine ld_some S rfl ?_ | refine ld_ptr S _ rfl ?_ | refine ld_sls S rfl ?_ | refine ld_nil S rfl ?_ | refine ld_bool S rfl ?_ | refine st_it S (by first | omega | (dsimp only; omega)) fun _ S => ?_ | refine st_it0 S (by first | omega | (dsimp only; omega)) fun _ S => ?_ | refine st_kid S (by first | omega | (dsimp only; omega)) none rfl fun _ S => ?_ | refine st_kid S (by first | omega | (dsimp only; omega)) (some _) rfl fun _ S => ?_ | refine st_kid0 S (by first | omega | (dsimp only; omega)) (some _) rfl fun _ S => ?_ | refine st_store S (lt_ble rfl) fun _ S => ?_ | refine st_alloc S fun _ _ S => ?_ | refine st_held S rfl ?_ | refine w_guard (by (first | exact inK64 (by omega) (by omega) | omega | (constructor <;> omega) | ((try dsimp only [Sh.T, Sh1.T]); first | exact inK64 (by omega) (by omega) | omega | exact ⟨by decide, inK64 (by omega) (by omega)⟩ | trivial))) ?_ | refine bd_n rfl ?_ | refine bd_e rfl ?_ | refine bd_r ?_ | refine bd_p ?_ | refine ln_r ?_ | refine ln_e ?_ | refine w_true (b := true) rfl ?_ | refine w_false (b := false) rfl ?_ | (refine w_callT (c_leafp (kp := none) (S.rd rfl)) ?_; rintro _ _ ⟨rfl, rfl⟩) | (refine w_callT (c_leafp (kp := some _) (S.rd rfl)) ?_; rintro _ _ ⟨rfl, rfl⟩) | (refine w_callT (c_leafp (S.rd rfl)) ?_; rintro _ _ ⟨rfl, rfl⟩) | (refine w_callT (c_leaf (kp := none) (S.rd rfl)) ?_; rintro _ _ ⟨rfl, rfl⟩) | (refine w_callT (c_leaf (kp := some _) (S.rd rfl)) ?_; rintro _ _ ⟨rfl, rfl⟩))
        have S := back _ _ S
        dsimp only [List.cons_append, List.nil_append] at S
        refine rt_n rfl rfl ⟨_, ⟨?_, rfl⟩, (shut_map (S.ats [.ow a0, .tr b]) rfl rfl hs hv hi hg).only [.mp a0, .ck (HtC hp)]⟩
        have hf : fnd (ltO o) (flatB 0 t') x = none := hf
        rw [← hfe, hf]; rfl
      | succ r =>
        obtain ⟨hb1, q, cc, k3, k0, hk⟩ := hT.kids
        obtain ⟨xs, ts⟩ := t'
        have hl2 : ts.length = xs.length + 1 := hv'.2.1
        have hlm : (ts.map (flatB r)).length = xs.length + 1 := by rw [List.length_map, hl2]
        have hpl : pos (ltO o) xs x ≤ xs.length := hpl
        have hf : fnd (ltO o) xs x = none := hf
        have hsw : Srt (ltO o) (weave xs (ts.map (flatB r))) := hs'
        have hfe' : fnd (ltO o) (weave xs (ts.map (flatB r))) x = fnd (ltO o) (flatB n t) x := hfe
        obtain ⟨u, hu⟩ : ∃ u, ts[pos (ltO o) xs x]? = some u := ⟨_, List.getElem?_eq_getElem (by omega)⟩
        have hum : (ts.map (flatB r))[pos (ltO o) xs x]? = some (flatB r u) := by rw [List.getElem?_map, hu]; rfl
        have hfn := (put_child (ordO o) hlm hsw hum hf).2.1
        have hmem : u ∈ ts := List.mem_of_getElem? hu
        have hsu : Srt (ltO o) (flatB r u) := by
          rw [weave_at hpl hum] at hsw
          exact (srt_append.1 (srt_append.1 hsw).2.1).1
        obtain ⟨kid, kr, kt⟩ := hk _ u hu
        have hvu := hv'.2.2 u hmem
        have hmn := hg.2.1
        refine w_false rfl (w_nonnil (w_ptr (some (hb1, 0)) (k3.now S).rd (w_false rfl (w_nonnil (w_ptr (some (hb1, 0)) (k3.now S).rd (w_nonnil (w_sl (some q, ts.length, cc) (k0.now S).rd (w_nonnil ?_))))))))
        have hpi : (itemsB (r + 1) ((xs, ts) : BT KV (r + 1))) = xs := rfl
        rw [hpi]
        generalize hposd : pos (ltO o) xs x = i at *
        simp only [Int.toNat_natCast, toNat_succ, toNat_succ2, toNat_pred]
        refine w_guard ⟨by (first | omega | ((try dsimp only [Sh.T, Sh1.T]); omega)), by (first | omega | ((try dsimp only [Sh.T, Sh1.T]); omega))⟩ ?_
        refine w_callT (c_isoLoad (kr.now S).rd (kt.now S).nd.choose_spec.choose_spec.choose_spec.2.2.1.rd ((hba 0 _ rfl).now S).rd) ?_
        rintro _ _ ⟨rfl, rfl⟩
        refine w_guard (inK64 (by (first | omega | ((try dsimp only [Sh.T, Sh1.T]); omega))) (by (first | omega | ((try dsimp only [Sh.T, Sh1.T]); omega)))) ?_
        exact ln_n rfl r ⟨dep + 1, kid, u, rfl, by omega, kt, hvu.1, by omega, hsu, by rw [← hfn]; exact hfe', S.ats [.ck (HtC hp)]⟩ (by omega)
theorem c_GetHint {a0 : PA} {iso : Int} {dg : Nat} {x : KV} {l : List KV} (hh : HsOK hp) (hls : Lss ls oc o) (hl : l.length ≤ 4294967295) {G : PA → Prop} (hoc : Bes oc h G) (hG : Star [MpC ls o iso dg a0 l, HtC hp] h G) :
    HT Try.prog fn_tb_GetHint [.c (.addr a0), .c (.raw (anyV x)), .c (.ptr hp)] true [.c .raw, .c .bool] h fun r h' => ∃ post, (r = itR (fnd (ltO o) l x) ∧ post = [MpC ls o iso dg a0 l, HtC hp]) ∧ St h G post h' := by
  apply hc_tb_GetHint
  unfold M_tb_GetHint
  have S := St.start hG
  refine st_callF S [.mp a0, .ck (HtC hp)] (fun G' hG' hsub => c_getHint hh hls hl (hoc.step S hsub) hG') ?_
  rintro _ _ _ ⟨rfl, rfl⟩ S
  dsimp only [List.cons_append, List.nil_append] at S
  exact rt_n rfl rfl ⟨_, ⟨rfl, rfl⟩, S⟩
end
end Go.Proofs.Ytlhbdmjeomffhaa.TB
