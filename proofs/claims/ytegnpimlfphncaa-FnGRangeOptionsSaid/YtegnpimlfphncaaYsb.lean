/-
  The map tg: nodeSet. Conditions: none.
-/
import Derived.Test.YtegnpimlfphncaaPgA
import Derived.Test.YtegnpimlfphncaaYsa
set_option linter.unusedVariables false
set_option linter.unusedSimpArgs false
set_option linter.unusedSectionVars false
set_option maxRecDepth 100000
namespace Go.Proofs.Ytegnpimlfphncaa.TG
open Go Go.Proofs.Ytegnpimlfphncaa
section
variable {I : Type} {lt : I → I → Bool}
theorem put_found {l : List I} {x y : I} (hf : fnd lt l x = some y) : put lt l x = l.set (pos lt l x) x := by
  have h1 := (fnd_some_lt hf).1
  unfold put
  rw [hf, List.set_eq_take_append_cons_drop, if_pos h1]; rfl
theorem put_none {l : List I} {x : I} (hf : fnd lt l x = none) : put lt l x = l.take (pos lt l x) ++ x :: l.drop (pos lt l x) := by
  unfold put; rw [hf]; rfl
theorem put_length {l : List I} {x : I} : (put lt l x).length + (if (fnd lt l x).isSome then 1 else 0) = l.length + 1 := by
  cases hf : fnd lt l x with
  | none =>
    have := pos_le (lt := lt) l x
    rw [put_none hf]; simp; omega
  | some y => rw [put_found hf]; simp
theorem nf_cut (o : Ord lt) {xs : List I} {x m : I} (hs : Srt lt xs) (hf : fnd lt xs x = none) :
    pos lt ((xs.take (pos lt xs x) ++ m :: xs.drop (pos lt xs x)) : List I) x = pos lt xs x ∨ pos lt ((xs.take (pos lt xs x) ++ m :: xs.drop (pos lt xs x)) : List I) x = pos lt xs x + 1 := by
  have hd : ∀ a ∈ xs.drop (pos lt xs x), lt x a = true := by
    have := drop_fnd_gt o hs (x := x)
    rw [hf] at this
    simpa using this
  have := pos_mid (m := [m]) o (l := xs.take (pos lt xs x)) (r := xs.drop (pos lt xs x)) (x := x) (fun a ha => take_pos_lt (lt := lt) (l := xs) (x := x) a ha) hd
  have e : (xs.take (pos lt xs x) ++ m :: xs.drop (pos lt xs x) : List I) = xs.take (pos lt xs x) ++ ([m] ++ xs.drop (pos lt xs x)) := rfl
  rw [e, this, List.length_take, Nat.min_eq_left (pos_le xs x)]
  have h1 := pos_le (lt := lt) [m] x
  simp at h1
  omega
end
def NF (o : List Int) (mx : Nat) (x : KV) : (n : Nat) → BT KV n → Prop
  | 0, xs => xs.length < mx
  | n + 1, t => fnd (ltO o) t.1 x = none → ∀ m, t.2[pos (ltO o) t.1 x]? = some m → (itemsB n m).length < mx
def old (o : List Int) (l : List KV) (x : KV) : KV := (fnd (ltO o) l x).getD (0, 0)
def SetR (o : List Int) (hp : Option PA) (a0 : PA) (mc : List Value) (iso : Int) (mn mx n b : Nat) (t : BT KV n) (k : Int) (v : Int) (x : SV [.agg [.int .i64, .int .i64], .c .bool, .c .bool]) (post : List Ck) : Prop :=
  ∃ t' : BT KV n, post = [Ow a0 mc 0, TrC L iso n b t', HtC hp] ∧
    ((x = ((0, 0, ()), false, true, ()) ∧ t' = t ∧ (itemsB n t).length = mx ∧ ¬ NF o mx (k, v) n t) ∨
     (x = (((old o (flatB n t) (k, v)).1, (old o (flatB n t) (k, v)).2, ()), (fnd (ltO o) (flatB n t) (k, v)).isSome, false, ()) ∧ flatB n t' = put (ltO o) (flatB n t) (k, v) ∧ Val mn mx n t' ∧ (itemsB n t).length ≤ (itemsB n t').length))
section
variable {ls : Value} {oc : Ck} {o : List Int} {hp : Option PA} {dep : Nat} {h : H}
set_option maxHeartbeats 2000000 in
theorem c_setLeaf {a0 pn : PA} {b mn mx : Nat} {iso cnt : Int} {ctr root : Option PA} {cv icv : Bool} {xs : List KV} (hh : HsOK hp) (hls : Lss ls oc o) (hdep : dep ≤ 4294967296) (hs : Srt (ltO o) xs) (hi1 : 0 < xs.length) (hv : xs.length ≤ mx) (hm : mx ≤ 255) {k : Int} {v : Int}
    (hpn : rd h pn = some (kptr b)) {G : PA → Prop} (hoc : Bes oc h G) (hG : Star [Ow a0 (mapC ls iso ctr root cnt mn mx cv icv) 0, TrC L iso 0 b xs, HtC hp] h G) :
    HT Try.prog fn_tg_nodeSet [.c (.addr a0), .c (.addr pn), .agg [.int .i64 k, .int .i64 v], .c (.ptr hp), .c (.int .i64 dep)] true [.agg [.int .i64, .int .i64], .c .bool, .c .bool] h fun x h' => ∃ post, SetR o hp a0 (mapC ls iso ctr root cnt mn mx cv icv) iso mn mx 0 b xs k v x post ∧ St h G post h' := by
  apply hc_tg_nodeSet
  unfold M_tg_nodeSet
  obtain ⟨p, c, hc, S⟩ := open_leaf L iso ((St.start hG).at (.tr b))
  simp only [itemsB] at hc S
  have hpl := pos_le (lt := (ltO o)) xs (k, v)
  refine st_allocK S fun n0 _ S hold => ?_
  refine st_allocK S fun n1 _ S hold1 => ?_
  refine w_ptr (some (b, 0)) (hold1 _ _ (hold _ _ hpn)) (w_nonnil ?_)
  repeat (first | refine w_nonnil ?_ | refine ld_it S (by assumption) ?_ | refine ld_int S rfl ?_ | refine ld_some S rfl ?_ | refine ld_sls S rfl ?_ | refine st_it S (by first | omega | (dsimp only; omega)) fun _ S => ?_ | refine st_store S (lt_ble rfl) fun _ S => ?_ | refine st_alloc S fun _ _ S => ?_ | refine st_held S rfl ?_ | refine w_guard (by (first | exact inK64 (by omega) (by omega) | omega | (constructor <;> omega) | ((try dsimp only [Sh.T, Sh1.T]); first | exact inK64 (by omega) (by omega) | omega | exact ⟨by decide, inK64 (by omega) (by omega)⟩ | trivial))) ?_ | refine bd_n rfl ?_ | refine w_true (b := true) rfl ?_ | refine w_false (b := false) rfl ?_ | refine w_guard (show noMeths _ _ by show _ = _; kernel_rfl) ?_ | (refine w_callT (c_leafp (kp := none) (S.rd rfl)) ?_; rintro _ _ ⟨rfl, rfl⟩) | (refine w_callT (c_leafp (kp := some _) (S.rd rfl)) ?_; rintro _ _ ⟨rfl, rfl⟩) | (refine w_callT (c_leafp (S.rd rfl)) ?_; rintro _ _ ⟨rfl, rfl⟩) )
  refine w_bnd (w_false (by simp) (bd_n rfl ?_))
  refine w_ptr (some (b, 0)) (hold1 _ _ (hold _ _ hpn)) ?_
  refine st_alloc S fun n2 _ S => ?_
  refine st_store S (lt_ble rfl) fun _ S => ?_
  refine st_find hh hls (kp := none) (x := (k, v)) (xs := xs) (S.ats [.ck (HtC hp)]) hoc (fun G B hB hd => ⟨bes hB hd rfl, besR hB hd, bes hB hd rfl, bes hB hd rfl⟩) (S.rd rfl) (S.rd rfl) (S.rd rfl) hs hi1 (by omega) (by omega) fun _ S => ?_
  generalize hposd : pos (ltO o) xs (k, v) = i at *
  simp only [Int.toNat_natCast, toNat_succ, toNat_succ2, toNat_pred]
  cases hf : fnd (ltO o) xs (k, v) with
  | some y =>
    obtain ⟨hlt, hy, _⟩ := fnd_some_lt hf
    rw [hposd] at hlt hy
    refine w_true rfl ?_
    repeat (first | refine w_nonnil ?_ | refine ld_it S (by assumption) ?_ | refine ld_int S rfl ?_ | refine ld_some S rfl ?_ | refine ld_sls S rfl ?_ | refine st_it S (by first | omega | (dsimp only; omega)) fun _ S => ?_ | refine st_store S (lt_ble rfl) fun _ S => ?_ | refine st_alloc S fun _ _ S => ?_ | refine st_held S rfl ?_ | refine w_guard (by (first | exact inK64 (by omega) (by omega) | omega | (constructor <;> omega) | ((try dsimp only [Sh.T, Sh1.T]); first | exact inK64 (by omega) (by omega) | omega | exact ⟨by decide, inK64 (by omega) (by omega)⟩ | trivial))) ?_ | refine bd_n rfl ?_ | refine w_true (b := true) rfl ?_ | refine w_false (b := false) rfl ?_ | refine w_guard (show noMeths _ _ by show _ = _; kernel_rfl) ?_ | (refine w_callT (c_leafp (kp := none) (S.rd rfl)) ?_; rintro _ _ ⟨rfl, rfl⟩) | (refine w_callT (c_leafp (kp := some _) (S.rd rfl)) ?_; rintro _ _ ⟨rfl, rfl⟩) | (refine w_callT (c_leafp (S.rd rfl)) ?_; rintro _ _ ⟨rfl, rfl⟩) )
    have S := shut_leaf L iso (xs := xs.set i (k, v)) (S.ats [.ow (b, 0), .ow p]) rfl rfl (by rw [List.length_set]) rfl hc rfl
    refine rt_n rfl rfl ⟨_, ⟨xs.set i (k, v), rfl, .inr ⟨?_, ?_, ?_, ?_⟩⟩, S.only [.ow a0, .tr b, .ck (HtC hp)]⟩
    · show _ = (((old o xs (k, v)).1, (old o xs (k, v)).2, ()), (fnd (ltO o) xs (k, v)).isSome, false, ())
      rw [old, hf]; rfl
    · show xs.set i (k, v) = put (ltO o) xs (k, v)
      rw [put_found hf, hposd]
    · show (xs.set i (k, v)).length ≤ mx
      rw [List.length_set]; exact hv
    · show xs.length ≤ (xs.set i (k, v)).length
      rw [List.length_set]; exact Nat.le_refl _
  | none =>
    refine w_false rfl ?_
    repeat (first | refine w_nonnil ?_ | refine ld_it S (by assumption) ?_ | refine ld_int S rfl ?_ | refine ld_some S rfl ?_ | refine ld_sls S rfl ?_ | refine st_it S (by first | omega | (dsimp only; omega)) fun _ S => ?_ | refine st_store S (lt_ble rfl) fun _ S => ?_ | refine st_alloc S fun _ _ S => ?_ | refine st_held S rfl ?_ | refine w_guard (by (first | exact inK64 (by omega) (by omega) | omega | (constructor <;> omega) | ((try dsimp only [Sh.T, Sh1.T]); first | exact inK64 (by omega) (by omega) | omega | exact ⟨by decide, inK64 (by omega) (by omega)⟩ | trivial))) ?_ | refine bd_n rfl ?_ | refine w_true (b := true) rfl ?_ | refine w_false (b := false) rfl ?_ | refine w_guard (show noMeths _ _ by show _ = _; kernel_rfl) ?_ | (refine w_callT (c_leafp (kp := none) (S.rd rfl)) ?_; rintro _ _ ⟨rfl, rfl⟩) | (refine w_callT (c_leafp (kp := some _) (S.rd rfl)) ?_; rintro _ _ ⟨rfl, rfl⟩) | (refine w_callT (c_leafp (S.rd rfl)) ?_; rintro _ _ ⟨rfl, rfl⟩) )
    by_cases hfull : xs.length = mx
    · refine w_true (beq_t (by (first | omega | ((try dsimp only [Sh.T, Sh1.T]); omega)))) ?_
      repeat (first | refine w_nonnil ?_ | refine ld_it S (by assumption) ?_ | refine ld_int S rfl ?_ | refine ld_some S rfl ?_ | refine ld_sls S rfl ?_ | refine st_it S (by first | omega | (dsimp only; omega)) fun _ S => ?_ | refine st_store S (lt_ble rfl) fun _ S => ?_ | refine st_alloc S fun _ _ S => ?_ | refine st_held S rfl ?_ | refine w_guard (by (first | exact inK64 (by omega) (by omega) | omega | (constructor <;> omega) | ((try dsimp only [Sh.T, Sh1.T]); first | exact inK64 (by omega) (by omega) | omega | exact ⟨by decide, inK64 (by omega) (by omega)⟩ | trivial))) ?_ | refine bd_n rfl ?_ | refine w_true (b := true) rfl ?_ | refine w_false (b := false) rfl ?_ | refine w_guard (show noMeths _ _ by show _ = _; kernel_rfl) ?_ | (refine w_callT (c_leafp (kp := none) (S.rd rfl)) ?_; rintro _ _ ⟨rfl, rfl⟩) | (refine w_callT (c_leafp (kp := some _) (S.rd rfl)) ?_; rintro _ _ ⟨rfl, rfl⟩) | (refine w_callT (c_leafp (S.rd rfl)) ?_; rintro _ _ ⟨rfl, rfl⟩) )
      have S := shut_leaf L iso (xs := xs) (S.ats [.ow (b, 0), .ow p]) rfl rfl rfl rfl hc rfl
      exact rt_n rfl rfl ⟨_, ⟨xs, rfl, .inl ⟨rfl, rfl, hfull, fun hh => absurd (show xs.length < mx from hh) (by omega)⟩⟩, S.only [.ow a0, .tr b, .ck (HtC hp)]⟩
    · refine w_false (beq_f (by (first | omega | ((try dsimp only [Sh.T, Sh1.T]); omega)))) ?_
      repeat (first | refine w_nonnil ?_ | refine ld_it S (by assumption) ?_ | refine ld_int S rfl ?_ | refine ld_some S rfl ?_ | refine ld_sls S rfl ?_ | refine st_it S (by first | omega | (dsimp only; omega)) fun _ S => ?_ | refine st_store S (lt_ble rfl) fun _ S => ?_ | refine st_alloc S fun _ _ S => ?_ | refine st_held S rfl ?_ | refine w_guard (by (first | exact inK64 (by omega) (by omega) | omega | (constructor <;> omega) | ((try dsimp only [Sh.T, Sh1.T]); first | exact inK64 (by omega) (by omega) | omega | exact ⟨by decide, inK64 (by omega) (by omega)⟩ | trivial))) ?_ | refine bd_n rfl ?_ | refine w_true (b := true) rfl ?_ | refine w_false (b := false) rfl ?_ | refine w_guard (show noMeths _ _ by show _ = _; kernel_rfl) ?_ | (refine w_callT (c_leafp (kp := none) (S.rd rfl)) ?_; rintro _ _ ⟨rfl, rfl⟩) | (refine w_callT (c_leafp (kp := some _) (S.rd rfl)) ?_; rintro _ _ ⟨rfl, rfl⟩) | (refine w_callT (c_leafp (S.rd rfl)) ?_; rintro _ _ ⟨rfl, rfl⟩) )
      refine st_app (L := L) (n := xs.length) (c := c) (k := 1) (ys := [(0, 0)]) S rfl rfl rfl hc rfl rfl (S.rsl (L.flat [(0, 0)]) 1 1 2 (fun i v h => by rw [Nat.zero_add]; exact h) rfl) ⟨by omega, by omega⟩ fun p1 c1 _ hc1 S => ?_
      repeat (first | refine w_nonnil ?_ | refine ld_it S (by assumption) ?_ | refine ld_int S rfl ?_ | refine ld_some S rfl ?_ | refine ld_sls S rfl ?_ | refine st_it S (by first | omega | (dsimp only; omega)) fun _ S => ?_ | refine st_store S (lt_ble rfl) fun _ S => ?_ | refine st_alloc S fun _ _ S => ?_ | refine st_held S rfl ?_ | refine w_guard (by (first | exact inK64 (by omega) (by omega) | omega | (constructor <;> omega) | ((try dsimp only [Sh.T, Sh1.T]); first | exact inK64 (by omega) (by omega) | omega | exact ⟨by decide, inK64 (by omega) (by omega)⟩ | trivial))) ?_ | refine bd_n rfl ?_ | refine w_true (b := true) rfl ?_ | refine w_false (b := false) rfl ?_ | refine w_guard (show noMeths _ _ by show _ = _; kernel_rfl) ?_ | (refine w_callT (c_leafp (kp := none) (S.rd rfl)) ?_; rintro _ _ ⟨rfl, rfl⟩) | (refine w_callT (c_leafp (kp := some _) (S.rd rfl)) ?_; rintro _ _ ⟨rfl, rfl⟩) | (refine w_callT (c_leafp (S.rd rfl)) ?_; rintro _ _ ⟨rfl, rfl⟩) )
      refine st_cpins (L := L) (n := xs.length + 1) (c := c1) (i := i) S rfl rfl (by omega) hc1 fun _ zs hzl hzs _ S => ?_
      repeat (first | refine w_nonnil ?_ | refine ld_it S (by assumption) ?_ | refine ld_int S rfl ?_ | refine ld_some S rfl ?_ | refine ld_sls S rfl ?_ | refine st_it S (by first | omega | (dsimp only; omega)) fun _ S => ?_ | refine st_store S (lt_ble rfl) fun _ S => ?_ | refine st_alloc S fun _ _ S => ?_ | refine st_held S rfl ?_ | refine w_guard (by (first | exact inK64 (by omega) (by omega) | omega | (constructor <;> omega) | ((try dsimp only [Sh.T, Sh1.T]); first | exact inK64 (by omega) (by omega) | omega | exact ⟨by decide, inK64 (by omega) (by omega)⟩ | trivial))) ?_ | refine bd_n rfl ?_ | refine w_true (b := true) rfl ?_ | refine w_false (b := false) rfl ?_ | refine w_guard (show noMeths _ _ by show _ = _; kernel_rfl) ?_ | (refine w_callT (c_leafp (kp := none) (S.rd rfl)) ?_; rintro _ _ ⟨rfl, rfl⟩) | (refine w_callT (c_leafp (kp := some _) (S.rd rfl)) ?_; rintro _ _ ⟨rfl, rfl⟩) | (refine w_callT (c_leafp (S.rd rfl)) ?_; rintro _ _ ⟨rfl, rfl⟩) )
      rw [hzs] at S
      have hli : (xs.take i ++ (k, v) :: xs.drop i).length = xs.length + 1 := by simp; omega
      have S := shut_leaf L iso (xs := xs.take i ++ (k, v) :: xs.drop i) (cnt := xs.length + 1) (S.ats [.ow (b, 0), .ow p1]) rfl rfl hli.symm rfl hc1 rfl
      refine rt_n rfl rfl ⟨_, ⟨xs.take i ++ (k, v) :: xs.drop i, rfl, .inr ⟨?_, ?_, ?_, ?_⟩⟩, S.only [.ow a0, .tr b, .ck (HtC hp)]⟩
      · show _ = (((old o xs (k, v)).1, (old o xs (k, v)).2, ()), (fnd (ltO o) xs (k, v)).isSome, false, ())
        rw [old, hf]; rfl
      · show xs.take i ++ (k, v) :: xs.drop i = put (ltO o) xs (k, v)
        rw [put_none hf, hposd]
      · show (xs.take i ++ (k, v) :: xs.drop i).length ≤ mx
        omega
      · show xs.length ≤ (xs.take i ++ (k, v) :: xs.drop i).length
        omega
def SetOK (o : List Int) (c : Ck) (hp : Option PA) (dep : Nat) (a0 : PA) (mc : List Value) (iso : Int) (mn mx n : Nat) (t : BT KV n) (k : Int) (v : Int) : Prop :=
  ∀ (h : H) (b : Nat) (pn : PA) (G : PA → Prop), rd h pn = some (kptr b) → Bes c h G → Star [Ow a0 mc 0, TrC L iso n b t, HtC hp] h G →
    HT Try.prog fn_tg_nodeSet [.c (.addr a0), .c (.addr pn), .agg [.int .i64 k, .int .i64 v], .c (.ptr hp), .c (.int .i64 dep)] true [.agg [.int .i64, .int .i64], .c .bool, .c .bool] h fun x h' => ∃ post, SetR o hp a0 mc iso mn mx n b t k v x post ∧ St h G post h'
set_option maxHeartbeats 4000000 in
theorem c_setNode {ht : Nat} {a0 : PA} {mn mx : Nat} {iso cnt : Int} {ctr root : Option PA} {cv icv : Bool} {t : BT KV (ht + 1)} {k : Int} {v : Int} (hh : HsOK hp) (hls : Lss ls oc o) (hdep : dep + (ht + 1) ≤ 4294967296) (hi1 : 0 < t.1.length) (hv : Val mn mx (ht + 1) t) (hs : Srt (ltO o) (flatB (ht + 1) t)) (hfl : (flatB (ht + 1) t).length < 4294967296)
    (hmn : mx = 2 * mn + 1) (h1mn : 1 ≤ mn) (hm : mx ≤ 255)
    (IH : ∀ u : BT KV ht, 0 < (itemsB ht u).length → Val mn mx ht u → Srt (ltO o) (flatB ht u) → (flatB ht u).length < 4294967296 → SetOK o oc hp (dep + 1) a0 (mapC ls iso ctr root cnt mn mx cv icv) iso mn mx ht u k v)
    (RT : ¬ NF o mx (k, v) (ht + 1) t → ∀ u : BT KV (ht + 1), 0 < u.1.length → Val mn mx (ht + 1) u → Srt (ltO o) (flatB (ht + 1) u) → (flatB (ht + 1) u).length < 4294967296 → NF o mx (k, v) (ht + 1) u → SetOK o oc hp dep a0 (mapC ls iso ctr root cnt mn mx cv icv) iso mn mx (ht + 1) u k v) :
    SetOK o oc hp dep a0 (mapC ls iso ctr root cnt mn mx cv icv) iso mn mx (ht + 1) t k v := by
  intro h b pn G hpn hoc hG
  apply hc_tg_nodeSet
  unfold M_tg_nodeSet
  obtain ⟨xs, ts⟩ := t
  obtain ⟨hvx, hvl, hvk⟩ := hv
  dsimp only at hvx hvl hvk
  have hsw : Srt (ltO o) (weave xs (ts.map (flatB ht))) := hs
  have hlm : (ts.map (flatB ht)).length = xs.length + 1 := by simpa using hvl
  have hsx := srt_items hlm hsw
  obtain ⟨p, c, q, d, kb, ks, hc, hkd, hkl, S⟩ := open_node L iso ((St.start hG).at (.tr b))
  dsimp only at hc hkl S
  rw [← LK_flat] at S
  obtain ⟨m, hm2⟩ : ∃ m, m = ks.length := ⟨_, rfl⟩
  rw [← hm2] at S hkd hkl
  have hpl := pos_le (lt := (ltO o)) xs (k, v)
  refine st_allocK S fun n0 _ S hold => ?_
  refine st_allocK S fun n1 _ S hold1 => ?_
  refine w_ptr (some (b, 0)) (hold1 _ _ (hold _ _ hpn)) (w_nonnil ?_)
  repeat (first | refine w_nonnil ?_ | refine ld_it S (by assumption) ?_ | refine ld_int S rfl ?_ | refine ld_kid S (by assumption) ?_ | refine ld_some S rfl ?_ | refine ld_sls S rfl ?_ | refine st_it S (by first | omega | (dsimp only; omega)) fun _ S => ?_ | refine st_kid S (by first | omega | (dsimp only; omega)) none rfl fun _ S => ?_ | refine st_kid S (by first | omega | (dsimp only; omega)) (some _) rfl fun _ S => ?_ | refine st_store S (lt_ble rfl) fun _ S => ?_ | refine st_alloc S fun _ _ S => ?_ | refine st_held S rfl ?_ | refine w_guard (by (first | exact inK64 (by omega) (by omega) | omega | (constructor <;> omega) | ((try dsimp only [Sh.T, Sh1.T]); first | exact inK64 (by omega) (by omega) | omega | exact ⟨by decide, inK64 (by omega) (by omega)⟩ | trivial))) ?_ | refine bd_n rfl ?_ | refine w_true (b := true) rfl ?_ | refine w_false (b := false) rfl ?_ | refine w_guard (show noMeths _ _ by show _ = _; kernel_rfl) ?_ | (refine w_callT (c_leafp (kp := none) (S.rd rfl)) ?_; rintro _ _ ⟨rfl, rfl⟩) | (refine w_callT (c_leafp (kp := some _) (S.rd rfl)) ?_; rintro _ _ ⟨rfl, rfl⟩) | (refine w_callT (c_leafp (S.rd rfl)) ?_; rintro _ _ ⟨rfl, rfl⟩) )
  refine w_bnd (w_false (by simp) (bd_n rfl ?_))
  refine w_ptr (some (b, 0)) (hold1 _ _ (hold _ _ hpn)) ?_
  refine st_alloc S fun n2 _ S => ?_
  refine st_store S (lt_ble rfl) fun _ S => ?_
  refine st_find hh hls (kp := some (kb, 0)) (x := (k, v)) (xs := xs) (S.ats [.ck (HtC hp)]) hoc (fun G B hB hd => ⟨bes hB hd rfl, besR hB hd, bes hB hd rfl, bes hB hd rfl⟩) (S.rd rfl) (S.rd rfl) (S.rd rfl) hsx hi1 (by omega) (by omega) fun _ S => ?_
  cases hf : fnd (ltO o) xs (k, v) with
  | some y =>
    obtain ⟨hlt, hy, _⟩ := fnd_some_lt hf
    obtain ⟨hput, hfnd⟩ := put_here (ordO o) hlm hsw hf
    generalize hposd : pos (ltO o) xs (k, v) = i at *
    simp only [Int.toNat_natCast, toNat_succ, toNat_succ2, toNat_pred]
    refine w_true rfl ?_
    repeat (first | refine w_nonnil ?_ | refine ld_it S (by assumption) ?_ | refine ld_int S rfl ?_ | refine ld_kid S (by assumption) ?_ | refine ld_some S rfl ?_ | refine ld_sls S rfl ?_ | refine st_it S (by first | omega | (dsimp only; omega)) fun _ S => ?_ | refine st_kid S (by first | omega | (dsimp only; omega)) none rfl fun _ S => ?_ | refine st_kid S (by first | omega | (dsimp only; omega)) (some _) rfl fun _ S => ?_ | refine st_store S (lt_ble rfl) fun _ S => ?_ | refine st_alloc S fun _ _ S => ?_ | refine st_held S rfl ?_ | refine w_guard (by (first | exact inK64 (by omega) (by omega) | omega | (constructor <;> omega) | ((try dsimp only [Sh.T, Sh1.T]); first | exact inK64 (by omega) (by omega) | omega | exact ⟨by decide, inK64 (by omega) (by omega)⟩ | trivial))) ?_ | refine bd_n rfl ?_ | refine w_true (b := true) rfl ?_ | refine w_false (b := false) rfl ?_ | refine w_guard (show noMeths _ _ by show _ = _; kernel_rfl) ?_ | (refine w_callT (c_leafp (kp := none) (S.rd rfl)) ?_; rintro _ _ ⟨rfl, rfl⟩) | (refine w_callT (c_leafp (kp := some _) (S.rd rfl)) ?_; rintro _ _ ⟨rfl, rfl⟩) | (refine w_callT (c_leafp (S.rd rfl)) ?_; rintro _ _ ⟨rfl, rfl⟩) )
    have hlw : (flatB (ht + 1) ((xs.set i (k, v), ts) : BT KV (ht + 1))).length = (flatB (ht + 1) ((xs, ts) : BT KV (ht + 1))).length := by
      rw [ksum_len (by rw [List.length_set]; exact hvl), ksum_len hvl, List.length_set]
    rw [LK_flat] at S
    have S := shut_node L iso (xs := xs.set i (k, v)) (ts := ts) (S.ats [.ow (b, 0), .ow p, .ow (kb, 0), .ow q, .fo ks]) rfl rfl rfl rfl (by rw [List.length_set]) hm2 hlw.symm hc rfl hkd (Nat.mul_one _)
    have hfnd' : fnd (ltO o) (flatB (ht + 1) ((xs, ts) : BT KV (ht + 1))) (k, v) = some y := hfnd
    refine rt_n rfl rfl ⟨_, ⟨(xs.set i (k, v), ts), rfl, .inr ⟨by rw [old, hfnd']; rfl, hput.symm, ⟨?_, ?_, hvk⟩, ?_⟩⟩, S.only [.ow a0, .tr b, .ck (HtC hp)]⟩
    · show (xs.set i (k, v)).length ≤ mx
      rw [List.length_set]; exact hvx
    · show ts.length = (xs.set i (k, v)).length + 1
      rw [List.length_set]; exact hvl
    · show xs.length ≤ (xs.set i (k, v)).length
      rw [List.length_set]; exact Nat.le_refl _
  | none =>
    have hil : pos (ltO o) xs (k, v) < ts.length := by omega
    obtain ⟨B, u, D, hte, hB⟩ := split_at (xs := ts) (j := pos (ltO o) xs (k, v)) hil
    have hm0 : (ts.map (flatB ht))[pos (ltO o) xs (k, v)]? = some (flatB ht u) := by rw [List.getElem?_map, hte, get_mid hB]; rfl
    obtain ⟨hput, hfnd, _, _⟩ := put_child (ordO o) hlm hsw hm0 hf
    have hpos2 := fun md => nf_cut (m := md) (ordO o) hsx hf
    generalize hposd : pos (ltO o) xs (k, v) = i at *
    obtain ⟨KB, kid, KD, hke, hKB⟩ := split_at (xs := ks) (j := i) (by omega)
    have hkid : (ks.map some)[i]? = some (some kid) := by rw [List.getElem?_map, hke, get_mid hKB]; rfl
    have hvc := hvk u (by rw [hte]; simp)
    have hcut : weave xs (ts.map (flatB ht)) = pre ((ts.map (flatB ht)).take i) (xs.take i) ++ (flatB ht u ++ post (xs.drop i) ((ts.map (flatB ht)).drop (i + 1))) := weave_at hpl hm0
    have hsc : Srt (ltO o) (flatB ht u) := by
      rw [hcut] at hsw
      exact (srt_append.1 (srt_append.1 hsw).2.1).1
    have hlc : (flatB ht u).length < 4294967296 := by
      have e : (flatB (ht + 1) ((xs, ts) : BT KV (ht + 1))).length = (weave xs (ts.map (flatB ht))).length := rfl
      rw [e, hcut, List.length_append, List.length_append] at hfl
      omega
    simp only [Int.toNat_natCast, toNat_succ, toNat_succ2, toNat_pred]
    repeat (first | refine w_nonnil ?_ | refine ld_it S (by assumption) ?_ | refine ld_int S rfl ?_ | refine ld_kid S (by assumption) ?_ | refine ld_some S rfl ?_ | refine ld_sls S rfl ?_ | refine st_it S (by first | omega | (dsimp only; omega)) fun _ S => ?_ | refine st_kid S (by first | omega | (dsimp only; omega)) none rfl fun _ S => ?_ | refine st_kid S (by first | omega | (dsimp only; omega)) (some _) rfl fun _ S => ?_ | refine st_store S (lt_ble rfl) fun _ S => ?_ | refine st_alloc S fun _ _ S => ?_ | refine st_held S rfl ?_ | refine w_guard (by (first | exact inK64 (by omega) (by omega) | omega | (constructor <;> omega) | ((try dsimp only [Sh.T, Sh1.T]); first | exact inK64 (by omega) (by omega) | omega | exact ⟨by decide, inK64 (by omega) (by omega)⟩ | trivial))) ?_ | refine bd_n rfl ?_ | refine w_true (b := true) rfl ?_ | refine w_false (b := false) rfl ?_ | refine w_guard (show noMeths _ _ by show _ = _; kernel_rfl) ?_ | (refine w_callT (c_leafp (kp := none) (S.rd rfl)) ?_; rintro _ _ ⟨rfl, rfl⟩) | (refine w_callT (c_leafp (kp := some _) (S.rd rfl)) ?_; rintro _ _ ⟨rfl, rfl⟩) | (refine w_callT (c_leafp (S.rd rfl)) ?_; rintro _ _ ⟨rfl, rfl⟩) )
    have S := fo_uncons L iso (fo_split L iso (by omega) (fo_re L iso (S.at (.fo ks)) hke hte)).pull1
    refine st_callF S [.ow a0, .tr kid, .ck (HtC hp)] (fun G' hG' hsub => IH u (by omega) hvc.1 hsc hlc _ kid _ G' (S.rd (LK_get hkid)) (hoc.step S hsub) hG') ?_
    rintro _ _ h7 ⟨t', rfl, hcase⟩ S
    dsimp only [List.cons_append, List.nil_append] at S
    rcases hcase with ⟨rfl, hte', hfull, hnf⟩ | ⟨rfl, hfl', hval', hle⟩
    · rw [hte'] at S
      have hnf' : ¬ NF o mx (k, v) (ht + 1) (xs, ts) := fun hh => by
        have := hh hf u (by show ts[pos (ltO o) xs (k, v)]? = _; rw [hposd, hte]; exact get_mid hB)
        omega
      repeat (first | refine w_nonnil ?_ | refine ld_it S (by assumption) ?_ | refine ld_int S rfl ?_ | refine ld_kid S (by assumption) ?_ | refine ld_some S rfl ?_ | refine ld_sls S rfl ?_ | refine st_it S (by first | omega | (dsimp only; omega)) fun _ S => ?_ | refine st_kid S (by first | omega | (dsimp only; omega)) none rfl fun _ S => ?_ | refine st_kid S (by first | omega | (dsimp only; omega)) (some _) rfl fun _ S => ?_ | refine st_store S (lt_ble rfl) fun _ S => ?_ | refine st_alloc S fun _ _ S => ?_ | refine st_held S rfl ?_ | refine w_guard (by (first | exact inK64 (by omega) (by omega) | omega | (constructor <;> omega) | ((try dsimp only [Sh.T, Sh1.T]); first | exact inK64 (by omega) (by omega) | omega | exact ⟨by decide, inK64 (by omega) (by omega)⟩ | trivial))) ?_ | refine bd_n rfl ?_ | refine w_true (b := true) rfl ?_ | refine w_false (b := false) rfl ?_ | refine w_guard (show noMeths _ _ by show _ = _; kernel_rfl) ?_ | (refine w_callT (c_leafp (kp := none) (S.rd rfl)) ?_; rintro _ _ ⟨rfl, rfl⟩) | (refine w_callT (c_leafp (kp := some _) (S.rd rfl)) ?_; rintro _ _ ⟨rfl, rfl⟩) | (refine w_callT (c_leafp (S.rd rfl)) ?_; rintro _ _ ⟨rfl, rfl⟩) )
      by_cases hfull2 : xs.length = mx
      · refine w_true (beq_t (by (first | omega | ((try dsimp only [Sh.T, Sh1.T]); omega)))) ?_
        repeat (first | refine w_nonnil ?_ | refine ld_it S (by assumption) ?_ | refine ld_int S rfl ?_ | refine ld_kid S (by assumption) ?_ | refine ld_some S rfl ?_ | refine ld_sls S rfl ?_ | refine st_it S (by first | omega | (dsimp only; omega)) fun _ S => ?_ | refine st_kid S (by first | omega | (dsimp only; omega)) none rfl fun _ S => ?_ | refine st_kid S (by first | omega | (dsimp only; omega)) (some _) rfl fun _ S => ?_ | refine st_store S (lt_ble rfl) fun _ S => ?_ | refine st_alloc S fun _ _ S => ?_ | refine st_held S rfl ?_ | refine w_guard (by (first | exact inK64 (by omega) (by omega) | omega | (constructor <;> omega) | ((try dsimp only [Sh.T, Sh1.T]); first | exact inK64 (by omega) (by omega) | omega | exact ⟨by decide, inK64 (by omega) (by omega)⟩ | trivial))) ?_ | refine bd_n rfl ?_ | refine w_true (b := true) rfl ?_ | refine w_false (b := false) rfl ?_ | refine w_guard (show noMeths _ _ by show _ = _; kernel_rfl) ?_ | (refine w_callT (c_leafp (kp := none) (S.rd rfl)) ?_; rintro _ _ ⟨rfl, rfl⟩) | (refine w_callT (c_leafp (kp := some _) (S.rd rfl)) ?_; rintro _ _ ⟨rfl, rfl⟩) | (refine w_callT (c_leafp (S.rd rfl)) ?_; rintro _ _ ⟨rfl, rfl⟩) )
        have S := fo_app L iso ((fo_cons L iso (S.ats [.tr kid, .fo KD])).ats [.fo KB, .fo (kid :: KD)])
        have S := fo_re L iso S hke.symm hte.symm
        rw [LK_flat] at S
        have S := shut_node L iso (xs := xs) (ts := ts) (S.ats [.ow (b, 0), .ow p, .ow (kb, 0), .ow q, .fo ks]) rfl rfl rfl rfl rfl hm2 rfl hc rfl hkd (Nat.mul_one _)
        exact rt_n rfl rfl ⟨_, ⟨(xs, ts), rfl, .inl ⟨rfl, rfl, hfull2, hnf'⟩⟩, S.only [.ow a0, .tr b, .ck (HtC hp)]⟩
      · refine w_false (beq_f (by (first | omega | ((try dsimp only [Sh.T, Sh1.T]); omega)))) ?_
        repeat (first | refine w_nonnil ?_ | refine ld_it S (by assumption) ?_ | refine ld_int S rfl ?_ | refine ld_kid S (by assumption) ?_ | refine ld_some S rfl ?_ | refine ld_sls S rfl ?_ | refine st_it S (by first | omega | (dsimp only; omega)) fun _ S => ?_ | refine st_kid S (by first | omega | (dsimp only; omega)) none rfl fun _ S => ?_ | refine st_kid S (by first | omega | (dsimp only; omega)) (some _) rfl fun _ S => ?_ | refine st_store S (lt_ble rfl) fun _ S => ?_ | refine st_alloc S fun _ _ S => ?_ | refine st_held S rfl ?_ | refine w_guard (by (first | exact inK64 (by omega) (by omega) | omega | (constructor <;> omega) | ((try dsimp only [Sh.T, Sh1.T]); first | exact inK64 (by omega) (by omega) | omega | exact ⟨by decide, inK64 (by omega) (by omega)⟩ | trivial))) ?_ | refine bd_n rfl ?_ | refine w_true (b := true) rfl ?_ | refine w_false (b := false) rfl ?_ | refine w_guard (show noMeths _ _ by show _ = _; kernel_rfl) ?_ | (refine w_callT (c_leafp (kp := none) (S.rd rfl)) ?_; rintro _ _ ⟨rfl, rfl⟩) | (refine w_callT (c_leafp (kp := some _) (S.rd rfl)) ?_; rintro _ _ ⟨rfl, rfl⟩) | (refine w_callT (c_leafp (S.rd rfl)) ?_; rintro _ _ ⟨rfl, rfl⟩) )
        have hml : mx / 2 < (itemsB ht u).length := by omega
        obtain ⟨cut1, cut2, cut3, cut4⟩ := cut_val hvc.1 hml
        have hcf := cut_flat hvc.1 (List.getElem?_eq_getElem hml)
        refine st_callV S [.ow a0, .tr kid] (args' := [.c (.addr a0), .c (.addr (kid, 0))]) rfl (fun G hG => c_split hfull hvc.1 (by omega) (by omega) hm (List.getElem?_eq_getElem hml) hG) ?_
        generalize hmed : (itemsB ht u)[mx / 2] = med at *
        rintro _ _ h8 ⟨r, rfl, rfl⟩ S
        dsimp only [List.cons_append, List.nil_append] at S
        repeat (first | refine w_nonnil ?_ | refine ld_it S (by assumption) ?_ | refine ld_int S rfl ?_ | refine ld_kid S (by assumption) ?_ | refine ld_some S rfl ?_ | refine ld_sls S rfl ?_ | refine st_it S (by first | omega | (dsimp only; omega)) fun _ S => ?_ | refine st_kid S (by first | omega | (dsimp only; omega)) none rfl fun _ S => ?_ | refine st_kid S (by first | omega | (dsimp only; omega)) (some _) rfl fun _ S => ?_ | refine st_store S (lt_ble rfl) fun _ S => ?_ | refine st_alloc S fun _ _ S => ?_ | refine st_held S rfl ?_ | refine w_guard (by (first | exact inK64 (by omega) (by omega) | omega | (constructor <;> omega) | ((try dsimp only [Sh.T, Sh1.T]); first | exact inK64 (by omega) (by omega) | omega | exact ⟨by decide, inK64 (by omega) (by omega)⟩ | trivial))) ?_ | refine bd_n rfl ?_ | refine w_true (b := true) rfl ?_ | refine w_false (b := false) rfl ?_ | refine w_guard (show noMeths _ _ by show _ = _; kernel_rfl) ?_ | (refine w_callT (c_leafp (kp := none) (S.rd rfl)) ?_; rintro _ _ ⟨rfl, rfl⟩) | (refine w_callT (c_leafp (kp := some _) (S.rd rfl)) ?_; rintro _ _ ⟨rfl, rfl⟩) | (refine w_callT (c_leafp (S.rd rfl)) ?_; rintro _ _ ⟨rfl, rfl⟩) )
        refine st_app (L := LK) (n := m) (c := d) (k := 1) (ys := [none]) S rfl rfl (by simp; omega) hkd rfl rfl (S.rsl (LK.flat [none]) 1 1 1 (fun i v h => by rw [Nat.zero_add]; exact h) rfl) ⟨by omega, by omega⟩ fun q1 d1 _ hd1 S => ?_
        repeat (first | refine w_nonnil ?_ | refine ld_it S (by assumption) ?_ | refine ld_int S rfl ?_ | refine ld_kid S (by assumption) ?_ | refine ld_some S rfl ?_ | refine ld_sls S rfl ?_ | refine st_it S (by first | omega | (dsimp only; omega)) fun _ S => ?_ | refine st_kid S (by first | omega | (dsimp only; omega)) none rfl fun _ S => ?_ | refine st_kid S (by first | omega | (dsimp only; omega)) (some _) rfl fun _ S => ?_ | refine st_store S (lt_ble rfl) fun _ S => ?_ | refine st_alloc S fun _ _ S => ?_ | refine st_held S rfl ?_ | refine w_guard (by (first | exact inK64 (by omega) (by omega) | omega | (constructor <;> omega) | ((try dsimp only [Sh.T, Sh1.T]); first | exact inK64 (by omega) (by omega) | omega | exact ⟨by decide, inK64 (by omega) (by omega)⟩ | trivial))) ?_ | refine bd_n rfl ?_ | refine w_true (b := true) rfl ?_ | refine w_false (b := false) rfl ?_ | refine w_guard (show noMeths _ _ by show _ = _; kernel_rfl) ?_ | (refine w_callT (c_leafp (kp := none) (S.rd rfl)) ?_; rintro _ _ ⟨rfl, rfl⟩) | (refine w_callT (c_leafp (kp := some _) (S.rd rfl)) ?_; rintro _ _ ⟨rfl, rfl⟩) | (refine w_callT (c_leafp (S.rd rfl)) ?_; rintro _ _ ⟨rfl, rfl⟩) )
        refine st_cpins (L := LK) (n := m + 1) (c := d1) (i := i) S rfl (by simp; omega) (by omega) hd1 fun _ zs hzl _ hzs S => ?_
        have hzs := hzs (by omega)
        repeat (first | refine w_nonnil ?_ | refine ld_it S (by assumption) ?_ | refine ld_int S rfl ?_ | refine ld_kid S (by assumption) ?_ | refine ld_some S rfl ?_ | refine ld_sls S rfl ?_ | refine st_it S (by first | omega | (dsimp only; omega)) fun _ S => ?_ | refine st_kid S (by first | omega | (dsimp only; omega)) none rfl fun _ S => ?_ | refine st_kid S (by first | omega | (dsimp only; omega)) (some _) rfl fun _ S => ?_ | refine st_store S (lt_ble rfl) fun _ S => ?_ | refine st_alloc S fun _ _ S => ?_ | refine st_held S rfl ?_ | refine w_guard (by (first | exact inK64 (by omega) (by omega) | omega | (constructor <;> omega) | ((try dsimp only [Sh.T, Sh1.T]); first | exact inK64 (by omega) (by omega) | omega | exact ⟨by decide, inK64 (by omega) (by omega)⟩ | trivial))) ?_ | refine bd_n rfl ?_ | refine w_true (b := true) rfl ?_ | refine w_false (b := false) rfl ?_ | refine w_guard (show noMeths _ _ by show _ = _; kernel_rfl) ?_ | (refine w_callT (c_leafp (kp := none) (S.rd rfl)) ?_; rintro _ _ ⟨rfl, rfl⟩) | (refine w_callT (c_leafp (kp := some _) (S.rd rfl)) ?_; rintro _ _ ⟨rfl, rfl⟩) | (refine w_callT (c_leafp (S.rd rfl)) ?_; rintro _ _ ⟨rfl, rfl⟩) )
        rw [hzs] at S
        refine st_app (L := L) (n := xs.length) (c := c) (k := 1) (ys := [(0, 0)]) S rfl rfl rfl hc rfl rfl (S.rsl (L.flat [(0, 0)]) 1 1 2 (fun i v h => by rw [Nat.zero_add]; exact h) rfl) ⟨by omega, by omega⟩ fun p1 c1 _ hc1 S => ?_
        repeat (first | refine w_nonnil ?_ | refine ld_it S (by assumption) ?_ | refine ld_int S rfl ?_ | refine ld_kid S (by assumption) ?_ | refine ld_some S rfl ?_ | refine ld_sls S rfl ?_ | refine st_it S (by first | omega | (dsimp only; omega)) fun _ S => ?_ | refine st_kid S (by first | omega | (dsimp only; omega)) none rfl fun _ S => ?_ | refine st_kid S (by first | omega | (dsimp only; omega)) (some _) rfl fun _ S => ?_ | refine st_store S (lt_ble rfl) fun _ S => ?_ | refine st_alloc S fun _ _ S => ?_ | refine st_held S rfl ?_ | refine w_guard (by (first | exact inK64 (by omega) (by omega) | omega | (constructor <;> omega) | ((try dsimp only [Sh.T, Sh1.T]); first | exact inK64 (by omega) (by omega) | omega | exact ⟨by decide, inK64 (by omega) (by omega)⟩ | trivial))) ?_ | refine bd_n rfl ?_ | refine w_true (b := true) rfl ?_ | refine w_false (b := false) rfl ?_ | refine w_guard (show noMeths _ _ by show _ = _; kernel_rfl) ?_ | (refine w_callT (c_leafp (kp := none) (S.rd rfl)) ?_; rintro _ _ ⟨rfl, rfl⟩) | (refine w_callT (c_leafp (kp := some _) (S.rd rfl)) ?_; rintro _ _ ⟨rfl, rfl⟩) | (refine w_callT (c_leafp (S.rd rfl)) ?_; rintro _ _ ⟨rfl, rfl⟩) )
        refine st_cpins (L := L) (n := xs.length + 1) (c := c1) (i := i) S rfl rfl (by omega) hc1 fun _ zs2 hzl2 hzs2 _ S => ?_
        repeat (first | refine w_nonnil ?_ | refine ld_it S (by assumption) ?_ | refine ld_int S rfl ?_ | refine ld_kid S (by assumption) ?_ | refine ld_some S rfl ?_ | refine ld_sls S rfl ?_ | refine st_it S (by first | omega | (dsimp only; omega)) fun _ S => ?_ | refine st_kid S (by first | omega | (dsimp only; omega)) none rfl fun _ S => ?_ | refine st_kid S (by first | omega | (dsimp only; omega)) (some _) rfl fun _ S => ?_ | refine st_store S (lt_ble rfl) fun _ S => ?_ | refine st_alloc S fun _ _ S => ?_ | refine st_held S rfl ?_ | refine w_guard (by (first | exact inK64 (by omega) (by omega) | omega | (constructor <;> omega) | ((try dsimp only [Sh.T, Sh1.T]); first | exact inK64 (by omega) (by omega) | omega | exact ⟨by decide, inK64 (by omega) (by omega)⟩ | trivial))) ?_ | refine bd_n rfl ?_ | refine w_true (b := true) rfl ?_ | refine w_false (b := false) rfl ?_ | refine w_guard (show noMeths _ _ by show _ = _; kernel_rfl) ?_ | (refine w_callT (c_leafp (kp := none) (S.rd rfl)) ?_; rintro _ _ ⟨rfl, rfl⟩) | (refine w_callT (c_leafp (kp := some _) (S.rd rfl)) ?_; rintro _ _ ⟨rfl, rfl⟩) | (refine w_callT (c_leafp (S.rd rfl)) ?_; rintro _ _ ⟨rfl, rfl⟩) )
        rw [hzs2] at S
        -- the same tree, cut otherwise
        have hmt : ts.map (flatB ht) = B.map (flatB ht) ++ flatB ht u :: D.map (flatB ht) := by rw [hte]; simp
        have hweave : flatB (ht + 1) ((xs.take i ++ med :: xs.drop i, B ++ cutL ht u (mx / 2) :: cutR ht u (mx / 2) :: D) : BT KV (ht + 1)) = flatB (ht + 1) ((xs, ts) : BT KV (ht + 1)) := by
          show weave _ (List.map (flatB ht) _) = weave xs (ts.map (flatB ht))
          rw [hcut, hmt, List.map_append, List.map_cons, List.map_cons, weave_mid (by simp; omega), hcf]
          have e1 : (B.map (flatB ht) ++ flatB ht u :: D.map (flatB ht)).take i = B.map (flatB ht) := by rw [List.take_append_of_le_length (by simp; omega), List.take_of_length_le (by simp; omega)]
          have e2 : (B.map (flatB ht) ++ flatB ht u :: D.map (flatB ht)).drop (i + 1) = D.map (flatB ht) := by rw [List.drop_append, List.drop_of_length_le (by simp; omega)]; simp; rw [show i + 1 - B.length = 1 by omega]; rfl
          rw [← hcf, e1, e2, hcf]; simp
        have hval2 : Val mn mx (ht + 1) (xs.take i ++ med :: xs.drop i, B ++ cutL ht u (mx / 2) :: cutR ht u (mx / 2) :: D) := by
          rw [hte] at hvl hvk
          refine ⟨by simp; omega, by simp at hvl ⊢; omega, fun w hw => ?_⟩
          rcases List.mem_append.1 hw with hw | hw
          · exact hvk w (by simp [hw])
          · rcases List.mem_cons.1 hw with rfl | hw
            · exact ⟨cut1, by omega⟩
            · rcases List.mem_cons.1 hw with rfl | hw
              · exact ⟨cut2, by omega⟩
              · exact hvk w (by simp [hw])
        have hnf2 : NF o mx (k, v) (ht + 1) (xs.take i ++ med :: xs.drop i, B ++ cutL ht u (mx / 2) :: cutR ht u (mx / 2) :: D) := by
          intro hf2 w hw
          have hpos2 := hpos2 med
          dsimp only at hw hf2
          rcases hpos2 with e | e <;> rw [e] at hw
          · rw [get_mid hB] at hw
            rw [← Option.some.inj hw]; omega
          · rw [get_mid1 hB] at hw
            rw [← Option.some.inj hw]; omega
        have S := fo_cons L iso (S.ats [.tr r, .fo KD])
        have S := fo_cons L iso (S.ats [.tr kid, .fo (r :: KD)])
        have S := fo_app L iso (S.ats [.fo KB, .fo (kid :: r :: KD)])
        have S := (S.at (.ow q1)).re q1 ((KB ++ kid :: r :: KD).map kptr) _ rfl (by
          rw [← LK_flat]; congr 1
          have e1 : (ks.map some).take (i + 1) = KB.map some ++ [some kid] := by rw [← List.map_take, hke, List.take_append, List.take_of_length_le (by omega), show i + 1 - KB.length = 1 by omega]; simp
          have e2 : (ks.map some).drop (i + 1) = KD.map some := by rw [← List.map_drop, hke, List.drop_append, List.drop_of_length_le (by omega), show i + 1 - KB.length = 1 by omega]; simp
          rw [e1, e2]; simp) rfl
        have hkll : (KB ++ kid :: r :: KD).length = m + 1 := by rw [hm2, hke]; simp; omega
        have S := shut_node L iso (xs := xs.take i ++ med :: xs.drop i) (ts := B ++ cutL ht u (mx / 2) :: cutR ht u (mx / 2) :: D) (S.ats [.ow (b, 0), .ow p1, .ow (kb, 0), .ow q1, .fo (KB ++ kid :: r :: KD)]) rfl rfl rfl rfl (by simp; omega) hkll.symm (by rw [hweave]) hc1 rfl hd1 (Nat.mul_one _)
        refine st_callF S [.ow a0, .tr b, .ck (HtC hp)] (fun G' hG' hsub => RT hnf' _ (by simp; omega) hval2 (by rw [hweave]; exact hs) (by rw [hweave]; exact hfl) hnf2 _ b (n2, 0) G' (S.rd rfl) (hoc.step S hsub) hG') ?_
        rintro _ _ h23 ⟨t3, rfl, hcase⟩ S
        dsimp only [List.cons_append, List.nil_append] at S
        rcases hcase with ⟨_, _, _, hno⟩ | ⟨rfl, g1, g2, g3⟩
        · exact (hno hnf2).elim
        · rw [hweave] at g1 ⊢
          repeat (first | refine w_nonnil ?_ | refine ld_it S (by assumption) ?_ | refine ld_int S rfl ?_ | refine ld_kid S (by assumption) ?_ | refine ld_some S rfl ?_ | refine ld_sls S rfl ?_ | refine st_it S (by first | omega | (dsimp only; omega)) fun _ S => ?_ | refine st_kid S (by first | omega | (dsimp only; omega)) none rfl fun _ S => ?_ | refine st_kid S (by first | omega | (dsimp only; omega)) (some _) rfl fun _ S => ?_ | refine st_store S (lt_ble rfl) fun _ S => ?_ | refine st_alloc S fun _ _ S => ?_ | refine st_held S rfl ?_ | refine w_guard (by (first | exact inK64 (by omega) (by omega) | omega | (constructor <;> omega) | ((try dsimp only [Sh.T, Sh1.T]); first | exact inK64 (by omega) (by omega) | omega | exact ⟨by decide, inK64 (by omega) (by omega)⟩ | trivial))) ?_ | refine bd_n rfl ?_ | refine w_true (b := true) rfl ?_ | refine w_false (b := false) rfl ?_ | refine w_guard (show noMeths _ _ by show _ = _; kernel_rfl) ?_ | (refine w_callT (c_leafp (kp := none) (S.rd rfl)) ?_; rintro _ _ ⟨rfl, rfl⟩) | (refine w_callT (c_leafp (kp := some _) (S.rd rfl)) ?_; rintro _ _ ⟨rfl, rfl⟩) | (refine w_callT (c_leafp (S.rd rfl)) ?_; rintro _ _ ⟨rfl, rfl⟩) )
          refine rt_n rfl rfl ⟨_, ⟨t3, rfl, .inr ⟨rfl, g1, g2, ?_⟩⟩, S.only [.ow a0, .tr b, .ck (HtC hp)]⟩
          refine Nat.le_trans ?_ g3
          show xs.length ≤ (xs.take i ++ med :: xs.drop i).length
          simp; omega
    · have hts' : (B ++ t' :: D).map (flatB ht) = (ts.map (flatB ht)).set i (put (ltO o) (flatB ht u) (k, v)) := by
        rw [hte, List.map_append, List.map_append, List.map_cons, List.map_cons, set_mid (by simpa using hB), hfl']
      have hflt : flatB (ht + 1) ((xs, B ++ t' :: D) : BT KV (ht + 1)) = put (ltO o) (flatB (ht + 1) ((xs, ts) : BT KV (ht + 1))) (k, v) := by
        show weave xs ((B ++ t' :: D).map (flatB ht)) = put (ltO o) (weave xs (ts.map (flatB ht))) (k, v)
        rw [hts', hput]
      have hfe : fnd (ltO o) (flatB (ht + 1) ((xs, ts) : BT KV (ht + 1))) (k, v) = fnd (ltO o) (flatB ht u) (k, v) := hfnd
      have hlen := put_length (lt := (ltO o)) (l := flatB (ht + 1) ((xs, ts) : BT KV (ht + 1))) (x := (k, v))
      rw [← hflt, hfe] at hlen
      have fin : ∀ (h5 : H), St h G [Ow (b, 0) (nodeC iso (flatB (ht + 1) ((xs, B ++ t' :: D) : BT KV (ht + 1))).length (some p, xs.length, c) (some (kb, 0))) 0, Ow p (L.flat xs) ((c - xs.length) * L.sz), Ow (kb, 0) (hdC (some q, m, d)) 0,
          Ow q (LK.flat (ks.map some)) ((d - m) * 1), TrC L iso ht kid t', FoC L iso ht KD D, FoC L iso ht KB B, Ow a0 (mapC ls iso ctr root cnt mn mx cv icv) 0, HtC hp] h5 →
          ∃ post, SetR o hp a0 (mapC ls iso ctr root cnt mn mx cv icv) iso mn mx (ht + 1) b (xs, ts) k v (((old o (flatB ht u) (k, v)).1, (old o (flatB ht u) (k, v)).2, ()), (fnd (ltO o) (flatB ht u) (k, v)).isSome, false, ()) post ∧ St h G post h5 := by
        intro h5 S
        have S := fo_app L iso ((fo_cons L iso (S.ats [.tr kid, .fo KD])).ats [.fo KB, .fo (kid :: KD)])
        have S := fo_re L iso S hke.symm rfl
        rw [LK_flat] at S
        have S := shut_node L iso (xs := xs) (ts := B ++ t' :: D) (S.ats [.ow (b, 0), .ow p, .ow (kb, 0), .ow q, .fo ks]) rfl rfl rfl rfl rfl hm2 rfl hc rfl hkd (Nat.mul_one _)
        refine ⟨_, ⟨(xs, B ++ t' :: D), rfl, .inr ⟨by rw [hfe, old, old, hfe], hflt, ⟨hvx, ?_, ?_⟩, Nat.le_refl _⟩⟩, S.ats [.ow a0, .tr b, .ck (HtC hp)]⟩
        · show (B ++ t' :: D).length = xs.length + 1
          rw [← hvl, hte]; simp
        · intro w hw
          rw [hte] at hvk
          rcases List.mem_append.1 hw with hw | hw
          · exact hvk w (by simp [hw])
          · rcases List.mem_cons.1 hw with rfl | hw
            · exact ⟨hval', Nat.le_trans hvc.2 hle⟩
            · exact hvk w (by simp [hw])
      cases hq : fnd (ltO o) (flatB ht u) (k, v) with
      | none =>
        rw [hq] at hlen
        rw [hq] at fin
        have e : (flatB (ht + 1) ((xs, B ++ t' :: D) : BT KV (ht + 1))).length = (flatB (ht + 1) ((xs, ts) : BT KV (ht + 1))).length + 1 := by simpa using hlen
        repeat (first | refine w_nonnil ?_ | refine ld_it S (by assumption) ?_ | refine ld_int S rfl ?_ | refine ld_kid S (by assumption) ?_ | refine ld_some S rfl ?_ | refine ld_sls S rfl ?_ | refine st_it S (by first | omega | (dsimp only; omega)) fun _ S => ?_ | refine st_kid S (by first | omega | (dsimp only; omega)) none rfl fun _ S => ?_ | refine st_kid S (by first | omega | (dsimp only; omega)) (some _) rfl fun _ S => ?_ | refine st_store S (lt_ble rfl) fun _ S => ?_ | refine st_alloc S fun _ _ S => ?_ | refine st_held S rfl ?_ | refine w_guard (by (first | exact inK64 (by omega) (by omega) | omega | (constructor <;> omega) | ((try dsimp only [Sh.T, Sh1.T]); first | exact inK64 (by omega) (by omega) | omega | exact ⟨by decide, inK64 (by omega) (by omega)⟩ | trivial))) ?_ | refine w_bnd ?_ | refine bd_n rfl ?_ | refine w_true (b := true) rfl ?_ | refine w_false (b := false) rfl ?_ | refine w_guard (show noMeths _ _ by show _ = _; kernel_rfl) ?_ | (refine w_callT (c_leafp (kp := none) (S.rd rfl)) ?_; rintro _ _ ⟨rfl, rfl⟩) | (refine w_callT (c_leafp (kp := some _) (S.rd rfl)) ?_; rintro _ _ ⟨rfl, rfl⟩) | (refine w_callT (c_leafp (S.rd rfl)) ?_; rintro _ _ ⟨rfl, rfl⟩) )
        rw [e] at fin
        obtain ⟨post, g1, g2⟩ := fin _ (S.only [.ow (b, 0), .ow p, .ow (kb, 0), .ow q, .tr kid, .fo KD, .fo KB, .ow a0, .ck (HtC hp)])
        exact rt_n rfl rfl ⟨post, g1, g2⟩
      | some y =>
        rw [hq] at hlen
        rw [hq] at fin
        have e : (flatB (ht + 1) ((xs, B ++ t' :: D) : BT KV (ht + 1))).length = (flatB (ht + 1) ((xs, ts) : BT KV (ht + 1))).length := by simpa using hlen
        repeat (first | refine w_nonnil ?_ | refine ld_it S (by assumption) ?_ | refine ld_int S rfl ?_ | refine ld_kid S (by assumption) ?_ | refine ld_some S rfl ?_ | refine ld_sls S rfl ?_ | refine st_it S (by first | omega | (dsimp only; omega)) fun _ S => ?_ | refine st_kid S (by first | omega | (dsimp only; omega)) none rfl fun _ S => ?_ | refine st_kid S (by first | omega | (dsimp only; omega)) (some _) rfl fun _ S => ?_ | refine st_store S (lt_ble rfl) fun _ S => ?_ | refine st_alloc S fun _ _ S => ?_ | refine st_held S rfl ?_ | refine w_guard (by (first | exact inK64 (by omega) (by omega) | omega | (constructor <;> omega) | ((try dsimp only [Sh.T, Sh1.T]); first | exact inK64 (by omega) (by omega) | omega | exact ⟨by decide, inK64 (by omega) (by omega)⟩ | trivial))) ?_ | refine w_bnd ?_ | refine bd_n rfl ?_ | refine w_true (b := true) rfl ?_ | refine w_false (b := false) rfl ?_ | refine w_guard (show noMeths _ _ by show _ = _; kernel_rfl) ?_ | (refine w_callT (c_leafp (kp := none) (S.rd rfl)) ?_; rintro _ _ ⟨rfl, rfl⟩) | (refine w_callT (c_leafp (kp := some _) (S.rd rfl)) ?_; rintro _ _ ⟨rfl, rfl⟩) | (refine w_callT (c_leafp (S.rd rfl)) ?_; rintro _ _ ⟨rfl, rfl⟩) )
        rw [e] at fin
        obtain ⟨post, g1, g2⟩ := fin _ (S.only [.ow (b, 0), .ow p, .ow (kb, 0), .ow q, .tr kid, .fo KD, .fo KB, .ow a0, .ck (HtC hp)])
        exact rt_n rfl rfl ⟨post, g1, g2⟩
theorem c_nodeSet {a0 : PA} {mn mx : Nat} {iso cnt : Int} {ctr root : Option PA} {cv icv : Bool} {k : Int} {v : Int} (hh : HsOK hp) (hls : Lss ls oc o) (hmn : mx = 2 * mn + 1) (h1mn : 1 ≤ mn) (hm : mx ≤ 255) :
    ∀ (n dep : Nat) (t : BT KV n), dep + n ≤ 4294967296 → 0 < (itemsB n t).length → Val mn mx n t → Srt (ltO o) (flatB n t) → (flatB n t).length < 4294967296 → SetOK o oc hp dep a0 (mapC ls iso ctr root cnt mn mx cv icv) iso mn mx n t k v
  | 0, dep, xs, hd, hi, hv, hs, _ => fun h b pn G hpn hoc hG => c_setLeaf hh hls hd hs hi hv hm hpn hoc hG
  | n + 1, dep, t, hd, hi, hv, hs, hl => by
    have IH : ∀ u : BT KV n, 0 < (itemsB n u).length → Val mn mx n u → Srt (ltO o) (flatB n u) → (flatB n u).length < 4294967296 → SetOK o oc hp (dep + 1) a0 (mapC ls iso ctr root cnt mn mx cv icv) iso mn mx n u k v :=
      fun u => c_nodeSet hh hls hmn h1mn hm n (dep + 1) u (by omega)
    have A : ∀ u : BT KV (n + 1), 0 < u.1.length → Val mn mx (n + 1) u → Srt (ltO o) (flatB (n + 1) u) → (flatB (n + 1) u).length < 4294967296 → NF o mx (k, v) (n + 1) u → SetOK o oc hp dep a0 (mapC ls iso ctr root cnt mn mx cv icv) iso mn mx (n + 1) u k v :=
      fun u hi hv hs hl hnf => c_setNode hh hls hd hi hv hs hl hmn h1mn hm IH (fun hn => absurd hnf hn)
    exact c_setNode hh hls hd hi hv hs hl hmn h1mn hm IH (fun _ => A)
end
end Go.Proofs.Ytegnpimlfphncaa.TG
