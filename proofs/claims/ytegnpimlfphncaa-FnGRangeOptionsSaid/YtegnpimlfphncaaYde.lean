/-
  The map tg: deleting. Conditions: none.
-/
import Derived.Test.YtegnpimlfphncaaPgD
import Derived.Test.YtegnpimlfphncaaYdd
import Derived.Test.YtegnpimlfphncaaYda
set_option linter.unusedVariables false
set_option linter.unusedSimpArgs false
set_option linter.unusedSectionVars false
set_option maxRecDepth 100000
namespace Go.Proofs.Ytegnpimlfphncaa.TG
open Go Go.Proofs.Ytegnpimlfphncaa
section
variable {ls : Value} {oc : Ck} {o : List Int} {h : H}
theorem c_reb {ht : Nat} {a0 : PA} {b mn mx i : Nat} {iso cnt : Int} {ctr root : Option PA} {cv icv : Bool} {t : BT KV (ht + 1)} (hx : 1 ≤ t.1.length) (hxm : t.1.length ≤ mx) (hl : t.2.length = t.1.length + 1) (hi : i ≤ t.1.length)
    (hk : ∀ j u, t.2[j]? = some u → Val mn mx ht u ∧ (if j = i then (itemsB ht u).length + 1 = mn else mn ≤ (itemsB ht u).length)) (hmn : mx = 2 * mn + 1) (h1 : 1 ≤ mn) (hm : mx ≤ 255) (hfl : (flatB (ht + 1) t).length ≤ 4294967296)
    {G : PA → Prop} (hG : Star [Ow a0 (mapC ls iso ctr root cnt mn mx cv icv) 0, TrC L iso (ht + 1) b t] h G) :
    HT Try.prog fn_tg_nodeRebalance [.c (.addr a0), .c (.addr (b, 0)), .c (.int .i64 i)] true [] h fun x h' => ∃ post, RebR a0 (mapC ls iso ctr root cnt mn mx cv icv) iso mn mx ht b t i post ∧ St h G post h' := by
  by_cases c1 : ∀ tl tr, t.2[if i = t.1.length then i - 1 else i]? = some tl → t.2[(if i = t.1.length then i - 1 else i) + 1]? = some tr → (itemsB ht tl).length + (itemsB ht tr).length < mx
  · exact c_rebA hx hxm hl hi hk hmn h1 hm hfl c1 hG
  · by_cases c2 : ∀ tl tr, t.2[if i = t.1.length then i - 1 else i]? = some tl → t.2[(if i = t.1.length then i - 1 else i) + 1]? = some tr → (itemsB ht tr).length < (itemsB ht tl).length
    · refine c_rebB hx hxm hl hi hk hmn h1 hm hfl (fun tl tr g1 g2 => ⟨?_, c2 tl tr g1 g2⟩) hG
      rcases Nat.lt_or_ge ((itemsB ht tl).length + (itemsB ht tr).length) mx with hlt | hge
      · refine (c1 fun tl' tr' f1 f2 => ?_).elim
        rw [g1] at f1; rw [g2] at f2
        obtain rfl := Option.some.inj f1; obtain rfl := Option.some.inj f2
        exact hlt
      · exact hge
    · refine c_rebC hx hxm hl hi hk hmn h1 hm hfl (fun tl tr g1 g2 => ⟨?_, ?_⟩) hG
      · rcases Nat.lt_or_ge ((itemsB ht tl).length + (itemsB ht tr).length) mx with hlt | hge
        · refine (c1 fun tl' tr' f1 f2 => ?_).elim
          rw [g1] at f1; rw [g2] at f2
          obtain rfl := Option.some.inj f1; obtain rfl := Option.some.inj f2
          exact hlt
        · exact hge
      · rcases Nat.lt_or_ge (itemsB ht tr).length (itemsB ht tl).length with hlt | hge
        · refine (c2 fun tl' tr' f1 f2 => ?_).elim
          rw [g1] at f1; rw [g2] at f2
          obtain rfl := Option.some.inj f1; obtain rfl := Option.some.inj f2
          exact hlt
        · exact hge
theorem rmv_len {m : Bool} {l : List KV} {k : KV} {y : KV} (h : tgt o m l k = some y) : (rmv o m l k).length + 1 = l.length := by
  cases m with
  | true =>
    have hl : 0 < l.length := by cases l with | nil => simp [tgt] at h | cons => simp
    simp [rmv]; omega
  | false =>
    have h : fnd (ltO o) l k = some y := h
    have h1 := (fnd_some_lt h).1
    show (del (ltO o) l k).length + 1 = l.length
    rw [← erase_del h, List.length_eraseIdx_of_lt h1]; omega
theorem pre_has {I : Type} {a : I} : ∀ {A : List (List I)} {C : List I} {l : Nat} {w : List I}, A.length = C.length → A[l]? = some w → a ∈ w → a ∈ pre A C
  | [], _, l, w, _, h, _ => by simp at h
  | t :: A, [], l, w, hl, _, _ => by simp at hl
  | t :: A, c :: C, 0, w, hl, h, ha => by
    obtain rfl : t = w := by simpa using h
    simp [pre, ha]
  | t :: A, c :: C, l + 1, w, hl, h, ha => by
    have := pre_has (A := A) (C := C) (l := l) (by simpa using hl) (by simpa using h) ha
    simp [pre, this]
theorem pre_its {I : Type} {a : I} : ∀ {A : List (List I)} {C : List I}, A.length = C.length → a ∈ C → a ∈ pre A C
  | [], [], _, h => by simp at h
  | [], _ :: _, hl, _ => by simp at hl
  | t :: A, [], hl, _ => by simp at hl
  | t :: A, c :: C, hl, h => by
    rcases List.mem_cons.1 h with rfl | h
    · simp [pre]
    · have := pre_its (A := A) (C := C) (by simpa using hl) h
      simp [pre, this]
def GdD (o : List Int) (k : KV) {ht : Nat} (i : Nat) (t t' : BT KV (ht + 1)) : Prop := ∀ Cp : List KV → Prop, Icl Cp → Gd Cp (fun a => ltO o a k = false) (ht + 1) t → Gd Cp (fun a => ltO o k a = true) (ht + 1) t' ∧
  (∀ l a, l < i → t'.1[l]? = some a → ¬ ltO o k a = true) ∧ (∀ l u, l < i → t'.2[l]? = some u → ∀ a ∈ flatB ht u, ¬ ltO o k a = true) ∧ (∀ r, t'.2[i + 1]? = some r → (∃ a ∈ flatB ht r, ltO o k a = true) → Cp (flatB ht r))
theorem lt_no {o : List Int} {a k : KV} (h : ltO o a k = true) : ¬ ltO o k a = true := fun h2 => by rw [(ordO o).asym h] at h2; cases h2
theorem ob_le {o : List Int} {a k : KV} (h : ltO o k a = true) : ltO o a k = false := (ordO o).asym h
theorem GdD.rb {o : List Int} {k : KV} {ht i : Nat} {t t' t2 : BT KV (ht + 1)} (h : GdD o k i t t') (hr : RbT i t' t2) : GdX o k (ht + 1) t t2 := fun Cp hC hg => by
  obtain ⟨g1, g2, g3, g4⟩ := h Cp hC hg
  exact hr Cp _ hC g2 g3 g4 g1
theorem GdD.done {o : List Int} {k : KV} {ht i : Nat} {t t' : BT KV (ht + 1)} (h : GdD o k i t t') : GdX o k (ht + 1) t t' := fun Cp hC hg => (h Cp hC hg).1
theorem gdd_child {o : List Int} {k : KV} {mn mx ht i : Nat} {xs : List KV} {B D : List (BT KV ht)} {u u' : BT KV ht} (hl : (B ++ u :: D).length = xs.length + 1) (hvk : ∀ w ∈ B ++ u :: D, Val mn mx ht w) (hs : Srt (ltO o) (weave xs ((B ++ u :: D).map (flatB ht)))) (hi : i = pos (ltO o) xs k) (hB : B.length = i) (hf : fnd (ltO o) xs k = none) (hx : GdX o k ht u u') :
    GdD o k i ((xs, B ++ u :: D) : BT KV (ht + 1)) ((xs, B ++ u' :: D) : BT KV (ht + 1)) := fun Cp hC ⟨h1, h2⟩ => by
  have hlm : ((B ++ u :: D).map (flatB ht)).length = xs.length + 1 := by rw [List.length_map]; exact hl
  have hsx := srt_items hlm hs
  have hps := fun j a (ha : xs[j]? = some a) => pos_spec (ordO o) hsx k j a ha
  rw [← hi] at hps
  have hm : ((B ++ u :: D).map (flatB ht))[pos (ltO o) xs k]? = some (flatB ht u) := by rw [← hi, List.getElem?_map, get_mid hB]; rfl
  obtain ⟨q1, _⟩ := around (ordO o) hlm hs hm hf
  rw [← hi, ← List.map_take, List.take_left' hB] at q1
  have hlB : (B.map (flatB ht)).length = (xs.take i).length := by
    have := hl
    simp at this ⊢; omega
  refine ⟨⟨fun j a w ha hw ho => ?_, fun w hw => ?_⟩, fun l a hli ha => ?_, fun l w hli hw a ha => ?_, fun r hr _ => ?_⟩
  · have hji : ¬ j < i := fun hlt => lt_no ((hps j a ha).1 hlt) ho
    refine h1 j a w ha ?_ (ob_le ho)
    dsimp only at hw ⊢
    rw [List.getElem?_append_right (by omega), show j + 1 - B.length = (j - B.length) + 1 by omega, List.getElem?_cons_succ] at hw ⊢
    exact hw
  · have hw : w ∈ B ++ u' :: D := hw
    have mono : ∀ w ∈ B ++ u :: D, Gd Cp (fun a => ltO o k a = true) ht w := fun w hw => gd_mono (hvk w hw) (fun a _ h => ob_le h) (h2 w hw)
    rcases List.mem_append.1 hw with hw | hw
    · exact mono w (List.mem_append.2 (.inl hw))
    · rcases List.mem_cons.1 hw with rfl | hw
      · exact hx Cp hC (h2 u (by simp))
      · exact mono w (List.mem_append.2 (.inr (List.mem_cons_of_mem _ hw)))
  · exact lt_no ((hps l a ha).1 hli)
  · have hw : (B ++ u' :: D)[l]? = some w := hw
    rw [List.getElem?_append_left (by omega)] at hw
    exact lt_no (q1 a (pre_has hlB (by rw [List.getElem?_map, hw]; rfl) ha))
  · have hr : (B ++ u' :: D)[i + 1]? = some r := hr
    rw [List.getElem?_append_right (by omega), show i + 1 - B.length = 1 by omega, List.getElem?_cons_succ] at hr
    have hDl := (List.getElem?_eq_some_iff.1 hr).1
    have hil : i < xs.length := by simp at hl; omega
    have hxi := List.getElem?_eq_getElem hil
    have hgt : ltO o k xs[i] = true := by
      have := drop_fnd_gt (ordO o) hsx (x := k) xs[i]
      rw [hf, ← hi] at this
      exact this (List.mem_iff_getElem?.2 ⟨0, by rw [List.getElem?_drop]; simp⟩)
    have := h1 i xs[i] r hxi (by dsimp only; rw [List.getElem?_append_right (by omega), show i + 1 - B.length = 1 by omega, List.getElem?_cons_succ]; exact hr) (ob_le hgt)
    exact hC _ _ this ⟨[xs[i]], [], by simp⟩
theorem gdd_here {o : List Int} {k y z : KV} {mn mx ht i : Nat} {A C : List KV} {B D : List (BT KV ht)} {u u' v : BT KV ht} (hA : A.length = i) (hB : B.length = i) (hvk : ∀ w ∈ B ++ u :: v :: D, Val mn mx ht w) (hvu : Val mn mx ht u') (hs : Srt (ltO o) (weave (A ++ y :: C) ((B ++ u :: v :: D).map (flatB ht)))) (hky : ltO o k y = false) (hyk : ltO o y k = false)
    (hz : (flatB ht u).getLast? = some z) (hfu : flatB ht u' = (flatB ht u).dropLast) : GdD o k i ((A ++ y :: C, B ++ u :: v :: D) : BT KV (ht + 1)) ((A ++ z :: C, B ++ u' :: v :: D) : BT KV (ht + 1)) := fun Cp hC ⟨h1, h2⟩ => by
  rw [List.map_append, List.map_cons, List.map_cons, weave_mid (by rw [List.length_map]; omega), ← List.append_assoc] at hs
  obtain ⟨_, _, s3⟩ := srt_append.1 hs
  have low : ∀ a, a ∈ pre (B.map (flatB ht)) A ∨ a ∈ flatB ht u → ¬ ltO o k a = true := fun a ha => lt_no ((ordO o).lt_of_lt_of_le (s3 a (List.mem_append.2 ha) y (by simp)) hky)
  have hlB : (B.map (flatB ht)).length = A.length := by rw [List.length_map]; omega
  have hzu : z ∈ flatB ht u := List.mem_of_getLast? hz
  have mono : ∀ w ∈ B ++ u :: v :: D, Gd Cp (fun a => ltO o k a = true) ht w := fun w hw => gd_mono (hvk w hw) (fun a _ h => ob_le h) (h2 w hw)
  refine ⟨⟨fun j a w ha hw ho => ?_, fun w hw => ?_⟩, fun l a hli ha => ?_, fun l w hli hw a ha => ?_, fun r hr _ => ?_⟩
  · dsimp only at ha hw
    rcases Nat.lt_trichotomy j i with hj | hj | hj
    · rw [List.getElem?_append_left (by omega)] at ha
      exact absurd ho (low a (.inl (pre_its hlB (List.mem_of_getElem? ha))))
    · subst hj
      rw [get_mid hA] at ha
      cases ha
      exact absurd ho (low z (.inr hzu))
    · obtain ⟨m, rfl⟩ : ∃ m, j = A.length + (m + 1) := ⟨j - A.length - 1, by omega⟩
      refine h1 (A.length + (m + 1)) a w ?_ ?_ (ob_le ho)
      · dsimp only
        rw [List.getElem?_append_right (by omega), Nat.add_sub_cancel_left, List.getElem?_cons_succ] at ha ⊢
        exact ha
      · dsimp only
        rw [List.getElem?_append_right (by omega), show A.length + (m + 1) + 1 - B.length = m + 1 + 1 by omega, List.getElem?_cons_succ] at hw ⊢
        exact hw
  · have hw : w ∈ B ++ u' :: v :: D := hw
    rcases List.mem_append.1 hw with hw | hw
    · exact mono w (List.mem_append.2 (.inl hw))
    · rcases List.mem_cons.1 hw with rfl | hw
      · exact gd_no hvu fun a ha => low a (.inr (by rw [hfu] at ha; exact (List.dropLast_sublist _).subset ha))
      · exact mono w (List.mem_append.2 (.inr (List.mem_cons_of_mem _ hw)))
  · dsimp only at ha
    rw [List.getElem?_append_left (by omega)] at ha
    exact low a (.inl (pre_its hlB (List.mem_of_getElem? ha)))
  · dsimp only at hw
    rw [List.getElem?_append_left (by omega)] at hw
    exact low a (.inl (pre_has hlB (by rw [List.getElem?_map, hw]; rfl) ha))
  · have hr : (B ++ u' :: v :: D)[i + 1]? = some r := hr
    rw [get_mid1 hB] at hr
    cases hr
    have := h1 i y v (get_mid hA) (get_mid1 hB) hyk
    exact hC _ _ this ⟨[y], [], by simp⟩
def DelOK (o : List Int) (c : Ck) (hp : Option PA) (dep : Nat) (a0 : PA) (mc : List Value) (iso : Int) (mn mx n : Nat) (t : BT KV n) (m : Bool) (k : KV) : Prop :=
  ∀ (h : H) (b : Nat) (pn : PA) (G : PA → Prop), rd h pn = some (kptr b) → Bes c h G → Star [Ow a0 mc 0, TrC L iso n b t, HtC hp] h G →
    HT Try.prog fn_tg_delete [.c (.addr a0), .c (.addr pn), .c (.bool m), .agg [.int .i64 k.1, .int .i64 k.2], .c (.ptr hp), .c (.int .i64 dep)] true [.agg [.int .i64, .int .i64], .c .bool] h fun x h' => ∃ post, DelR o hp a0 mc iso mn mx n b t m k x post ∧ St h G post h'
set_option maxHeartbeats 4000000 in
theorem c_delNode {ht : Nat} {a0 : PA} {mn mx : Nat} {iso cnt : Int} {ctr root : Option PA} {cv icv : Bool} {t : BT KV (ht + 1)} {m : Bool} {k : KV} {hp : Option PA} {dep : Nat} (hh : HsOK hp) (hls : Lss ls oc o) (hdep : dep + (ht + 1) ≤ 4294967296) (hv : Val mn mx (ht + 1) t) (hx1 : 1 ≤ t.1.length) (hs : Srt (ltO o) (flatB (ht + 1) t)) (hfl : (flatB (ht + 1) t).length ≤ 4294967296)
    (hmn : mx = 2 * mn + 1) (h1mn : 1 ≤ mn) (hm : mx ≤ 255)
    (IH : ∀ (hp : Option PA) (dep : Nat) (u : BT KV ht) (m : Bool) (k : KV), HsOK hp → dep + ht ≤ 4294967296 → Val mn mx ht u → 1 ≤ (itemsB ht u).length → Srt (ltO o) (flatB ht u) → (flatB ht u).length ≤ 4294967296 → DelOK o oc hp dep a0 (mapC ls iso ctr root cnt mn mx cv icv) iso mn mx ht u m k) :
    DelOK o oc hp dep a0 (mapC ls iso ctr root cnt mn mx cv icv) iso mn mx (ht + 1) t m k := by
  intro h b pn G hpn hoc hG
  apply hc_tg_delete
  unfold M_tg_delete
  obtain ⟨xs, ts⟩ := t
  obtain ⟨hvx, hvl, hvk⟩ := hv
  dsimp only at hvx hvl hvk hx1
  have hsw : Srt (ltO o) (weave xs (ts.map (flatB ht))) := hs
  have hlm : (ts.map (flatB ht)).length = xs.length + 1 := by simpa using hvl
  have hsx := srt_items hlm hsw
  obtain ⟨p, c, q, d, hb, ks, hc, hd, hkl, S⟩ := open_node L iso ((St.start hG).at (.tr b))
  dsimp only at hc hkl S
  rw [← LK_flat] at S
  have hkb : ∀ u ∈ ts, (flatB ht u).length ≤ 4294967296 := fun u hu => by
    obtain ⟨i, hi⟩ := List.mem_iff_getElem?.1 hu
    have hil := (List.getElem?_eq_some_iff.1 hi).1
    have e : (flatB (ht + 1) ((xs, ts) : BT KV (ht + 1))).length = (weave xs (ts.map (flatB ht))).length := rfl
    rw [e, weave_at (i := i) (m := flatB ht u) (by omega) (by rw [List.getElem?_map, hi]; rfl)] at hfl
    simp at hfl; omega
  have hks : ∀ u ∈ ts, Srt (ltO o) (flatB ht u) := fun u hu => by
    obtain ⟨i, hi⟩ := List.mem_iff_getElem?.1 hu
    have hil := (List.getElem?_eq_some_iff.1 hi).1
    rw [weave_at (i := i) (m := flatB ht u) (by omega) (by rw [List.getElem?_map, hi]; rfl)] at hsw
    exact (srt_append.1 (srt_append.1 hsw).2.1).1
  obtain ⟨n, hn⟩ : ∃ n, n = xs.length := ⟨_, rfl⟩
  rw [← hn] at hc S hvx hvl hx1
  refine st_allocK S fun n9 _ S hold => ?_
  refine st_allocK S fun n0 h1 S hold1 => ?_
  refine w_callT (c_isoLoad (m := true) (hold1 _ _ (hold _ _ hpn)) (S.rd rfl) (S.rd rfl)) ?_
  rintro _ h1 ⟨rfl, rfl⟩
  have S := S.ats [.ck (HtC hp), .ow (n0, 0), .ow (n9, 0), .ow (b, 0), .ow p, .ow (hb, 0), .ow q, .fo ks, .ow a0]
  refine w_mid' none (fun (y : SV [.c .bool, .c (.int .i64)]) h' => ∃ (f : Bool) (i : Nat), y = (f, (i : Int), ()) ∧ ((m = true ∧ f = true ∧ i + 1 = n) ∨ (m = false ∧ f = (fnd (ltO o) xs k).isSome ∧ i = pos (ltO o) xs k)) ∧
    St h G [HtC hp, Ow (n0, 0) (L.cells (0, 0)) 0, Ow (n9, 0) (L.cells k) 0, Ow (b, 0) (nodeC iso (flatB (ht + 1) ((xs, ts) : BT KV (ht + 1))).length (some p, n, c) (some (hb, 0))) 0,
      Ow p (L.flat xs) ((c - n) * L.sz), Ow (hb, 0) (hdC (some q, ks.length, d)) 0, Ow q (LK.flat (ks.map some)) ((d - ks.length) * 1), FoC L iso ht ks ts, Ow a0 (mapC ls iso ctr root cnt mn mx cv icv) 0] h') ?_ ?_
  · refine w_ite (fun hb => ?_) (fun hb => ?_)
    · subst hb
      repeat (first | refine w_nonnil ?_ | refine ld_it S (by assumption) ?_ | refine ld_int S rfl ?_ | refine ld_kid S (by assumption) ?_ | refine ld_some S rfl ?_ | refine ld_sls S rfl ?_ | refine st_it S (by first | omega | (dsimp only; omega)) fun _ S => ?_ | refine st_store S (lt_ble rfl) fun _ S => ?_ | refine st_alloc S fun _ _ S => ?_ | refine st_held S rfl ?_ | refine w_guard (by (first | exact inK64 (by omega) (by omega) | omega | (constructor <;> omega) | ((try dsimp only [Sh.T, Sh1.T]); first | exact inK64 (by omega) (by omega) | omega | exact ⟨by decide, inK64 (by omega) (by omega)⟩ | trivial))) ?_ | refine bd_n rfl ?_ | refine w_true (b := true) rfl ?_ | refine w_false (b := false) rfl ?_ | refine w_guard (show noMeths _ _ by show _ = _; kernel_rfl) ?_ | (refine w_callT (c_leafp (kp := none) (S.rd rfl)) ?_; rintro _ _ ⟨rfl, rfl⟩) | (refine w_callT (c_leafp (kp := some _) (S.rd rfl)) ?_; rintro _ _ ⟨rfl, rfl⟩) | (refine w_callT (c_leafp (S.rd rfl)) ?_; rintro _ _ ⟨rfl, rfl⟩) )
      exact md_n rfl ⟨true, n - 1, by rw [show ((n - 1 : Nat) : Int) = (n : Int) - 1 by omega], .inl ⟨rfl, rfl, by omega⟩, S⟩
    · subst hb
      refine ld_int S rfl (ld_int S rfl ?_)
      refine st_callS S [.ck (HtC hp)] (fun G B hG hB hd hsub => c_find hh hls (a1 := (b, 0)) (x := k) (xs := xs) (cap := c) (kp := some (hb, 0)) (by rw [← hn]; exact bes hB hd rfl) (besR hB hd) (bes hB hd rfl) (bes hB hd rfl) (hoc.step S hsub) hsx (by omega) (by omega) (by omega) hG) ?_
      rintro _ _ _ ⟨rfl, rfl⟩ S
      exact md_n rfl ⟨(fnd (ltO o) xs k).isSome, pos (ltO o) xs k, rfl, .inr ⟨rfl, rfl, rfl⟩, S⟩
  clear S
  rintro _ _ ⟨f, i, rfl, hfi, S⟩
  simp only [Int.toNat_natCast, toNat_succ, toNat_succ2, toNat_pred]
  repeat (first | refine w_nonnil ?_ | refine ld_it S (by assumption) ?_ | refine ld_int S rfl ?_ | refine ld_kid S (by assumption) ?_ | refine ld_some S rfl ?_ | refine ld_sls S rfl ?_ | refine st_it S (by first | omega | (dsimp only; omega)) fun _ S => ?_ | refine st_store S (lt_ble rfl) fun _ S => ?_ | refine st_alloc S fun _ _ S => ?_ | refine st_held S rfl ?_ | refine w_guard (by (first | exact inK64 (by omega) (by omega) | omega | (constructor <;> omega) | ((try dsimp only [Sh.T, Sh1.T]); first | exact inK64 (by omega) (by omega) | omega | exact ⟨by decide, inK64 (by omega) (by omega)⟩ | trivial))) ?_ | refine bd_n rfl ?_ | refine w_true (b := true) rfl ?_ | refine w_false (b := false) rfl ?_ | refine w_guard (show noMeths _ _ by show _ = _; kernel_rfl) ?_ | (refine w_callT (c_leafp (kp := none) (S.rd rfl)) ?_; rintro _ _ ⟨rfl, rfl⟩) | (refine w_callT (c_leafp (kp := some _) (S.rd rfl)) ?_; rintro _ _ ⟨rfl, rfl⟩) | (refine w_callT (c_leafp (S.rd rfl)) ?_; rintro _ _ ⟨rfl, rfl⟩) )
  rename_i n41 h41
  have hbd : n ≤ mx := hvx
  refine w_bind (fun vs h' => ∃ (dl : Bool) (i' : Nat), vs.map AV.val = [.bool dl, .int .i64 i'] ∧ i' ≤ n ∧
    (dl = false → tgt o m (flatB (ht + 1) ((xs, ts) : BT KV (ht + 1))) k = none ∧ ∃ w, St h G [Ow (n41, 0) (L.cells w) 0, Ow (n0, 0) (L.cells (0, 0)) 0, Ow (b, 0) (nodeC iso (flatB (ht + 1) ((xs, ts) : BT KV (ht + 1))).length (some p, n, c) (some (hb, 0))) 0,
      Ow p (L.flat xs) ((c - n) * L.sz), Ow (hb, 0) (hdC (some q, ks.length, d)) 0, Ow q (LK.flat (ks.map some)) ((d - ks.length) * 1), FoC L iso ht ks ts, Ow a0 (mapC ls iso ctr root cnt mn mx cv icv) 0, HtC hp] h') ∧
    (dl = true → ∃ (y : KV) (xs' : List KV) (ts' : List (BT KV ht)), tgt o m (flatB (ht + 1) ((xs, ts) : BT KV (ht + 1))) k = some y ∧ xs'.length = n ∧ ts'.length = ts.length ∧
      flatB (ht + 1) ((xs', ts') : BT KV (ht + 1)) = rmv o m (flatB (ht + 1) ((xs, ts) : BT KV (ht + 1))) k ∧ (∀ j u, ts'[j]? = some u → Val mn mx ht u ∧ (if j = i' then mn ≤ (itemsB ht u).length + 1 else mn ≤ (itemsB ht u).length)) ∧ (m = false → GdD o k i' ((xs, ts) : BT KV (ht + 1)) ((xs', ts') : BT KV (ht + 1))) ∧
      St h G [Ow (n41, 0) (L.cells y) 0, Ow (n0, 0) (L.cells (0, 0)) 0, Ow (b, 0) (nodeC iso (flatB (ht + 1) ((xs, ts) : BT KV (ht + 1))).length (some p, n, c) (some (hb, 0))) 0,
      Ow p (L.flat xs') ((c - n) * L.sz), Ow (hb, 0) (hdC (some q, ks.length, d)) 0, Ow q (LK.flat (ks.map some)) ((d - ks.length) * 1), FoC L iso ht ks ts', Ow a0 (mapC ls iso ctr root cnt mn mx cv icv) 0, HtC hp] h')) ?_ ?_
  · have hne : ∀ u ∈ ts, flatB ht u ≠ [] := fun u hu e => by
      have h2 := hvk u hu
      have h3 := items_le h2.1
      have h4 : (itemsB ht u).length ≤ 0 := by rw [e] at h3; exact h3
      omega
    -- the child in which something is deleted
    have key : ∀ (hp : Option PA) (dep : Nat) (j : Nat) (m' : Bool) (k' : KV), HsOK hp → dep + ht ≤ 4294967296 → j ≤ n → ∃ KB kid KD B u D, ks = KB ++ kid :: KD ∧ KB.length = j ∧ ts = B ++ u :: D ∧ B.length = j ∧ (ks.map some)[j]? = some (some kid) ∧ (Val mn mx ht u ∧ mn ≤ (itemsB ht u).length) ∧
        DelOK o oc hp dep a0 (mapC ls iso ctr root cnt mn mx cv icv) iso mn mx ht u m' k' ∧ flatB ht u ≠ [] := by
      intro hp dep j m' k' hh hdp hj
      obtain ⟨KB, kid, KD, hke, hKB⟩ := split_at (xs := ks) (j := j) (by omega)
      obtain ⟨B, u, D, hte, hB⟩ := split_at (xs := ts) (j := j) (by omega)
      have hu : u ∈ ts := by rw [hte]; simp
      exact ⟨KB, kid, KD, B, u, D, hke, hKB, hte, hB, by rw [List.getElem?_map, hke, get_mid hKB]; rfl, hvk u hu, IH hp dep u m' k' hh hdp (hvk u hu).1 (by have := (hvk u hu).2; omega) (hks u hu) (hkb u hu), hne u hu⟩
    rcases hfi with ⟨rfl, rfl, hin⟩ | ⟨rfl, hf, hpos⟩
    · -- the greatest one
      refine w_true rfl (w_bnd (w_true rfl ?_))
      obtain ⟨KB, kid, KD, B, u, D, hke, hKB, hte, hB, hkid, hvu, hok, hune⟩ := key none 0 (i + 1) true (0, 0) .no (by omega) (by omega)
      have hD : D = [] := by
        have := hvl
        rw [hte] at this
        simp at this
        exact List.length_eq_zero_iff.1 (by omega)
      subst hD
      repeat (first | refine w_nonnil ?_ | refine ld_it S (by assumption) ?_ | refine ld_int S rfl ?_ | refine ld_kid S (by assumption) ?_ | refine ld_some S rfl ?_ | refine ld_sls S rfl ?_ | refine st_it S (by first | omega | (dsimp only; omega)) fun _ S => ?_ | refine st_store S (lt_ble rfl) fun _ S => ?_ | refine st_alloc S fun _ _ S => ?_ | refine st_held S rfl ?_ | refine w_guard (by (first | exact inK64 (by omega) (by omega) | omega | (constructor <;> omega) | ((try dsimp only [Sh.T, Sh1.T]); first | exact inK64 (by omega) (by omega) | omega | exact ⟨by decide, inK64 (by omega) (by omega)⟩ | trivial))) ?_ | refine bd_n rfl ?_ | refine w_true (b := true) rfl ?_ | refine w_false (b := false) rfl ?_ | refine w_guard (show noMeths _ _ by show _ = _; kernel_rfl) ?_ | (refine w_callT (c_leafp (kp := none) (S.rd rfl)) ?_; rintro _ _ ⟨rfl, rfl⟩) | (refine w_callT (c_leafp (kp := some _) (S.rd rfl)) ?_; rintro _ _ ⟨rfl, rfl⟩) | (refine w_callT (c_leafp (S.rd rfl)) ?_; rintro _ _ ⟨rfl, rfl⟩) )
      have S := fo_uncons L iso (fo_split L iso (by omega) (fo_re L iso (S.at (.fo ks)) hke hte)).pull1
      have S := St.em_in S
      refine st_callF (l := HtC none :: _) S [.ow a0, .tr kid, .ck (HtC none)] (fun G' hG' hsub => hok _ kid _ G' (S.rd (LK_get hkid)) (hoc.step S hsub) hG') ?_
      rintro _ _ h3 ⟨u', rfl, hcase⟩ S
      dsimp only [List.cons_append, List.nil_append] at S
      have hfl0 : flatB (ht + 1) ((xs, ts) : BT KV (ht + 1)) = pre (B.map (flatB ht)) xs ++ flatB ht u := by
        rw [hte]; simp only [flatB, List.map_append, List.map_cons, List.map_nil]
        exact weave_last (by simp; omega)
      rcases hcase with ⟨hno, _, _⟩ | ⟨y, hy, rfl, hfu, hvu', hlu, hgx⟩
      · have hno : (flatB ht u).getLast? = none := hno
        exact (hune (List.getLast?_eq_none_iff.1 hno)).elim
      · repeat (first | refine w_nonnil ?_ | refine ld_it S (by assumption) ?_ | refine ld_int S rfl ?_ | refine ld_kid S (by assumption) ?_ | refine ld_some S rfl ?_ | refine ld_sls S rfl ?_ | refine st_it S (by first | omega | (dsimp only; omega)) fun _ S => ?_ | refine st_store S (lt_ble rfl) fun _ S => ?_ | refine st_alloc S fun _ _ S => ?_ | refine st_held S rfl ?_ | refine w_guard (by (first | exact inK64 (by omega) (by omega) | omega | (constructor <;> omega) | ((try dsimp only [Sh.T, Sh1.T]); first | exact inK64 (by omega) (by omega) | omega | exact ⟨by decide, inK64 (by omega) (by omega)⟩ | trivial))) ?_ | refine bd_n rfl ?_ | refine w_true (b := true) rfl ?_ | refine w_false (b := false) rfl ?_ | refine w_guard (show noMeths _ _ by show _ = _; kernel_rfl) ?_ | (refine w_callT (c_leafp (kp := none) (S.rd rfl)) ?_; rintro _ _ ⟨rfl, rfl⟩) | (refine w_callT (c_leafp (kp := some _) (S.rd rfl)) ?_; rintro _ _ ⟨rfl, rfl⟩) | (refine w_callT (c_leafp (S.rd rfl)) ?_; rintro _ _ ⟨rfl, rfl⟩) )
        refine jo_n ⟨true, n, ?_, Nat.le_refl _, fun h => (by cases h), fun _ => ⟨y, xs, B ++ [u'], ?_, hn.symm, by rw [hte]; simp, ?_, kids_put (u := u) (by rw [← hte]; exact hvk) hvu' (by omega) (by omega), fun h => (by cases h), ?_⟩⟩
        · simp only [List.map, AV.val, Cell.val]
          rw [show ((i : Int) + 1) = ((n : Nat) : Int) by omega]
        · rw [hfl0]
          have hy : (flatB ht u).getLast? = some y := hy
          show List.getLast? (_ ++ _) = _
          rw [List.getLast?_append, hy]; rfl
        · rw [hfl0]
          have hfu : flatB ht u' = (flatB ht u).dropLast := hfu
          simp only [flatB, List.map_append, List.map_cons, List.map_nil]
          rw [weave_last (by simp; omega), hfu]
          show _ = List.dropLast (_ ++ _)
          rw [List.dropLast_append_of_ne_nil hune]
        · have S := fo_app L iso ((fo_cons L iso (S.ats [.tr kid, .fo KD])).ats [.fo KB, .fo (kid :: KD)])
          have S := fo_re L iso S hke.symm rfl
          exact S.only [.ow (n41, 0), .ow (n0, 0), .ow (b, 0), .ow p, .ow (hb, 0), .ow q, .fo ks, .ow a0, .ck (HtC hp)]
    · have hin : i ≤ n := by rw [hpos, hn]; exact pos_le _ _
      obtain ⟨KB, kid, KD, B, u, D, hke, hKB, hte, hB, hkid, hvu, hok, hune⟩ := key hp (dep + 1) i false k hh (by omega) hin
      cases hf' : fnd (ltO o) xs k with
      | none =>
        rw [hf'] at hf
        subst hf
        have hch := put_child (ordO o) hlm hsw (x := k) (m := flatB ht u) (by rw [← hpos, List.getElem?_map, hte, get_mid hB]; rfl) hf'
        obtain ⟨_, hfn, _, hdl⟩ := hch
        rw [← hpos] at hdl
        refine w_false rfl ?_
        repeat (first | refine w_nonnil ?_ | refine ld_it S (by assumption) ?_ | refine ld_int S rfl ?_ | refine ld_kid S (by assumption) ?_ | refine ld_some S rfl ?_ | refine ld_sls S rfl ?_ | refine st_it S (by first | omega | (dsimp only; omega)) fun _ S => ?_ | refine st_store S (lt_ble rfl) fun _ S => ?_ | refine st_alloc S fun _ _ S => ?_ | refine st_held S rfl ?_ | refine w_guard (by (first | exact inK64 (by omega) (by omega) | omega | (constructor <;> omega) | ((try dsimp only [Sh.T, Sh1.T]); first | exact inK64 (by omega) (by omega) | omega | exact ⟨by decide, inK64 (by omega) (by omega)⟩ | trivial))) ?_ | refine bd_n rfl ?_ | refine w_true (b := true) rfl ?_ | refine w_false (b := false) rfl ?_ | refine w_guard (show noMeths _ _ by show _ = _; kernel_rfl) ?_ | (refine w_callT (c_leafp (kp := none) (S.rd rfl)) ?_; rintro _ _ ⟨rfl, rfl⟩) | (refine w_callT (c_leafp (kp := some _) (S.rd rfl)) ?_; rintro _ _ ⟨rfl, rfl⟩) | (refine w_callT (c_leafp (S.rd rfl)) ?_; rintro _ _ ⟨rfl, rfl⟩) )
        have S := fo_uncons L iso (fo_split L iso (by omega) (fo_re L iso (S.at (.fo ks)) hke hte)).pull1
        refine st_callF S [.ow a0, .tr kid, .ck (HtC hp)] (fun G' hG' hsub => hok _ kid _ G' (S.rd (LK_get hkid)) (hoc.step S hsub) hG') ?_
        rintro _ _ h3 ⟨u', rfl, hcase⟩ S
        dsimp only [List.cons_append, List.nil_append] at S
        rcases hcase with ⟨hno, rfl, hue⟩ | ⟨y, hy, rfl, hfu, hvu', hlu, hgx⟩
        · rw [hue] at S
          repeat (first | refine w_nonnil ?_ | refine ld_it S (by assumption) ?_ | refine ld_int S rfl ?_ | refine ld_kid S (by assumption) ?_ | refine ld_some S rfl ?_ | refine ld_sls S rfl ?_ | refine st_it S (by first | omega | (dsimp only; omega)) fun _ S => ?_ | refine st_store S (lt_ble rfl) fun _ S => ?_ | refine st_alloc S fun _ _ S => ?_ | refine st_held S rfl ?_ | refine w_guard (by (first | exact inK64 (by omega) (by omega) | omega | (constructor <;> omega) | ((try dsimp only [Sh.T, Sh1.T]); first | exact inK64 (by omega) (by omega) | omega | exact ⟨by decide, inK64 (by omega) (by omega)⟩ | trivial))) ?_ | refine bd_n rfl ?_ | refine w_true (b := true) rfl ?_ | refine w_false (b := false) rfl ?_ | refine w_guard (show noMeths _ _ by show _ = _; kernel_rfl) ?_ | (refine w_callT (c_leafp (kp := none) (S.rd rfl)) ?_; rintro _ _ ⟨rfl, rfl⟩) | (refine w_callT (c_leafp (kp := some _) (S.rd rfl)) ?_; rintro _ _ ⟨rfl, rfl⟩) | (refine w_callT (c_leafp (S.rd rfl)) ?_; rintro _ _ ⟨rfl, rfl⟩) )
          refine jo_n ⟨false, i, rfl, hin, ?_, fun h => (by cases h)⟩
          refine fun _ => ⟨hfn.trans hno, (0, 0), ?_⟩
          have S := fo_app L iso ((fo_cons L iso (S.ats [.tr kid, .fo KD])).ats [.fo KB, .fo (kid :: KD)])
          have S := fo_re L iso S hke.symm hte.symm
          exact S.only [.ow (n41, 0), .ow (n0, 0), .ow (b, 0), .ow p, .ow (hb, 0), .ow q, .fo ks, .ow a0, .ck (HtC hp)]
        · repeat (first | refine w_nonnil ?_ | refine ld_it S (by assumption) ?_ | refine ld_int S rfl ?_ | refine ld_kid S (by assumption) ?_ | refine ld_some S rfl ?_ | refine ld_sls S rfl ?_ | refine st_it S (by first | omega | (dsimp only; omega)) fun _ S => ?_ | refine st_store S (lt_ble rfl) fun _ S => ?_ | refine st_alloc S fun _ _ S => ?_ | refine st_held S rfl ?_ | refine w_guard (by (first | exact inK64 (by omega) (by omega) | omega | (constructor <;> omega) | ((try dsimp only [Sh.T, Sh1.T]); first | exact inK64 (by omega) (by omega) | omega | exact ⟨by decide, inK64 (by omega) (by omega)⟩ | trivial))) ?_ | refine bd_n rfl ?_ | refine w_true (b := true) rfl ?_ | refine w_false (b := false) rfl ?_ | refine w_guard (show noMeths _ _ by show _ = _; kernel_rfl) ?_ | (refine w_callT (c_leafp (kp := none) (S.rd rfl)) ?_; rintro _ _ ⟨rfl, rfl⟩) | (refine w_callT (c_leafp (kp := some _) (S.rd rfl)) ?_; rintro _ _ ⟨rfl, rfl⟩) | (refine w_callT (c_leafp (S.rd rfl)) ?_; rintro _ _ ⟨rfl, rfl⟩) )
          refine jo_n ⟨true, i, rfl, hin, fun h => (by cases h), fun _ => ⟨y, xs, B ++ u' :: D, hfn.trans hy, hn.symm, by rw [hte]; simp, ?_, kids_put (u := u) (by rw [← hte]; exact hvk) hvu' (by omega) hB, fun _ => (by rw [hte]; exact gdd_child (by rw [← hte]; omega) (fun w hw => (hvk w (by rw [hte]; exact hw)).1) (by rw [← hte]; exact hsw) hpos hB hf' (hgx rfl)), ?_⟩⟩
          · show weave xs ((B ++ u' :: D).map (flatB ht)) = del (ltO o) (weave xs (ts.map (flatB ht))) k
            rw [hdl]
            have hfu : flatB ht u' = del (ltO o) (flatB ht u) k := hfu
            rw [← hfu, hte, List.map_append, List.map_append, List.map_cons, List.map_cons, set_mid (by simpa using hB)]
          · have S := fo_app L iso ((fo_cons L iso (S.ats [.tr kid, .fo KD])).ats [.fo KB, .fo (kid :: KD)])
            have S := fo_re L iso S hke.symm rfl
            exact S.only [.ow (n41, 0), .ow (n0, 0), .ow (b, 0), .ow p, .ow (hb, 0), .ow q, .fo ks, .ow a0, .ck (HtC hp)]
      | some y =>
        rw [hf'] at hf
        subst hf
        obtain ⟨hlt, hy, hxy⟩ := fnd_some_lt hf'
        rw [← hpos] at hlt hy
        have hyx : (ltO o) y k = false := by
          have := pos_spec (ordO o) hsx k i y hy
          cases hq : (ltO o) y k with
          | false => rfl
          | true => have := this.2 hq; omega
        obtain ⟨KB2, kid2, KD2, B2, u2, D2, hke2, hKB2, hte2, hB2, hkid2, hvu2, hok2, hune2⟩ := key none 0 i true (0, 0) .no (by omega) hin
        obtain ⟨z, hz⟩ : ∃ z, (flatB ht u2).getLast? = some z := by
          cases hq : (flatB ht u2).getLast? with
          | none => exact (hune2 (List.getLast?_eq_none_iff.1 hq)).elim
          | some z => exact ⟨z, rfl⟩
        refine w_true rfl (w_bnd (w_false rfl ?_))
        repeat (first | refine w_nonnil ?_ | refine ld_it S (by assumption) ?_ | refine ld_int S rfl ?_ | refine ld_kid S (by assumption) ?_ | refine ld_some S rfl ?_ | refine ld_sls S rfl ?_ | refine st_it S (by first | omega | (dsimp only; omega)) fun _ S => ?_ | refine st_store S (lt_ble rfl) fun _ S => ?_ | refine st_alloc S fun _ _ S => ?_ | refine st_held S rfl ?_ | refine w_guard (by (first | exact inK64 (by omega) (by omega) | omega | (constructor <;> omega) | ((try dsimp only [Sh.T, Sh1.T]); first | exact inK64 (by omega) (by omega) | omega | exact ⟨by decide, inK64 (by omega) (by omega)⟩ | trivial))) ?_ | refine bd_n rfl ?_ | refine w_true (b := true) rfl ?_ | refine w_false (b := false) rfl ?_ | refine w_guard (show noMeths _ _ by show _ = _; kernel_rfl) ?_ | (refine w_callT (c_leafp (kp := none) (S.rd rfl)) ?_; rintro _ _ ⟨rfl, rfl⟩) | (refine w_callT (c_leafp (kp := some _) (S.rd rfl)) ?_; rintro _ _ ⟨rfl, rfl⟩) | (refine w_callT (c_leafp (S.rd rfl)) ?_; rintro _ _ ⟨rfl, rfl⟩) )
        have S := fo_uncons L iso (fo_split L iso (by omega) (fo_re L iso (S.at (.fo ks)) hke2 hte2)).pull1
        refine w_bind (fun vs h' => ∃ nn u', vs.map AV.val = [kptr nn] ∧ flatB ht u' = (flatB ht u2).dropLast ∧ Val mn mx ht u' ∧ (itemsB ht u2).length ≤ (itemsB ht u').length + 1 ∧
          St h G [Ow (nn, 0) (L.cells z) 0, Ow (n41, 0) (L.cells y) 0, Ow (n0, 0) (L.cells (0, 0)) 0, Ow (b, 0) (nodeC iso (flatB (ht + 1) ((xs, ts) : BT KV (ht + 1))).length (some p, n, c) (some (hb, 0))) 0,
            Ow p (L.flat xs) ((c - n) * L.sz), Ow (hb, 0) (hdC (some q, ks.length, d)) 0, Ow q (LK.flat (ks.map some)) ((d - ks.length) * 1), TrC L iso ht kid2 u', FoC L iso ht KB2 B2, FoC L iso ht KD2 D2, Ow a0 (mapC ls iso ctr root cnt mn mx cv icv) 0, HtC hp] h') ?_ ?_
        · repeat (first | refine w_nonnil ?_ | refine ld_it S (by assumption) ?_ | refine ld_int S rfl ?_ | refine ld_kid S (by assumption) ?_ | refine ld_some S rfl ?_ | refine ld_sls S rfl ?_ | refine st_it S (by first | omega | (dsimp only; omega)) fun _ S => ?_ | refine st_store S (lt_ble rfl) fun _ S => ?_ | refine st_alloc S fun _ _ S => ?_ | refine st_held S rfl ?_ | refine w_guard (by (first | exact inK64 (by omega) (by omega) | omega | (constructor <;> omega) | ((try dsimp only [Sh.T, Sh1.T]); first | exact inK64 (by omega) (by omega) | omega | exact ⟨by decide, inK64 (by omega) (by omega)⟩ | trivial))) ?_ | refine bd_n rfl ?_ | refine w_true (b := true) rfl ?_ | refine w_false (b := false) rfl ?_ | refine w_guard (show noMeths _ _ by show _ = _; kernel_rfl) ?_ | (refine w_callT (c_leafp (kp := none) (S.rd rfl)) ?_; rintro _ _ ⟨rfl, rfl⟩) | (refine w_callT (c_leafp (kp := some _) (S.rd rfl)) ?_; rintro _ _ ⟨rfl, rfl⟩) | (refine w_callT (c_leafp (S.rd rfl)) ?_; rintro _ _ ⟨rfl, rfl⟩) )
          refine w_both ?_ ?_
          · refine st_callF (l := HtC none :: _) (St.em_in S) [.ow a0, .tr kid2, .ck (HtC none)] (fun G' hG' hsub => hok2 _ kid2 _ G' (S.rd (LK_get hkid2)) (hoc.step S hsub) hG') ?_
            rintro _ _ h3 ⟨u', rfl, hcase⟩ S
            dsimp only [List.cons_append, List.nil_append] at S
            rcases hcase with ⟨hno, _, _⟩ | ⟨z', hz', rfl, hfu, hvu', hlu, _⟩
            · have hno : (flatB ht u2).getLast? = none := hno
              rw [hz] at hno; cases hno
            · have hz' : (flatB ht u2).getLast? = some z' := hz'
              rw [hz] at hz'
              obtain rfl := Option.some.inj hz'
              refine st_alloc S fun nn _ S => ?_
              repeat (first | refine w_nonnil ?_ | refine ld_it S (by assumption) ?_ | refine ld_int S rfl ?_ | refine ld_kid S (by assumption) ?_ | refine ld_some S rfl ?_ | refine ld_sls S rfl ?_ | refine st_it S (by first | omega | (dsimp only; omega)) fun _ S => ?_ | refine st_store S (lt_ble rfl) fun _ S => ?_ | refine st_alloc S fun _ _ S => ?_ | refine st_held S rfl ?_ | refine w_guard (by (first | exact inK64 (by omega) (by omega) | omega | (constructor <;> omega) | ((try dsimp only [Sh.T, Sh1.T]); first | exact inK64 (by omega) (by omega) | omega | exact ⟨by decide, inK64 (by omega) (by omega)⟩ | trivial))) ?_ | refine bd_n rfl ?_ | refine w_true (b := true) rfl ?_ | refine w_false (b := false) rfl ?_ | refine w_guard (show noMeths _ _ by show _ = _; kernel_rfl) ?_ | (refine w_callT (c_leafp (kp := none) (S.rd rfl)) ?_; rintro _ _ ⟨rfl, rfl⟩) | (refine w_callT (c_leafp (kp := some _) (S.rd rfl)) ?_; rintro _ _ ⟨rfl, rfl⟩) | (refine w_callT (c_leafp (S.rd rfl)) ?_; rintro _ _ ⟨rfl, rfl⟩) )
              exact jo_n ⟨nn, u', rfl, hfu, hvu', hlu, S.only [.ow (nn, 0), .ow (n41, 0), .ow (n0, 0), .ow (b, 0), .ow p, .ow (hb, 0), .ow q, .tr kid2, .fo KB2, .fo KD2, .ow a0, .ck (HtC hp)]⟩
          · refine st_alloc S fun nn _ S => ?_
            repeat (first | refine w_nonnil ?_ | refine ld_it S (by assumption) ?_ | refine ld_int S rfl ?_ | refine ld_kid S (by assumption) ?_ | refine ld_some S rfl ?_ | refine ld_sls S rfl ?_ | refine st_it S (by first | omega | (dsimp only; omega)) fun _ S => ?_ | refine st_store S (lt_ble rfl) fun _ S => ?_ | refine st_alloc S fun _ _ S => ?_ | refine st_held S rfl ?_ | refine w_guard (by (first | exact inK64 (by omega) (by omega) | omega | (constructor <;> omega) | ((try dsimp only [Sh.T, Sh1.T]); first | exact inK64 (by omega) (by omega) | omega | exact ⟨by decide, inK64 (by omega) (by omega)⟩ | trivial))) ?_ | refine bd_n rfl ?_ | refine w_true (b := true) rfl ?_ | refine w_false (b := false) rfl ?_ | refine w_guard (show noMeths _ _ by show _ = _; kernel_rfl) ?_ | (refine w_callT (c_leafp (kp := none) (S.rd rfl)) ?_; rintro _ _ ⟨rfl, rfl⟩) | (refine w_callT (c_leafp (kp := some _) (S.rd rfl)) ?_; rintro _ _ ⟨rfl, rfl⟩) | (refine w_callT (c_leafp (S.rd rfl)) ?_; rintro _ _ ⟨rfl, rfl⟩) )
            refine st_callF (l := HtC none :: _) (St.em_in S) [.ow a0, .tr kid2, .ck (HtC none)] (fun G' hG' hsub => hok2 _ kid2 _ G' (S.rd (LK_get hkid2)) (hoc.step S hsub) hG') ?_
            rintro _ _ h3 ⟨u', rfl, hcase⟩ S
            dsimp only [List.cons_append, List.nil_append] at S
            rcases hcase with ⟨hno, _, _⟩ | ⟨z', hz', rfl, hfu, hvu', hlu, _⟩
            · have hno : (flatB ht u2).getLast? = none := hno
              rw [hz] at hno; cases hno
            · have hz' : (flatB ht u2).getLast? = some z' := hz'
              rw [hz] at hz'
              obtain rfl := Option.some.inj hz'
              repeat (first | refine w_nonnil ?_ | refine ld_it S (by assumption) ?_ | refine ld_int S rfl ?_ | refine ld_kid S (by assumption) ?_ | refine ld_some S rfl ?_ | refine ld_sls S rfl ?_ | refine st_it S (by first | omega | (dsimp only; omega)) fun _ S => ?_ | refine st_store S (lt_ble rfl) fun _ S => ?_ | refine st_alloc S fun _ _ S => ?_ | refine st_held S rfl ?_ | refine w_guard (by (first | exact inK64 (by omega) (by omega) | omega | (constructor <;> omega) | ((try dsimp only [Sh.T, Sh1.T]); first | exact inK64 (by omega) (by omega) | omega | exact ⟨by decide, inK64 (by omega) (by omega)⟩ | trivial))) ?_ | refine bd_n rfl ?_ | refine w_true (b := true) rfl ?_ | refine w_false (b := false) rfl ?_ | refine w_guard (show noMeths _ _ by show _ = _; kernel_rfl) ?_ | (refine w_callT (c_leafp (kp := none) (S.rd rfl)) ?_; rintro _ _ ⟨rfl, rfl⟩) | (refine w_callT (c_leafp (kp := some _) (S.rd rfl)) ?_; rintro _ _ ⟨rfl, rfl⟩) | (refine w_callT (c_leafp (S.rd rfl)) ?_; rintro _ _ ⟨rfl, rfl⟩) )
              exact jo_n ⟨nn, u', rfl, hfu, hvu', hlu, S.only [.ow (nn, 0), .ow (n41, 0), .ow (n0, 0), .ow (b, 0), .ow p, .ow (hb, 0), .ow q, .tr kid2, .fo KB2, .fo KD2, .ow a0, .ck (HtC hp)]⟩
        rintro vs _ ⟨nn, u', e, hfu, hvu', hlu, S⟩
        refine ⟨((nn, 0), ()), e.symm, ?_⟩
        clear e
        have hlt' : i < xs.length := hlt
        repeat (first | refine w_nonnil ?_ | refine ld_it S (by assumption) ?_ | refine ld_int S rfl ?_ | refine ld_kid S (by assumption) ?_ | refine ld_some S rfl ?_ | refine ld_sls S rfl ?_ | refine st_it S (by first | omega | (dsimp only; omega)) fun _ S => ?_ | refine st_store S (lt_ble rfl) fun _ S => ?_ | refine st_alloc S fun _ _ S => ?_ | refine st_held S rfl ?_ | refine w_guard (by (first | exact inK64 (by omega) (by omega) | omega | (constructor <;> omega) | ((try dsimp only [Sh.T, Sh1.T]); first | exact inK64 (by omega) (by omega) | omega | exact ⟨by decide, inK64 (by omega) (by omega)⟩ | trivial))) ?_ | refine bd_n rfl ?_ | refine w_true (b := true) rfl ?_ | refine w_false (b := false) rfl ?_ | refine w_guard (show noMeths _ _ by show _ = _; kernel_rfl) ?_ | (refine w_callT (c_leafp (kp := none) (S.rd rfl)) ?_; rintro _ _ ⟨rfl, rfl⟩) | (refine w_callT (c_leafp (kp := some _) (S.rd rfl)) ?_; rintro _ _ ⟨rfl, rfl⟩) | (refine w_callT (c_leafp (S.rd rfl)) ?_; rintro _ _ ⟨rfl, rfl⟩) )
        obtain ⟨A, y', C, hxe, hA⟩ := split_at (xs := xs) (j := i) hlt
        obtain rfl : y = y' := by
          rw [hxe, get_mid hA] at hy
          exact (Option.some.inj hy).symm
        obtain ⟨v, D3, rfl⟩ : ∃ v D3, D2 = v :: D3 := by
          cases D2 with
          | nil => rw [hte2] at hvl; simp at hvl; omega
          | cons v D3 => exact ⟨v, D3, rfl⟩
        have hset : (xs.set i z, B2 ++ u' :: v :: D3) = (A ++ z :: C, B2 ++ u' :: v :: D3) := by rw [hxe, set_mid hA]
        have hd2 : del (ltO o) (flatB (ht + 1) ((xs, ts) : BT KV (ht + 1))) k = flatB (ht + 1) ((A ++ z :: C, B2 ++ u' :: v :: D3) : BT KV (ht + 1)) ∧ fnd (ltO o) (flatB (ht + 1) ((xs, ts) : BT KV (ht + 1))) k = some y := by
          have hs2 := hsw
          rw [hxe, hte2] at hs2 ⊢
          simp only [flatB, List.map_append, List.map_cons] at hs2 ⊢
          rw [hfu]
          exact del_here (ordO o) (by simp; omega) hs2 hxy hyx hz
        have hgd : GdD o k i ((xs, ts) : BT KV (ht + 1)) ((xs.set i z, B2 ++ u' :: v :: D3) : BT KV (ht + 1)) := by
          have hs2 := hsw
          have hvk2 := fun w hw => (hvk w hw).1
          rw [show ((xs.set i z, B2 ++ u' :: v :: D3) : BT KV (ht + 1)) = (A ++ z :: C, B2 ++ u' :: v :: D3) from hset]
          rw [hxe, hte2] at hs2 ⊢
          rw [hte2] at hvk2
          exact gdd_here hA hB2 hvk2 hvu' hs2 hxy hyx hz hfu
        refine jo_n ⟨true, i, rfl, hin, fun h => (by cases h), fun _ => ⟨y, xs.set i z, B2 ++ u' :: v :: D3, ?_, by rw [List.length_set, hn], by rw [hte2]; simp, ?_, kids_put (u := u2) (by rw [← hte2]; exact hvk) hvu' (by omega) hB2, fun _ => hgd, ?_⟩⟩
        · exact hd2.2
        · exact (congrArg _ (by rw [hset])).trans hd2.1.symm
        · have S := fo_app L iso ((fo_cons L iso (S.ats [.tr kid2, .fo KD2])).ats [.fo KB2, .fo (kid2 :: KD2)])
          have S := fo_re L iso S hke2.symm rfl
          exact S.only [.ow (n41, 0), .ow (n0, 0), .ow (b, 0), .ow p, .ow (hb, 0), .ow q, .fo ks, .ow a0, .ck (HtC hp)]
  rintro vs h2 ⟨dl, i', e, hi', hF, hT⟩
  refine ⟨(dl, (i' : Int), ()), e.symm, ?_⟩
  clear e
  cases dl with
  | false =>
    obtain ⟨ht0, w, S⟩ := hF rfl
    refine w_true rfl ?_
    repeat (first | refine w_nonnil ?_ | refine ld_it S (by assumption) ?_ | refine ld_int S rfl ?_ | refine ld_kid S (by assumption) ?_ | refine ld_some S rfl ?_ | refine ld_sls S rfl ?_ | refine st_it S (by first | omega | (dsimp only; omega)) fun _ S => ?_ | refine st_store S (lt_ble rfl) fun _ S => ?_ | refine st_alloc S fun _ _ S => ?_ | refine st_held S rfl ?_ | refine w_guard (by (first | exact inK64 (by omega) (by omega) | omega | (constructor <;> omega) | ((try dsimp only [Sh.T, Sh1.T]); first | exact inK64 (by omega) (by omega) | omega | exact ⟨by decide, inK64 (by omega) (by omega)⟩ | trivial))) ?_ | refine bd_n rfl ?_ | refine w_true (b := true) rfl ?_ | refine w_false (b := false) rfl ?_ | refine w_guard (show noMeths _ _ by show _ = _; kernel_rfl) ?_ | (refine w_callT (c_leafp (kp := none) (S.rd rfl)) ?_; rintro _ _ ⟨rfl, rfl⟩) | (refine w_callT (c_leafp (kp := some _) (S.rd rfl)) ?_; rintro _ _ ⟨rfl, rfl⟩) | (refine w_callT (c_leafp (S.rd rfl)) ?_; rintro _ _ ⟨rfl, rfl⟩) )
    rw [LK_flat] at S
    have S := shut_node L iso (xs := xs) (ts := ts) (S.ats [.ow (b, 0), .ow p, .ow (hb, 0), .ow q, .fo ks]) rfl rfl rfl rfl hn rfl rfl hc rfl hd (Nat.mul_one _)
    exact rt_n rfl rfl ⟨_, ⟨(xs, ts), rfl, .inl ⟨ht0, rfl, rfl⟩⟩, S.only [.ow a0, .tr b, .ck (HtC hp)]⟩
  | true =>
    obtain ⟨y, xs', ts', hty, hxl', htl', hfl', hk', hgd, S⟩ := hT rfl
    have hrl := rmv_len hty
    rw [← hfl'] at hrl
    refine w_false rfl ?_
    simp only [Int.toNat_natCast, toNat_succ, toNat_succ2, toNat_pred]
    obtain ⟨KB, kid, KD, hke, hKB⟩ := split_at (xs := ks) (j := i') (by omega)
    obtain ⟨B, u, D, hte, hB⟩ := split_at (xs := ts') (j := i') (by omega)
    have hkid : (ks.map some)[i']? = some (some kid) := by rw [List.getElem?_map, hke, get_mid hKB]; rfl
    have hu := hk' i' u (by rw [hte]; exact get_mid hB)
    rw [if_pos rfl] at hu
    repeat (first | refine w_nonnil ?_ | refine ld_it S (by assumption) ?_ | refine ld_int S rfl ?_ | refine ld_kid S (by assumption) ?_ | refine ld_some S rfl ?_ | refine ld_sls S rfl ?_ | refine st_it S (by first | omega | (dsimp only; omega)) fun _ S => ?_ | refine st_store S (lt_ble rfl) fun _ S => ?_ | refine st_alloc S fun _ _ S => ?_ | refine st_held S rfl ?_ | refine w_guard (by (first | exact inK64 (by omega) (by omega) | omega | (constructor <;> omega) | ((try dsimp only [Sh.T, Sh1.T]); first | exact inK64 (by omega) (by omega) | omega | exact ⟨by decide, inK64 (by omega) (by omega)⟩ | trivial))) ?_ | refine bd_n rfl ?_ | refine w_true (b := true) rfl ?_ | refine w_false (b := false) rfl ?_ | refine w_guard (show noMeths _ _ by show _ = _; kernel_rfl) ?_ | (refine w_callT (c_leafp (kp := none) (S.rd rfl)) ?_; rintro _ _ ⟨rfl, rfl⟩) | (refine w_callT (c_leafp (kp := some _) (S.rd rfl)) ?_; rintro _ _ ⟨rfl, rfl⟩) | (refine w_callT (c_leafp (S.rd rfl)) ?_; rintro _ _ ⟨rfl, rfl⟩) )
    have S := S.at (.fo ks)
    rw [hke, hte] at S
    have S := fo_uncons L iso (fo_split L iso (by omega) S).pull1
    obtain ⟨pi, ci, hci⟩ := S.itm kid
    refine w_sl (some pi, (itemsB ht u).length, ci) hci ?_
    have S := fo_app L iso ((fo_cons L iso S).ats [.fo KB, .fo (kid :: KD)])
    rw [← hke, ← hte, LK_flat] at S
    repeat (first | refine w_nonnil ?_ | refine ld_it S (by assumption) ?_ | refine ld_int S rfl ?_ | refine ld_kid S (by assumption) ?_ | refine ld_some S rfl ?_ | refine ld_sls S rfl ?_ | refine st_it S (by first | omega | (dsimp only; omega)) fun _ S => ?_ | refine st_store S (lt_ble rfl) fun _ S => ?_ | refine st_alloc S fun _ _ S => ?_ | refine st_held S rfl ?_ | refine w_guard (by (first | exact inK64 (by omega) (by omega) | omega | (constructor <;> omega) | ((try dsimp only [Sh.T, Sh1.T]); first | exact inK64 (by omega) (by omega) | omega | exact ⟨by decide, inK64 (by omega) (by omega)⟩ | trivial))) ?_ | refine bd_n rfl ?_ | refine w_true (b := true) rfl ?_ | refine w_false (b := false) rfl ?_ | refine w_guard (show noMeths _ _ by show _ = _; kernel_rfl) ?_ | (refine w_callT (c_leafp (kp := none) (S.rd rfl)) ?_; rintro _ _ ⟨rfl, rfl⟩) | (refine w_callT (c_leafp (kp := some _) (S.rd rfl)) ?_; rintro _ _ ⟨rfl, rfl⟩) | (refine w_callT (c_leafp (S.rd rfl)) ?_; rintro _ _ ⟨rfl, rfl⟩) )
    have S := shut_node L iso (xs := xs') (ts := ts') (cnt := (flatB (ht + 1) ((xs', ts') : BT KV (ht + 1))).length) (S.ats [.ow (b, 0), .ow p, .ow (hb, 0), .ow q, .fo ks]) (by simp [nodeC, Cell.val]; omega) rfl rfl rfl hxl'.symm rfl rfl hc rfl hd (Nat.mul_one _)
    refine w_bind (fun vs h' => vs = [] ∧ ∃ t' : BT KV (ht + 1), flatB (ht + 1) t' = flatB (ht + 1) ((xs', ts') : BT KV (ht + 1)) ∧ Val mn mx (ht + 1) t' ∧ n ≤ t'.1.length + 1 ∧ (m = false → GdX o k (ht + 1) ((xs, ts) : BT KV (ht + 1)) t') ∧
      St h G [Ow a0 (mapC ls iso ctr root cnt mn mx cv icv) 0, TrC L iso (ht + 1) b t', Ow (n41, 0) (L.cells y) 0, Ow (n0, 0) (L.cells (0, 0)) 0, HtC hp] h') ?_ ?_
    · refine w_ite (fun hb => ?_) (fun hb => ?_)
      · have hlt : (itemsB ht u).length < mn := by
          have : ((itemsB ht u).length : Int) < mn := by simpa using hb
          omega
        refine st_callV S [.ow a0, .tr b] rfl (fun G hG => c_reb (i := i') (by show 1 ≤ xs'.length; omega) (by show xs'.length ≤ mx; omega) (by show ts'.length = xs'.length + 1; omega) (by show i' ≤ xs'.length; omega) (fun j w hw => ?_) hmn h1mn hm (by omega) hG) ?_
        · obtain ⟨g1, g2⟩ := hk' j w hw
          refine ⟨g1, ?_⟩
          by_cases hji : j = i'
          · subst hji
            have : w = u := by
              have h3 : ts'[j]? = some w := hw
              rw [hte, get_mid hB] at h3
              exact (Option.some.inj h3).symm
            subst this
            rw [if_pos rfl] at g2 ⊢; omega
          · rw [if_neg hji] at g2 ⊢; exact g2
        · rintro _ _ h5 ⟨t', rfl, g1, g2, g3, g4⟩ S
          exact ⟨rfl, t', g1, g2, by rw [← hxl']; exact g3, fun hm => (hgd hm).rb g4, S⟩
      · have hge : mn ≤ (itemsB ht u).length := by
          have : ¬ ((itemsB ht u).length : Int) < mn := by simpa using hb
          omega
        refine ⟨rfl, (xs', ts'), rfl, ⟨by show xs'.length ≤ mx; omega, by show ts'.length = xs'.length + 1; omega, fun w hw => ?_⟩, by show n ≤ xs'.length + 1; omega, fun hm => (hgd hm).done, S.ats [.ow a0, .tr b]⟩
        obtain ⟨j, hj⟩ := List.mem_iff_getElem?.1 hw
        obtain ⟨g1, g2⟩ := hk' j w hj
        refine ⟨g1, ?_⟩
        by_cases hji : j = i'
        · subst hji
          have : w = u := by
            rw [hte, get_mid hB] at hj
            exact (Option.some.inj hj).symm
          subst this; exact hge
        · rw [if_neg hji] at g2; exact g2
    rintro _ h5 ⟨rfl, t', g1, g2, g3, g5, S⟩
    refine ⟨(), rfl, ?_⟩
    repeat (first | refine w_nonnil ?_ | refine ld_it S (by assumption) ?_ | refine ld_int S rfl ?_ | refine ld_kid S (by assumption) ?_ | refine ld_some S rfl ?_ | refine ld_sls S rfl ?_ | refine st_it S (by first | omega | (dsimp only; omega)) fun _ S => ?_ | refine st_store S (lt_ble rfl) fun _ S => ?_ | refine st_alloc S fun _ _ S => ?_ | refine st_held S rfl ?_ | refine w_guard (by (first | exact inK64 (by omega) (by omega) | omega | (constructor <;> omega) | ((try dsimp only [Sh.T, Sh1.T]); first | exact inK64 (by omega) (by omega) | omega | exact ⟨by decide, inK64 (by omega) (by omega)⟩ | trivial))) ?_ | refine bd_n rfl ?_ | refine w_true (b := true) rfl ?_ | refine w_false (b := false) rfl ?_ | refine w_guard (show noMeths _ _ by show _ = _; kernel_rfl) ?_ | (refine w_callT (c_leafp (kp := none) (S.rd rfl)) ?_; rintro _ _ ⟨rfl, rfl⟩) | (refine w_callT (c_leafp (kp := some _) (S.rd rfl)) ?_; rintro _ _ ⟨rfl, rfl⟩) | (refine w_callT (c_leafp (S.rd rfl)) ?_; rintro _ _ ⟨rfl, rfl⟩) )
    exact rt_n rfl rfl ⟨_, ⟨t', rfl, .inr ⟨y, hty, rfl, by rw [g1, hfl'], g2, by show xs.length ≤ _; rw [← hn]; exact g3, g5⟩⟩, S.only [.ow a0, .tr b, .ck (HtC hp)]⟩
theorem c_delete {a0 : PA} {mn mx : Nat} {iso cnt : Int} {ctr root : Option PA} {cv icv : Bool} (hls : Lss ls oc o) (hmn : mx = 2 * mn + 1) (h1mn : 1 ≤ mn) (hm : mx ≤ 255) :
    ∀ (n : Nat) (hp : Option PA) (dep : Nat) (t : BT KV n) (m : Bool) (k : KV), HsOK hp → dep + n ≤ 4294967296 → Val mn mx n t → 1 ≤ (itemsB n t).length → Srt (ltO o) (flatB n t) → (flatB n t).length ≤ 4294967296 → DelOK o oc hp dep a0 (mapC ls iso ctr root cnt mn mx cv icv) iso mn mx n t m k
  | 0, hp, dep, xs, m, k, hh, hd, hv, hi, hs, _ => fun h b pn G hpn hoc hG => c_delLeaf hh hls (by omega) hs hi hv hm hpn hoc hG
  | n + 1, hp, dep, t, m, k, hh, hd, hv, hi, hs, hl => c_delNode hh hls hd hv hi hs hl hmn h1mn hm (c_delete hls hmn h1mn hm n)
end
end Go.Proofs.Ytegnpimlfphncaa.TG
