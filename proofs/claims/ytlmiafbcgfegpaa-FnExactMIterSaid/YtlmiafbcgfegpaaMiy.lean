/-
  The map: an iterator moved. Conditions: none.
-/
import Derived.Test.YtlmiafbcgfegpaaPgI
import Derived.Test.YtlmiafbcgfegpaaMix
set_option linter.unusedVariables false
set_option linter.unusedSimpArgs false
set_option linter.unusedSectionVars false
set_option maxRecDepth 100000
namespace Go.Proofs.Ytlmiafbcgfegpaa.MI
open Go Go.Proofs.Ytlmiafbcgfegpaa
section
variable {h h0 : H} {G0 : PA → Prop} {l : List Ck} {tr a : PA} {iso : Int} {F : (r : Nat) → Nat → BT KV r → Prop} {mn mx n b0 : Nat} {t : BT KV n}
theorem fr1 {p : PA} {c : Nat} {f : Nat × Int} {fs : List (Nat × Int)} (s : St h0 G0 (Ow p (LFr.flat (f :: fs).reverse) ((c - (f :: fs).length) * LFr.sz) :: l) h) (hc : (f :: fs).length ≤ c) : St h0 G0 (Ow p (LFr.flat fs.reverse) ((c - fs.length) * LFr.sz) :: l) h := by
  have S := (s.re p (LFr.flat fs.reverse ++ LFr.flat [f]) _ rfl (by rw [List.reverse_cons, LFr.flat_append]) rfl).shrink
  exact S.re p _ _ rfl rfl (by rw [LFr.flat_length]; simp only [List.length_cons, List.length_nil] at hc ⊢; show (0 + 1) * 2 + (c - (fs.length + 1)) * 2 = (c - fs.length) * 2; omega)
theorem c_First {sk ats ate : Bool} {fs : List (Nat × Int)} {x0 : KV} {G : PA → Prop} (f : Tf tr iso F mn mx n b0 t h G) (hG : Star [ItC a tr sk ats ate fs x0] h G) :
    HT Try.prog fn_ii_First [.c (.addr a)] false [.c .bool] h fun r h' => ∃ post, (r = (true, ()) ∧ ∃ fs' x, Pos F mn mx t fs' 0 ∧ (flatB n t)[0]? = some x ∧ post = [ItC a tr true false false fs' x]) ∧ St h G post h' := by
  apply hc_ii_First
  unfold M_ii_First
  obtain ⟨⟨s1, s2, s3⟩, hs, S⟩ := open_it (St.start hG)
  refine ld_some S rfl (w_false rfl ?_)
  refine st_store S (lt_ble rfl) fun _ S => ?_
  refine st_store S (lt_ble rfl) fun _ S => ?_
  refine st_store S (lt_ble rfl) fun _ S => ?_
  refine ld_sl S s1 s2 s3 rfl (w_guard ⟨by omega, by show (0 : Int) ≤ (s3 : Int); omega⟩ ?_)
  refine st_store S (lt_ble rfl) fun _ S => ?_
  have S := (sl_none S.pull1).pull1
  have S : St h G [Ow a (itC tr true false false (s1, 0, s3) x0) 0, SlC (s1, 0, s3) LFr.sz (LFr.flat ([] : List (Nat × Int)).reverse)] _ := S.re a (itC tr true false false (s1, 0, s3) x0) 0 rfl (by simp [itC, Cell.val, slBase_z]) rfl
  refine ld_some S rfl (w_nonnil (w_ptr (some (b0, 0)) (f.root.now S).rd (w_false rfl (ld_some S rfl (ld_some S rfl (w_nonnil (ld_bool S rfl ?_)))))))
  obtain ⟨_, _, _, _, _, i0, _⟩ := (f.fw.nd n b0 t f.here).nd
  refine w_callV (args' := [.c (.addr tr), .c (.addr (tr.1, tr.2 + 2)), .c (.bool false)]) rfl (c_isoLoad (b := b0) (f.root.now S).rd (i0.now S).rd (f.iso.now S).rd) ?_
  rintro _ _ ⟨rfl, rfl⟩
  refine w_mid' (some 0) (fun _ h' => ∃ fs' p' c', Pos F mn mx t fs' 0 ∧ fs'.length ≤ c' ∧ St h G [Ow a (itC tr true false false (some p', fs'.length, c') x0) 0, Ow p' (LFr.flat fs'.reverse) ((c' - fs'.length) * LFr.sz)] h') ?_ ?_
  · exact w_left f (fs := []) ⟨rfl, rfl⟩ f.here ⟨rfl, Nat.zero_le _, .inl rfl⟩ S fun h' fs' p' c' h1 h2 S => md_e rfl ⟨fs', p', c', h1, h2, S⟩
  clear S
  rintro _ _ ⟨fs', p', c', h1, h2, S⟩
  exact w_tail f h1 S fun h' x hx S => ⟨_, ⟨rfl, fs', x, h1, hx, rfl⟩, shut_it S rfl rfl h2 rfl⟩
theorem c_Last {sk ats ate : Bool} {fs : List (Nat × Int)} {x0 : KV} {G : PA → Prop} (f : Tf tr iso F mn mx n b0 t h G) (hG : Star [ItC a tr sk ats ate fs x0] h G) :
    HT Try.prog fn_ii_Last [.c (.addr a)] false [.c .bool] h fun r h' => ∃ post, (r = (true, ()) ∧ ∃ fs' x q, q + 1 = (flatB n t).length ∧ Pos F mn mx t fs' q ∧ (flatB n t)[q]? = some x ∧ post = [ItC a tr true ats ate fs' x]) ∧ St h G post h' := by
  apply hc_ii_Last
  unfold M_ii_Last
  obtain ⟨⟨s1, s2, s3⟩, hs, S⟩ := open_it (St.start hG)
  have hil := items_le f.val
  have hits := f.its
  obtain ⟨q, hq⟩ : ∃ q, q + 1 = (flatB n t).length := ⟨(flatB n t).length - 1, by omega⟩
  refine ld_some S rfl (w_false rfl ?_)
  refine st_store S (lt_ble rfl) fun _ S => ?_
  refine ld_sl S s1 s2 s3 rfl (w_guard ⟨by omega, by show (0 : Int) ≤ (s3 : Int); omega⟩ ?_)
  refine st_store S (lt_ble rfl) fun _ S => ?_
  have S := (sl_none S.pull1).pull1
  have S : St h G [Ow a (itC tr true ats ate (s1, 0, s3) x0) 0, SlC (s1, 0, s3) LFr.sz (LFr.flat ([] : List (Nat × Int)).reverse)] _ := S.re a (itC tr true ats ate (s1, 0, s3) x0) 0 rfl (by simp [itC, Cell.val, slBase_z]) rfl
  refine ld_some S rfl (w_nonnil (w_ptr (some (b0, 0)) (f.root.now S).rd (w_false rfl (ld_some S rfl (ld_some S rfl (w_nonnil (ld_bool S rfl ?_)))))))
  obtain ⟨_, _, _, _, _, i0, _⟩ := (f.fw.nd n b0 t f.here).nd
  refine w_callV (args' := [.c (.addr tr), .c (.addr (tr.1, tr.2 + 2)), .c (.bool false)]) rfl (c_isoLoad (b := b0) (f.root.now S).rd (i0.now S).rd (f.iso.now S).rd) ?_
  rintro _ _ ⟨rfl, rfl⟩
  refine w_mid' (some 0) (fun _ h' => ∃ fs' p' c', Pos F mn mx t fs' q ∧ fs'.length ≤ c' ∧ St h G [Ow a (itC tr true ats ate (some p', fs'.length, c') x0) 0, Ow p' (LFr.flat fs'.reverse) ((c' - fs'.length) * LFr.sz)] h') ?_ ?_
  · exact w_right f (fs := []) (off := 0) ⟨rfl, rfl⟩ (by omega) f.here ⟨rfl, Nat.zero_le _, .inl rfl⟩ S fun h' fs' p' c' h1 h2 S => md_e rfl ⟨fs', p', c', h1, h2, S⟩
  clear S
  rintro _ _ ⟨fs', p', c', h1, h2, S⟩
  exact w_tail f h1 S fun h' x hx S => ⟨_, ⟨rfl, fs', x, q, hq, h1, hx, rfl⟩, shut_it S rfl rfl h2 rfl⟩
set_option maxHeartbeats 4000000 in
theorem c_Next1 {ats ate : Bool} {fs : List (Nat × Int)} {x0 : KV} {q : Nat} {G : PA → Prop} (f : Tf tr iso F mn mx n b0 t h G) (hp : Nxt F mn mx t fs q) (hG : Star [ItC a tr true ats ate fs x0] h G) :
    HT Try.prog fn_ii_Next [.c (.addr a)] false [.c .bool] h fun r h' => ∃ post, ((r = (true, ()) ∧ ∃ fs' x, Pos F mn mx t fs' q ∧ (flatB n t)[q]? = some x ∧ post = [ItC a tr true ats ate fs' x]) ∨ (r = (false, ()) ∧ (flatB n t).length ≤ q ∧ post = [ItC a tr true ats true [] x0])) ∧ St h G post h' := by
  apply hc_ii_Next
  unfold M_ii_Next
  obtain ⟨b, m, fs, r, u, off, rfl, hu, hF, hm, hm1, hq⟩ := hp
  obtain ⟨s, hs, S⟩ := open_it (St.start hG)
  obtain ⟨p, c, hc, S⟩ := it_top S hs (by simp)
  have hlen := hu.len
  have hn := f.hgt
  have hmx := f.big
  obtain ⟨hv, hi⟩ := hu.val f.val f.one f.its
  have hil := Val.items hv
  obtain ⟨pi, ci, kp, hci, hkp, b0', _, b2, b3, br⟩ := (f.fw.nd r b u hF).nd
  have htop := rev_get (b, (m : Int) - 1) fs
  have htop2 := rev_get (b, (m : Int)) fs
  have hcl : ((b, (m : Int)) :: fs).length ≤ c := hc
  refine ld_some S rfl (w_false rfl (ld_bool S rfl (w_false rfl (ld_sls S rfl (w_false (beq_f (by simp; omega)) ?_)))))
  refine ld_sls S rfl (ld_sls S rfl (w_guard (inK64 (by simp <;> omega) (by simp <;> omega)) (w_nonnil (w_guard ⟨by simp <;> omega, by simp <;> omega⟩ ?_))))
  dsimp only
  rw [toNat_pred]
  refine w_fi (frs S.pull1) htop (w_guard (inK64 (by dsimp only; omega) (by dsimp only; omega)) ?_)
  refine st_fi S htop fun _ S => ?_
  rw [rev_set] at S
  dsimp only at S
  rw [show (m : Int) - 1 + 1 = (m : Int) by omega] at S
  have S : St h G [Ow a (itC tr true ats ate (some p, ((b, (m : Int)) :: fs).length, c) x0) 0, Ow p (LFr.flat ((b, (m : Int)) :: fs).reverse) ((c - ((b, (m : Int)) :: fs).length) * LFr.sz)] _ := S
  refine w_fp (frs S.pull1) htop2 ?_
  refine w_callT (c_leafp (kp := kp) (b3.now S).rd) ?_
  rintro _ _ ⟨rfl, rfl⟩
  refine w_mid' none (fun (_ : SV []) h' => ∃ fs' p' c', Pos F mn mx t fs' q ∧ fs'.length ≤ c' ∧ St h G [Ow a (itC tr true ats ate (some p', fs'.length, c') x0) 0, Ow p' (LFr.flat fs'.reverse) ((c' - fs'.length) * LFr.sz)] h') ?_ ?_
  · cases r with
    | zero =>
      refine w_true hkp ?_
      have hfl : flatB 0 u = itemsB 0 u := rfl
      have hq : q = off + m := hq
      refine w_fi (frs S.pull1) htop2 (w_fp (frs S.pull1) htop2 (w_nonnil (w_sl (some pi, (itemsB 0 u).length, ci) (b2.now S).rd ?_)))
      refine w_mid' none (fun (_ : SV []) h' => ∃ fs' p' c', Pos F mn mx t fs' q ∧ fs'.length ≤ c' ∧ St h G [Ow a (itC tr true ats ate (some p', fs'.length, c') x0) 0, Ow p' (LFr.flat fs'.reverse) ((c' - fs'.length) * LFr.sz)] h') ?_ (fun _ _ hh => md_n rfl hh)
      by_cases hml : m = (itemsB 0 u).length
      · refine w_true (beq_t (by show (m : Int) = ((itemsB 0 u).length : Int); omega)) ?_
        refine w_mid' (some 0) (fun (_ : SV []) h' => ∃ fs' p' c', Pos F mn mx t fs' q ∧ fs'.length ≤ c' ∧ St h G [Ow a (itC tr true ats ate (some p', fs'.length, c') x0) 0, Ow p' (LFr.flat fs'.reverse) ((c' - fs'.length) * LFr.sz)] h') ?_ (fun _ _ hh => md_n rfl hh)
        refine w_lp (fun k (_ : SV []) h' => ∃ (f0 : Nat × Int) (fs : List (Nat × Int)) (r : Nat) (u : BT KV r) (off : Nat) (p : PA) (c : Nat), fs.length = k ∧ Up F mn mx t fs r u off ∧ q = off + (flatB r u).length ∧ (f0 :: fs).length ≤ c ∧
          St h G [Ow a (itC tr true ats ate (some p, (f0 :: fs).length, c) x0) 0, Ow p (LFr.flat (f0 :: fs).reverse) ((c - (f0 :: fs).length) * LFr.sz)] h') fs.length rfl ⟨(b, (m : Int)), fs, 0, u, off, p, c, rfl, hu, by rw [hfl, ← hml]; exact hq, hc, S⟩ ?_
        clear S hc hq hml hil hm htop htop2 hlen hcl
        rintro k _ _ ⟨f0, fs, r, u, off, p, c, rfl, hu, hq, hc, S⟩
        have hlen := hu.len
        refine ld_sls S rfl (ld_sls S rfl (w_guard (inK64 (by simp <;> omega) (by simp <;> omega)) (w_guard ⟨by simp <;> omega, by simp at hc ⊢; omega⟩ ?_)))
        refine st_store S (lt_ble rfl) fun _ S => ?_
        have S := (fr1 S.pull1 hc).pull1
        have hc' : fs.length ≤ c := by simp at hc; omega
        have S := S.re a (itC tr true ats ate (some p, fs.length, c) x0) 0 rfl (by simp [itC, Cell.val, slBase_z]) rfl
        cases fs with
        | nil =>
          obtain ⟨he, hoff⟩ := hu
          cases he
          refine ld_sls S rfl (w_true (beq_t rfl) ?_)
          refine st_store S (lt_ble rfl) fun _ S => ?_
          refine ln_r (md_r (md_r (md_r (rt_1 rfl ⟨_, .inr ⟨rfl, by omega, rfl⟩, ?_⟩))))
          exact shut_it S rfl rfl hc' rfl
        | cons f1 fs =>
          obtain ⟨v, c1, o', e1, e2, e3, e4, e5, e6, e7⟩ := hu
          obtain ⟨b1, i1⟩ := f1
          dsimp only at e1 e4
          subst e1
          have hl2 : v.2.length = v.1.length + 1 := e5.2.1
          have hc1 := (List.getElem?_eq_some_iff.1 e2).1
          obtain ⟨pi, ci, kp, hci, hkp, _, _, b2, b3, br⟩ := (f.fw.nd (r + 1) b1 v e4).nd
          have htop := rev_get (b1, (c1 : Int)) fs
          refine ld_sls S rfl (w_false (beq_f (by simp; omega)) ?_)
          refine ld_sls S rfl (ld_sls S rfl (w_guard (inK64 (by simp at hlen ⊢ <;> omega) (by simp at hlen ⊢ <;> omega)) (w_nonnil (w_guard ⟨by simp <;> omega, by simp <;> omega⟩ ?_))))
          dsimp only
          rw [toNat_pred]
          refine w_fi (frs S.pull1) htop (w_fp (frs S.pull1) htop (w_nonnil (w_sl (some pi, v.1.length, ci) (b2.now S).rd ?_)))
          by_cases hlt : c1 < v.1.length
          · refine w_true (lt_t (by show (c1 : Int) < (v.1.length : Int); omega)) (ln_e (md_e rfl ⟨_, p, c, ?_, hc', S⟩))
            have hxj := List.getElem?_eq_getElem hlt
            have hs := ah_succ hl2 hxj e2
            refine ⟨b1, c1, fs, r + 1, v, o', rfl, e7, e4, hlt, ?_⟩
            show q + 1 = o' + (ahead v.1 v.2 (c1 + 1)).length
            rw [hs, List.length_append, List.length_append]; simp; omega
          · obtain rfl : c1 = v.1.length := by omega
            have hbl := bef_last e5 e2
            refine w_false (lt_f (by show (v.1.length : Int) ≤ (v.1.length : Int); omega)) ?_
            exact ln_n rfl fs.length ⟨_, fs, r + 1, v, o', p, c, rfl, e7, by omega, hc', S⟩ (by simp)
      · refine w_false (beq_f (by show (m : Int) ≠ ((itemsB 0 u).length : Int); omega)) (md_n rfl ⟨_, p, c, ⟨b, m, fs, 0, u, off, rfl, hu, hF, by omega, by show q + 1 = off + (m + 1); omega⟩, hcl, S⟩)
    | succ r =>
      refine w_false hkp ?_
      obtain ⟨hb, qq, cc, k1, k2, k3⟩ := f.fw.kd r b u hF
      have hl : u.2.length = u.1.length + 1 := hv.2.1
      have hm : m ≤ u.1.length := hm
      obtain ⟨v, hv0⟩ : ∃ v, u.2[m]? = some v := ⟨_, List.getElem?_eq_getElem (by omega)⟩
      obtain ⟨kid, g1, g2⟩ := k3 m v hv0
      refine ld_some S rfl (w_fp (frs S.pull1) htop2 (w_nonnil (w_ptr (some (hb, 0)) (k1.now S).rd (w_nonnil (w_sl (some qq, u.2.length, cc) (k2.now S).rd (w_fi (frs S.pull1) htop2 (w_nonnil (w_guard ⟨by show (0 : Int) ≤ (m : Int); omega, by show (m : Int) < (u.2.length : Int); omega⟩ (ld_bool S rfl ?_)))))))))
      obtain ⟨_, _, _, _, _, i0, _⟩ := (f.fw.nd r kid v g2).nd
      dsimp only
      rw [Int.toNat_natCast]
      refine w_callV (args' := [.c (.addr tr), .c (.addr (qq.1, qq.2 + m)), .c (.bool false)]) rfl (c_isoLoad (b := kid) (g1.now S).rd (i0.now S).rd (f.iso.now S).rd) ?_
      rintro _ _ ⟨rfl, rfl⟩
      refine w_mid' (some 2) (fun (_ : SV []) h' => ∃ fs' p' c', Pos F mn mx t fs' q ∧ fs'.length ≤ c' ∧ St h G [Ow a (itC tr true ats ate (some p', fs'.length, c') x0) 0, Ow p' (LFr.flat fs'.reverse) ((c' - fs'.length) * LFr.sz)] h') ?_ (fun _ _ hh => md_n rfl hh)
      have S := (S.pull1.close_sl (n := ((b, (m : Int)) :: fs).length) (c := c) (sz := LFr.sz) hcl (by rw [LFr.flat_length, List.length_reverse])).pull1
      exact w_left f (fs := (b, (m : Int)) :: fs) ⟨u, m, off, rfl, hv0, hq, hF, hv, hi, hu⟩ g2 ⟨by simp, hcl, .inr rfl⟩ S fun h' fs' p' c' h1 h2 S => md_e rfl ⟨fs', p', c', h1, h2, S⟩
  clear S
  rintro _ _ ⟨fs', p', c', h1, h2, S⟩
  exact w_tail f h1 S fun h' x hx S => ⟨_, .inl ⟨rfl, fs', x, h1, hx, rfl⟩, shut_it S rfl rfl h2 rfl⟩
set_option maxHeartbeats 4000000 in
theorem c_Prev1 {ats ate : Bool} {fs : List (Nat × Int)} {x0 : KV} {q : Nat} {G : PA → Prop} (f : Tf tr iso F mn mx n b0 t h G) (hp : Pos F mn mx t fs q) (hG : Star [ItC a tr true ats ate fs x0] h G) :
    HT Try.prog fn_ii_Prev [.c (.addr a)] false [.c .bool] h fun r h' => ∃ post, ((r = (true, ()) ∧ ∃ fs' x q', q' + 1 = q ∧ Pos F mn mx t fs' q' ∧ (flatB n t)[q']? = some x ∧ post = [ItC a tr true ats ate fs' x]) ∨ (r = (false, ()) ∧ q = 0 ∧ post = [ItC a tr true true ate [] x0])) ∧ St h G post h' := by
  apply hc_ii_Prev
  unfold M_ii_Prev
  obtain ⟨b, m, fs, r, u, off, rfl, hu, hF, hm, hq⟩ := hp
  obtain ⟨s, hs, S⟩ := open_it (St.start hG)
  obtain ⟨p, c, hc, S⟩ := it_top S hs (by simp)
  have hlen := hu.len
  have hn := f.hgt
  have hmx := f.big
  obtain ⟨hv, hi⟩ := hu.val f.val f.one f.its
  have hil := Val.items hv
  obtain ⟨pi, ci, kp, hci, hkp, b0', _, b2, b3, br⟩ := (f.fw.nd r b u hF).nd
  have htop := rev_get (b, (m : Int)) fs
  refine ld_some S rfl (w_false rfl (ld_bool S rfl (w_false rfl (ld_sls S rfl (w_false (beq_f (by simp; omega)) ?_)))))
  refine ld_sls S rfl (ld_sls S rfl (w_guard (inK64 (by simp <;> omega) (by simp <;> omega)) (w_nonnil (w_guard ⟨by simp <;> omega, by simp <;> omega⟩ ?_))))
  dsimp only
  rw [toNat_pred]
  refine w_fp (frs S.pull1) htop ?_
  refine w_callT (c_leafp (kp := kp) (b3.now S).rd) ?_
  rintro _ h2 ⟨rfl, e⟩
  have e := e.symm
  subst e
  refine w_mid' none (fun (_ : SV []) h' => ∃ fs' p' c' q', q' + 1 = q ∧ Pos F mn mx t fs' q' ∧ fs'.length ≤ c' ∧ St h G [Ow a (itC tr true ats ate (some p', fs'.length, c') x0) 0, Ow p' (LFr.flat fs'.reverse) ((c' - fs'.length) * LFr.sz)] h') ?_ ?_
  · cases r with
    | zero =>
      refine w_true hkp ?_
      have hq : q + 1 = off + (m + 1) := hq
      refine w_fi (frs S.pull1) htop (w_guard (inK64 (by dsimp only; omega) (by dsimp only; omega)) ?_)
      refine st_fi S htop fun _ S => ?_
      rw [rev_set] at S
      dsimp only at S
      have htop2 := rev_get (b, (m : Int) - 1) fs
      have S : St h G [Ow a (itC tr true ats ate (some p, ((b, (m : Int) - 1) :: fs).length, c) x0) 0, Ow p (LFr.flat ((b, (m : Int) - 1) :: fs).reverse) ((c - ((b, (m : Int) - 1) :: fs).length) * LFr.sz)] _ := S
      have hcl : ((b, (m : Int) - 1) :: fs).length ≤ c := hc
      refine w_fi (frs S.pull1) htop2 ?_
      refine w_mid' none (fun (_ : SV []) h' => ∃ fs' p' c' q', q' + 1 = q ∧ Pos F mn mx t fs' q' ∧ fs'.length ≤ c' ∧ St h G [Ow a (itC tr true ats ate (some p', fs'.length, c') x0) 0, Ow p' (LFr.flat fs'.reverse) ((c' - fs'.length) * LFr.sz)] h') ?_ (fun _ _ hh => md_n rfl hh)
      by_cases hml : m = 0
      · refine w_true (beq_t (by show (m : Int) - 1 = -1; omega)) ?_
        refine w_mid' (some 0) (fun (_ : SV []) h' => ∃ fs' p' c' q', q' + 1 = q ∧ Pos F mn mx t fs' q' ∧ fs'.length ≤ c' ∧ St h G [Ow a (itC tr true ats ate (some p', fs'.length, c') x0) 0, Ow p' (LFr.flat fs'.reverse) ((c' - fs'.length) * LFr.sz)] h') ?_ (fun _ _ hh => md_n rfl hh)
        refine w_lp (fun k (_ : SV []) h' => ∃ (f0 : Nat × Int) (fs : List (Nat × Int)) (r : Nat) (u : BT KV r) (p : PA) (c : Nat), fs.length = k ∧ Up F mn mx t fs r u q ∧ (f0 :: fs).length ≤ c ∧
          St h G [Ow a (itC tr true ats ate (some p, (f0 :: fs).length, c) x0) 0, Ow p (LFr.flat (f0 :: fs).reverse) ((c - (f0 :: fs).length) * LFr.sz)] h') fs.length rfl ⟨(b, (m : Int) - 1), fs, 0, u, p, c, rfl, by rw [show q = off by omega]; exact hu, hcl, S⟩ ?_
        clear S hc hq hml hil hm htop htop2 hlen hcl
        rintro k _ _ ⟨f0, fs, r, u, p, c, rfl, hu, hc, S⟩
        have hlen := hu.len
        refine ld_sls S rfl (ld_sls S rfl (w_guard (inK64 (by simp <;> omega) (by simp <;> omega)) (w_guard ⟨by simp <;> omega, by simp at hc ⊢; omega⟩ ?_)))
        refine st_store S (lt_ble rfl) fun _ S => ?_
        have S := (fr1 S.pull1 hc).pull1
        have hc' : fs.length ≤ c := by simp at hc; omega
        have S := S.re a (itC tr true ats ate (some p, fs.length, c) x0) 0 rfl (by simp [itC, Cell.val, slBase_z]) rfl
        cases fs with
        | nil =>
          obtain ⟨he, hoff⟩ := hu
          refine ld_sls S rfl (w_true (beq_t rfl) ?_)
          refine st_store S (lt_ble rfl) fun _ S => ?_
          refine ln_r (md_r (md_r (md_r (rt_1 rfl ⟨_, .inr ⟨rfl, hoff, rfl⟩, ?_⟩))))
          exact shut_it S rfl rfl hc' rfl
        | cons f1 fs =>
          obtain ⟨v, c1, o', e1, e2, e3, e4, e5, e6, e7⟩ := hu
          obtain ⟨b1, i1⟩ := f1
          dsimp only at e1 e4
          subst e1
          have hl2 : v.2.length = v.1.length + 1 := e5.2.1
          have hvl : v.1.length ≤ mx := e5.1
          have hc1 := (List.getElem?_eq_some_iff.1 e2).1
          have htop := rev_get (b1, (c1 : Int)) fs
          have htop2 := rev_get (b1, (c1 : Int) - 1) fs
          refine ld_sls S rfl (w_false (beq_f (by simp; omega)) ?_)
          refine ld_sls S rfl (ld_sls S rfl (w_guard (inK64 (by simp at hlen ⊢ <;> omega) (by simp at hlen ⊢ <;> omega)) (w_nonnil (w_guard ⟨by simp <;> omega, by simp <;> omega⟩ ?_))))
          dsimp only
          rw [toNat_pred]
          refine w_fi (frs S.pull1) htop (w_guard (inK64 (by dsimp only; omega) (by dsimp only; omega)) ?_)
          refine st_fi S htop fun _ S => ?_
          rw [rev_set] at S
          dsimp only at S
          have S : St h G [Ow a (itC tr true ats ate (some p, ((b1, (c1 : Int) - 1) :: fs).length, c) x0) 0, Ow p (LFr.flat ((b1, (c1 : Int) - 1) :: fs).reverse) ((c - ((b1, (c1 : Int) - 1) :: fs).length) * LFr.sz)] _ := S
          refine w_fi (frs S.pull1) htop2 ?_
          by_cases h0 : c1 = 0
          · subst h0
            rw [ah_zero] at e3
            have e3 : q = o' := e3
            refine w_false (lt_f (by show ((0 : Nat) : Int) - 1 ≤ -1; omega)) ?_
            exact ln_n rfl fs.length ⟨(b1, ((0 : Nat) : Int) - 1), fs, r + 1, v, p, c, rfl, by rw [e3]; exact e7, hc', S⟩ (by simp)
          · refine w_true (lt_t (by show -1 < (c1 : Int) - 1; omega)) (ln_e (md_e rfl ⟨(b1, (c1 : Int) - 1) :: fs, p, c, q - 1, ?_, ?_, hc', S⟩))
            · have hx0 := List.getElem?_eq_getElem (show c1 - 1 < v.1.length by omega)
              obtain ⟨w, hw⟩ : ∃ w, v.2[c1 - 1]? = some w := ⟨_, List.getElem?_eq_getElem (by omega)⟩
              have hs := ah_succ hl2 hx0 hw
              rw [show c1 - 1 + 1 = c1 by omega] at hs
              rw [hs] at e3
              simp at e3; omega
            · refine ⟨b1, c1 - 1, fs, r + 1, v, o', by rw [show ((c1 - 1 : Nat) : Int) = (c1 : Int) - 1 by omega], e7, e4, by show c1 - 1 < v.1.length; omega, ?_⟩
              have hx0 := List.getElem?_eq_getElem (show c1 - 1 < v.1.length by omega)
              obtain ⟨w, hw⟩ : ∃ w, v.2[c1 - 1]? = some w := ⟨_, List.getElem?_eq_getElem (by omega)⟩
              have hs := ah_succ hl2 hx0 hw
              show q - 1 + 1 = o' + (ahead v.1 v.2 (c1 - 1 + 1)).length
              rw [show c1 - 1 + 1 = c1 by omega] at hs ⊢
              rw [hs] at e3 ⊢
              simp at e3 ⊢; omega
      · refine w_false (beq_f (by show (m : Int) - 1 ≠ -1; omega)) (md_n rfl ⟨_, p, c, q - 1, by omega, ⟨b, m - 1, fs, 0, u, off, by rw [show ((m - 1 : Nat) : Int) = (m : Int) - 1 by omega], hu, hF, by omega, by show q - 1 + 1 = off + (m - 1 + 1); omega⟩, hcl, S⟩)
    | succ r =>
      refine w_false hkp ?_
      obtain ⟨hb, qq, cc, k1, k2, k3⟩ := f.fw.kd r b u hF
      have hl : u.2.length = u.1.length + 1 := hv.2.1
      have hm : m < u.1.length := hm
      have hq : q + 1 = off + (ahead u.1 u.2 (m + 1)).length := hq
      obtain ⟨v, hv0⟩ : ∃ v, u.2[m]? = some v := ⟨_, List.getElem?_eq_getElem (by omega)⟩
      obtain ⟨kid, g1, g2⟩ := k3 m v hv0
      have hs := ah_succ hl (List.getElem?_eq_getElem hm) hv0
      rw [hs, List.length_append, List.length_append] at hq
      have hvv := hv.2.2 v (List.mem_of_getElem? hv0)
      have hone := f.one
      have hvl := items_le hvv.1
      simp only [List.length_cons, List.length_nil] at hq
      refine ld_some S rfl (w_fp (frs S.pull1) htop (w_nonnil (w_ptr (some (hb, 0)) (k1.now S).rd (w_nonnil (w_sl (some qq, u.2.length, cc) (k2.now S).rd (w_fi (frs S.pull1) htop (w_nonnil (w_guard ⟨by show (0 : Int) ≤ (m : Int); omega, by show (m : Int) < (u.2.length : Int); omega⟩ (ld_bool S rfl ?_)))))))))
      obtain ⟨_, _, _, _, _, i0, _⟩ := (f.fw.nd r kid v g2).nd
      dsimp only
      rw [Int.toNat_natCast]
      refine w_callV (args' := [.c (.addr tr), .c (.addr (qq.1, qq.2 + m)), .c (.bool false)]) rfl (c_isoLoad (b := kid) (g1.now S).rd (i0.now S).rd (f.iso.now S).rd) ?_
      rintro _ h3 ⟨rfl, e⟩
      have e := e.symm
      subst e
      refine w_mid' (some 2) (fun (_ : SV []) h' => ∃ fs' p' c' q', q' + 1 = q ∧ Pos F mn mx t fs' q' ∧ fs'.length ≤ c' ∧ St h G [Ow a (itC tr true ats ate (some p', fs'.length, c') x0) 0, Ow p' (LFr.flat fs'.reverse) ((c' - fs'.length) * LFr.sz)] h') ?_ (fun _ _ hh => md_n rfl hh)
      have S := (S.pull1.close_sl (n := ((b, (m : Int)) :: fs).length) (c := c) (sz := LFr.sz) hc (by rw [LFr.flat_length, List.length_reverse])).pull1
      exact w_right f (q := q - 1) (fs := (b, (m : Int)) :: fs) ⟨u, m, off, rfl, hv0, rfl, hF, hv, hi, hu⟩ (by omega) g2 ⟨by simp, hc, .inr rfl⟩ S fun h' fs' p' c' h1 h2 S => md_e rfl ⟨fs', p', c', q - 1, by omega, h1, h2, S⟩
  clear S
  rintro _ _ ⟨fs', p', c', q', hqq, h1, h2, S⟩
  exact w_tail f h1 S fun h' x hx S => ⟨_, .inl ⟨rfl, fs', x, q', hqq, h1, hx, rfl⟩, shut_it S rfl rfl h2 rfl⟩
end
end Go.Proofs.Ytlmiafbcgfegpaa.MI
