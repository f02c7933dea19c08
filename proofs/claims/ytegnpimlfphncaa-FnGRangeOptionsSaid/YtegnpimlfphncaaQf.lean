/-
  The list of deleted items: what it says in order. Conditions: none.
-/
import Derived.Test.YtegnpimlfphncaaPgQ
import Derived.Test.YtegnpimlfphncaaQc
import Derived.Test.YtegnpimlfphncaaYna
import Derived.Test.YtegnpimlfphncaaTk
import Derived.Test.YtegnpimlfphncaaYkc
set_option linter.unusedVariables false
set_option linter.unusedSimpArgs false
set_option linter.unusedSectionVars false
set_option maxRecDepth 100000
namespace Go.Proofs.Ytegnpimlfphncaa.TG
open Go Go.Proofs.Ytegnpimlfphncaa
section
variable {h h0 : H} {G0 : PA → Prop} {l : List Ck} {Q : Ex → List AV → H → Prop} {iso : Int}
theorem st_spare {P : Program} {p : PA} {vs : List Value} {k j : Nat} (s : St h0 G0 (Ow p vs k :: l) h) (h1 : vs.length ≤ j) (h2 : j < vs.length + k) {c : Cell} {m : M}
    (hw : ∀ h', St h0 G0 (Ow p vs k :: l) h' → wp P m Q h') : wp P (.store (p.1, p.2 + j) c m) Q h := by
  obtain ⟨F, o, _⟩ := s.fact
  refine w_store (o.ok j h2) (hw _ (s.change (a := p) (ws := vs) rfl fun b e o2 => ?_))
  have e : b = p := by rw [e]; rfl
  subst e
  have hf : Fr (rng b (vs.length + k)) h (wr h (b.1, b.2 + j) c.val) := Fr.wr _ ⟨rfl, Nat.le_add_right _ _, by simp; omega⟩
  refine ⟨⟨fun i v hi => ?_, fun i hi => hf.wok (o2.ok i hi)⟩, hf⟩
  have hil := (List.getElem?_eq_some_iff.1 hi).1
  rw [rd_wr_ne _ (fun e => by have := congrArg Prod.snd e; simp at this; omega)]
  exact o2.rd i v hi
set_option maxHeartbeats 1000000 in
theorem c_extractNodeScan {mn mx N : Nat} {f : Value} {K : List KV → Ck} {go : List KV → KV → Bool} (hcb : Cbk Try.prog f argO K go N) (hgo : ∀ acc x, go acc x = true) (hmx : mx ≤ 2147483647) : ∀ (n : Nat) {b : Nat} {t : BT KV n} {h : H} {G : PA → Prop} {acc : List KV},
    Bes (TrC L iso n b t) h G → Val mn mx n t → acc.length + (flatB n t).length ≤ N → Star [K acc] h G →
    HT Try.prog fn_extractNodeScan [.c (.addr (b, 0)), .c (.raw f)] false [.c .bool] h fun r h' => ∃ post, (r = (true, ()) ∧ post = [K (acc ++ flatB n t)]) ∧ St h G post h'
  | 0, b, t, h, G, acc, hT, hv, hlen, hG => by
    apply hc_extractNodeScan
    unfold M_extractNodeScan
    have S := St.start hG
    obtain ⟨hi0, p, c, e2, e3, er⟩ := hT.leaf
    refine w_callT (c_leaf (kp := none) e3) ?_
    rintro _ _ ⟨rfl, rfl⟩
    rename_i h
    refine w_true rfl ?_
    have hil : (itemsB 0 t).length ≤ mx := hv
    have hfl : flatB 0 t = itemsB 0 t := rfl
    rw [hfl] at hlen ⊢
    refine w_bnd (w_lp (fun r y h' => ∃ (i : Nat), y = ((i : Int), ()) ∧ i + r = (itemsB 0 t).length ∧ St h G [K (acc ++ (itemsB 0 t).take i)] h') (itemsB 0 t).length rfl
      ⟨0, rfl, by omega, by rw [List.take_zero, List.append_nil]; exact S⟩ ?_)
    rintro r _ h2 ⟨i, rfl, hi, S⟩
    obtain ⟨hi0, p, c, e2, e3, er⟩ := (hT.all S).leaf
    by_cases hlt : i < (itemsB 0 t).length
    · have hxi := List.getElem?_eq_getElem hlt
      refine w_sl (some p, (itemsB 0 t).length, c) e2 (w_true (lt_t (by (first | omega | ((try dsimp only [Sh.T, Sh1.T]); omega)))) (w_sl (some p, (itemsB 0 t).length, c) e2 (w_nonnil (w_guard ⟨by (first | omega | ((try dsimp only [Sh.T, Sh1.T]); omega)), by (first | omega | ((try dsimp only [Sh.T, Sh1.T]); omega))⟩ ?_))))
      try dsimp only
      rw [Int.toNat_natCast]
      refine w_it er hxi ?_
      refine st_cb S hcb (itemsB 0 t)[i] (by simp; omega) rfl fun h3 S => ?_
      rw [hgo, List.append_assoc, ← List.take_succ_eq_append_getElem hlt] at *
      refine w_false rfl (w_guard (inK64 (by (first | omega | ((try dsimp only [Sh.T, Sh1.T]); omega))) (by (first | omega | ((try dsimp only [Sh.T, Sh1.T]); omega)))) ?_)
      exact ln_n rfl (r - 1) ⟨i + 1, rfl, by omega, S⟩ (by omega)
    · rw [List.take_of_length_le (by omega)] at S
      exact w_sl (some p, (itemsB 0 t).length, c) e2 (w_false (lt_f (by (first | omega | ((try dsimp only [Sh.T, Sh1.T]); omega)))) (ln_e (bd_e rfl (rt_1 rfl ⟨_, ⟨rfl, rfl⟩, S⟩))))
  | n + 1, b, t, h, G, acc, hT, hv, hlen, hG => by
    apply hc_extractNodeScan
    unfold M_extractNodeScan
    have S := St.start hG
    obtain ⟨hi0, p, c, q, d, hb, ks, e2, e3, er, e4, ekl, hk⟩ := hT.node
    obtain ⟨is, ts⟩ := t
    have hl2 : ts.length = is.length + 1 := hv.2.1
    have hil : is.length ≤ mx := hv.1
    refine w_callT (c_leaf (kp := some (hb, 0)) e3) ?_
    rintro _ _ ⟨rfl, rfl⟩
    rename_i h
    refine w_false rfl ?_
    refine w_bnd (w_lp (fun r y h' => ∃ (i : Nat), y = ((i : Int), ()) ∧ i + r = is.length ∧ St h G [K (acc ++ ahead is ts i)] h') is.length rfl
      ⟨0, rfl, by omega, by rw [ah_zero, List.append_nil]; exact S⟩ ?_)
    rintro r _ h2 ⟨i, rfl, hi, S⟩
    obtain ⟨u, hu⟩ : ∃ u, ts[i]? = some u := ⟨_, List.getElem?_eq_getElem (by omega)⟩
    have hmem : u ∈ ts := List.mem_of_getElem? hu
    have hal := ah_len hl2 hu
    obtain ⟨hi0, p, c, q, d, hb, ks, e2, e3, er, e4, ekl, hk⟩ := (hT.all S).node
    dsimp only at e2 er ekl hk
    obtain ⟨kid, k2, k3⟩ := hk i u hu
    by_cases hlt : i < is.length
    · have hxi := List.getElem?_eq_getElem hlt
      have hsuc := ah_succ hl2 hxi hu
      refine w_sl (some p, is.length, c) e2 (w_true (lt_t (by (first | omega | ((try dsimp only [Sh.T, Sh1.T]); omega)))) (w_ptr (some (hb, 0)) e3 (w_nonnil (w_sl (some q, ks, d) e4 (w_nonnil (w_guard ⟨by (first | omega | ((try dsimp only [Sh.T, Sh1.T]); omega)), by (first | omega | ((try dsimp only [Sh.T, Sh1.T]); omega))⟩ ?_))))))
      try dsimp only
      rw [Int.toNat_natCast]
      refine w_ptr (some (kid, 0)) k2 ?_
      refine st_callF S [.ck (K (acc ++ ahead is ts i))] (fun G' hG' hsub => HT.re (args' := [.c (.addr (kid, 0)), .c (.raw f)]) rfl <| c_extractNodeScan hcb hgo hmx n (k3.sub hsub) (hv.2.2 u hmem).1 (by simp; omega) hG') ?_
      rintro _ _ h3 ⟨rfl, rfl⟩ S
      dsimp only [List.cons_append, List.nil_append] at S
      obtain ⟨hi0, p, c, q, d, hb, ks, e2, e3, er, e4, ekl, hk⟩ := (hT.all S).node
      dsimp only at e2 er
      refine w_false rfl (w_sl (some p, is.length, c) e2 (w_nonnil (w_guard ⟨by (first | omega | ((try dsimp only [Sh.T, Sh1.T]); omega)), by (first | omega | ((try dsimp only [Sh.T, Sh1.T]); omega))⟩ ?_)))
      try dsimp only
      refine w_it er hxi ?_
      refine st_cb S hcb is[i] (by simp; omega) rfl fun h4 S => ?_
      rw [hgo]
      refine w_false rfl (w_guard (inK64 (by (first | omega | ((try dsimp only [Sh.T, Sh1.T]); omega))) (by (first | omega | ((try dsimp only [Sh.T, Sh1.T]); omega)))) ?_)
      refine ln_n rfl (r - 1) ⟨i + 1, rfl, by omega, ?_⟩ (by omega)
      rw [hsuc]
      simp only [List.append_assoc] at S ⊢
      exact S
    · have hie : i = is.length := by omega
      subst hie
      refine w_sl (some p, is.length, c) e2 (w_false (lt_f (by (first | omega | ((try dsimp only [Sh.T, Sh1.T]); omega)))) (ln_e (bd_e rfl ?_)))
      have hkq : rd h2 (q.1, q.2 + (ks - 1)) = some (kptr kid) := by rw [show ks - 1 = is.length by omega]; exact k2
      refine w_ptr (some (hb, 0)) e3 (w_nonnil (w_sl (some q, ks, d) e4 (w_ptr (some (hb, 0)) e3 (w_nonnil (w_sl (some q, ks, d) e4 (w_guard (inK64 (by (first | omega | ((try dsimp only [Sh.T, Sh1.T]); omega))) (by (first | omega | ((try dsimp only [Sh.T, Sh1.T]); omega)))) (w_nonnil (w_guard ⟨by (first | omega | ((try dsimp only [Sh.T, Sh1.T]); omega)), by (first | omega | ((try dsimp only [Sh.T, Sh1.T]); omega))⟩ ?_))))))))
      try dsimp only
      rw [toNat_pred]
      refine w_ptr (some (kid, 0)) hkq ?_
      refine st_callF S [.ck (K (acc ++ ahead is ts is.length))] (fun G' hG' hsub => HT.re (args' := [.c (.addr (kid, 0)), .c (.raw f)]) rfl <| c_extractNodeScan hcb hgo hmx n (k3.sub hsub) (hv.2.2 u hmem).1 (by simp; omega) hG') ?_
      rintro _ _ h3 ⟨rfl, rfl⟩ S
      dsimp only [List.cons_append, List.nil_append] at S
      rw [List.append_assoc, ← ah_last hl2 hu] at S
      exact rt_1 rfl ⟨_, ⟨rfl, rfl⟩, S⟩
end
end Go.Proofs.Ytegnpimlfphncaa.TG
set_option linter.unusedVariables false
set_option linter.unusedSimpArgs false
set_option linter.unusedSectionVars false
set_option maxRecDepth 100000
namespace Go.Proofs.Ytegnpimlfphncaa.TG
open Go Go.Proofs.Ytegnpimlfphncaa
section
variable {h h0 : H} {G0 : PA → Prop} {l : List Ck} {Q : Ex → List AV → H → Prop} {iso : Int} {ls : Value} {oc : Ck} {o : List Int}
def LiC (a0 : PA) (V : Value) (cnt : Int) : Ck := ExC (fun _ : Int × SlT => True) fun x => Ow a0 (listC V cnt x.1 x.2) 0
instance pk_li {a0 : PA} {V : Value} {cnt : Int} {r : List Ck} : Pk (.mp a0) (LiC a0 V cnt :: r) (LiC a0 V cnt) r := ⟨.refl _⟩
theorem flE_none {x : KV} : flE (x, none) = [x] := rfl
theorem flE_some {x : KV} {s : Nd} : flE (x, some s) = x :: flatB s.1 s.2.2 := rfl
theorem tsL_mem {q : List El} {e : El} {s : Nd} (he : e ∈ q) (hs : e.2 = some s) : ndC iso s ∈ tsL iso q := List.mem_map.2 ⟨s, List.mem_filterMap.2 ⟨e, he, hs⟩, rfl⟩
set_option maxHeartbeats 4000000 in
theorem c_lScan {mn mx N : Nat} {f : Value} {K : List KV → Ck} {go : List KV → KV → Bool} {a0 : PA} {V : Value} {cnt : Int} {t : SlT} {q Ss : List El} {acc : List KV} (hls : Lss ls oc o) (hs : OwC t q) (hq : Hpq (ltE o) q) (hlen : q.length ≤ 4294967296) (hV : q = [] ∨ V = ls) (hcb : Cbk Try.prog f argO K go N) (hgo : ∀ acc x, go acc x = true) (hmx : mx ≤ 2147483647)
    (hval : ∀ e ∈ q, ∀ s : Nd, e.2 = some s → Val mn mx s.1 s.2.2) (hsum : acc.length + (Ss.flatMap flE).length ≤ N) (hp : q.Perm Ss) (hss : Srt (ltE o) Ss) {G : PA → Prop} (hoc : Bes oc h G) (hG : Star [K acc, Ow a0 (listC V cnt 0 t) 0, SlC t LE.sz (LE.flat q), StC (tsL iso q)] h G) :
    HT Try.prog fn_lg_Scan [.c (.addr a0), .c (.raw f)] true [] h fun _ h' => ∃ post, post = [K (acc ++ Ss.flatMap flE), LiC a0 V cnt] ∧ St h G post h' := by
  apply hc_lg_Scan
  unfold M_lg_Scan
  obtain ⟨t1, t2, t3⟩ := t
  have S := St.start hG
  refine ld_sl S t1 t2 t3 rfl (ld_sl S t1 t2 t3 rfl (w_guard ⟨by omega, by omega⟩ ?_))
  refine w_mid' (some 0) (fun _ h' => St h G [K acc, Ow a0 (listC V cnt 0 (t1, t2, t3)) 0, SlC (t1, t2, t3) LE.sz (LE.flat q), StC (tsL iso q)] h') ?_ ?_
  · refine w_lp (fun r y h' => y = (0, ()) ∧ St h G [K acc, Ow a0 (listC V cnt 0 (t1, t2, t3)) 0, SlC (t1, t2, t3) LE.sz (LE.flat q), StC (tsL iso q)] h') 0 rfl ⟨rfl, S⟩ ?_
    rintro r _ h1 ⟨rfl, S⟩
    exact ld_int S rfl (w_false rfl (ln_e (md_e rfl S)))
  clear S
  rintro _ h1 S
  by_cases hq0 : q = []
  · subst hq0
    obtain rfl := List.nil_perm.1 hp
    refine w_lp (fun r y h' => St h G [K acc, Ow a0 (listC V cnt 0 (t1, t2, t3)) 0, SlC (t1, t2, t3) LE.sz (LE.flat ([] : List El)), StC (tsL iso [])] h') 0 rfl S ?_
    clear S
    rintro r _ h2 S
    refine st_callT S [.ow a0] (fun G hG => HT.re (args' := [.c (.addr a0)]) rfl (c_pop0 hs.1 hG)) ?_
    rintro _ _ _ ⟨rfl, rfl⟩ S
    dsimp only [List.cons_append, List.nil_append] at S
    refine st_alloc S fun n19 _ S => ?_
    refine st_store S (lt_ble rfl) fun _ S => ?_
    refine st_store S (lt_ble rfl) fun _ S => ?_
    refine st_store S (lt_ble rfl) fun _ S => ?_
    have S := S.only [.ck (K acc), .ow a0]
    refine w_true rfl (ln_r (rt_n rfl rfl ⟨_, rfl, ?_⟩))
    rw [List.flatMap_nil, List.append_nil]
    exact (St.ex_in (α := Int × SlT) (φ := fun _ => True) (f := fun x => Ow a0 (listC V cnt x.1 x.2) 0) (0, (t1, t2, t3)) trivial S.pull1).pull1
  have hV := hV.resolve_left hq0
  subst hV
  obtain ⟨p, m, c, htt, hmc, hml, S⟩ := (S.at (.sl (t1, t2, t3))).open_sl (hs.1.2.2.resolve_left hq0)
  obtain ⟨rfl, rfl, rfl⟩ : t1 = some p ∧ t2 = m ∧ t3 = c := by cases htt; exact ⟨rfl, rfl, rfl⟩
  have hmq : t2 = q.length := hs.1.1
  have hcap : t3 < 9223372036854775808 := hs.2
  have hqS := hp.length_eq
  have S := (S.ats [.ow a0, .ow p]).pull2
  have S : St h G (StC (tsL iso q) :: _) h1 := (S.ats [.ck (K acc), .ow a0, .ow p]).pull3
  have S := S.st_out
  have S := S.perm List.perm_append_comm
  obtain ⟨G1, hG1, hB, hsub, hback⟩ := St.cutB (A := [K acc, Ow a0 (listC V cnt 0 (some p, t2, t3)) 0, Ow p (LE.flat q) ((t3 - t2) * LE.sz)]) (B := tsL iso q) S
  have hoc1 := hoc.step S hsub
  refine w_lp (fun r y h' => ∃ (dn rem q' : List El), dn ++ rem = Ss ∧ rem.length = r ∧ q'.Perm rem ∧ Hpq (ltE o) q' ∧ St h1 G1 [K (acc ++ dn.flatMap flE), Ow a0 (listC V cnt ((dn.length : Nat) : Int) (some p, q'.length, t3)) 0, Ow p (LE.flat q') ((t3 - q'.length) * LE.sz)] h') Ss.length rfl
    ⟨[], Ss, q, rfl, rfl, hp, hq, by rw [List.flatMap_nil, List.append_nil, ← hmq]; exact St.start hG1⟩ ?_
  clear S hG1
  rintro r _ h2 ⟨dn, rem, q', hdr, hr, hpr, hq', S⟩
  have hl1 := hpr.length_eq
  have hl2 := congrArg List.length hdr
  rw [List.length_append] at hl2
  cases rem with
  | nil =>
    obtain rfl := List.perm_nil.1 hpr
    refine st_callT S [.ow a0] (fun G hG => HT.re (args' := [.c (.addr a0)]) rfl (c_pop0 (s := (some p, 0, t3)) ⟨rfl, Nat.zero_le _, .inl rfl⟩ hG)) ?_
    rintro _ _ _ ⟨rfl, rfl⟩ S
    dsimp only [List.cons_append, List.nil_append] at S
    refine st_alloc S fun n19 _ S => ?_
    refine st_store S (lt_ble rfl) fun _ S => ?_
    refine st_store S (lt_ble rfl) fun _ S => ?_
    refine st_store S (lt_ble rfl) fun _ S => ?_
    have S := S.only [.ck (K (acc ++ dn.flatMap flE)), .ow a0]
    refine w_true rfl (ln_r (rt_n rfl rfl ⟨_, rfl, ?_⟩))
    rw [List.append_nil] at hdr
    rw [← hdr]
    have S := (St.ex_in (α := Int × SlT) (φ := fun _ => True) (f := fun x => Ow a0 (listC V cnt x.1 x.2) 0) (((dn.length : Nat) : Int), (some p, 0, t3)) trivial S.pull1).pull1
    exact (St.st_in ((hback _ _ S).perm List.perm_append_comm)).drop
  | cons e rem =>
    have hssr : Srt (ltE o) (e :: rem) := by rw [← hdr] at hss; exact (srt_append.1 hss).2.1
    have hm : q'[0]? = some e := hq'.first (ordE o) hpr hssr
    have hein : e ∈ q := hp.mem_iff.2 (by rw [← hdr]; simp)
    have hsum2 : acc.length + ((dn.flatMap flE).length + ((flE e).length + (rem.flatMap flE).length)) ≤ N := by
      rw [← hdr, List.flatMap_append, List.flatMap_cons, List.length_append, List.length_append] at hsum; exact hsum
    rw [List.length_cons] at hl1 hl2
    obtain ⟨x, e2⟩ := e
    have hfe : 1 ≤ (flE (x, e2)).length := by unfold flE; simp
    refine st_callF S [.ow a0, .ow p] (fun G' hG' hsub => HT.re (args' := [.c (.addr a0)]) rfl <| c_pop (n := q'.length) (c := t3) hls hm rfl hq' (by omega) (hoc1.step S hsub) (by omega) hG') ?_
    rintro _ _ h3 ⟨q2, rfl, hq2, hp2, rfl⟩ S
    dsimp only [List.cons_append, List.nil_append] at S
    have hl3 := hp2.length_eq
    rw [List.length_cons] at hl3
    have el : q'.length - 1 = q2.length := by omega
    rw [el] at S
    refine st_alloc S fun n19 _ S => ?_
    refine st_store S (lt_ble rfl) fun _ S => ?_
    refine st_store S (lt_ble rfl) fun _ S => ?_
    refine st_store S (lt_ble rfl) fun _ S => ?_
    refine w_false rfl ?_
    refine ld_sl S (some p) q2.length t3 rfl (ld_sl S (some p) q2.length t3 rfl (w_guard ⟨by omega, by omega⟩ (ld_sl S (some p) q2.length t3 rfl (ld_int S rfl (w_guard (inK64 (by (first | omega | ((try dsimp only [Sh.T, Sh1.T]); omega))) (by (first | omega | ((try dsimp only [Sh.T, Sh1.T]); omega)))) (w_guard (inK64 (by (first | omega | ((try dsimp only [Sh.T, Sh1.T]); omega))) (by (first | omega | ((try dsimp only [Sh.T, Sh1.T]); omega)))) ?_))))))
    refine ld_int S rfl (ld_int S rfl (w_ptr (ptE (x, e2)) (S.rd rfl) ?_))
    have e0 : slBase (some p) t3 0 3 = some p := slBase_zero
    try dsimp only
    rw [e0]
    refine w_nonnil (w_guard ⟨by (first | omega | ((try dsimp only [Sh.T, Sh1.T]); omega)), by (first | omega | ((try dsimp only [Sh.T, Sh1.T]); omega))⟩ ?_)
    have e1 : ((t3 : Int) - (dn.length : Int) - 1).toNat = t3 - dn.length - 1 := by omega
    try dsimp only
    rw [e1]
    simp only [mulN_eq]
    refine st_spare (j := (t3 - dn.length - 1) * 3) (S.at (.ow p)) (by rw [LE.flat_length]; show q2.length * 3 ≤ _; omega) (by rw [LE.flat_length]; show _ < q2.length * 3 + (t3 - q2.length) * 3; omega) fun _ S => ?_
    refine st_spare (j := (t3 - dn.length - 1) * 3 + 1) S (by rw [LE.flat_length]; show q2.length * 3 ≤ _; omega) (by rw [LE.flat_length]; show _ < q2.length * 3 + (t3 - q2.length) * 3; omega) fun _ S => ?_
    refine st_spare (j := (t3 - dn.length - 1) * 3 + 2) S (by rw [LE.flat_length]; show q2.length * 3 ≤ _; omega) (by rw [LE.flat_length]; show _ < q2.length * 3 + (t3 - q2.length) * 3; omega) fun _ S => ?_
    refine ld_int S rfl (w_guard (inK64 (by (first | omega | ((try dsimp only [Sh.T, Sh1.T]); omega))) (by (first | omega | ((try dsimp only [Sh.T, Sh1.T]); omega)))) (st_store S (lt_ble rfl) fun _ S => ?_))
    refine ld_int S rfl (ld_int S rfl ?_)
    refine st_cb (S.at (.ck (K (acc ++ dn.flatMap flE)))) hcb x (by rw [List.length_append]; omega) rfl fun h4 S => ?_
    rw [hgo]
    refine w_false rfl (w_ptr (ptE (x, e2)) (S.rd rfl) ?_)
    refine w_mid' none (fun _ h' => St h1 G1 [K (acc ++ (dn ++ [(x, e2)]).flatMap flE), Ow a0 (listC V cnt (((dn ++ [(x, e2)]).length : Nat) : Int) (some p, q2.length, t3)) 0, Ow p (LE.flat q2) ((t3 - q2.length) * LE.sz)] h') ?_ ?_
    · have S := (S.at (.ow a0)).re a0 (listC V cnt (((dn ++ [(x, e2)]).length : Nat) : Int) (some p, q2.length, t3)) 0 rfl (by simp [listC, Cell.val]) rfl
      have hfl : (dn ++ [(x, e2)]).flatMap flE = dn.flatMap flE ++ flE (x, e2) := by simp
      rw [hfl]
      cases e2 with
      | none =>
        refine w_false rfl (md_n rfl ?_)
        rw [flE_none, ← List.append_assoc]
        exact S.only [.ck (K ((acc ++ dn.flatMap flE) ++ [x])), .ow a0, .ow p]
      | some s =>
        refine w_true rfl (w_ptr (some (s.2.1, 0)) (S.rd rfl) ?_)
        have hb : Bes (TrC L iso s.1 s.2.1 s.2.2) h1 G1 := hB (ndC iso s) (tsL_mem hein rfl)
        rw [flE_some, List.length_cons] at hsum2
        refine st_callF S [.ck (K ((acc ++ dn.flatMap flE) ++ [x]))] (fun G' hG' hsub => HT.re (args' := [.c (.addr (s.2.1, 0)), .c (.raw f)]) rfl <| c_extractNodeScan hcb hgo hmx s.1 (hb.step S hsub) (hval _ hein s rfl) (by rw [List.length_append, List.length_append, List.length_singleton]; omega) hG') ?_
        rintro _ _ h5 ⟨rfl, rfl⟩ S
        dsimp only [List.cons_append, List.nil_append] at S
        refine w_false rfl (md_n rfl ?_)
        have e3 : acc ++ (dn.flatMap flE ++ flE (x, some s)) = ((acc ++ dn.flatMap flE) ++ [x]) ++ flatB s.1 s.2.2 := by rw [flE_some]; simp
        rw [e3]
        exact S.only [.ck (K (((acc ++ dn.flatMap flE) ++ [x]) ++ flatB s.1 s.2.2)), .ow a0, .ow p]
    clear S
    rintro _ _ S
    refine ln_n rfl rem.length ⟨dn ++ [(x, e2)], rem, q2, by rw [← hdr]; simp, rfl, ?_, hq2, S⟩ (by rw [List.length_cons] at hr; omega)
    exact (List.perm_cons _).1 (hp2.trans hpr)
end
end Go.Proofs.Ytegnpimlfphncaa.TG
set_option linter.unusedVariables false
set_option linter.unusedSimpArgs false
set_option linter.unusedSectionVars false
set_option maxRecDepth 100000
namespace Go.Proofs.Ytegnpimlfphncaa.TG
open Go Go.Proofs.Ytegnpimlfphncaa
def M_impl_scanned (a0 : PA) : M :=
 .alloc ty_sl_impl_Item [.sl none (0) (0)] fun n0 =>
 .call fn_impl_taker [.c (.addr (n0, 0)), .c (.int .i64 (0))] false [.c (.raw)] fun r1 =>
 .call fn_lg_Scan [.c (.addr a0), .c (.raw (r1.fst))] true [] fun r2 =>
 .load (n0, 0) (.sl) fun s3 =>
 .done .ret [.c (.sl (s3.fst) (s3.snd.fst) (s3.snd.snd))]
theorem den_impl_scanned (a0 : PA) : denFn Try.prog Try.f20 [.c (.addr a0)] = M_impl_scanned a0 := by kernel_rfl
theorem hc_impl_scanned (a0 : PA) {h : H} {R : Value → H → Prop} (hw : wp Try.prog (M_impl_scanned a0) (Ret R) h) : HC Try.prog fn_impl_scanned (List.map AV.val [.c (.addr a0)]).toArray h R :=
  den_calls hmix Try.func20 (of_decide_eq_true rfl) (by rw [den_impl_scanned]; exact hw)
section
variable {o : List Int} {l : List KV}
theorem srt_nodup (hs : Srt (ltO o) l) : l.Nodup := hs.imp fun {a b} h e => by subst e; rw [(ordO o).irr a] at h; cases h
theorem srt_tri : ∀ {l : List KV}, Srt (ltO o) l → ∀ {a b : KV}, a ∈ l → b ∈ l → a ≠ b → ltO o a b = true ∨ ltO o b a = true
  | [], _, a, _, ha, _, _ => by cases ha
  | c :: l, hs, a, b, ha, hb, hn => by
    obtain ⟨h1, h2⟩ := List.pairwise_cons.1 hs
    rcases List.mem_cons.1 ha with rfl | ha
    · exact .inl (h1 b ((List.mem_cons.1 hb).resolve_left fun h => hn h.symm))
    · by_cases hbc : b = c
      · exact .inr (by rw [hbc]; exact h1 a ha)
      have hb := (List.mem_cons.1 hb).resolve_left hbc
      exact srt_tri h2 ha hb hn
theorem fst_sub : ∀ (q : List El), (q.map fun e => e.1).Sublist (q.flatMap flE)
  | [] => List.Sublist.refl _
  | e :: q => by
    rw [List.map_cons, List.flatMap_cons]
    unfold flE
    rw [List.cons_append]
    exact ((fst_sub q).trans (List.sublist_append_right _ _)).cons_cons _
theorem srt_flat (hs : Srt (ltO o) l) : ∀ {Ss : List El}, Srt (ltE o) Ss → (∀ e ∈ Ss, flE e <:+: l) → (Ss.flatMap flE).Nodup → Srt (ltO o) (Ss.flatMap flE)
  | [], _, _, _ => List.Pairwise.nil
  | e :: Ss, hS, hi, hn => by
    obtain ⟨h1, h2⟩ := List.pairwise_cons.1 hS
    rw [List.flatMap_cons] at hn ⊢
    have hei := hi e (by simp)
    refine srt_append.2 ⟨hs.sublist hei.sublist, srt_flat hs h2 (fun e he => hi e (List.mem_cons_of_mem _ he)) (List.nodup_append.1 hn).2.1, fun a ha b hb => ?_⟩
    obtain ⟨e2, he2, hb2⟩ := List.mem_flatMap.1 hb
    have hlt : ltO o e.1 e2.1 = true := h1 e2 he2
    have hf2 : e2.1 ∈ flE e2 := by unfold flE; simp
    have hi2 := hi e2 (List.mem_cons_of_mem _ he2)
    have hnot : e2.1 ∉ flE e := fun hm => (List.nodup_append.1 hn).2.2 _ hm _ (List.mem_flatMap.2 ⟨e2, he2, hf2⟩) rfl
    have hml : e2.1 ∈ l := hi2.sublist.subset hf2
    obtain ⟨A, B, hAB⟩ := hei
    have hs' := hs
    rw [← hAB] at hs' hml
    have hae : ltO o a e2.1 = true := by
      rcases List.mem_append.1 hml with hm | hm
      · rcases List.mem_append.1 hm with hm | hm
        · have hm2 := (srt_append.1 (srt_append.1 hs').1).2.2 _ hm e.1 (by unfold flE; simp)
          rw [(ordO o).asym hm2] at hlt; cases hlt
        · exact absurd hm hnot
      · exact (srt_append.1 hs').2.2 a (List.mem_append.2 (.inr ha)) _ hm
    have hs2 := hs.sublist hi2.sublist
    unfold flE at hb2 hs2
    rcases List.mem_cons.1 hb2 with rfl | hb2
    · exact hae
    · exact (ordO o).tr _ _ _ hae ((List.pairwise_cons.1 hs2).1 b hb2)
def rmO (o : List Int) (mi ext : Bool) (l : List KV) (kept : KV → Bool) : List KV := if ext then l.filter fun a => !kept a else []
theorem qv_list {dg : Nat} {ext : Bool} {q : List El} {kept : KV → Bool} {mi : Bool} (hs : Srt (ltO o) l) (qv : Qv o dg ext l (l.filter kept) q) : ∃ Ss : List El, q.Perm Ss ∧ Srt (ltE o) Ss ∧ Ss.flatMap flE = rmO o mi ext l kept ∧ cntQ q = ((rmO o mi ext l kept).length : Int) := by
  cases hext : ext with
  | false =>
    have hq := qv.no hext
    subst hq
    exact ⟨[], List.Perm.refl _, List.Pairwise.nil, rfl, rfl⟩
  | true =>
    have hp := qv.pm hext
    have hnl := srt_nodup hs
    have hnq : (q.flatMap flE).Nodup := (List.nodup_append.1 (hp.nodup_iff.2 hnl)).2.1
    obtain ⟨Ss, hSs⟩ : ∃ Ss, Ss = q.mergeSort (fun a b => !ltE o b a) := ⟨_, rfl⟩
    have hpS : Ss.Perm q := by rw [hSs]; exact List.mergeSort_perm _ _
    have hnS : (Ss.flatMap flE).Nodup := (List.Perm.flatMap_right flE hpS).nodup_iff.2 hnq
    have hfS : Ss.Pairwise fun a b => a.1 ≠ b.1 := by
      have := hnS.sublist (fst_sub Ss)
      exact List.pairwise_map.1 this
    have hle : Ss.Pairwise fun a b => (!ltE o b a) = true := by
      rw [hSs]
      refine List.pairwise_mergeSort (fun a b c h1 h2 => ?_) (fun a b => ?_) q
      · simp only [Bool.not_eq_true'] at h1 h2 ⊢
        exact (ordE o).neg c b a h2 h1
      · cases hq : ltE o b a with
        | false => rfl
        | true => rw [(ordE o).asym hq]; rfl
    have hin : ∀ e ∈ Ss, flE e <:+: l := fun e he => qv.inf e (hpS.subset he)
    have hf1 : ∀ e : El, e.1 ∈ flE e := fun e => by unfold flE; simp
    have hsS : Srt (ltE o) Ss := (hle.and hfS).imp_of_mem fun {a b} ha hb hab => by
      have h1 := (hin a ha).sublist.subset (hf1 a)
      have h2 := (hin b hb).sublist.subset (hf1 b)
      rcases srt_tri hs h1 h2 hab.2 with h | h
      · exact h
      · have h3 := hab.1
        have h : ltE o b a = true := h
        rw [h] at h3; cases h3
    have hpl : (Ss.flatMap flE).Perm (l.filter fun a => !kept a) := by
      have h1 := (List.Perm.flatMap_right flE hpS).append_left (l.filter kept)
      have h2 := (h1.trans hp).trans (List.filter_append_perm kept l).symm
      exact (List.perm_append_left_iff _).1 h2
    have heq : Ss.flatMap flE = l.filter fun a => !kept a := perm_srt (ordO o) (srt_flat hs hsS hin hnS) (hs.sublist (List.filter_sublist)) hpl
    refine ⟨Ss, hpS.symm, hsS, heq, ?_⟩
    show ((q.flatMap flE).length : Int) = ((l.filter fun a => !kept a).length : Int)
    rw [← heq, (List.Perm.flatMap_right flE hpS).length_eq]
end
section
variable {h : H} {iso : Int} {ls : Value} {oc : Ck} {o : List Int}
theorem c_LenQ {a0 : PA} {V : Value} {cnt : Int} {G : PA → Prop} (hG : Star [LiC a0 V cnt] h G) :
    HT Try.prog fn_lg_Len [.c (.addr a0)] false [.c (.int .i64)] h fun r h' => ∃ post, (r = (cnt, ()) ∧ post = [LiC a0 V cnt]) ∧ St h G post h' := by
  obtain ⟨x, hx, S⟩ := (St.start hG).ex_out
  apply hc_lg_Len
  unfold M_lg_Len
  have S : St h G [Ow a0 (listC V cnt x.1 x.2) 0] h := S
  exact ld_int S rfl (rt_1 rfl ⟨_, ⟨rfl, rfl⟩, St.ex_in (α := Int × SlT) x trivial S⟩)
theorem c_scanned {mn mx : Nat} {a0 : PA} {V : Value} {cnt : Int} {t : SlT} {q Ss : List El} (hls : Lss ls oc o) (hs : OwC t q) (hq : Hpq (ltE o) q) (hlen : q.length ≤ 4294967296) (hV : q = [] ∨ V = ls) (hmx : mx ≤ 2147483647)
    (hval : ∀ e ∈ q, ∀ s : Nd, e.2 = some s → Val mn mx s.1 s.2.2) (hsum : (Ss.flatMap flE).length ≤ 4294967296) (hp : q.Perm Ss) (hss : Srt (ltE o) Ss) {G : PA → Prop} (hoc : Bes oc h G) (hG : Star [Ow a0 (listC V cnt 0 t) 0, SlC t LE.sz (LE.flat q), StC (tsL iso q)] h G) :
    HT Try.prog fn_impl_scanned [.c (.addr a0)] false [.c .sl] h fun r h' => ∃ post, (∃ s : SlT, r = (s, ()) ∧ OwnL LT s (Ss.flatMap flE) ∧ post = [SlC s LT.sz (LT.flat (Ss.flatMap flE)), LiC a0 V cnt]) ∧ St h G post h' := by
  apply hc_impl_scanned
  unfold M_impl_scanned
  refine st_alloc (St.start hG) fun n0 _ S => ?_
  refine st_callT S [] (fun G hG => c_taker (l := []) hG) ?_
  rintro _ _ _ ⟨a, b, rfl, rfl⟩ S
  dsimp only [List.cons_append, List.nil_append] at S
  have S := shut_tk (n := 0) (acc := []) (s := (none, 0, 0)) ⟨rfl, Nat.le_refl _, .inl rfl⟩ ((sl_nil LT S).ats [.ow (n0, 0), .ow (a, 0), .ow (b, 0), .sl (none, 0, 0)])
  have S := S.ats [.ck (TkC (n0, 0) (a, 0) (b, 0) 0 []), .ow a0, .sl t]
  refine st_callF S [.ck (TkC (n0, 0) (a, 0) (b, 0) 0 []), .ow a0, .sl t, .ck (StC (tsL iso q))] (fun G' hG' hsub => HT.re (args' := [.c (.addr a0), .c (.raw (tkF (a, 0) (b, 0)))]) rfl <| c_lScan (acc := []) (N := 4294967296) hls hs hq hlen hV (cb_taker (n := 0)) (fun acc x => by simp [goN]) hmx hval (by simpa using hsum) hp hss (hoc.step S hsub) hG') ?_
  rintro _ _ _ rfl S
  dsimp only [List.cons_append, List.nil_append] at S
  obtain ⟨s, hs', S⟩ := open_tk S
  refine ld_sl S s.1 s.2.1 s.2.2 rfl ?_
  exact rt_1 rfl ⟨_, ⟨s, rfl, hs', rfl⟩, S.only [.sl s, .mp a0]⟩
end
end Go.Proofs.Ytegnpimlfphncaa.TG
