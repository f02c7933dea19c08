/-
  The tree of items with a word about its shape; an item deleted. Conditions: none.
-/
import Derived.Test.YtegnpimlfphncaaPgD
import Derived.Test.YtegnpimlfphncaaYdf
set_option linter.unusedVariables false
set_option linter.unusedSimpArgs false
set_option linter.unusedSectionVars false
set_option maxRecDepth 100000
namespace Go.Proofs.Ytegnpimlfphncaa.TG
open Go Go.Proofs.Ytegnpimlfphncaa
def MqC (ls : Value) (o : List Int) (iso : Int) (dg : Nat) (a0 : PA) (l : List KV) (Pt : (n : Nat) → BT KV n → Prop) : Ck where
  p h F := (∃ ctr mn mx, l = [] ∧ (mn = 0 ∧ mx = 0 ∧ dg = 31 ∨ mn = dg ∧ mx = 2 * dg + 1 ∧ Good mn mx) ∧ Star [Ow a0 (mapC ls iso ctr none 0 mn mx false false) 0] h F) ∨
    (∃ ctr n b, ∃ t : BT KV n, flatB n t = l ∧ Srt (ltO o) l ∧ Val dg (2 * dg + 1) n t ∧ 1 ≤ (itemsB n t).length ∧ Good dg (2 * dg + 1) ∧ Pt n t ∧ Star [Ow a0 (mapC ls iso ctr (some (b, 0)) l.length dg (2 * dg + 1) false false) 0, TrC L iso n b t] h F)
  out := fun hp f d => hp.imp (fun ⟨ctr, mn, mx, h1, h2, h3⟩ => ⟨ctr, mn, mx, h1, h2, h3.out f d⟩) (fun ⟨ctr, n, b, t, h1, h2, h3, h4, h5, h7, h6⟩ => ⟨ctr, n, b, t, h1, h2, h3, h4, h5, h7, h6.out f d⟩)
  lt := fun hp x hx => hp.elim (fun ⟨_, _, _, _, _, h3⟩ => h3.lt x hx) (fun ⟨_, _, _, _, _, _, _, _, _, _, h6⟩ => h6.lt x hx)
instance pk_mq {ls : Value} {o : List Int} {iso : Int} {dg : Nat} {a0 : PA} {l : List KV} {Pt : (n : Nat) → BT KV n → Prop} {r : List Ck} : Pk (.mp a0) (MqC ls o iso dg a0 l Pt :: r) (MqC ls o iso dg a0 l Pt) r := ⟨.refl _⟩
section
variable {ls : Value} {oc : Ck} {o : List Int} {hp : Option PA} {h h0 : H} {G0 : PA → Prop} {r : List Ck} {Pt : (n : Nat) → BT KV n → Prop}
theorem open_mq {iso : Int} {dg : Nat} {a0 : PA} {l : List KV} (s : St h0 G0 (MqC ls o iso dg a0 l Pt :: r) h) :
    (∃ ctr mn mx, l = [] ∧ (mn = 0 ∧ mx = 0 ∧ dg = 31 ∨ mn = dg ∧ mx = 2 * dg + 1 ∧ Good mn mx) ∧ St h0 G0 (Ow a0 (mapC ls iso ctr none 0 mn mx false false) 0 :: r) h) ∨
    (∃ ctr n b, ∃ t : BT KV n, flatB n t = l ∧ Srt (ltO o) l ∧ Val dg (2 * dg + 1) n t ∧ 1 ≤ (itemsB n t).length ∧ Good dg (2 * dg + 1) ∧ Pt n t ∧ St h0 G0 (Ow a0 (mapC ls iso ctr (some (b, 0)) l.length dg (2 * dg + 1) false false) 0 :: TrC L iso n b t :: r) h) := by
  obtain ⟨F, hF⟩ := s.fact
  rcases hF with ⟨ctr, mn, mx, h1, h2, h3⟩ | ⟨ctr, n, b, t, h1, h2, h3, h4, h5, h7, h6⟩
  · obtain ⟨x, hx, s⟩ := St.turnE (α := Option PA × Nat × Nat) (l := [_]) (l' := fun x => [Ow a0 (mapC ls iso x.1 none 0 x.2.1 x.2.2 false false) 0]) (φ := fun x => l = [] ∧ (x.2.1 = 0 ∧ x.2.2 = 0 ∧ dg = 31 ∨ x.2.1 = dg ∧ x.2.2 = 2 * dg + 1 ∧ Good x.2.1 x.2.2)) s (fun F hF => by
      obtain ⟨F1, F2, g1, g2, g3, g4⟩ := hF
      rcases g1 with ⟨ctr, mn, mx, h1, h2, h3⟩ | ⟨ctr, n, b, t, k1, k2, k3, k4, k5, k7, k6⟩
      · exact ⟨(ctr, mn, mx), ⟨h1, h2⟩, h3.iff fun x => by rw [g4]; exact ⟨.inl, fun hx => hx.elim id fun hn => (g2 x hn).elim⟩⟩
      · have : (itemsB n t).length ≤ 0 := by
          have := items_le k3
          rw [k1, h1] at this; exact this
        omega)
    exact .inl ⟨x.1, x.2.1, x.2.2, hx.1, hx.2, s⟩
  · obtain ⟨x, hx, s⟩ := St.turnE (α := Option PA × (Σ n, BT KV n) × Nat) (l := [_]) (l' := fun x => [Ow a0 (mapC ls iso x.1 (some (x.2.2, 0)) l.length dg (2 * dg + 1) false false) 0, TrC L iso x.2.1.1 x.2.2 x.2.1.2])
      (φ := fun x => flatB x.2.1.1 x.2.1.2 = l ∧ Srt (ltO o) l ∧ Val dg (2 * dg + 1) x.2.1.1 x.2.1.2 ∧ 1 ≤ (itemsB x.2.1.1 x.2.1.2).length ∧ Good dg (2 * dg + 1) ∧ Pt x.2.1.1 x.2.1.2) s (fun F hF => by
      obtain ⟨F1, F2, g1, g2, g3, g4⟩ := hF
      rcases g1 with ⟨ctr, mn, mx, k1, k2, k3⟩ | ⟨ctr, n, b, t, k1, k2, k3, k4, k5, k7, k6⟩
      · have : (itemsB _ t).length ≤ 0 := by
          have := items_le h3
          rw [h1, k1] at this; exact this
        omega
      · exact ⟨(ctr, ⟨n, t⟩, b), ⟨k1, k2, k3, k4, k5, k7⟩, k6.iff fun x => by rw [g4]; exact ⟨.inl, fun hx => hx.elim id fun hn => (g2 x hn).elim⟩⟩)
    exact .inr ⟨x.1, x.2.1.1, x.2.2, x.2.1.2, hx.1, hx.2.1, hx.2.2.1, hx.2.2.2.1, hx.2.2.2.2.1, hx.2.2.2.2.2, s⟩
theorem shut_mq0 {iso : Int} {dg mn mx : Nat} {a0 : PA} {ctr : Option PA} (s : St h0 G0 (Ow a0 (mapC ls iso ctr none 0 mn mx false false) 0 :: r) h) (hg : mn = 0 ∧ mx = 0 ∧ dg = 31 ∨ mn = dg ∧ mx = 2 * dg + 1 ∧ Good mn mx) : St h0 G0 (MqC ls o iso dg a0 [] Pt :: r) h :=
  s.turn (l := [_]) (l' := [_]) fun F hF => star_one (c := MqC ls o iso dg a0 [] Pt) (.inl ⟨ctr, mn, mx, rfl, hg, hF⟩)
theorem shut_mq {iso : Int} {dg n b : Nat} {a0 : PA} {ctr : Option PA} {t : BT KV n} {l : List KV} {ws : List Value} (s : St h0 G0 (Ow a0 ws 0 :: TrC L iso n b t :: r) h) (hw : ws = mapC ls iso ctr (some (b, 0)) l.length dg (2 * dg + 1) false false)
    (hl : flatB n t = l) (hs : Srt (ltO o) l) (hv : Val dg (2 * dg + 1) n t) (hi : 1 ≤ (itemsB n t).length) (hg : Good dg (2 * dg + 1)) (hP : Pt n t) : St h0 G0 (MqC ls o iso dg a0 l Pt :: r) h := by
  subst hw
  exact s.turn (l := [_, _]) (l' := [_]) fun F hF => star_one (c := MqC ls o iso dg a0 l Pt) (.inr ⟨ctr, n, b, t, hl, hs, hv, hi, hg, hP, hF⟩)
theorem mp_mq {iso : Int} {dg : Nat} {a0 : PA} {l : List KV} (hP : ∀ n (t : BT KV n), flatB n t = l → Val dg (2 * dg + 1) n t → Pt n t) (s : St h0 G0 (MpC ls o iso dg a0 l :: r) h) : St h0 G0 (MqC ls o iso dg a0 l Pt :: r) h := by
  rcases open_map s with ⟨ctr, mn, mx, rfl, hg, s⟩ | ⟨ctr, n, b, t, rfl, hs, hv, hi, hg, s⟩
  · exact shut_mq0 s hg
  · exact shut_mq s rfl rfl hs hv hi hg (hP n t rfl hv)
set_option maxHeartbeats 2000000 in
theorem c_deleteHintG {Cp : List KV → Prop} (hC : Icl Cp) {a0 : PA} {iso : Int} {dg : Nat} {l : List KV} {k : KV} (hh : HsOK hp) (hls : Lss ls oc o) (hl : l.length ≤ 4294967295) {G : PA → Prop} (hoc : Bes oc h G) (hG : Star [MqC ls o iso dg a0 l (fun n t => Gd Cp (fun a => ltO o a k = false) n t), HtC hp] h G) :
    HT Try.prog fn_tg_deleteHint [.c (.addr a0), .agg [.int .i64 k.1, .int .i64 k.2], .c (.ptr hp)] true [.agg [.int .i64, .int .i64], .c .bool] h fun x h' => ∃ post, (x = itR (fnd (ltO o) l k) ∧ post = [MqC ls o iso dg a0 (del (ltO o) l k) (fun n t => Gd Cp (fun a => ltO o k a = true) n t), HtC hp]) ∧ St h G post h' := by
  apply hc_tg_deleteHint
  unfold M_tg_deleteHint
  refine st_alloc (St.start hG) fun n0 _ S => ?_
  refine st_alloc S fun n1 _ S => ?_
  rcases open_mq (S.at (.mp a0)) with ⟨ctr, mn, mx, rfl, hg, S⟩ | ⟨ctr, n, b, t, rfl, hs, hv, hi, hg, hP, S⟩
  · repeat (first | refine w_nonnil ?_ | refine ld_int S rfl ?_ | refine ld_some S rfl ?_ | refine ld_ptr S _ rfl ?_ | refine ld_sls S rfl ?_ | refine st_store S (lt_ble rfl) fun _ S => ?_ | refine st_alloc S fun _ _ S => ?_ | refine st_held S rfl ?_ | refine w_guard (by (first | exact inK64 (by omega) (by omega) | omega | (constructor <;> omega) | ((try dsimp only [Sh.T, Sh1.T]); first | exact inK64 (by omega) (by omega) | omega | exact ⟨by decide, inK64 (by omega) (by omega)⟩ | trivial))) ?_ | refine bd_n rfl ?_ | refine w_true (b := true) rfl ?_ | refine w_false (b := false) rfl ?_ | refine w_guard (show noMeths _ _ by show _ = _; kernel_rfl) ?_ | (refine w_callT (c_leafp (kp := none) (S.rd rfl)) ?_; rintro _ _ ⟨rfl, rfl⟩) | (refine w_callT (c_leafp (kp := some _) (S.rd rfl)) ?_; rintro _ _ ⟨rfl, rfl⟩) | (refine w_callT (c_leafp (S.rd rfl)) ?_; rintro _ _ ⟨rfl, rfl⟩) )
    exact rt_n rfl rfl ⟨_, ⟨rfl, rfl⟩, (shut_mq0 (S.at (.ow a0)) hg).only [.mp a0, .ck (HtC hp)]⟩
  · obtain ⟨hmx, hmn, hmb⟩ := hg
    have hnl := ht_le hmn n t hv hi
    have S := S.ats [.ow a0, .tr b, .ck (HtC hp), .ow (n0, 0), .ow (n1, 0)]
    refine ld_some S rfl (w_false rfl ?_)
    refine w_mid' none (fun (x : SV [.c .bool, .c .addr]) h' => ∃ (nn : Nat) (t' : BT KV n) (w : KV), x = ((fnd (ltO o) (flatB n t) k).isSome, (nn, 0), ()) ∧
      (fnd (ltO o) (flatB n t) k = none ∧ t' = t ∨ ∃ y, fnd (ltO o) (flatB n t) k = some y ∧ w = y ∧ flatB n t' = del (ltO o) (flatB n t) k ∧ Val dg (2 * dg + 1) n t' ∧ (itemsB n t).length ≤ (itemsB n t').length + 1 ∧ GdX o k n t t') ∧
      St h G [Ow (nn, 0) (L.cells w) 0, Ow a0 (mapC ls iso ctr (some (b, 0)) (flatB n t).length dg (2 * dg + 1) false false) 0, TrC L iso n b t', HtC hp, Ow (n1, 0) (L.cells (0, 0)) 0] h') ?_ ?_
    · refine ld_int S rfl (ld_int S rfl (w_both ?_ ?_))
      · refine st_callF S [.ow a0, .tr b, .ck (HtC hp)] (fun G' hG' hsub => c_delete hls rfl hmn (by omega) n hp 0 t false k hh (by omega) hv hi hs (by omega) _ b (a0.1, a0.2 + 2) G' (S.rd rfl) (hoc.step S hsub) hG') ?_
        rintro _ _ h3 ⟨t', rfl, hcase⟩ S
        dsimp only [List.cons_append, List.nil_append] at S
        rcases hcase with ⟨hno, rfl, rfl⟩ | ⟨y, hy, rfl, hfl, hv', hil, hgx⟩
        · have hno : fnd (ltO o) (flatB n t') k = none := hno
          refine st_alloc S fun nn _ S => ?_
          refine st_store S (lt_ble rfl) fun _ S => ?_
          refine st_store S (lt_ble rfl) fun _ S => ?_
          exact md_n rfl ⟨nn, t', (0, 0), by rw [hno]; rfl, .inl ⟨hno, rfl⟩, S.only [.ow (nn, 0), .ow a0, .tr b, .ck (HtC hp), .ow (n1, 0)]⟩
        · have hy : fnd (ltO o) (flatB n t) k = some y := hy
          refine st_alloc S fun nn _ S => ?_
          refine st_store S (lt_ble rfl) fun _ S => ?_
          refine st_store S (lt_ble rfl) fun _ S => ?_
          exact md_n rfl ⟨nn, t', y, by rw [hy]; rfl, .inr ⟨y, hy, rfl, hfl, hv', hil, hgx rfl⟩, S.only [.ow (nn, 0), .ow a0, .tr b, .ck (HtC hp), .ow (n1, 0)]⟩
      · refine st_alloc S fun nn _ S => ?_
        refine st_held S rfl (st_held S rfl ?_)
        refine st_callF S [.ow a0, .tr b, .ck (HtC hp)] (fun G' hG' hsub => c_delete hls rfl hmn (by omega) n hp 0 t false k hh (by omega) hv hi hs (by omega) _ b (a0.1, a0.2 + 2) G' (S.rd rfl) (hoc.step S hsub) hG') ?_
        rintro _ _ h3 ⟨t', rfl, hcase⟩ S
        dsimp only [List.cons_append, List.nil_append] at S
        rcases hcase with ⟨hno, rfl, rfl⟩ | ⟨y, hy, rfl, hfl, hv', hil, hgx⟩
        · have hno : fnd (ltO o) (flatB n t') k = none := hno
          refine st_store S (lt_ble rfl) fun _ S => ?_
          refine st_store S (lt_ble rfl) fun _ S => ?_
          exact md_n rfl ⟨nn, t', (0, 0), by rw [hno]; rfl, .inl ⟨hno, rfl⟩, S.only [.ow (nn, 0), .ow a0, .tr b, .ck (HtC hp), .ow (n1, 0)]⟩
        · have hy : fnd (ltO o) (flatB n t) k = some y := hy
          refine st_store S (lt_ble rfl) fun _ S => ?_
          refine st_store S (lt_ble rfl) fun _ S => ?_
          exact md_n rfl ⟨nn, t', y, by rw [hy]; rfl, .inr ⟨y, hy, rfl, hfl, hv', hil, hgx rfl⟩, S.only [.ow (nn, 0), .ow a0, .tr b, .ck (HtC hp), .ow (n1, 0)]⟩
    clear S
    rintro _ h3 ⟨n3, t', w, rfl, ⟨hno, rfl⟩ | ⟨y, hy, rfl, hfl, hv', hil, hgx⟩, S⟩
    · rw [hno]
      refine w_true rfl ?_
      repeat (first | refine w_nonnil ?_ | refine ld_int S rfl ?_ | refine ld_some S rfl ?_ | refine ld_ptr S _ rfl ?_ | refine ld_sls S rfl ?_ | refine st_store S (lt_ble rfl) fun _ S => ?_ | refine st_alloc S fun _ _ S => ?_ | refine st_held S rfl ?_ | refine w_guard (by (first | exact inK64 (by omega) (by omega) | omega | (constructor <;> omega) | ((try dsimp only [Sh.T, Sh1.T]); first | exact inK64 (by omega) (by omega) | omega | exact ⟨by decide, inK64 (by omega) (by omega)⟩ | trivial))) ?_ | refine bd_n rfl ?_ | refine w_true (b := true) rfl ?_ | refine w_false (b := false) rfl ?_ | refine w_guard (show noMeths _ _ by show _ = _; kernel_rfl) ?_ | (refine w_callT (c_leafp (kp := none) (S.rd rfl)) ?_; rintro _ _ ⟨rfl, rfl⟩) | (refine w_callT (c_leafp (kp := some _) (S.rd rfl)) ?_; rintro _ _ ⟨rfl, rfl⟩) | (refine w_callT (c_leafp (S.rd rfl)) ?_; rintro _ _ ⟨rfl, rfl⟩) )
      refine rt_n rfl rfl ⟨_, ⟨rfl, rfl⟩, (shut_mq (S.ats [.ow a0, .tr b]) (by rw [del_none hno]) (by rw [del_none hno]) (by rw [del_none hno]; exact hs) hv hi ⟨hmx, hmn, hmb⟩ (gd_mono hv (fun a _ h => ob_le h) hP)).only [.mp a0, .ck (HtC hp)]⟩
    · have hdl := rmv_len (o := o) (m := false) hy
      have hdl : (del (ltO o) (flatB n t) k).length + 1 = (flatB n t).length := hdl
      have hds := del_srt hs k
      have hP' := hgx Cp hC hP
      rw [hy]
      refine w_false rfl ?_
      refine w_mid' none (fun x h' => x = (decide ((itemsB n t').length = 0) && !Nat.beq n 0, ()) ∧ St h G [Ow (n3, 0) (L.cells w) 0, Ow a0 (mapC ls iso ctr (some (b, 0)) (flatB n t).length dg (2 * dg + 1) false false) 0, TrC L iso n b t', HtC hp, Ow (n1, 0) (L.cells (0, 0)) 0] h') ?_ ?_
      · repeat (first | refine w_nonnil ?_ | refine ld_int S rfl ?_ | refine ld_some S rfl ?_ | refine ld_ptr S _ rfl ?_ | refine ld_sls S rfl ?_ | refine st_store S (lt_ble rfl) fun _ S => ?_ | refine st_alloc S fun _ _ S => ?_ | refine st_held S rfl ?_ | refine w_guard (by (first | exact inK64 (by omega) (by omega) | omega | (constructor <;> omega) | ((try dsimp only [Sh.T, Sh1.T]); first | exact inK64 (by omega) (by omega) | omega | exact ⟨by decide, inK64 (by omega) (by omega)⟩ | trivial))) ?_ | refine bd_n rfl ?_ | refine w_true (b := true) rfl ?_ | refine w_false (b := false) rfl ?_ | refine w_guard (show noMeths _ _ by show _ = _; kernel_rfl) ?_ | (refine w_callT (c_leafp (kp := none) (S.rd rfl)) ?_; rintro _ _ ⟨rfl, rfl⟩) | (refine w_callT (c_leafp (kp := some _) (S.rd rfl)) ?_; rintro _ _ ⟨rfl, rfl⟩) | (refine w_callT (c_leafp (S.rd rfl)) ?_; rintro _ _ ⟨rfl, rfl⟩) )
        obtain ⟨p, c, hci⟩ := S.itm b
        obtain ⟨kp, hkp, hkn⟩ := S.kp L iso b
        refine w_sl (some p, (itemsB n t').length, c) hci ?_
        by_cases h0 : (itemsB n t').length = 0
        · refine w_true (beq_t (by (first | omega | ((try dsimp only [Sh.T, Sh1.T]); omega)))) ?_
          repeat (first | refine w_nonnil ?_ | refine ld_int S rfl ?_ | refine ld_some S rfl ?_ | refine ld_ptr S _ rfl ?_ | refine ld_sls S rfl ?_ | refine st_store S (lt_ble rfl) fun _ S => ?_ | refine st_alloc S fun _ _ S => ?_ | refine st_held S rfl ?_ | refine w_guard (by (first | exact inK64 (by omega) (by omega) | omega | (constructor <;> omega) | ((try dsimp only [Sh.T, Sh1.T]); first | exact inK64 (by omega) (by omega) | omega | exact ⟨by decide, inK64 (by omega) (by omega)⟩ | trivial))) ?_ | refine bd_n rfl ?_ | refine w_true (b := true) rfl ?_ | refine w_false (b := false) rfl ?_ | refine w_guard (show noMeths _ _ by show _ = _; kernel_rfl) ?_ | (refine w_callT (c_leafp (kp := none) (S.rd rfl)) ?_; rintro _ _ ⟨rfl, rfl⟩) | (refine w_callT (c_leafp (kp := some _) (S.rd rfl)) ?_; rintro _ _ ⟨rfl, rfl⟩) | (refine w_callT (c_leafp (S.rd rfl)) ?_; rintro _ _ ⟨rfl, rfl⟩) )
          refine w_callT (c_leafp hkp) ?_
          rintro _ _ ⟨rfl, rfl⟩
          exact md_n rfl ⟨by rw [hkn, h0]; rfl, S⟩
        · refine w_false (beq_f (by (first | omega | ((try dsimp only [Sh.T, Sh1.T]); omega)))) (md_n rfl ⟨by rw [decide_eq_false h0]; rfl, S⟩)
      rintro _ h4 ⟨rfl, S⟩
      refine w_mid' none (fun x h' => ∃ (n' b' : Nat) (u : BT KV n'), flatB n' u = del (ltO o) (flatB n t) k ∧ Val dg (2 * dg + 1) n' u ∧ (1 ≤ (itemsB n' u).length ∨ n' = 0) ∧ Gd Cp (fun a => ltO o k a = true) n' u ∧
        St h G [Ow (n3, 0) (L.cells w) 0, Ow a0 (mapC ls iso ctr (some (b', 0)) (flatB n t).length dg (2 * dg + 1) false false) 0, TrC L iso n' b' u, HtC hp, Ow (n1, 0) (L.cells (0, 0)) 0] h') ?_ ?_
      · by_cases h0 : (itemsB n t').length = 0 ∧ n ≠ 0
        · obtain ⟨h0, hn0⟩ := h0
          refine w_true (by rw [decide_eq_true h0]; cases n <;> simp_all [Nat.beq]) ?_
          cases n with
          | zero => exact absurd rfl hn0
          | succ n =>
            obtain ⟨xs, ts⟩ := t'
            have h0 : xs.length = 0 := h0
            obtain rfl : xs = [] := List.length_eq_zero_iff.1 h0
            have htl : ts.length = 1 := hv'.2.1
            obtain ⟨u, rfl⟩ := List.length_eq_one_iff.1 htl
            obtain ⟨gu, gi⟩ := hv'.2.2 u (by simp)
            obtain ⟨p, c, kp, hc, _, S⟩ := open_nd L iso (S.at (.tr b))
            obtain ⟨hb, q, d, ks, rfl, hd, hkl, S⟩ := open_kids L iso (S.at (.kd kp))
            have hkl : ks.length = 1 := hkl
            obtain ⟨kk, rfl⟩ := List.length_eq_one_iff.1 hkl
            have S := fo_uncons L iso (S.at (.fo [kk]))
            repeat (first | refine w_nonnil ?_ | refine ld_int S rfl ?_ | refine ld_some S rfl ?_ | refine ld_ptr S _ rfl ?_ | refine ld_sls S rfl ?_ | refine st_store S (lt_ble rfl) fun _ S => ?_ | refine st_alloc S fun _ _ S => ?_ | refine st_held S rfl ?_ | refine w_guard (by (first | exact inK64 (by omega) (by omega) | omega | (constructor <;> omega) | ((try dsimp only [Sh.T, Sh1.T]); first | exact inK64 (by omega) (by omega) | omega | exact ⟨by decide, inK64 (by omega) (by omega)⟩ | trivial))) ?_ | refine bd_n rfl ?_ | refine w_true (b := true) rfl ?_ | refine w_false (b := false) rfl ?_ | refine w_guard (show noMeths _ _ by show _ = _; kernel_rfl) ?_ | (refine w_callT (c_leafp (kp := none) (S.rd rfl)) ?_; rintro _ _ ⟨rfl, rfl⟩) | (refine w_callT (c_leafp (kp := some _) (S.rd rfl)) ?_; rintro _ _ ⟨rfl, rfl⟩) | (refine w_callT (c_leafp (S.rd rfl)) ?_; rintro _ _ ⟨rfl, rfl⟩) )
            have S := S.ats [.ow (n3, 0), .ow a0, .tr kk]
            refine md_n rfl ⟨n, kk, u, ?_, gu, .inl (by omega), hP'.2 u (by simp), S.only [.ow (n3, 0), .ow a0, .tr kk, .ck (HtC hp), .ow (n1, 0)]⟩
            rw [← hfl]
            simp [flatB, weave, post]
        · refine w_false ?_ (md_n rfl ⟨n, b, t', hfl, hv', ?_, hP', S⟩)
          · by_cases h1 : (itemsB n t').length = 0
            · have : n = 0 := by omega
              subst this; simp [Nat.beq]
            · rw [decide_eq_false h1]; rfl
          · omega
      rintro _ h5 ⟨n', b', u, hfu, hvu, hiu, hPu, S⟩
      have hlu : (flatB n' u).length + 1 = (flatB n t).length := by rw [hfu]; exact hdl
      repeat (first | refine w_nonnil ?_ | refine ld_int S rfl ?_ | refine ld_some S rfl ?_ | refine ld_ptr S _ rfl ?_ | refine ld_sls S rfl ?_ | refine st_store S (lt_ble rfl) fun _ S => ?_ | refine st_alloc S fun _ _ S => ?_ | refine st_held S rfl ?_ | refine w_guard (by (first | exact inK64 (by omega) (by omega) | omega | (constructor <;> omega) | ((try dsimp only [Sh.T, Sh1.T]); first | exact inK64 (by omega) (by omega) | omega | exact ⟨by decide, inK64 (by omega) (by omega)⟩ | trivial))) ?_ | refine bd_n rfl ?_ | refine w_true (b := true) rfl ?_ | refine w_false (b := false) rfl ?_ | refine w_guard (show noMeths _ _ by show _ = _; kernel_rfl) ?_ | (refine w_callT (c_leafp (kp := none) (S.rd rfl)) ?_; rintro _ _ ⟨rfl, rfl⟩) | (refine w_callT (c_leafp (kp := some _) (S.rd rfl)) ?_; rintro _ _ ⟨rfl, rfl⟩) | (refine w_callT (c_leafp (S.rd rfl)) ?_; rintro _ _ ⟨rfl, rfl⟩) )
      by_cases hz : (flatB n' u).length = 0
      · have e : del (ltO o) (flatB n t) k = [] := by rw [← hfu]; exact List.length_eq_zero_iff.1 hz
        refine w_bnd (w_true (beq_t (by (first | omega | ((try dsimp only [Sh.T, Sh1.T]); omega)))) ?_)
        repeat (first | refine w_nonnil ?_ | refine ld_int S rfl ?_ | refine ld_some S rfl ?_ | refine ld_ptr S _ rfl ?_ | refine ld_sls S rfl ?_ | refine st_store S (lt_ble rfl) fun _ S => ?_ | refine st_alloc S fun _ _ S => ?_ | refine st_held S rfl ?_ | refine w_guard (by (first | exact inK64 (by omega) (by omega) | omega | (constructor <;> omega) | ((try dsimp only [Sh.T, Sh1.T]); first | exact inK64 (by omega) (by omega) | omega | exact ⟨by decide, inK64 (by omega) (by omega)⟩ | trivial))) ?_ | refine bd_n rfl ?_ | refine w_true (b := true) rfl ?_ | refine w_false (b := false) rfl ?_ | refine w_guard (show noMeths _ _ by show _ = _; kernel_rfl) ?_ | (refine w_callT (c_leafp (kp := none) (S.rd rfl)) ?_; rintro _ _ ⟨rfl, rfl⟩) | (refine w_callT (c_leafp (kp := some _) (S.rd rfl)) ?_; rintro _ _ ⟨rfl, rfl⟩) | (refine w_callT (c_leafp (S.rd rfl)) ?_; rintro _ _ ⟨rfl, rfl⟩) )
        have S := (S.at (.ow a0)).re a0 (mapC ls iso ctr none 0 dg (2 * dg + 1) false false) 0 rfl (by simp [mapC, Cell.val]; omega) rfl
        rw [e]
        exact rt_n rfl rfl ⟨_, ⟨rfl, rfl⟩, (shut_mq0 (S.at (.ow a0)) (.inr ⟨rfl, rfl, hmx, hmn, hmb⟩)).only [.mp a0, .ck (HtC hp)]⟩
      · refine w_bnd (w_false (beq_f (by (first | omega | ((try dsimp only [Sh.T, Sh1.T]); omega)))) ?_)
        repeat (first | refine w_nonnil ?_ | refine ld_int S rfl ?_ | refine ld_some S rfl ?_ | refine ld_ptr S _ rfl ?_ | refine ld_sls S rfl ?_ | refine st_store S (lt_ble rfl) fun _ S => ?_ | refine st_alloc S fun _ _ S => ?_ | refine st_held S rfl ?_ | refine w_guard (by (first | exact inK64 (by omega) (by omega) | omega | (constructor <;> omega) | ((try dsimp only [Sh.T, Sh1.T]); first | exact inK64 (by omega) (by omega) | omega | exact ⟨by decide, inK64 (by omega) (by omega)⟩ | trivial))) ?_ | refine bd_n rfl ?_ | refine w_true (b := true) rfl ?_ | refine w_false (b := false) rfl ?_ | refine w_guard (show noMeths _ _ by show _ = _; kernel_rfl) ?_ | (refine w_callT (c_leafp (kp := none) (S.rd rfl)) ?_; rintro _ _ ⟨rfl, rfl⟩) | (refine w_callT (c_leafp (kp := some _) (S.rd rfl)) ?_; rintro _ _ ⟨rfl, rfl⟩) | (refine w_callT (c_leafp (S.rd rfl)) ?_; rintro _ _ ⟨rfl, rfl⟩) )
        have S := (S.at (.ow a0)).re a0 (mapC ls iso ctr (some (b', 0)) (del (ltO o) (flatB n t) k).length dg (2 * dg + 1) false false) 0 rfl (by simp [mapC, Cell.val]; omega) rfl
        have hi1 : 1 ≤ (itemsB n' u).length := by
          rcases hiu with h | rfl
          · exact h
          · have : (itemsB 0 u).length = (flatB 0 u).length := rfl
            omega
        exact rt_n rfl rfl ⟨_, ⟨rfl, rfl⟩, (shut_mq (S.ats [.ow a0, .tr b']) rfl hfu hds hvu hi1 ⟨hmx, hmn, hmb⟩ hPu).only [.mp a0, .ck (HtC hp)]⟩
end
end Go.Proofs.Ytegnpimlfphncaa.TG
