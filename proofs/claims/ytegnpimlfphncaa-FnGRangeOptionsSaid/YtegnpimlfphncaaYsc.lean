/-
  The map tg: Set, init; the whole map as one piece. Conditions: none.
-/
import Derived.Test.YtegnpimlfphncaaPgA
import Derived.Test.YtegnpimlfphncaaYsb
set_option linter.unusedVariables false
set_option linter.unusedSimpArgs false
set_option linter.unusedSectionVars false
set_option maxRecDepth 100000
namespace Go.Proofs.Ytegnpimlfphncaa.TG
open Go Go.Proofs.Ytegnpimlfphncaa
def Good (mn mx : Nat) : Prop := mx = 2 * mn + 1 ∧ 1 ≤ mn ∧ mx ≤ 255
def dgOf (d : Int) : Nat := if d ≤ 0 then 31 else if d = 1 then 1 else (d - 1).toNat
theorem dgOf_good {d : Int} (h : d ≤ 128) : Good (dgOf d) (2 * dgOf d + 1) := by
  unfold Good dgOf
  split
  · omega
  · split <;> omega
def MpC (ls : Value) (o : List Int) (iso : Int) (dg : Nat) (a0 : PA) (l : List KV) : Ck where
  p h F := (∃ ctr mn mx, l = [] ∧ (mn = 0 ∧ mx = 0 ∧ dg = 31 ∨ mn = dg ∧ mx = 2 * dg + 1 ∧ Good mn mx) ∧ Star [Ow a0 (mapC ls iso ctr none 0 mn mx false false) 0] h F) ∨
    (∃ ctr n b, ∃ t : BT KV n, flatB n t = l ∧ Srt (ltO o) l ∧ Val dg (2 * dg + 1) n t ∧ 1 ≤ (itemsB n t).length ∧ Good dg (2 * dg + 1) ∧ Star [Ow a0 (mapC ls iso ctr (some (b, 0)) l.length dg (2 * dg + 1) false false) 0, TrC L iso n b t] h F)
  out := fun hp f d => hp.imp (fun ⟨ctr, mn, mx, h1, h2, h3⟩ => ⟨ctr, mn, mx, h1, h2, h3.out f d⟩) (fun ⟨ctr, n, b, t, h1, h2, h3, h4, h5, h6⟩ => ⟨ctr, n, b, t, h1, h2, h3, h4, h5, h6.out f d⟩)
  lt := fun hp x hx => hp.elim (fun ⟨_, _, _, _, _, h3⟩ => h3.lt x hx) (fun ⟨_, _, _, _, _, _, _, _, _, h6⟩ => h6.lt x hx)
instance pk_mp {ls : Value} {o : List Int} {iso : Int} {dg : Nat} {a0 : PA} {l : List KV} {r : List Ck} : Pk (.mp a0) (MpC ls o iso dg a0 l :: r) (MpC ls o iso dg a0 l) r := ⟨.refl _⟩
section
variable {ls : Value} {oc : Ck} {o : List Int} {hp : Option PA} {h h0 : H} {G0 : PA → Prop} {r : List Ck}
theorem open_map {iso : Int} {dg : Nat} {a0 : PA} {l : List KV} (s : St h0 G0 (MpC ls o iso dg a0 l :: r) h) :
    (∃ ctr mn mx, l = [] ∧ (mn = 0 ∧ mx = 0 ∧ dg = 31 ∨ mn = dg ∧ mx = 2 * dg + 1 ∧ Good mn mx) ∧ St h0 G0 (Ow a0 (mapC ls iso ctr none 0 mn mx false false) 0 :: r) h) ∨
    (∃ ctr n b, ∃ t : BT KV n, flatB n t = l ∧ Srt (ltO o) l ∧ Val dg (2 * dg + 1) n t ∧ 1 ≤ (itemsB n t).length ∧ Good dg (2 * dg + 1) ∧ St h0 G0 (Ow a0 (mapC ls iso ctr (some (b, 0)) l.length dg (2 * dg + 1) false false) 0 :: TrC L iso n b t :: r) h) := by
  obtain ⟨F, hF⟩ := s.fact
  have hc : ∃ x : Bool, x = x := ⟨true, rfl⟩
  rcases hF with ⟨ctr, mn, mx, h1, h2, h3⟩ | ⟨ctr, n, b, t, h1, h2, h3, h4, h5, h6⟩
  · obtain ⟨x, hx, s⟩ := St.turnE (α := Option PA × Nat × Nat) (l := [_]) (l' := fun x => [Ow a0 (mapC ls iso x.1 none 0 x.2.1 x.2.2 false false) 0]) (φ := fun x => l = [] ∧ (x.2.1 = 0 ∧ x.2.2 = 0 ∧ dg = 31 ∨ x.2.1 = dg ∧ x.2.2 = 2 * dg + 1 ∧ Good x.2.1 x.2.2)) s (fun F hF => by
      obtain ⟨F1, F2, g1, g2, g3, g4⟩ := hF
      rcases g1 with ⟨ctr, mn, mx, h1, h2, h3⟩ | ⟨ctr, n, b, t, k1, k2, k3, k4, k5, k6⟩
      · exact ⟨(ctr, mn, mx), ⟨h1, h2⟩, h3.iff fun x => by rw [g4]; exact ⟨.inl, fun hx => hx.elim id fun hn => (g2 x hn).elim⟩⟩
      · have : (itemsB n t).length ≤ 0 := by
          have := items_le k3
          rw [k1, h1] at this; exact this
        omega)
    exact .inl ⟨x.1, x.2.1, x.2.2, hx.1, hx.2, s⟩
  · obtain ⟨x, hx, s⟩ := St.turnE (α := Option PA × (Σ n, BT KV n) × Nat) (l := [_]) (l' := fun x => [Ow a0 (mapC ls iso x.1 (some (x.2.2, 0)) l.length dg (2 * dg + 1) false false) 0, TrC L iso x.2.1.1 x.2.2 x.2.1.2])
      (φ := fun x => flatB x.2.1.1 x.2.1.2 = l ∧ Srt (ltO o) l ∧ Val dg (2 * dg + 1) x.2.1.1 x.2.1.2 ∧ 1 ≤ (itemsB x.2.1.1 x.2.1.2).length ∧ Good dg (2 * dg + 1)) s (fun F hF => by
      obtain ⟨F1, F2, g1, g2, g3, g4⟩ := hF
      rcases g1 with ⟨ctr, mn, mx, k1, k2, k3⟩ | ⟨ctr, n, b, t, k1, k2, k3, k4, k5, k6⟩
      · have : (itemsB _ t).length ≤ 0 := by
          have := items_le h3
          rw [h1, k1] at this; exact this
        omega
      · exact ⟨(ctr, ⟨n, t⟩, b), ⟨k1, k2, k3, k4, k5⟩, k6.iff fun x => by rw [g4]; exact ⟨.inl, fun hx => hx.elim id fun hn => (g2 x hn).elim⟩⟩)
    exact .inr ⟨x.1, x.2.1.1, x.2.2, x.2.1.2, hx.1, hx.2.1, hx.2.2.1, hx.2.2.2.1, hx.2.2.2.2, s⟩
theorem shut_map0 {iso : Int} {dg mn mx : Nat} {a0 : PA} {ctr : Option PA} (s : St h0 G0 (Ow a0 (mapC ls iso ctr none 0 mn mx false false) 0 :: r) h) (hg : mn = 0 ∧ mx = 0 ∧ dg = 31 ∨ mn = dg ∧ mx = 2 * dg + 1 ∧ Good mn mx) : St h0 G0 (MpC ls o iso dg a0 [] :: r) h :=
  s.turn (l := [_]) (l' := [_]) fun F hF => star_one (c := MpC ls o iso dg a0 []) (.inl ⟨ctr, mn, mx, rfl, hg, hF⟩)
theorem shut_map {iso : Int} {dg n b : Nat} {a0 : PA} {ctr : Option PA} {t : BT KV n} {l : List KV} {ws : List Value} (s : St h0 G0 (Ow a0 ws 0 :: TrC L iso n b t :: r) h) (hw : ws = mapC ls iso ctr (some (b, 0)) l.length dg (2 * dg + 1) false false)
    (hl : flatB n t = l) (hs : Srt (ltO o) l) (hv : Val dg (2 * dg + 1) n t) (hi : 1 ≤ (itemsB n t).length) (hg : Good dg (2 * dg + 1)) : St h0 G0 (MpC ls o iso dg a0 l :: r) h := by
  subst hw
  exact s.turn (l := [_, _]) (l' := [_]) fun F hF => star_one (c := MpC ls o iso dg a0 l) (.inr ⟨ctr, n, b, t, hl, hs, hv, hi, hg, hF⟩)
theorem c_degree {d : Int} (hd : d ≤ 128) : HT Try.prog fn_degreeToMinMax [.c (.int .i64 d)] true [.c (.int .i64), .c (.int .i64)] h fun x h' => x = ((dgOf d : Int), ((2 * dgOf d + 1 : Nat) : Int), ()) ∧ h' = h := by
  apply hc_degreeToMinMax
  unfold M_degreeToMinMax
  have fin : ∀ e : Nat, 2 ≤ e → e ≤ 128 → dgOf d + 1 = e → ((e : Int) * 2 - 1).tdiv 2 = (dgOf d : Int) ∧ (e : Int) * 2 - 1 = ((2 * dgOf d + 1 : Nat) : Int) := by
    intro e h1 h2 h3
    constructor
    · rw [Int.tdiv_eq_ediv_of_nonneg (by omega)]; omega
    · omega
  by_cases h0 : d ≤ 0
  · refine w_bnd (w_true (decide_eq_true h0) (bd_n rfl ?_))
    have e : dgOf d = 31 := by unfold dgOf; rw [if_pos h0]
    rw [e]
    refine w_guard (inK64 (by omega) (by omega)) (w_guard (inK64 (by omega) (by omega)) (w_guard ⟨by decide, inK64 (by decide) (by decide)⟩ ?_))
    exact rt_n rfl rfl ⟨rfl, rfl⟩
  · refine w_bnd (w_false (decide_eq_false h0) (w_bnd ?_))
    by_cases h1 : d = 1
    · have e : dgOf d = 1 := by unfold dgOf; rw [if_neg h0, if_pos h1]
      refine w_true (beq_t h1) (bd_n rfl (bd_n rfl ?_))
      rw [e]
      refine w_guard (inK64 (by omega) (by omega)) (w_guard (inK64 (by omega) (by omega)) (w_guard ⟨by decide, inK64 (by decide) (by decide)⟩ ?_))
      exact rt_n rfl rfl ⟨rfl, rfl⟩
    · have e : (dgOf d : Int) = d - 1 := by unfold dgOf; rw [if_neg h0, if_neg h1]; omega
      refine w_false (beq_f h1) (bd_n rfl (bd_n rfl ?_))
      have h5 : (d * 2 - 1).tdiv 2 = (dgOf d : Int) := by rw [Int.tdiv_eq_ediv_of_nonneg (by omega)]; omega
      have h6 : d * 2 - 1 = ((2 * dgOf d + 1 : Nat) : Int) := by omega
      refine w_guard (inK64 (by (first | omega | ((try dsimp only [Sh.T, Sh1.T]); omega))) (by (first | omega | ((try dsimp only [Sh.T, Sh1.T]); omega)))) (w_guard (inK64 (by (first | omega | ((try dsimp only [Sh.T, Sh1.T]); omega))) (by (first | omega | ((try dsimp only [Sh.T, Sh1.T]); omega)))) (w_guard ⟨by decide, ?_⟩ ?_))
      · dsimp only
        rw [h5]; exact inK64 (by omega) (by omega)
      · dsimp only
        rw [h5, h6]
        exact rt_n rfl rfl ⟨rfl, rfl⟩
theorem c_init0 {a0 : PA} {iso cnt : Int} {ctr root : Option PA} {d : Int} (hd : d ≤ 128) {G : PA → Prop} (hG : Star [Ow a0 (mapC ls iso ctr root cnt 0 0 false false) 0] h G) :
    HT Try.prog fn_tg_init [.c (.addr a0), .c (.int .i64 d)] true [] h fun x h' => ∃ post, post = [Ow a0 (mapC ls iso ctr root cnt (dgOf d) (2 * dgOf d + 1) false false) 0] ∧ St h G post h' := by
  apply hc_tg_init
  unfold M_tg_init
  have S := St.start hG
  repeat (first | refine ld_int S rfl ?_ | refine ld_bool S rfl ?_ | refine st_store S (lt_ble rfl) fun _ S => ?_ | refine w_guard (by (first | exact inK64 (by omega) (by omega) | omega | (constructor <;> omega) | ((try dsimp only [Sh.T, Sh1.T]); first | exact inK64 (by omega) (by omega) | omega | exact ⟨by decide, inK64 (by omega) (by omega)⟩ | trivial))) ?_ | refine bd_n rfl ?_ | refine w_true (b := true) rfl ?_ | refine w_false (b := false) rfl ?_ | refine w_guard (show noMeths _ _ by show _ = _; kernel_rfl) ?_ )
  refine w_callT (c_degree hd) ?_
  rintro _ _ ⟨rfl, rfl⟩
  repeat (first | refine ld_int S rfl ?_ | refine ld_bool S rfl ?_ | refine st_store S (lt_ble rfl) fun _ S => ?_ | refine w_guard (by (first | exact inK64 (by omega) (by omega) | omega | (constructor <;> omega) | ((try dsimp only [Sh.T, Sh1.T]); first | exact inK64 (by omega) (by omega) | omega | exact ⟨by decide, inK64 (by omega) (by omega)⟩ | trivial))) ?_ | refine w_bnd ?_ | refine bd_n rfl ?_ | refine w_true (b := true) rfl ?_ | refine w_false (b := false) rfl ?_ | refine w_guard (show noMeths _ _ by show _ = _; kernel_rfl) ?_ )
  exact rt_n rfl rfl ⟨_, rfl, S⟩
theorem c_init1 {a0 : PA} {iso cnt : Int} {ctr root : Option PA} {mn mx : Nat} {cv icv : Bool} {d : Int} (hg : Good mn mx) {G : PA → Prop} (hG : Star [Ow a0 (mapC ls iso ctr root cnt mn mx cv icv) 0] h G) :
    HT Try.prog fn_tg_init [.c (.addr a0), .c (.int .i64 d)] true [] h fun x h' => ∃ post, post = [Ow a0 (mapC ls iso ctr root cnt mn mx cv icv) 0] ∧ St h G post h' := by
  apply hc_tg_init
  unfold M_tg_init
  have S := St.start hG
  repeat (first | refine ld_int S rfl ?_ | refine w_true (b := true) rfl ?_ )
  have h0 : ¬ (mn : Int) = 0 := by have := hg.2.1; omega
  refine w_true (by simpa using h0) ?_
  exact rt_n rfl rfl ⟨_, rfl, S⟩
theorem ht_le {mn mx : Nat} (h1 : 1 ≤ mn) : ∀ (n : Nat) (t : BT KV n), Val mn mx n t → 1 ≤ (itemsB n t).length → n < (flatB n t).length
  | 0, t, _, hi => hi
  | n + 1, t, hv, hi => by
    obtain ⟨xs, ts⟩ := t
    have hl : ts.length = xs.length + 1 := hv.2.1
    obtain ⟨u, hu⟩ : ∃ u, ts[0]? = some u := ⟨_, List.getElem?_eq_getElem (by omega)⟩
    have hm := hv.2.2 u (List.mem_of_getElem? hu)
    have ih := ht_le h1 n u hm.1 (by have := hm.2; omega)
    have := ah_len hl hu
    have hi : 1 ≤ xs.length := hi
    omega
def SetM (ls : Value) (o : List Int) (hp : Option PA) (iso : Int) (dg : Nat) (a0 : PA) (l : List KV) (k : Int) (v : Int) (x : SV [.agg [.int .i64, .int .i64], .c .bool]) (post : List Ck) : Prop := x = (((old o l (k, v)).1, (old o l (k, v)).2, ()), (fnd (ltO o) l (k, v)).isSome, ()) ∧ post = [MpC ls o iso dg a0 (put (ltO o) l (k, v)), HtC hp]
def SetT (ls : Value) (oc : Ck) (o : List Int) (hp : Option PA) (a0 : PA) (dg : Nat) (iso : Int) (n : Nat) (t : BT KV n) (k : Int) (v : Int) : Prop :=
  ∀ (h : H) (ctr : Option PA) (b : Nat) (G : PA → Prop), Bes oc h G → Star [Ow a0 (mapC ls iso ctr (some (b, 0)) (flatB n t).length dg (2 * dg + 1) false false) 0, TrC L iso n b t, HtC hp] h G →
    HT Try.prog fn_tg_setHint [.c (.addr a0), .agg [.int .i64 k, .int .i64 v], .c (.ptr hp)] true [.agg [.int .i64, .int .i64], .c .bool] h fun x h' => ∃ post, SetM ls o hp iso dg a0 (flatB n t) k v x post ∧ St h G post h'
set_option maxHeartbeats 4000000 in
theorem c_setTree {a0 : PA} {dg : Nat} {iso : Int} {n : Nat} {t : BT KV n} {k : Int} {v : Int} (hh : HsOK hp) (hls : Lss ls oc o) (hg : Good dg (2 * dg + 1)) (hv : Val dg (2 * dg + 1) n t) (hi : 1 ≤ (itemsB n t).length) (hs : Srt (ltO o) (flatB n t)) (hfl : (flatB n t).length < 4294967295)
    (RT : ¬ NF o (2 * dg + 1) (k, v) n t → ∀ u : BT KV (n + 1), Val dg (2 * dg + 1) (n + 1) u → 1 ≤ (itemsB (n + 1) u).length → flatB (n + 1) u = flatB n t → NF o (2 * dg + 1) (k, v) (n + 1) u → SetT ls oc o hp a0 dg iso (n + 1) u k v) : SetT ls oc o hp a0 dg iso n t k v := by
  intro h ctr b G hoc hG
  apply hc_tg_setHint
  unfold M_tg_setHint
  have hnl := ht_le hg.2.1 n t hv hi
  have S := St.start hG
  have hpl := put_length (lt := (ltO o)) (l := flatB n t) (x := (k, v))
  obtain ⟨_, hmn, hmb⟩ := hg
  obtain ⟨mx, hmx⟩ : ∃ mx, mx = 2 * dg + 1 := ⟨_, rfl⟩
  rw [← hmx] at S hv RT hmb
  refine st_alloc S fun n0 _ S => ?_
  refine st_alloc S fun n1 _ S => ?_
  repeat (first | refine w_nonnil ?_ | refine ld_int S rfl ?_ | refine ld_some S rfl ?_ | refine st_store S (lt_ble rfl) fun _ S => ?_ | refine st_alloc S fun _ _ S => ?_ | refine st_held S rfl ?_ | refine w_guard (by (first | exact inK64 (by omega) (by omega) | omega | (constructor <;> omega) | ((try dsimp only [Sh.T, Sh1.T]); first | exact inK64 (by omega) (by omega) | omega | exact ⟨by decide, inK64 (by omega) (by omega)⟩ | trivial))) ?_ | refine w_true (b := true) rfl ?_ | refine w_false (b := false) rfl ?_ | refine w_guard (show noMeths _ _ by show _ = _; kernel_rfl) ?_ )
  refine st_callF S [.ow a0, .tr b, .ck (HtC hp)] (fun G' hG' hsub => c_nodeSet hh hls hmx hmn hmb n 0 t (by omega) hi hv hs (by omega) _ b (a0.1, a0.2 + 2) G' (S.rd rfl) (hoc.step S hsub) hG') ?_
  rintro _ _ h4 ⟨t', rfl, hcase⟩ S
  dsimp only [List.cons_append, List.nil_append] at S
  rcases hcase with ⟨rfl, hte, hfull, hnf⟩ | ⟨rfl, g1, g2, g3⟩
  · rw [hte] at S
    repeat (first | refine w_nonnil ?_ | refine ld_int S rfl ?_ | refine ld_some S rfl ?_ | refine st_store S (lt_ble rfl) fun _ S => ?_ | refine st_alloc S fun _ _ S => ?_ | refine st_held S rfl ?_ | refine w_guard (by (first | exact inK64 (by omega) (by omega) | omega | (constructor <;> omega) | ((try dsimp only [Sh.T, Sh1.T]); first | exact inK64 (by omega) (by omega) | omega | exact ⟨by decide, inK64 (by omega) (by omega)⟩ | trivial))) ?_ | refine w_true (b := true) rfl ?_ | refine w_false (b := false) rfl ?_ | refine w_guard (show noMeths _ _ by show _ = _; kernel_rfl) ?_ )
    refine w_callT (c_isoLoad (S.rd rfl) (S.iso b) (S.rd rfl)) ?_
    rintro _ _ ⟨rfl, rfl⟩
    have hml : mx / 2 < (itemsB n t).length := by omega
    obtain ⟨cut1, cut2, cut3, cut4⟩ := cut_val hv hml
    have hcf := cut_flat hv (List.getElem?_eq_getElem hml)
    refine st_callV S [.ow a0, .tr b] (args' := [.c (.addr a0), .c (.addr (b, 0))]) rfl (fun G hG => c_split hfull hv (by omega) (by omega) hmb (List.getElem?_eq_getElem hml) hG) ?_
    generalize hmed : (itemsB n t)[mx / 2] = med at *
    rintro _ _ h5 ⟨rr, rfl, rfl⟩ S
    dsimp only [List.cons_append, List.nil_append] at S
    refine st_alloc S fun n24 _ S => ?_
    repeat (first | refine w_nonnil ?_ | refine ld_int S rfl ?_ | refine ld_some S rfl ?_ | refine st_store S (lt_ble rfl) fun _ S => ?_ | refine st_alloc S fun _ _ S => ?_ | refine st_held S rfl ?_ | refine w_guard (by (first | exact inK64 (by omega) (by omega) | omega | (constructor <;> omega) | ((try dsimp only [Sh.T, Sh1.T]); first | exact inK64 (by omega) (by omega) | omega | exact ⟨by decide, inK64 (by omega) (by omega)⟩ | trivial))) ?_ | refine w_true (b := true) rfl ?_ | refine w_false (b := false) rfl ?_ | refine w_guard (show noMeths _ _ by show _ = _; kernel_rfl) ?_ )
    refine st_callT S [] (fun G hG => c_newBranch (S.rd rfl) hG) ?_
    rintro _ _ h9 ⟨nb, kb, rfl, rfl⟩ S
    dsimp only [List.cons_append, List.nil_append] at S
    repeat (first | refine w_nonnil ?_ | refine ld_int S rfl ?_ | refine ld_some S rfl ?_ | refine st_store S (lt_ble rfl) fun _ S => ?_ | refine st_alloc S fun _ _ S => ?_ | refine st_held S rfl ?_ | refine w_guard (by (first | exact inK64 (by omega) (by omega) | omega | (constructor <;> omega) | ((try dsimp only [Sh.T, Sh1.T]); first | exact inK64 (by omega) (by omega) | omega | exact ⟨by decide, inK64 (by omega) (by omega)⟩ | trivial))) ?_ | refine w_true (b := true) rfl ?_ | refine w_false (b := false) rfl ?_ | refine w_guard (show noMeths _ _ by show _ = _; kernel_rfl) ?_ )
    refine st_make S rfl (by omega) (by omega) (by omega) (by omega) fun n30 h11 S => ?_
    have S := S.drop
    repeat (first | refine w_nonnil ?_ | refine ld_int S rfl ?_ | refine ld_some S rfl ?_ | refine st_store S (lt_ble rfl) fun _ S => ?_ | refine st_alloc S fun _ _ S => ?_ | refine st_held S rfl ?_ | refine w_guard (by (first | exact inK64 (by omega) (by omega) | omega | (constructor <;> omega) | ((try dsimp only [Sh.T, Sh1.T]); first | exact inK64 (by omega) (by omega) | omega | exact ⟨by decide, inK64 (by omega) (by omega)⟩ | trivial))) ?_ | refine w_true (b := true) rfl ?_ | refine w_false (b := false) rfl ?_ | refine w_guard (show noMeths _ _ by show _ = _; kernel_rfl) ?_ )
    refine w_bind (fun vs h' => vs = [] ∧ ∃ q d, 2 ≤ d ∧ St h G [Ow q (LK.flat ([b, rr].map some)) ((d - 2) * LK.sz), Ow (nb, 0) (nodeC iso 0 (none, 0, 0) (some (kb, 0))) 0, Ow (kb, 0) (hdC (some q, 2, d)) 0, Ow (n24, 0) (L.cells med) 0,
      Ow a0 (mapC ls iso ctr (some (nb, 0)) (flatB n t).length dg mx false false) 0, TrC L iso n b (cutL n t (mx / 2)), TrC L iso n rr (cutR n t (mx / 2)), Ow (n0, 0) (L.cells (k, v)) 0, Ow (n1, 0) (L.cells (0, 0)) 0, HtC hp] h') ?_ ?_
    · repeat (first | refine w_nonnil ?_ | refine ld_int S rfl ?_ | refine ld_some S rfl ?_ | refine st_store S (lt_ble rfl) fun _ S => ?_ | refine st_alloc S fun _ _ S => ?_ | refine st_held S rfl ?_ | refine w_guard (by (first | exact inK64 (by omega) (by omega) | omega | (constructor <;> omega) | ((try dsimp only [Sh.T, Sh1.T]); first | exact inK64 (by omega) (by omega) | omega | exact ⟨by decide, inK64 (by omega) (by omega)⟩ | trivial))) ?_ | refine w_true (b := true) rfl ?_ | refine w_false (b := false) rfl ?_ | refine w_guard (show noMeths _ _ by show _ = _; kernel_rfl) ?_ )
      refine w_both ?_ ?_
      · repeat (first | refine w_nonnil ?_ | refine ld_int S rfl ?_ | refine ld_some S rfl ?_ | refine st_store S (lt_ble rfl) fun _ S => ?_ | refine st_alloc S fun _ _ S => ?_ | refine st_held S rfl ?_ | refine w_guard (by (first | exact inK64 (by omega) (by omega) | omega | (constructor <;> omega) | ((try dsimp only [Sh.T, Sh1.T]); first | exact inK64 (by omega) (by omega) | omega | exact ⟨by decide, inK64 (by omega) (by omega)⟩ | trivial))) ?_ | refine w_true (b := true) rfl ?_ | refine w_false (b := false) rfl ?_ | refine w_guard (show noMeths _ _ by show _ = _; kernel_rfl) ?_ )
        refine st_app (L := LK) (n := 0) (c := 0) (k := 2) (xs := []) (ys := [b, rr].map some) S rfl rfl rfl (Nat.le_refl _) rfl rfl (S.rsl (LK.flat ([b, rr].map some)) 2 2 1 (fun i v h => by rw [Nat.zero_add]; exact h) rfl) ⟨by omega, by omega⟩ fun q d _ hd S => ?_
        repeat (first | refine w_nonnil ?_ | refine ld_int S rfl ?_ | refine ld_some S rfl ?_ | refine st_store S (lt_ble rfl) fun _ S => ?_ | refine st_alloc S fun _ _ S => ?_ | refine st_held S rfl ?_ | refine w_guard (by (first | exact inK64 (by omega) (by omega) | omega | (constructor <;> omega) | ((try dsimp only [Sh.T, Sh1.T]); first | exact inK64 (by omega) (by omega) | omega | exact ⟨by decide, inK64 (by omega) (by omega)⟩ | trivial))) ?_ | refine w_true (b := true) rfl ?_ | refine w_false (b := false) rfl ?_ | refine w_guard (show noMeths _ _ by show _ = _; kernel_rfl) ?_ )
        exact ⟨rfl, q, d, hd, S.only [.ow q, .ow (nb, 0), .ow (kb, 0), .ow (n24, 0), .ow a0, .tr b, .tr rr, .ow (n0, 0), .ow (n1, 0), .ck (HtC hp)]⟩
      · repeat (first | refine w_nonnil ?_ | refine ld_int S rfl ?_ | refine ld_some S rfl ?_ | refine st_store S (lt_ble rfl) fun _ S => ?_ | refine st_alloc S fun _ _ S => ?_ | refine st_held S rfl ?_ | refine w_guard (by (first | exact inK64 (by omega) (by omega) | omega | (constructor <;> omega) | ((try dsimp only [Sh.T, Sh1.T]); first | exact inK64 (by omega) (by omega) | omega | exact ⟨by decide, inK64 (by omega) (by omega)⟩ | trivial))) ?_ | refine w_true (b := true) rfl ?_ | refine w_false (b := false) rfl ?_ | refine w_guard (show noMeths _ _ by show _ = _; kernel_rfl) ?_ )
        refine st_app (L := LK) (n := 0) (c := 0) (k := 2) (xs := []) (ys := [b, rr].map some) S rfl rfl rfl (Nat.le_refl _) rfl rfl (S.rsl (LK.flat ([b, rr].map some)) 2 2 1 (fun i v h => by rw [Nat.zero_add]; exact h) rfl) ⟨by omega, by omega⟩ fun q d _ hd S => ?_
        repeat (first | refine w_nonnil ?_ | refine ld_int S rfl ?_ | refine ld_some S rfl ?_ | refine st_store S (lt_ble rfl) fun _ S => ?_ | refine st_alloc S fun _ _ S => ?_ | refine st_held S rfl ?_ | refine w_guard (by (first | exact inK64 (by omega) (by omega) | omega | (constructor <;> omega) | ((try dsimp only [Sh.T, Sh1.T]); first | exact inK64 (by omega) (by omega) | omega | exact ⟨by decide, inK64 (by omega) (by omega)⟩ | trivial))) ?_ | refine w_true (b := true) rfl ?_ | refine w_false (b := false) rfl ?_ | refine w_guard (show noMeths _ _ by show _ = _; kernel_rfl) ?_ )
        exact ⟨rfl, q, d, hd, S.only [.ow q, .ow (nb, 0), .ow (kb, 0), .ow (n24, 0), .ow a0, .tr b, .tr rr, .ow (n0, 0), .ow (n1, 0), .ck (HtC hp)]⟩
    rintro _ h13 ⟨rfl, q, d, hd, S⟩
    refine ⟨(), rfl, ?_⟩
    refine w_bind (fun vs h' => vs = [] ∧ ∃ p c, 1 ≤ c ∧ St h G [Ow p (L.flat [med]) ((c - 1) * L.sz), Ow q (LK.flat ([b, rr].map some)) ((d - 2) * LK.sz), Ow (nb, 0) (nodeC iso 0 (some p, 1, c) (some (kb, 0))) 0, Ow (kb, 0) (hdC (some q, 2, d)) 0,
      Ow a0 (mapC ls iso ctr (some (nb, 0)) (flatB n t).length dg mx false false) 0, TrC L iso n b (cutL n t (mx / 2)), TrC L iso n rr (cutR n t (mx / 2)), Ow (n0, 0) (L.cells (k, v)) 0, Ow (n1, 0) (L.cells (0, 0)) 0, HtC hp] h') ?_ ?_
    · repeat (first | refine w_nonnil ?_ | refine ld_int S rfl ?_ | refine ld_some S rfl ?_ | refine st_store S (lt_ble rfl) fun _ S => ?_ | refine st_alloc S fun _ _ S => ?_ | refine st_held S rfl ?_ | refine w_guard (by (first | exact inK64 (by omega) (by omega) | omega | (constructor <;> omega) | ((try dsimp only [Sh.T, Sh1.T]); first | exact inK64 (by omega) (by omega) | omega | exact ⟨by decide, inK64 (by omega) (by omega)⟩ | trivial))) ?_ | refine w_true (b := true) rfl ?_ | refine w_false (b := false) rfl ?_ | refine w_guard (show noMeths _ _ by show _ = _; kernel_rfl) ?_ )
      refine w_both ?_ ?_
      · repeat (first | refine w_nonnil ?_ | refine ld_int S rfl ?_ | refine ld_some S rfl ?_ | refine st_store S (lt_ble rfl) fun _ S => ?_ | refine st_alloc S fun _ _ S => ?_ | refine st_held S rfl ?_ | refine w_guard (by (first | exact inK64 (by omega) (by omega) | omega | (constructor <;> omega) | ((try dsimp only [Sh.T, Sh1.T]); first | exact inK64 (by omega) (by omega) | omega | exact ⟨by decide, inK64 (by omega) (by omega)⟩ | trivial))) ?_ | refine w_true (b := true) rfl ?_ | refine w_false (b := false) rfl ?_ | refine w_guard (show noMeths _ _ by show _ = _; kernel_rfl) ?_ )
        refine st_app (L := L) (n := 0) (c := 0) (k := 1) (xs := []) (ys := [med]) S rfl rfl rfl (Nat.le_refl _) rfl rfl (S.rsl (L.flat [med]) 1 1 2 (fun i v h => by rw [Nat.zero_add]; exact h) rfl) ⟨by omega, by omega⟩ fun p c _ hc S => ?_
        repeat (first | refine w_nonnil ?_ | refine ld_int S rfl ?_ | refine ld_some S rfl ?_ | refine st_store S (lt_ble rfl) fun _ S => ?_ | refine st_alloc S fun _ _ S => ?_ | refine st_held S rfl ?_ | refine w_guard (by (first | exact inK64 (by omega) (by omega) | omega | (constructor <;> omega) | ((try dsimp only [Sh.T, Sh1.T]); first | exact inK64 (by omega) (by omega) | omega | exact ⟨by decide, inK64 (by omega) (by omega)⟩ | trivial))) ?_ | refine w_true (b := true) rfl ?_ | refine w_false (b := false) rfl ?_ | refine w_guard (show noMeths _ _ by show _ = _; kernel_rfl) ?_ )
        exact ⟨rfl, p, c, hc, S.only [.ow p, .ow q, .ow (nb, 0), .ow (kb, 0), .ow a0, .tr b, .tr rr, .ow (n0, 0), .ow (n1, 0), .ck (HtC hp)]⟩
      · repeat (first | refine w_nonnil ?_ | refine ld_int S rfl ?_ | refine ld_some S rfl ?_ | refine st_store S (lt_ble rfl) fun _ S => ?_ | refine st_alloc S fun _ _ S => ?_ | refine st_held S rfl ?_ | refine w_guard (by (first | exact inK64 (by omega) (by omega) | omega | (constructor <;> omega) | ((try dsimp only [Sh.T, Sh1.T]); first | exact inK64 (by omega) (by omega) | omega | exact ⟨by decide, inK64 (by omega) (by omega)⟩ | trivial))) ?_ | refine w_true (b := true) rfl ?_ | refine w_false (b := false) rfl ?_ | refine w_guard (show noMeths _ _ by show _ = _; kernel_rfl) ?_ )
        refine st_app (L := L) (n := 0) (c := 0) (k := 1) (xs := []) (ys := [med]) S rfl rfl rfl (Nat.le_refl _) rfl rfl (S.rsl (L.flat [med]) 1 1 2 (fun i v h => by rw [Nat.zero_add]; exact h) rfl) ⟨by omega, by omega⟩ fun p c _ hc S => ?_
        repeat (first | refine w_nonnil ?_ | refine ld_int S rfl ?_ | refine ld_some S rfl ?_ | refine st_store S (lt_ble rfl) fun _ S => ?_ | refine st_alloc S fun _ _ S => ?_ | refine st_held S rfl ?_ | refine w_guard (by (first | exact inK64 (by omega) (by omega) | omega | (constructor <;> omega) | ((try dsimp only [Sh.T, Sh1.T]); first | exact inK64 (by omega) (by omega) | omega | exact ⟨by decide, inK64 (by omega) (by omega)⟩ | trivial))) ?_ | refine w_true (b := true) rfl ?_ | refine w_false (b := false) rfl ?_ | refine w_guard (show noMeths _ _ by show _ = _; kernel_rfl) ?_ )
        exact ⟨rfl, p, c, hc, S.only [.ow p, .ow q, .ow (nb, 0), .ow (kb, 0), .ow a0, .tr b, .tr rr, .ow (n0, 0), .ow (n1, 0), .ck (HtC hp)]⟩
    rintro _ h14 ⟨rfl, p, c, hc, S⟩
    refine ⟨(), rfl, ?_⟩
    have hu : flatB (n + 1) (([med], [cutL n t (mx / 2), cutR n t (mx / 2)]) : BT KV (n + 1)) = flatB n t := by
      rw [hcf]
      simp [flatB, weave, post]
    have hul : (flatB n t).length = 1 + ksum [cutL n t (mx / 2), cutR n t (mx / 2)] := by
      rw [← hu, ksum_len (by rfl)]; rfl
    have huv : Val dg mx (n + 1) (([med], [cutL n t (mx / 2), cutR n t (mx / 2)]) : BT KV (n + 1)) := by
      refine ⟨by show 1 ≤ mx; omega, rfl, fun u hu => ?_⟩
      rcases List.mem_cons.1 hu with rfl | hu
      · exact ⟨cut1, by omega⟩
      · rcases List.mem_cons.1 hu with rfl | hu
        · exact ⟨cut2, by omega⟩
        · cases hu
    have hnf2 : NF o mx (k, v) (n + 1) (([med], [cutL n t (mx / 2), cutR n t (mx / 2)]) : BT KV (n + 1)) := by
      intro hf2 m hm2
      dsimp only at hm2
      have hp := pos_le (lt := (ltO o)) [med] (k, v)
      have : pos (ltO o) [med] (k, v) = 0 ∨ pos (ltO o) [med] (k, v) = 1 := by simp at hp; omega
      rcases this with e | e <;> rw [e] at hm2 <;> simp at hm2 <;> rw [← hm2] <;> omega
    repeat (first | refine w_nonnil ?_ | refine ld_int S rfl ?_ | refine ld_some S rfl ?_ | refine st_store S (lt_ble rfl) fun _ S => ?_ | refine st_alloc S fun _ _ S => ?_ | refine st_held S rfl ?_ | refine w_guard (by (first | exact inK64 (by omega) (by omega) | omega | (constructor <;> omega) | ((try dsimp only [Sh.T, Sh1.T]); first | exact inK64 (by omega) (by omega) | omega | exact ⟨by decide, inK64 (by omega) (by omega)⟩ | trivial))) ?_ | refine w_true (b := true) rfl ?_ | refine w_false (b := false) rfl ?_ | refine w_guard (show noMeths _ _ by show _ = _; kernel_rfl) ?_ )
    have S := fo_cons L iso ((fo_nil L iso (n := n) S).ats [.tr rr, .fo []])
    have S := fo_cons L iso (S.ats [.tr b, .fo [rr]])
    refine st_callV S [.ow (nb, 0), .ow (kb, 0), .ow q, .fo [b, rr]] (args' := [.c (.addr (nb, 0))]) rfl (fun G hG => c_updateNode (n := 1) (c := c) (p := p) (m := 2) (q := q) (d := d) (ks := [b, rr]) (ts := [cutL n t (mx / 2), cutR n t (mx / 2)]) rfl (by omega) rfl (by omega) hG) ?_
    rintro _ _ h15 rfl S
    dsimp only [List.cons_append, List.nil_append] at S
    rw [LK_flat] at S
    have S := shut_node L iso (xs := [med]) (ts := [cutL n t (mx / 2), cutR n t (mx / 2)]) (S.ats [.ow (nb, 0), .ow p, .ow (kb, 0), .ow q, .fo [b, rr]]) rfl rfl rfl rfl rfl rfl (by rw [hu, hul]) hc rfl hd (Nat.mul_one _)
    repeat (first | refine w_nonnil ?_ | refine ld_int S rfl ?_ | refine ld_some S rfl ?_ | refine st_store S (lt_ble rfl) fun _ S => ?_ | refine st_alloc S fun _ _ S => ?_ | refine st_held S rfl ?_ | refine w_guard (by (first | exact inK64 (by omega) (by omega) | omega | (constructor <;> omega) | ((try dsimp only [Sh.T, Sh1.T]); first | exact inK64 (by omega) (by omega) | omega | exact ⟨by decide, inK64 (by omega) (by omega)⟩ | trivial))) ?_ | refine w_true (b := true) rfl ?_ | refine w_false (b := false) rfl ?_ | refine w_guard (show noMeths _ _ by show _ = _; kernel_rfl) ?_ )
    refine st_callF S [.ow a0, .tr nb, .ck (HtC hp)] (fun G' hG' hsub => RT hnf _ huv (Nat.le_refl _) hu hnf2 _ ctr nb G' (hoc.step S hsub) (by rw [hu, ← hmx]; exact hG')) ?_
    rintro _ post h16 ⟨rfl, rfl⟩ S
    rw [hu] at S ⊢
    dsimp only [List.cons_append, List.nil_append] at S
    repeat (first | refine w_nonnil ?_ | refine ld_int S rfl ?_ | refine ld_some S rfl ?_ | refine st_store S (lt_ble rfl) fun _ S => ?_ | refine st_alloc S fun _ _ S => ?_ | refine st_held S rfl ?_ | refine w_guard (by (first | exact inK64 (by omega) (by omega) | omega | (constructor <;> omega) | ((try dsimp only [Sh.T, Sh1.T]); first | exact inK64 (by omega) (by omega) | omega | exact ⟨by decide, inK64 (by omega) (by omega)⟩ | trivial))) ?_ | refine w_true (b := true) rfl ?_ | refine w_false (b := false) rfl ?_ | refine w_guard (show noMeths _ _ by show _ = _; kernel_rfl) ?_ )
    exact rt_n rfl rfl ⟨_, ⟨rfl, rfl⟩, S.only [.mp a0, .ck (HtC hp)]⟩
  · have hps := put_srt (ordO o) hs (k, v)
    cases hb : fnd (ltO o) (flatB n t) (k, v) with
    | some y =>
      rw [hb] at hpl
      have e : (flatB n t).length = (put (ltO o) (flatB n t) (k, v)).length := by simpa using hpl.symm
      repeat (first | refine w_nonnil ?_ | refine ld_int S rfl ?_ | refine ld_some S rfl ?_ | refine st_store S (lt_ble rfl) fun _ S => ?_ | refine st_alloc S fun _ _ S => ?_ | refine st_held S rfl ?_ | refine w_guard (by (first | exact inK64 (by omega) (by omega) | omega | (constructor <;> omega) | ((try dsimp only [Sh.T, Sh1.T]); first | exact inK64 (by omega) (by omega) | omega | exact ⟨by decide, inK64 (by omega) (by omega)⟩ | trivial))) ?_ | refine w_true (b := true) rfl ?_ | refine w_false (b := false) rfl ?_ | refine w_guard (show noMeths _ _ by show _ = _; kernel_rfl) ?_ )
      have S := shut_map (ctr := ctr) (l := put (ltO o) (flatB n t) (k, v)) (S.ats [.ow a0, .tr b]) (by rw [e, hmx]) g1 hps (by rw [← hmx]; exact g2) (Nat.le_trans hi g3) ⟨rfl, hmn, by omega⟩
      exact rt_n rfl rfl ⟨_, ⟨by rw [hb]; rfl, rfl⟩, S.only [.mp a0, .ck (HtC hp)]⟩
    | none =>
      rw [hb] at hpl
      have e : (flatB n t).length + 1 = (put (ltO o) (flatB n t) (k, v)).length := by simpa using hpl.symm
      repeat (first | refine w_nonnil ?_ | refine ld_int S rfl ?_ | refine ld_some S rfl ?_ | refine st_store S (lt_ble rfl) fun _ S => ?_ | refine st_alloc S fun _ _ S => ?_ | refine st_held S rfl ?_ | refine w_guard (by (first | exact inK64 (by omega) (by omega) | omega | (constructor <;> omega) | ((try dsimp only [Sh.T, Sh1.T]); first | exact inK64 (by omega) (by omega) | omega | exact ⟨by decide, inK64 (by omega) (by omega)⟩ | trivial))) ?_ | refine w_true (b := true) rfl ?_ | refine w_false (b := false) rfl ?_ | refine w_guard (show noMeths _ _ by show _ = _; kernel_rfl) ?_ )
      have S := shut_map (ctr := ctr) (l := put (ltO o) (flatB n t) (k, v)) (S.ats [.ow a0, .tr b]) (by rw [← e, hmx]; rfl) g1 hps (by rw [← hmx]; exact g2) (Nat.le_trans hi g3) ⟨rfl, hmn, by omega⟩
      exact rt_n rfl rfl ⟨_, ⟨by rw [hb, old, hb]; rfl, rfl⟩, S.only [.mp a0, .ck (HtC hp)]⟩
end
end Go.Proofs.Ytegnpimlfphncaa.TG
