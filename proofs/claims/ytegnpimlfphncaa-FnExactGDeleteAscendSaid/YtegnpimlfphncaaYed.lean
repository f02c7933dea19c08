/-
  The tree of items: items of a leaf kept or deleted one by one, as DeleteAscend does. Conditions: none.
-/
import Derived.Test.YtegnpimlfphncaaYec
set_option linter.unusedVariables false
set_option linter.unusedSimpArgs false
set_option linter.unusedSectionVars false
set_option maxRecDepth 100000
namespace Go.Proofs.Ytegnpimlfphncaa.TG
open Go Go.Proofs.Ytegnpimlfphncaa
structure Rv (o : List Int) (go : List KV → KV → Int) (FF : List KV × List KV) (lim : Nat) (cur : List KV) (pv : KV) (acc : List KV) : Prop where
  fn : Fn go (cur.take (pos (ltO o) cur pv)) (cur.drop (pos (ltO o) cur pv)) acc = FF
  nn : acc.length + (cur.length - pos (ltO o) cur pv) ≤ lim
section
variable {o : List Int} {go : List KV → KV → Int} {FF : List KV × List KV} {lim : Nat} {A B acc : List KV} {x : KV}
theorem del_at2 (hs : Srt (ltO o) (A ++ x :: B)) : del (ltO o) (A ++ x :: B) x = A ++ B ∧ pos (ltO o) (A ++ B) x = A.length := by
  obtain ⟨h1, h2, h3⟩ := srt_append.1 hs
  obtain ⟨h4, h5⟩ := List.pairwise_cons.1 h2
  refine ⟨?_, pos_app (fun a ha => h3 a ha x (by simp)) fun b hb => ?_⟩
  · rw [(fnd_at (ordO o) hs (j := A.length) (x := x) (y := x) (get_mid rfl) ((ordO o).irr x) ((ordO o).irr x)).2.2]
    exact erase_mid rfl
  · cases B with
    | nil => cases hb
    | cons c B =>
      obtain rfl : c = b := by simpa using hb
      exact (ordO o).asym (h4 c (by simp))
theorem Rv.mk2 (hs : Srt (ltO o) (A ++ x :: B)) (h2 : go acc x = 2) (hfn : Fn go A (x :: B) acc = FF) (hnn : acc.length + (B.length + 1) ≤ lim) : Rv o go FF lim (A ++ B) x (acc ++ [x]) := by
  obtain ⟨_, hp⟩ := del_at2 hs
  rw [das_del h2] at hfn
  refine ⟨?_, ?_⟩
  · rw [hp, List.take_left' rfl, List.drop_left' rfl]; exact hfn
  · rw [hp]; simp; omega
end
section
variable {h h0 : H} {G0 : PA → Prop} {Q : Ex → List AV → H → Prop} {ls : Value} {oc : Ck} {o : List Int} {K : List KV → Ck} {go : List KV → KV → Int} {f : Value} {FF : List KV × List KV} {b0 dg rnd lim n n0 : Nat} {iso : Int} {ctr : Option PA} {a0 nh ps : PA} {pv : KV} {cs : Nat} {l : List Ck}
theorem fold_map {r b m : Nat} {z : Zp n r} {u : BT KV r} (hl : Lim b0 dg rnd) (lu : Lu o b0 dg rnd z b u) (hm : m = (flatB r u).length) (S : St h0 G0 (TrC L iso r b u :: ZsC iso z m :: ZrC iso z b :: Ow a0 (mapC ls iso ctr (some (b0, 0)) (z.all u).length dg (2 * dg + 1) false false) 0 :: l) h) : St h0 G0 (MpC ls o iso dg a0 (z.all u) :: l) h :=
  shut_map (zp_all lu.ok hm S).pull1 rfl (Zp.flat lu.ok u) lu.srt (Zp.val lu.ok lu.val lu.mn) (Zp.its lu.ok lu.one) ⟨rfl, hl.one, hl.big⟩
theorem fold_leaf {z : Zp n 0} {b c : Nat} {p : PA} {xs acc : List KV} (hl : Lim b0 dg rnd) (lu : Lu o b0 dg rnd z b (xs : BT KV 0)) (hc : xs.length ≤ c)
    (S : St h0 G0 [K acc, Ow a0 (mapC ls iso ctr (some (b0, 0)) (z.all (r := 0) xs).length dg (2 * dg + 1) false false) 0, Ow (n0, 0) (L.cells pv) 0, HtC (some nh), Ow ps (LFr.flat (z.stk b)) ((cs - (z.stk b).length) * LFr.sz), ZsC iso z xs.length, ZrC iso z b, Ow (b, 0) (nodeC iso xs.length (some p, xs.length, c) none) 0, Ow p (L.flat xs) ((c - xs.length) * L.sz)] h) :
    St h0 G0 [K acc, MpC ls o iso dg a0 (z.all (r := 0) xs), Ow (n0, 0) (L.cells pv) 0, HtC (some nh), Ow ps (LFr.flat (z.stk b)) ((cs - (z.stk b).length) * LFr.sz)] h := by
  have S := shut_leaf L iso (xs := xs) (S.ats [.ow (b, 0), .ow p]) rfl rfl rfl rfl hc rfl
  have S := fold_map hl lu rfl (S.ats [.tr b, .kd none, .fo [], .ow a0])
  exact S.ats [.ck (K acc), .mp a0]
set_option maxHeartbeats 4000000 in
theorem w_single {z : Zp n 0} {b i c : Nat} {p : PA} {xs acc : List KV} (hls : Lss ls oc o) (hoc : Bes oc h0 G0) (hcb : Cba Try.prog f argO K go lim) (hl : Lim b0 dg rnd) (lv : Lv o go FF b0 dg rnd lim z b xs i acc) (hc : xs.length ≤ c) (hcs : (z.stk b).length ≤ cs) (hn : n ≤ 4294967294)
    (S : St h0 G0 [K acc, Ow a0 (mapC ls iso ctr (some (b0, 0)) (z.all (r := 0) xs).length dg (2 * dg + 1) false false) 0, Ow (n0, 0) (L.cells pv) 0, HtC (some nh), Ow ps (LFr.flat (z.stk b)) ((cs - (z.stk b).length) * LFr.sz), ZsC iso z xs.length, ZrC iso z b, Ow (b, 0) (nodeC iso xs.length (some p, xs.length, c) none) 0, Ow p (L.flat xs) ((c - xs.length) * L.sz)] h)
    (hret : ∀ h' (xs acc : List KV), Lu o b0 dg rnd z b (xs : BT KV 0) → FF = (acc, z.all (r := 0) xs) → xs.length ≤ c → St h0 G0 [K acc, Ow a0 (mapC ls iso ctr (some (b0, 0)) (z.all (r := 0) xs).length dg (2 * dg + 1) false false) 0, Ow (n0, 0) (L.cells pv) 0, HtC (some nh), Ow ps (LFr.flat (z.stk b)) ((cs - (z.stk b).length) * LFr.sz), ZsC iso z xs.length, ZrC iso z b, Ow (b, 0) (nodeC iso xs.length (some p, xs.length, c) none) 0, Ow p (L.flat xs) ((c - xs.length) * L.sz)] h' → wp Try.prog (.done .ret []) Q h')
    (hrs : ∀ h' (cur : List KV) (x : KV) (acc : List KV), Rv o go FF lim cur x acc → cur.length < rnd → St h0 G0 [K acc, MpC ls o iso dg a0 cur, Ow (n0, 0) (L.cells x) 0, HtC (some nh), SlC (some ps, 0, cs) LFr.sz []] h' → wp Try.prog (.done (.exit 1000) [.c (.sl (some ps) 0 cs), .c (.addr nh)]) Q h')
    (hnx : ∀ h' (xs acc : List KV), Lv o go FF b0 dg rnd lim z b xs xs.length acc → xs.length ≤ c → St h0 G0 [K acc, Ow a0 (mapC ls iso ctr (some (b0, 0)) (z.all (r := 0) xs).length dg (2 * dg + 1) false false) 0, Ow (n0, 0) (L.cells pv) 0, HtC (some nh), Ow ps (LFr.flat (z.stk b)) ((cs - (z.stk b).length) * LFr.sz), ZsC iso z xs.length, ZrC iso z b, Ow (b, 0) (nodeC iso xs.length (some p, xs.length, c) none) 0, Ow p (L.flat xs) ((c - xs.length) * L.sz)] h' → wp Try.prog (.done (.exit 11) [.c (.sl (some ps) (z.stk b).length cs)]) Q h') :
    wp Try.prog (.loop [.c (.sl), .c (.int .i64)] [.c (.sl ((some ps)) ((z.stk b).length) (cs)), .c (.int .i64 ((i : Int)))] fun y105 =>
                    .nonnil (some (b, 0)) fun p106 =>
                    .load (p106.fst, p106.snd + 2) (.sl) fun s107 =>
                    .ite (decide (y105.snd.fst < (↑s107.snd.fst : Int)))
                    (.nonnil (some (b, 0)) fun p108 =>
                      .load (p108.fst, p108.snd + 2) (.sl) fun s109 =>
                      .nonnil (s109.fst) fun p110 =>
                      .guard (((0 : Int) ≤ y105.snd.fst) ∧ ((y105.snd.fst : Int) < (↑s109.snd.fst : Int))) <|
                      .load (p110.fst, p110.snd + mulN (Int.toNat y105.snd.fst) 2) (.int .i64) fun i111 =>
                      .load (p110.fst, p110.snd + mulN (Int.toNat y105.snd.fst) 2 + 1) (.int .i64) fun i112 =>
                      .callv f [.agg [.int .i64 (i111), .int .i64 (i112)]] false [.c (.int .i64)] fun r113 =>
                      .bind none (.ite (r113.fst == 2)
                        (.nonnil (some (b, 0)) fun p114 =>
                          .load (p114.fst, p114.snd + 2) (.sl) fun s115 =>
                          .load (a0.fst, a0.snd + 10) (.int .i64) fun i116 =>
                          .ite (decide ((↑s115.snd.fst : Int) > i116))
                          (.nonnil (some (b, 0)) fun p117 =>
                            .load (p117.fst, p117.snd + 2) (.sl) fun s118 =>
                            .guard (((0 : Int) ≤ y105.snd.fst) ∧ ((y105.snd.fst : Int) ≤ (↑s118.snd.fst : Int))) <|
                            .nonnil (some (b, 0)) fun p119 =>
                            .load (p119.fst, p119.snd + 2) (.sl) fun s120 =>
                            .guard (InK IntKind.i64 (y105.snd.fst + 1)) <|
                            .guard (((0 : Int) ≤ y105.snd.fst + 1) ∧ ((y105.snd.fst + 1 : Int) ≤ (↑s120.snd.fst : Int))) <|
                            .copy 2 ((slBase s118.fst s118.snd.snd (Int.toNat y105.snd.fst) 2), s118.snd.fst - Int.toNat y105.snd.fst, s118.snd.snd - Int.toNat y105.snd.fst) ((slBase s120.fst s120.snd.snd (y105.snd.fst + 1).toNat 2), s120.snd.fst - (y105.snd.fst + 1).toNat, s120.snd.snd - (y105.snd.fst + 1).toNat) fun m121 =>
                            .nonnil (some (b, 0)) fun p122 =>
                            .load (p122.fst, p122.snd + 2) (.sl) fun s123 =>
                            .nonnil (some (b, 0)) fun p124 =>
                            .load (p124.fst, p124.snd + 2) (.sl) fun s125 =>
                            .guard (InK IntKind.i64 ((↑s125.snd.fst : Int) - 1)) <|
                            .load (a0.fst, a0.snd + 7) (.int .i64) fun i126 =>
                            .load (a0.fst, a0.snd + 8) (.int .i64) fun i127 =>
                            .nonnil (s123.fst) fun p128 =>
                            .guard (((0 : Int) ≤ (↑s125.snd.fst : Int) - 1) ∧ (((↑s125.snd.fst : Int) - 1 : Int) < (↑s123.snd.fst : Int))) <|
                            .store (p128.fst, p128.snd + mulN ((↑s125.snd.fst : Int) - 1).toNat 2) (.int .i64 (i126)) <|
                            .store (p128.fst, p128.snd + mulN ((↑s125.snd.fst : Int) - 1).toNat 2 + 1) (.int .i64 (i127)) <|
                            .nonnil (some (b, 0)) fun p129 =>
                            .load (p129.fst, p129.snd + 2) (.sl) fun s130 =>
                            .nonnil (some (b, 0)) fun p131 =>
                            .load (p131.fst, p131.snd + 2) (.sl) fun s132 =>
                            .guard (InK IntKind.i64 ((↑s132.snd.fst : Int) - 1)) <|
                            .guard (((0 : Int) ≤ (↑s132.snd.fst : Int) - 1) ∧ (((↑s132.snd.fst : Int) - 1 : Int) ≤ (↑s130.snd.snd : Int))) <|
                            .nonnil (some (b, 0)) fun p133 =>
                            .store (p133.fst, p133.snd + 2) (.sl (slBase s130.fst s130.snd.snd 0 2) (((↑s132.snd.fst : Int) - 1).toNat - 0) (s130.snd.snd - 0)) <|
                            .bind (some 14) (.loop [.c (.int .i64)] [.c (.int .i64 (0))] fun y134 =>
                                .ite (decide (y134.fst < (↑y105.fst.snd.fst : Int)))
                                (.nonnil (y105.fst.fst) fun p135 =>
                                  .guard (((0 : Int) ≤ y134.fst) ∧ ((y134.fst : Int) < (↑y105.fst.snd.fst : Int))) <|
                                  .load (p135.fst, p135.snd + mulN (Int.toNat y134.fst) 2) (.ptr) fun q136 =>
                                  .nonnil (q136) fun p137 =>
                                  .load (p137.fst, p137.snd + 1) (.int .i64) fun i138 =>
                                  .guard (InK IntKind.i64 (i138 - 1)) <|
                                  .nonnil (q136) fun p139 =>
                                  .store (p139.fst, p139.snd + 1) (.int .i64 (i138 - 1)) <|
                                  .guard (InK IntKind.i64 (y134.fst + 1)) <|
                                  .done .normal [.c (.int .i64 (y134.fst + 1))])
                                (.done (.exit 14) [])) [] fun x140 =>
                            .load (a0.fst, a0.snd + 3) (.int .i64) fun i141 =>
                            .guard (InK IntKind.i64 (i141 - 1)) <|
                            .store (a0.fst, a0.snd + 3) (.int .i64 (i141 - 1)) <|
                            .guard (InK IntKind.i64 (y105.snd.fst - 1)) <|
                            .done .normal [.c (.sl (y105.fst.fst) (y105.fst.snd.fst) (y105.fst.snd.snd)), .c (.int .i64 (y105.snd.fst - 1))])
                          (.nonnil (some (b, 0)) fun p142 =>
                            .load (p142.fst, p142.snd + 2) (.sl) fun s143 =>
                            .nonnil (s143.fst) fun p144 =>
                            .guard (((0 : Int) ≤ y105.snd.fst) ∧ ((y105.snd.fst : Int) < (↑s143.snd.fst : Int))) <|
                            .load (p144.fst, p144.snd + mulN (Int.toNat y105.snd.fst) 2) (.int .i64) fun i145 =>
                            .load (p144.fst, p144.snd + mulN (Int.toNat y105.snd.fst) 2 + 1) (.int .i64) fun i146 =>
                            .store (n0, 0) (.int .i64 (i145)) <|
                            .store (n0, 1) (.int .i64 (i146)) <|
                            .nonnil (some (b, 0)) fun p147 =>
                            .load (p147.fst, p147.snd + 2) (.sl) fun s148 =>
                            .nonnil (s148.fst) fun p149 =>
                            .guard (((0 : Int) ≤ y105.snd.fst) ∧ ((y105.snd.fst : Int) < (↑s148.snd.fst : Int))) <|
                            .load (p149.fst, p149.snd + mulN (Int.toNat y105.snd.fst) 2) (.int .i64) fun i150 =>
                            .load (p149.fst, p149.snd + mulN (Int.toNat y105.snd.fst) 2 + 1) (.int .i64) fun i151 =>
                            .call fn_tg_deleteHint [.c (.addr a0), .agg [.int .i64 (i150), .int .i64 (i151)], .c (.addr nh)] true [.agg [.int .i64, .int .i64], .c (.bool)] fun r152 =>
                            .guard (((0 : Int) ≤ 0) ∧ ((0 : Int) ≤ (↑y105.fst.snd.snd : Int))) <|
                            .done (.exit 1000) [.c (.sl (slBase y105.fst.fst y105.fst.snd.snd 0 2) (0) (y105.fst.snd.snd - 0)), .c (.addr nh)]))
                        (.ite (r113.fst == 1)
                          (.done .normal [.c (.sl (y105.fst.fst) (y105.fst.snd.fst) (y105.fst.snd.snd)), .c (.int .i64 (y105.snd.fst))])
                          (.done .ret []))) [.c (.sl), .c (.int .i64)] fun x153 =>
                      .guard (InK IntKind.i64 (x153.snd.fst + 1)) <|
                      .done .normal [.c (.sl (x153.fst.fst) (x153.fst.snd.fst) (x153.fst.snd.snd)), .c (.int .i64 (x153.snd.fst + 1))])
                    (.done (.exit 11) [.c (.sl (y105.fst.fst) (y105.fst.snd.fst) (y105.fst.snd.snd))])) Q h := by
  have h1 := hl.one
  have hbig := hl.big
  have hrl := hl.rnd
  have hal : ∀ ys : List KV, (z.all (r := 0) ys).length = z.lf.length + (ys.length + z.rg.length) := fun ys => z.all_len (r := 0) ys
  have hsl := z.len b
  refine w_lp (fun r y h' => ∃ (xs acc : List KV) (i : Nat), y = ((some ps, (z.stk b).length, cs), (i : Int), ()) ∧ Lv o go FF b0 dg rnd lim z b xs i acc ∧ xs.length - i = r ∧ xs.length ≤ c ∧
      St h0 G0 [K acc, Ow a0 (mapC ls iso ctr (some (b0, 0)) (z.all (r := 0) xs).length dg (2 * dg + 1) false false) 0, Ow (n0, 0) (L.cells pv) 0, HtC (some nh), Ow ps (LFr.flat (z.stk b)) ((cs - (z.stk b).length) * LFr.sz), ZsC iso z xs.length, ZrC iso z b, Ow (b, 0) (nodeC iso xs.length (some p, xs.length, c) none) 0, Ow p (L.flat xs) ((c - xs.length) * L.sz)] h') (xs.length - i) rfl ⟨xs, acc, i, rfl, lv, rfl, hc, S⟩ ?_
  clear S lv hc
  rintro r _ _ ⟨xs, acc, i, rfl, lv, hr, hc, S⟩
  obtain ⟨lu, le, fn, nn⟩ := lv
  have hxl : xs.length ≤ 2 * dg + 1 := lu.val
  have htop := lu.top
  have hall := hal xs
  rw [hal] at htop
  refine w_nonnil (ld_sls S rfl ?_)
  by_cases hlt : i < xs.length
  case neg =>
    obtain rfl : i = xs.length := by omega
    exact w_false (lt_f (by (first | omega | ((try dsimp only [Sh.T, Sh1.T]); omega)))) (ln_e (hnx _ xs acc ⟨lu, le, fn, nn⟩ hc S))
  have hx := List.getElem?_eq_getElem hlt
  have hdr : xs.drop i = xs[i] :: xs.drop (i + 1) := List.drop_eq_getElem_cons hlt
  have hall2 : z.all (r := 0) xs = (z.lf ++ xs.take i) ++ xs[i] :: (xs.drop (i + 1) ++ z.rg) := by
    show z.lf ++ (xs ++ z.rg) = _
    conv => lhs; rw [← List.take_append_drop i xs, hdr]
    simp only [List.append_assoc, List.cons_append]
  refine w_true (lt_t (by (first | omega | ((try dsimp only [Sh.T, Sh1.T]); omega)))) (w_nonnil (ld_sls S rfl (w_nonnil (w_guard ⟨by (first | omega | ((try dsimp only [Sh.T, Sh1.T]); omega)), by (first | omega | ((try dsimp only [Sh.T, Sh1.T]); omega))⟩ ?_))))
  dsimp only
  rw [Int.toNat_natCast]
  refine ld_it S hx ?_
  refine st_cba S hcb xs[i] (by omega) rfl fun _ S => ?_
  rw [hdr, List.cons_append] at fn
  refine w_bnd ?_
  rcases hcb.1 acc xs[i] with h | h | h
  · refine w_false (by show (go acc xs[i] == 2) = false; rw [h]; rfl) (w_false (by show (go acc xs[i] == 1) = false; rw [h]; rfl) (bd_r (ln_r (hret _ xs _ lu ?_ hc S))))
    rw [das_stop (by omega) (by omega)] at fn
    rw [← fn, hall2]
  · refine w_false (by show (go acc xs[i] == 2) = false; rw [h]; rfl) (w_true (by show (go acc xs[i] == 1) = true; rw [h]; rfl) (bd_n rfl (w_guard (inK64 (by (first | omega | ((try dsimp only [Sh.T, Sh1.T]); omega))) (by (first | omega | ((try dsimp only [Sh.T, Sh1.T]); omega)))) ?_)))
    rw [das_keep h] at fn
    refine ln_n rfl (r - 1) ⟨xs, _, i + 1, rfl, ⟨lu, by omega, ?_, by simp; omega⟩, by omega, hc, S⟩ (by omega)
    rw [List.take_succ_eq_append_getElem hlt, ← List.append_assoc]
    exact fn
  refine w_true (by show (go acc xs[i] == 2) = true; rw [h]; rfl) (w_nonnil (ld_sls S rfl (ld_int S rfl ?_)))
  by_cases hgt : dg < xs.length
  · obtain ⟨hlen', lu'⟩ := lu.cut (i := i) (j := 1) hl (by omega) (by omega)
    refine w_true (decide_eq_true (by (first | omega | ((try dsimp only [Sh.T, Sh1.T]); omega)))) ?_
    refine w_nonnil (ld_sls S rfl (w_guard ⟨by (first | omega | ((try dsimp only [Sh.T, Sh1.T]); omega)), by (first | omega | ((try dsimp only [Sh.T, Sh1.T]); omega))⟩ (w_nonnil (ld_sls S rfl (w_guard (inK64 (by (first | omega | ((try dsimp only [Sh.T, Sh1.T]); omega))) (by (first | omega | ((try dsimp only [Sh.T, Sh1.T]); omega)))) (w_guard ⟨by (first | omega | ((try dsimp only [Sh.T, Sh1.T]); omega)), by (first | omega | ((try dsimp only [Sh.T, Sh1.T]); omega))⟩ ?_))))))
    dsimp only
    rw [toNat_succ]
    refine st_cpdel (L := L) (ys := xs) (n := xs.length) (i := i) S rfl rfl hlt hc fun _ zs hzl hzd S => ?_
    have hzd := hzd (0, 0)
    refine w_nonnil (ld_sls S rfl (w_nonnil (ld_sls S rfl (w_guard (inK64 (by (first | omega | ((try dsimp only [Sh.T, Sh1.T]); omega))) (by (first | omega | ((try dsimp only [Sh.T, Sh1.T]); omega)))) (ld_int S rfl (ld_int S rfl (w_nonnil (w_guard ⟨by (first | omega | ((try dsimp only [Sh.T, Sh1.T]); omega)), by (first | omega | ((try dsimp only [Sh.T, Sh1.T]); omega))⟩ ?_))))))))
    dsimp only
    rw [toNat_pred]
    refine st_it S (by omega) fun _ S => ?_
    rw [hzd] at S
    refine w_nonnil (ld_sls S rfl (w_nonnil (ld_sls S rfl (w_guard (inK64 (by (first | omega | ((try dsimp only [Sh.T, Sh1.T]); omega))) (by (first | omega | ((try dsimp only [Sh.T, Sh1.T]); omega)))) (w_guard ⟨by (first | omega | ((try dsimp only [Sh.T, Sh1.T]); omega)), by (first | omega | ((try dsimp only [Sh.T, Sh1.T]); omega))⟩ (w_nonnil ?_))))))
    refine st_store S (lt_ble rfl) fun _ S => ?_
    have hee : xs.eraseIdx i = xs.take i ++ xs.drop (i + 1) := List.eraseIdx_eq_take_drop_succ ..
    have S := (S.at (.ow (b, 0))).re (b, 0) (nodeC iso xs.length (some p, xs.length - 1, c) none) 0 rfl (by simp [nodeC, Cell.val, slBase_zero]) rfl
    have S := (S.at (.ow p)).re p (L.flat (xs.take i ++ xs.drop (i + 1)) ++ L.flat [(0, 0)]) _ rfl (by rw [hee, L.flat_append]) rfl
    have S := S.shrink
    have S := S.re p (L.flat (xs.take i ++ xs.drop (i + 1))) ((c - (xs.length - 1)) * L.sz) rfl rfl (by rw [L.flat_length, ← Nat.add_mul]; congr 1; show 1 + _ = _; omega)
    have S := zp_in (S.ats [.ow (b, 0), .kd none])
    have S := (S.at (.ow ps)).pull1
    refine w_mid' (some 14) (fun (_ : SV []) h' => St h0 G0 [K (acc ++ [xs[i]]), Ow a0 (mapC ls iso ctr (some (b0, 0)) (z.all (r := 0) xs).length dg (2 * dg + 1) false false) 0, Ow (n0, 0) (L.cells pv) 0, HtC (some nh), Ow ps (LFr.flat (z.stk b)) ((cs - (z.stk b).length) * LFr.sz), ZsC iso z (xs.length - 1), ZrC iso z b, Ow (b, 0) (nodeC iso (xs.length - 1) (some p, xs.length - 1, c) none) 0, Ow p (L.flat (xs.take i ++ xs.drop (i + 1))) ((c - (xs.length - 1)) * L.sz)] h') ?_ ?_
    · refine w_dec (k := 1) (gs := z.stk b) (fs := z.sp xs.length ++ [(b, xs.length, (some p, xs.length - 1, c), none)]) rfl rfl (by rw [List.map_append]; exact z.ids b xs.length) (fun e he => ?_) (by omega) S fun _ S => md_e rfl ?_
      · rcases List.mem_append.1 he with he | he
        · have := z.cnts _ e he
          omega
        · simp only [List.mem_cons, List.not_mem_nil, or_false] at he
          subst he
          dsimp only
          omega
      · rw [List.map_append, z.spd 1 xs.length (by omega)] at S
        have S := zp_ou (m := xs.length - 1) (b := b) (cnt := xs.length - 1) (s := (some p, xs.length - 1, c)) (kp := none) S
        exact S.ats [.ck (K (acc ++ [xs[i]])), .ow a0, .ow (n0, 0), .ck (HtC (some nh)), .ow ps, .kd none, .fo [], .ow (b, 0), .ow p]
    clear S
    rintro _ _ S
    refine ld_int S rfl (w_guard (inK64 (by (first | omega | ((try dsimp only [Sh.T, Sh1.T]); omega))) (by (first | omega | ((try dsimp only [Sh.T, Sh1.T]); omega)))) (st_store S (lt_ble rfl) fun _ S => ?_))
    have S := (S.at (.ow a0)).re a0 (mapC ls iso ctr (some (b0, 0)) (z.all (r := 0) (xs.take i ++ xs.drop (i + 1))).length dg (2 * dg + 1) false false) 0 rfl (by rw [hal, hal, hlen']; simp [mapC, Cell.val]; omega) rfl
    have S := S.ats [.ck (K (acc ++ [xs[i]])), .ow a0, .ow (n0, 0), .ck (HtC (some nh)), .ow ps, .kd none, .fo [], .ow (b, 0), .ow p]
    rw [← hlen'] at S
    refine w_guard (inK64 (by (first | omega | ((try dsimp only [Sh.T, Sh1.T]); omega))) (by (first | omega | ((try dsimp only [Sh.T, Sh1.T]); omega)))) (bd_n rfl (w_guard (inK64 (by (first | omega | ((try dsimp only [Sh.T, Sh1.T]); omega))) (by (first | omega | ((try dsimp only [Sh.T, Sh1.T]); omega)))) ?_))
    rw [das_del h] at fn
    refine ln_n rfl (r - 1) ⟨xs.take i ++ xs.drop (i + 1), _, i, Prod.ext rfl (Prod.ext (by show (i : Int) - 1 + 1 = i; omega) rfl), ⟨lu', by omega, ?_, by simp; omega⟩, by omega, by omega, S⟩ (by omega)
    rw [List.take_left' (by simp; omega), List.drop_left' (by simp; omega)]
    exact fn
  · refine w_false (decide_eq_false (by (first | omega | ((try dsimp only [Sh.T, Sh1.T]); omega)))) (w_nonnil (ld_sls S rfl (w_nonnil (w_guard ⟨by (first | omega | ((try dsimp only [Sh.T, Sh1.T]); omega)), by (first | omega | ((try dsimp only [Sh.T, Sh1.T]); omega))⟩ ?_))))
    try dsimp only
    refine ld_it S hx ?_
    refine st_store S (lt_ble rfl) fun _ S => ?_
    refine st_store S (lt_ble rfl) fun _ S => ?_
    refine w_nonnil (ld_sls S rfl (w_nonnil (w_guard ⟨by (first | omega | ((try dsimp only [Sh.T, Sh1.T]); omega)), by (first | omega | ((try dsimp only [Sh.T, Sh1.T]); omega))⟩ ?_)))
    refine ld_it S hx ?_
    have S := (S.at (.ow (n0, 0))).re (n0, 0) (L.cells xs[i]) 0 rfl rfl rfl
    have S := fold_leaf (pv := xs[i]) hl lu hc (S.ats [.ck (K (acc ++ [xs[i]])), .ow a0, .ow (n0, 0), .ck (HtC (some nh)), .ow ps, .kd none, .fo [], .ow (b, 0), .ow p])
    refine st_callF S [.mp a0, .ck (HtC (some nh))] (fun G' hG' hsub => HT.re (args' := [.c (.addr a0), .agg [.int .i64 xs[i].1, .int .i64 xs[i].2], .c (.ptr (some nh))]) rfl <| c_deleteHint (k := xs[i]) (.inr (hs_ok nh)) hls (by omega) (hoc.step S hsub) hG') ?_
    rintro _ _ _ ⟨rfl, rfl⟩ S
    dsimp only [List.cons_append, List.nil_append] at S
    refine w_guard ⟨by omega, by omega⟩ ?_
    have hsr := lu.srt
    rw [hall2] at S hsr
    obtain ⟨hd, _⟩ := del_at2 hsr
    rw [hd] at S
    rw [slBase_zero]
    have S := ((S.at (.ow ps)).close_sl (n := (z.stk b).length) (c := cs) (sz := LFr.sz) hcs (by rw [LFr.flat_length]))
    have S := sl_none S
    refine bd_p (ln_e (hrs _ _ xs[i] _ (Rv.mk2 hsr h fn (by simp; omega)) (by simp; omega) (S.ats [.ck (K (acc ++ [xs[i]])), .mp a0, .ow (n0, 0), .ck (HtC (some nh))])))
end
end Go.Proofs.Ytegnpimlfphncaa.TG
