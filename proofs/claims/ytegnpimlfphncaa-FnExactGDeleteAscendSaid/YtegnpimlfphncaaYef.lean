/-
  The tree of items: a leaf, and a node, as DeleteAscend goes through them. Conditions: none.
-/
import Derived.Test.YtegnpimlfphncaaYee
set_option linter.unusedVariables false
set_option linter.unusedSimpArgs false
set_option linter.unusedSectionVars false
set_option maxRecDepth 100000
namespace Go.Proofs.Ytegnpimlfphncaa.TG
open Go Go.Proofs.Ytegnpimlfphncaa
structure Pv (o : List Int) (go : List KV → KV → Int) (FF : List KV × List KV) (b0 dg rnd lim : Nat) {n r : Nat} (z : Zp n r) (b : Nat) (u : BT KV r) (pv : KV) (acc : List KV) : Prop where
  lu : Lu o b0 dg rnd z b u
  lo : ∀ a ∈ z.lf, ltO o a pv = true
  hi : ∀ a ∈ z.rg, ltO o pv a = true
  fn : Fn go (z.lf ++ (flatB r u).take (pos (ltO o) (flatB r u) pv)) ((flatB r u).drop (pos (ltO o) (flatB r u) pv) ++ z.rg) acc = FF
  nn : acc.length + (((flatB r u).length - pos (ltO o) (flatB r u) pv) + z.rg.length) ≤ lim
def Nx (o : List Int) (go : List KV → KV → Int) (FF : List KV × List KV) (b0 dg rnd lim r1 : Nat) (pv : KV) {n : Nat} : (r : Nat) → Zp n r → Nat → BT KV r → Bool → Nat → List KV → Nat → Prop
  | 0, z, b, u, _, i, acc, k => Lv o go FF b0 dg rnd lim z b u i acc ∧ z.rg.length < k
  | r + 1, z, b, u, fd, i, acc, k => (fd = true ∧ Bv o go FF b0 dg rnd lim k z b u i acc) ∨ (fd = false ∧ r + 1 = r1 ∧ Pv o go FF b0 dg rnd lim z b u pv acc ∧ fnd (ltO o) u.1 pv = none ∧ i = pos (ltO o) u.1 pv)
section
variable {h h0 : H} {G0 : PA → Prop} {Q : Ex → List AV → H → Prop} {ls : Value} {oc : Ck} {o : List Int} {K : List KV → Ck} {go : List KV → KV → Int} {f : Value} {FF : List KV × List KV} {b0 dg rnd lim n n0 : Nat} {iso : Int} {ctr : Option PA} {a0 nh ps : PA} {pv : KV} {cs : Nat} {l : List Ck}
theorem Pv.dn {r b k i : Nat} {z : Zp n (r + 1)} {x : Fm r} {xs : List KV} {ts : List (BT KV r)} {v : BT KV r} {acc : List KV} (hl : Lim b0 dg rnd) (pw : Pv o go FF b0 dg rnd lim z b ((xs, ts) : BT KV (r + 1)) pv acc) (hf : fnd (ltO o) xs pv = none) (hi : i = pos (ltO o) xs pv) (hv : ts[i]? = some v)
    (hx : x.Ok dg (2 * dg + 1)) (hb : x.b = b) (hput : x.put v = (xs, ts)) (hC : x.C = xs.take i) (hD : x.D = xs.drop i) (hA : x.A = ts.take i) (hB : x.B = ts.drop (i + 1)) : Pv o go FF b0 dg rnd lim (.dn z x) k v pv acc := by
  obtain ⟨lu, lo, hgt, fn, nn⟩ := pw
  have hl2 : ts.length = xs.length + 1 := lu.val.2.1
  have hlm : (ts.map (flatB r)).length = xs.length + 1 := by rw [List.length_map, hl2]
  have hs0 : Srt (ltO o) (z.lf ++ (flatB (r + 1) ((xs, ts) : BT KV (r + 1)) ++ z.rg)) := lu.srt
  have hsw : Srt (ltO o) (weave xs (ts.map (flatB r))) := (srt_append.1 (srt_append.1 hs0).2.1).1
  have hvm : (ts.map (flatB r))[pos (ltO o) xs pv]? = some (flatB r v) := by rw [← hi, List.getElem?_map, hv]; rfl
  obtain ⟨g1, g2⟩ := around (ordO o) hlm hsw hvm hf
  obtain ⟨_, _, g3, _⟩ := put_child (ordO o) hlm hsw hvm hf
  rw [← hi] at g1 g2 g3
  have e1 : x.lf = pre ((ts.map (flatB r)).take i) (xs.take i) := by unfold Fm.lf; rw [hA, hC, List.map_take]
  have e2 : x.rg = post (xs.drop i) ((ts.map (flatB r)).drop (i + 1)) := by unfold Fm.rg; rw [hB, hD, List.map_drop]
  rw [← e1] at g1 g3
  rw [← e2] at g2
  have hfl : flatB (r + 1) ((xs, ts) : BT KV (r + 1)) = x.lf ++ (flatB r v ++ x.rg) := by rw [← hput]; exact hx.flat v
  have hpp : pos (ltO o) (flatB (r + 1) ((xs, ts) : BT KV (r + 1))) pv = x.lf.length + pos (ltO o) (flatB r v) pv := g3
  have hple := pos_le (lt := ltO o) (flatB r v) pv
  have e3 : Zp.lf (.dn z x) = z.lf ++ x.lf := rfl
  have e4 : Zp.rg (.dn z x) = x.rg ++ z.rg := rfl
  refine ⟨Lu.dn hl (by rw [hput]; exact lu) hx hb, fun a ha => ?_, fun a ha => ?_, ?_, ?_⟩
  · rw [e3] at ha
    exact (List.mem_append.1 ha).elim (lo a) (g1 a)
  · rw [e4] at ha
    exact (List.mem_append.1 ha).elim (g2 a) (hgt a)
  · rw [e3, e4, ← fn, hpp, hfl, List.take_length_add_append, List.drop_length_add_append, List.take_append_of_le_length hple, List.drop_append_of_le_length hple]
    simp only [List.append_assoc]
  · rw [hpp, hfl] at nn
    rw [e4]
    simp only [List.length_append] at nn ⊢
    omega
theorem fold_all {r b : Nat} {z : Zp n r} {u : BT KV r} {acc : List KV} (hl : Lim b0 dg rnd) (lu : Lu o b0 dg rnd z b u) (S : St h0 G0 [K acc, Ow a0 (mapC ls iso ctr (some (b0, 0)) (z.all u).length dg (2 * dg + 1) false false) 0, Ow (n0, 0) (L.cells pv) 0, HtC (some nh), Ow ps (LFr.flat (z.stk b)) ((cs - (z.stk b).length) * LFr.sz), ZsC iso z (flatB r u).length, ZrC iso z b, TrC L iso r b u] h) :
    St h0 G0 [K acc, MpC ls o iso dg a0 (z.all u), Ow (n0, 0) (L.cells pv) 0, HtC (some nh), Ow ps (LFr.flat (z.stk b)) ((cs - (z.stk b).length) * LFr.sz)] h := by
  have S := fold_map hl lu rfl (S.ats [.tr b, .kd none, .fo [], .ow a0])
  exact S.ats [.ck (K acc), .mp a0]
set_option maxHeartbeats 4000000 in
theorem w_leafp {R i : Nat} {z : Zp n 0} {b : Nat} {xs acc : List KV} (hls : Lss ls oc o) (hoc : Bes oc h0 G0) (hcb : Cba Try.prog f argO K go lim) (hl : Lim b0 dg rnd) (lv : Lv o go FF b0 dg rnd lim z b xs i acc) (hR : z.rg.length ≤ R) (hcs : (z.stk b).length ≤ cs) (hn : n ≤ 4294967294)
    (S : St h0 G0 [K acc, Ow a0 (mapC ls iso ctr (some (b0, 0)) (z.all (r := 0) xs).length dg (2 * dg + 1) false false) 0, Ow (n0, 0) (L.cells pv) 0, HtC (some nh), Ow ps (LFr.flat (z.stk b)) ((cs - (z.stk b).length) * LFr.sz), ZsC iso z xs.length, ZrC iso z b, TrC L iso 0 b xs] h)
    (hret : ∀ h', St h0 G0 [K FF.1, MpC ls o iso dg a0 FF.2] h' → wp Try.prog (.done .ret []) Q h')
    (hrs : ∀ h' (cs : Nat) (ps : PA) (cur : List KV) (x : KV) (acc : List KV), Rv o go FF lim cur x acc → cur.length < rnd → St h0 G0 [K acc, MpC ls o iso dg a0 cur, Ow (n0, 0) (L.cells x) 0, HtC (some nh), SlC (some ps, 0, cs) LFr.sz []] h' → wp Try.prog (.done (.exit 1000) [.c (.sl (some ps) 0 cs), .c (.addr nh)]) Q h')
    (hnx : ∀ h' (r : Nat) (z : Zp n (r + 1)) (b : Nat) (u : BT KV (r + 1)) (i cs : Nat) (ps : PA) (acc : List KV), Bv o go FF b0 dg rnd lim R z b u i acc → (z.stk b).length ≤ cs → St h0 G0 [K acc, Ow a0 (mapC ls iso ctr (some (b0, 0)) (z.all u).length dg (2 * dg + 1) false false) 0, Ow (n0, 0) (L.cells pv) 0, HtC (some nh), Ow ps (LFr.flat (z.stk b)) ((cs - (z.stk b).length) * LFr.sz), ZsC iso z (flatB (r + 1) u).length, ZrC iso z b, TrC L iso (r + 1) b u] h' →
      wp Try.prog (.done (.exit 1001) [.c (.ptr (some (b, 0))), .c (.sl (some ps) (z.stk b).length cs), .c (.tt), .c (.int .i64 (i : Int))]) Q h') :
    wp Try.prog (.nonnil (some (b, 0)) fun p63 =>
                .load (p63.fst, p63.snd + 2) (.sl) fun s64 =>
                .guard (InK IntKind.i64 ((↑s64.snd.fst : Int) - (i : Int))) <|
                .load (a0.fst, a0.snd + 10) (.int .i64) fun i65 =>
                .guard (InK IntKind.i64 ((↑s64.snd.fst : Int) - (i : Int) - i65)) <|
                .bind none (.ite (decide ((↑s64.snd.fst : Int) - (i : Int) - i65 > 1))
                  (.bind (some 5) (.loop [.c (.int .i64), .c (.int .i64)] [.c (.int .i64 (0)), .c (.int .i64 (0))] fun y66 =>
                        .ite (decide (y66.fst < (↑s64.snd.fst : Int) - (i : Int) - i65))
                        (.nonnil (some (b, 0)) fun p67 =>
                          .load (p67.fst, p67.snd + 2) (.sl) fun s68 =>
                          .guard (InK IntKind.i64 ((i : Int) + y66.fst)) <|
                          .nonnil (s68.fst) fun p69 =>
                          .guard (((0 : Int) ≤ (i : Int) + y66.fst) ∧ (((i : Int) + y66.fst : Int) < (↑s68.snd.fst : Int))) <|
                          .load (p69.fst, p69.snd + mulN ((i : Int) + y66.fst).toNat 2) (.int .i64) fun i70 =>
                          .load (p69.fst, p69.snd + mulN ((i : Int) + y66.fst).toNat 2 + 1) (.int .i64) fun i71 =>
                          .callv f [.agg [.int .i64 (i70), .int .i64 (i71)]] false [.c (.int .i64)] fun r72 =>
                          .ite (r72.fst != 2)
                          (.done (.exit 5) [.c (.int .i64 (y66.fst)), .c (.int .i64 (r72.fst))])
                          (.guard (InK IntKind.i64 (y66.fst + 1)) <|
                            .done .normal [.c (.int .i64 (y66.fst + 1)), .c (.int .i64 (r72.fst))]))
                        (.done (.exit 5) [.c (.int .i64 (y66.fst)), .c (.int .i64 (y66.snd.fst))])) [.c (.int .i64), .c (.int .i64)] fun x73 =>
                    .nonnil (some (b, 0)) fun p74 =>
                    .load (p74.fst, p74.snd + 2) (.sl) fun s75 =>
                    .guard (((0 : Int) ≤ (i : Int)) ∧ (((i : Int) : Int) ≤ (↑s75.snd.fst : Int))) <|
                    .nonnil (some (b, 0)) fun p76 =>
                    .load (p76.fst, p76.snd + 2) (.sl) fun s77 =>
                    .guard (InK IntKind.i64 ((i : Int) + x73.fst)) <|
                    .guard (((0 : Int) ≤ (i : Int) + x73.fst) ∧ (((i : Int) + x73.fst : Int) ≤ (↑s77.snd.fst : Int))) <|
                    .copy 2 ((slBase s75.fst s75.snd.snd (Int.toNat (i : Int)) 2), s75.snd.fst - Int.toNat (i : Int), s75.snd.snd - Int.toNat (i : Int)) ((slBase s77.fst s77.snd.snd ((i : Int) + x73.fst).toNat 2), s77.snd.fst - ((i : Int) + x73.fst).toNat, s77.snd.snd - ((i : Int) + x73.fst).toNat) fun m78 =>
                    .nonnil (some (b, 0)) fun p79 =>
                    .load (p79.fst, p79.snd + 2) (.sl) fun s80 =>
                    .guard (InK IntKind.i64 ((↑s80.snd.fst : Int) - x73.fst)) <|
                    .bind (some 7) (.loop [.c (.int .i64)] [.c (.int .i64 ((↑s80.snd.fst : Int) - x73.fst))] fun y81 =>
                        .nonnil (some (b, 0)) fun p82 =>
                        .load (p82.fst, p82.snd + 2) (.sl) fun s83 =>
                        .ite (decide (y81.fst < (↑s83.snd.fst : Int)))
                        (.nonnil (some (b, 0)) fun p84 =>
                          .load (p84.fst, p84.snd + 2) (.sl) fun s85 =>
                          .load (a0.fst, a0.snd + 7) (.int .i64) fun i86 =>
                          .load (a0.fst, a0.snd + 8) (.int .i64) fun i87 =>
                          .nonnil (s85.fst) fun p88 =>
                          .guard (((0 : Int) ≤ y81.fst) ∧ ((y81.fst : Int) < (↑s85.snd.fst : Int))) <|
                          .store (p88.fst, p88.snd + mulN (Int.toNat y81.fst) 2) (.int .i64 (i86)) <|
                          .store (p88.fst, p88.snd + mulN (Int.toNat y81.fst) 2 + 1) (.int .i64 (i87)) <|
                          .guard (InK IntKind.i64 (y81.fst + 1)) <|
                          .done .normal [.c (.int .i64 (y81.fst + 1))])
                        (.done (.exit 7) [])) [] fun x89 =>
                    .nonnil (some (b, 0)) fun p90 =>
                    .load (p90.fst, p90.snd + 2) (.sl) fun s91 =>
                    .nonnil (some (b, 0)) fun p92 =>
                    .load (p92.fst, p92.snd + 2) (.sl) fun s93 =>
                    .guard (InK IntKind.i64 ((↑s93.snd.fst : Int) - x73.fst)) <|
                    .guard (((0 : Int) ≤ (↑s93.snd.fst : Int) - x73.fst) ∧ (((↑s93.snd.fst : Int) - x73.fst : Int) ≤ (↑s91.snd.snd : Int))) <|
                    .nonnil (some (b, 0)) fun p94 =>
                    .store (p94.fst, p94.snd + 2) (.sl (slBase s91.fst s91.snd.snd 0 2) (((↑s93.snd.fst : Int) - x73.fst).toNat - 0) (s91.snd.snd - 0)) <|
                    .bind (some 9) (.loop [.c (.int .i64)] [.c (.int .i64 (0))] fun y95 =>
                        .ite (decide (y95.fst < (↑(z.stk b).length : Int)))
                        (.nonnil ((some ps)) fun p96 =>
                          .guard (((0 : Int) ≤ y95.fst) ∧ ((y95.fst : Int) < (↑(z.stk b).length : Int))) <|
                          .load (p96.fst, p96.snd + mulN (Int.toNat y95.fst) 2) (.ptr) fun q97 =>
                          .nonnil (q97) fun p98 =>
                          .load (p98.fst, p98.snd + 1) (.int .i64) fun i99 =>
                          .guard (InK IntKind.i64 (i99 - x73.fst)) <|
                          .nonnil (q97) fun p100 =>
                          .store (p100.fst, p100.snd + 1) (.int .i64 (i99 - x73.fst)) <|
                          .guard (InK IntKind.i64 (y95.fst + 1)) <|
                          .done .normal [.c (.int .i64 (y95.fst + 1))])
                        (.done (.exit 9) [])) [] fun x101 =>
                    .load (a0.fst, a0.snd + 3) (.int .i64) fun i102 =>
                    .guard (InK IntKind.i64 (i102 - x73.fst)) <|
                    .store (a0.fst, a0.snd + 3) (.int .i64 (i102 - x73.fst)) <|
                    .ite (x73.snd.fst == 0)
                    (.done .ret [])
                    (.bind none (.ite (x73.snd.fst == 1)
                        (.guard (InK IntKind.i64 ((i : Int) + 1)) <|
                          .done .normal [.c (.int .i64 ((i : Int) + 1))])
                        (.done .normal [.c (.int .i64 ((i : Int)))])) [.c (.int .i64)] fun x103 =>
                      .done .normal [.c (.int .i64 (x103.fst))]))
                  (.done .normal [.c (.int .i64 ((i : Int)))])) [.c (.int .i64)] fun x104 =>
                .bind (some 11) (.loop [.c (.sl), .c (.int .i64)] [.c (.sl ((some ps)) ((z.stk b).length) (cs)), .c (.int .i64 (x104.fst))] fun y105 =>
                    .nonnil (some (b, 0)) fun p106 =>
                    .load (p106.fst, p106.snd + 2) (.sl) fun s107 =>
                    .ite (decide (y105.snd.fst < (↑s107.snd.fst : Int)))
                    (.nonnil (some (b, 0)) fun p108 =>
                      .load (p108.fst, p108.snd + 2) (.sl) fun s109 =>
                      .nonnil (s109.fst) fun p110 =>
                      .guard (((0 : Int) ≤ y105.snd.fst) ∧ ((y105.snd.fst : Int) < (↑s109.snd.fst : Int))) <|
                      .load (p110.fst, p110.snd + mulN (Int.toNat y105.snd.fst) 2) (.int .i64) fun i111 =>
                      .load (p110.fst, p110.snd + mulN (Int.toNat y105.snd.fst) 2 + 1) (.int .i64) fun i112 =>
                      .callv f [.agg [.int .i64 (i111), .int .i64 (i112)]] false [.c (.int .i64)] fun r113 =>
                      .bind none (.ite (r113.fst == 2)
                        (.nonnil (some (b, 0)) fun p114 =>
                          .load (p114.fst, p114.snd + 2) (.sl) fun s115 =>
                          .load (a0.fst, a0.snd + 10) (.int .i64) fun i116 =>
                          .ite (decide ((↑s115.snd.fst : Int) > i116))
                          (.nonnil (some (b, 0)) fun p117 =>
                            .load (p117.fst, p117.snd + 2) (.sl) fun s118 =>
                            .guard (((0 : Int) ≤ y105.snd.fst) ∧ ((y105.snd.fst : Int) ≤ (↑s118.snd.fst : Int))) <|
                            .nonnil (some (b, 0)) fun p119 =>
                            .load (p119.fst, p119.snd + 2) (.sl) fun s120 =>
                            .guard (InK IntKind.i64 (y105.snd.fst + 1)) <|
                            .guard (((0 : Int) ≤ y105.snd.fst + 1) ∧ ((y105.snd.fst + 1 : Int) ≤ (↑s120.snd.fst : Int))) <|
                            .copy 2 ((slBase s118.fst s118.snd.snd (Int.toNat y105.snd.fst) 2), s118.snd.fst - Int.toNat y105.snd.fst, s118.snd.snd - Int.toNat y105.snd.fst) ((slBase s120.fst s120.snd.snd (y105.snd.fst + 1).toNat 2), s120.snd.fst - (y105.snd.fst + 1).toNat, s120.snd.snd - (y105.snd.fst + 1).toNat) fun m121 =>
                            .nonnil (some (b, 0)) fun p122 =>
                            .load (p122.fst, p122.snd + 2) (.sl) fun s123 =>
                            .nonnil (some (b, 0)) fun p124 =>
                            .load (p124.fst, p124.snd + 2) (.sl) fun s125 =>
                            .guard (InK IntKind.i64 ((↑s125.snd.fst : Int) - 1)) <|
                            .load (a0.fst, a0.snd + 7) (.int .i64) fun i126 =>
                            .load (a0.fst, a0.snd + 8) (.int .i64) fun i127 =>
                            .nonnil (s123.fst) fun p128 =>
                            .guard (((0 : Int) ≤ (↑s125.snd.fst : Int) - 1) ∧ (((↑s125.snd.fst : Int) - 1 : Int) < (↑s123.snd.fst : Int))) <|
                            .store (p128.fst, p128.snd + mulN ((↑s125.snd.fst : Int) - 1).toNat 2) (.int .i64 (i126)) <|
                            .store (p128.fst, p128.snd + mulN ((↑s125.snd.fst : Int) - 1).toNat 2 + 1) (.int .i64 (i127)) <|
                            .nonnil (some (b, 0)) fun p129 =>
                            .load (p129.fst, p129.snd + 2) (.sl) fun s130 =>
                            .nonnil (some (b, 0)) fun p131 =>
                            .load (p131.fst, p131.snd + 2) (.sl) fun s132 =>
                            .guard (InK IntKind.i64 ((↑s132.snd.fst : Int) - 1)) <|
                            .guard (((0 : Int) ≤ (↑s132.snd.fst : Int) - 1) ∧ (((↑s132.snd.fst : Int) - 1 : Int) ≤ (↑s130.snd.snd : Int))) <|
                            .nonnil (some (b, 0)) fun p133 =>
                            .store (p133.fst, p133.snd + 2) (.sl (slBase s130.fst s130.snd.snd 0 2) (((↑s132.snd.fst : Int) - 1).toNat - 0) (s130.snd.snd - 0)) <|
                            .bind (some 14) (.loop [.c (.int .i64)] [.c (.int .i64 (0))] fun y134 =>
                                .ite (decide (y134.fst < (↑y105.fst.snd.fst : Int)))
                                (.nonnil (y105.fst.fst) fun p135 =>
                                  .guard (((0 : Int) ≤ y134.fst) ∧ ((y134.fst : Int) < (↑y105.fst.snd.fst : Int))) <|
                                  .load (p135.fst, p135.snd + mulN (Int.toNat y134.fst) 2) (.ptr) fun q136 =>
                                  .nonnil (q136) fun p137 =>
                                  .load (p137.fst, p137.snd + 1) (.int .i64) fun i138 =>
                                  .guard (InK IntKind.i64 (i138 - 1)) <|
                                  .nonnil (q136) fun p139 =>
                                  .store (p139.fst, p139.snd + 1) (.int .i64 (i138 - 1)) <|
                                  .guard (InK IntKind.i64 (y134.fst + 1)) <|
                                  .done .normal [.c (.int .i64 (y134.fst + 1))])
                                (.done (.exit 14) [])) [] fun x140 =>
                            .load (a0.fst, a0.snd + 3) (.int .i64) fun i141 =>
                            .guard (InK IntKind.i64 (i141 - 1)) <|
                            .store (a0.fst, a0.snd + 3) (.int .i64 (i141 - 1)) <|
                            .guard (InK IntKind.i64 (y105.snd.fst - 1)) <|
                            .done .normal [.c (.sl (y105.fst.fst) (y105.fst.snd.fst) (y105.fst.snd.snd)), .c (.int .i64 (y105.snd.fst - 1))])
                          (.nonnil (some (b, 0)) fun p142 =>
                            .load (p142.fst, p142.snd + 2) (.sl) fun s143 =>
                            .nonnil (s143.fst) fun p144 =>
                            .guard (((0 : Int) ≤ y105.snd.fst) ∧ ((y105.snd.fst : Int) < (↑s143.snd.fst : Int))) <|
                            .load (p144.fst, p144.snd + mulN (Int.toNat y105.snd.fst) 2) (.int .i64) fun i145 =>
                            .load (p144.fst, p144.snd + mulN (Int.toNat y105.snd.fst) 2 + 1) (.int .i64) fun i146 =>
                            .store (n0, 0) (.int .i64 (i145)) <|
                            .store (n0, 1) (.int .i64 (i146)) <|
                            .nonnil (some (b, 0)) fun p147 =>
                            .load (p147.fst, p147.snd + 2) (.sl) fun s148 =>
                            .nonnil (s148.fst) fun p149 =>
                            .guard (((0 : Int) ≤ y105.snd.fst) ∧ ((y105.snd.fst : Int) < (↑s148.snd.fst : Int))) <|
                            .load (p149.fst, p149.snd + mulN (Int.toNat y105.snd.fst) 2) (.int .i64) fun i150 =>
                            .load (p149.fst, p149.snd + mulN (Int.toNat y105.snd.fst) 2 + 1) (.int .i64) fun i151 =>
                            .call fn_tg_deleteHint [.c (.addr a0), .agg [.int .i64 (i150), .int .i64 (i151)], .c (.addr nh)] true [.agg [.int .i64, .int .i64], .c (.bool)] fun r152 =>
                            .guard (((0 : Int) ≤ 0) ∧ ((0 : Int) ≤ (↑y105.fst.snd.snd : Int))) <|
                            .done (.exit 1000) [.c (.sl (slBase y105.fst.fst y105.fst.snd.snd 0 2) (0) (y105.fst.snd.snd - 0)), .c (.addr nh)]))
                        (.ite (r113.fst == 1)
                          (.done .normal [.c (.sl (y105.fst.fst) (y105.fst.snd.fst) (y105.fst.snd.snd)), .c (.int .i64 (y105.snd.fst))])
                          (.done .ret []))) [.c (.sl), .c (.int .i64)] fun x153 =>
                      .guard (InK IntKind.i64 (x153.snd.fst + 1)) <|
                      .done .normal [.c (.sl (x153.fst.fst) (x153.fst.snd.fst) (x153.fst.snd.snd)), .c (.int .i64 (x153.snd.fst + 1))])
                    (.done (.exit 11) [.c (.sl (y105.fst.fst) (y105.fst.snd.fst) (y105.fst.snd.snd))])) [.c (.sl)] fun x154 =>
                .loop [.c (.sl)] [.c (.sl (x154.fst.fst) (x154.fst.snd.fst) (x154.fst.snd.snd))] fun y155 =>
                  .guard (InK IntKind.i64 ((↑y155.fst.snd.fst : Int) - 1)) <|
                  .nonnil (y155.fst.fst) fun p156 =>
                  .guard (((0 : Int) ≤ (↑y155.fst.snd.fst : Int) - 1) ∧ (((↑y155.fst.snd.fst : Int) - 1 : Int) < (↑y155.fst.snd.fst : Int))) <|
                  .load (p156.fst, p156.snd + mulN ((↑y155.fst.snd.fst : Int) - 1).toNat 2 + 1) (.int .i64) fun i157 =>
                  .guard (InK IntKind.i64 ((↑y155.fst.snd.fst : Int) - 1)) <|
                  .guard (((0 : Int) ≤ (↑y155.fst.snd.fst : Int) - 1) ∧ (((↑y155.fst.snd.fst : Int) - 1 : Int) ≤ (↑y155.fst.snd.snd : Int))) <|
                  .ite ((↑(((↑y155.fst.snd.fst : Int) - 1).toNat - 0) : Int) == 0)
                  (.done .ret [])
                  (.guard (InK IntKind.i64 ((↑(((↑y155.fst.snd.fst : Int) - 1).toNat - 0) : Int) - 1)) <|
                    .nonnil (slBase y155.fst.fst y155.fst.snd.snd 0 2) fun p158 =>
                    .guard (((0 : Int) ≤ (↑(((↑y155.fst.snd.fst : Int) - 1).toNat - 0) : Int) - 1) ∧ (((↑(((↑y155.fst.snd.fst : Int) - 1).toNat - 0) : Int) - 1 : Int) < (↑(((↑y155.fst.snd.fst : Int) - 1).toNat - 0) : Int))) <|
                    .load (p158.fst, p158.snd + mulN ((↑(((↑y155.fst.snd.fst : Int) - 1).toNat - 0) : Int) - 1).toNat 2) (.ptr) fun q159 =>
                    .nonnil (q159) fun p160 =>
                    .load (p160.fst, p160.snd + 2) (.sl) fun s161 =>
                    .ite (decide (i157 < (↑s161.snd.fst : Int)))
                    (.done (.exit 1001) [.c (.ptr (q159)), .c (.sl (slBase y155.fst.fst y155.fst.snd.snd 0 2) (((↑y155.fst.snd.fst : Int) - 1).toNat - 0) (y155.fst.snd.snd - 0)), .c (.tt), .c (.int .i64 (i157))])
                    (.done .normal [.c (.sl (slBase y155.fst.fst y155.fst.snd.snd 0 2) (((↑y155.fst.snd.fst : Int) - 1).toNat - 0) (y155.fst.snd.snd - 0))]))) Q h := by
  have h1 := hl.one
  have hbig := hl.big
  have hxl : xs.length ≤ 2 * dg + 1 := lv.lu.val
  have hle := lv.le
  obtain ⟨p, c, hc, S⟩ := open_leaf L iso (S.at (.tr b))
  have hc : xs.length ≤ c := hc
  have S : St h0 G0 (Ow (b, 0) (nodeC iso xs.length (some p, xs.length, c) none) 0 :: Ow p (L.flat xs) ((c - xs.length) * L.sz) :: _) h := S
  have S := S.ats [.ck (K acc), .ow a0, .ow (n0, 0), .ck (HtC (some nh)), .ow ps, .kd none, .fo [], .ow (b, 0), .ow p]
  have retl : ∀ h' (xs acc : List KV), Lu o b0 dg rnd z b (xs : BT KV 0) → FF = (acc, z.all (r := 0) xs) → xs.length ≤ c → St h0 G0 [K acc, Ow a0 (mapC ls iso ctr (some (b0, 0)) (z.all (r := 0) xs).length dg (2 * dg + 1) false false) 0, Ow (n0, 0) (L.cells pv) 0, HtC (some nh), Ow ps (LFr.flat (z.stk b)) ((cs - (z.stk b).length) * LFr.sz), ZsC iso z xs.length, ZrC iso z b, Ow (b, 0) (nodeC iso xs.length (some p, xs.length, c) none) 0, Ow p (L.flat xs) ((c - xs.length) * L.sz)] h' → wp Try.prog (.done .ret []) Q h' :=
    fun h' xs acc lu hFF hc S => hret h' (by rw [hFF]; exact (fold_leaf hl lu hc S).only [.ck (K acc), .mp a0])
  refine w_nonnil (ld_sls S rfl (w_guard (inK64 (by (first | omega | ((try dsimp only [Sh.T, Sh1.T]); omega))) (by (first | omega | ((try dsimp only [Sh.T, Sh1.T]); omega)))) (ld_int S rfl (w_guard (inK64 (by (first | omega | ((try dsimp only [Sh.T, Sh1.T]); omega))) (by (first | omega | ((try dsimp only [Sh.T, Sh1.T]); omega)))) (w_bnd ?_)))))
  refine w_bulk hcb hl lv hc hcs hn S (fun h' xs acc lu hFF hc S => bd_r (retl h' xs acc lu hFF hc S)) (fun h' xs acc i lv hc S => bd_n rfl ?_)
  refine w_bnd (w_single hls hoc hcb hl lv hc hcs hn S (fun h' xs acc lu hFF hc S => bd_r (retl h' xs acc lu hFF hc S)) (fun h' cur x acc rv hlt S => bd_q (by decide) (hrs h' cs ps cur x acc rv hlt S)) (fun h' xs acc lv hc S => bd_e rfl ?_))
  have fn := lv.fn
  have nn := lv.nn
  rw [List.take_length, List.drop_length, List.nil_append] at fn
  have S := shut_leaf L iso (xs := xs) (S.ats [.ow (b, 0), .ow p]) rfl rfl rfl rfl hc rfl
  have S := S.ats [.ck (K acc), .ow a0, .ow (n0, 0), .ck (HtC (some nh)), .ow ps, .kd none, .fo [], .tr b]
  exact w_upw hl lv.lu fn (by omega) hR hcs hn S (fun h' r z b u lu hFF S => hret h' (by rw [hFF]; exact (fold_all hl lu S).only [.ck (K acc), .mp a0])) (fun h' r z b u i bv hcs S => hnx h' r z b u i cs ps acc bv hcs S)
end
end Go.Proofs.Ytegnpimlfphncaa.TG
