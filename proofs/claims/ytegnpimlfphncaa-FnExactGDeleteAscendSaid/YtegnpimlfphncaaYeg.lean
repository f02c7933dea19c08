/-
  The tree of items: DeleteAscend from a node on. Conditions: none.
-/
import Derived.Test.YtegnpimlfphncaaYef
set_option linter.unusedVariables false
set_option linter.unusedSimpArgs false
set_option linter.unusedSectionVars false
set_option maxRecDepth 100000
namespace Go.Proofs.Ytegnpimlfphncaa.TG
open Go Go.Proofs.Ytegnpimlfphncaa
section
variable {h h0 : H} {G0 : PA → Prop} {Q : Ex → List AV → H → Prop} {ls : Value} {oc : Ck} {o : List Int} {K : List KV → Ck} {go : List KV → KV → Int} {f : Value} {FF : List KV × List KV} {b0 dg rnd lim n n0 : Nat} {iso : Int} {ctr : Option PA} {a0 nh ps : PA} {pv : KV} {cs : Nat} {l : List Ck}
set_option maxHeartbeats 8000000 in
theorem w_next {k0 r1 r i : Nat} {fd : Bool} {z : Zp n r} {b : Nat} {u : BT KV r} {acc : List KV} (hls : Lss ls oc o) (hoc : Bes oc h0 G0) (hcb : Cba Try.prog f argO K go lim) (hl : Lim b0 dg rnd) (nx : Nx o go FF b0 dg rnd lim r1 pv r z b u fd i acc k0) (hcs : (z.stk b).length ≤ cs) (hn : n ≤ 4294967294)
    (S : St h0 G0 [K acc, Ow a0 (mapC ls iso ctr (some (b0, 0)) (z.all u).length dg (2 * dg + 1) false false) 0, Ow (n0, 0) (L.cells pv) 0, HtC (some nh), Ow ps (LFr.flat (z.stk b)) ((cs - (z.stk b).length) * LFr.sz), ZsC iso z (flatB r u).length, ZrC iso z b, TrC L iso r b u] h)
    (hret : ∀ h', St h0 G0 [K FF.1, MpC ls o iso dg a0 FF.2] h' → wp Try.prog (.done .ret []) Q h')
    (hrs : ∀ h' (cs : Nat) (ps : PA) (cur : List KV) (x : KV) (acc : List KV), Rv o go FF lim cur x acc → cur.length < rnd → St h0 G0 [K acc, MpC ls o iso dg a0 cur, Ow (n0, 0) (L.cells x) 0, HtC (some nh), SlC (some ps, 0, cs) LFr.sz []] h' → wp Try.prog (.done (.exit 1000) [.c (.sl (some ps) 0 cs), .c (.addr nh)]) Q h')
    (hdn : ∀ h' (r : Nat) (z : Zp n r) (b : Nat) (u : BT KV r) (cs : Nat) (ps : PA) (acc : List KV), r + 1 = r1 → Pv o go FF b0 dg rnd lim z b u pv acc → (z.stk b).length ≤ cs → St h0 G0 [K acc, Ow a0 (mapC ls iso ctr (some (b0, 0)) (z.all u).length dg (2 * dg + 1) false false) 0, Ow (n0, 0) (L.cells pv) 0, HtC (some nh), Ow ps (LFr.flat (z.stk b)) ((cs - (z.stk b).length) * LFr.sz), ZsC iso z (flatB r u).length, ZrC iso z b, TrC L iso r b u] h' →
      wp Try.prog (.done (.exit 1) [.c (.ptr (some (b, 0))), .c (.sl (some ps) (z.stk b).length cs)]) Q h') :
    wp Try.prog (.loop [.c (.ptr), .c (.sl), .c (.bool), .c (.int .i64)] [.c (.ptr (some (b, 0))), .c (.sl ((some ps)) ((z.stk b).length) (cs)), .c (.bool (fd)), .c (.int .i64 ((i : Int)))] fun y15 =>
              .bind (some 1001) (.nonnil (y15.fst) fun p16 =>
                .load (p16.fst, p16.snd + 3) (.ptr) fun q17 =>
                .bind none (.ite (!Option.isNone q17)
                  (.ite (y15.snd.snd.fst)
                    (.nonnil (y15.fst) fun p18 =>
                      .load (p18.fst, p18.snd + 2) (.sl) fun s19 =>
                      .nonnil (s19.fst) fun p20 =>
                      .guard (((0 : Int) ≤ y15.snd.snd.snd.fst) ∧ ((y15.snd.snd.snd.fst : Int) < (↑s19.snd.fst : Int))) <|
                      .load (p20.fst, p20.snd + mulN (Int.toNat y15.snd.snd.snd.fst) 2) (.int .i64) fun i21 =>
                      .load (p20.fst, p20.snd + mulN (Int.toNat y15.snd.snd.snd.fst) 2 + 1) (.int .i64) fun i22 =>
                      .callv f [.agg [.int .i64 (i21), .int .i64 (i22)]] false [.c (.int .i64)] fun r23 =>
                      .ite (r23.fst == 2)
                      (.nonnil (y15.fst) fun p24 =>
                        .load (p24.fst, p24.snd + 2) (.sl) fun s25 =>
                        .nonnil (s25.fst) fun p26 =>
                        .guard (((0 : Int) ≤ y15.snd.snd.snd.fst) ∧ ((y15.snd.snd.snd.fst : Int) < (↑s25.snd.fst : Int))) <|
                        .load (p26.fst, p26.snd + mulN (Int.toNat y15.snd.snd.snd.fst) 2) (.int .i64) fun i27 =>
                        .load (p26.fst, p26.snd + mulN (Int.toNat y15.snd.snd.snd.fst) 2 + 1) (.int .i64) fun i28 =>
                        .store (n0, 0) (.int .i64 (i27)) <|
                        .store (n0, 1) (.int .i64 (i28)) <|
                        .nonnil (y15.fst) fun p29 =>
                        .load (p29.fst, p29.snd + 2) (.sl) fun s30 =>
                        .nonnil (s30.fst) fun p31 =>
                        .guard (((0 : Int) ≤ y15.snd.snd.snd.fst) ∧ ((y15.snd.snd.snd.fst : Int) < (↑s30.snd.fst : Int))) <|
                        .load (p31.fst, p31.snd + mulN (Int.toNat y15.snd.snd.snd.fst) 2) (.int .i64) fun i32 =>
                        .load (p31.fst, p31.snd + mulN (Int.toNat y15.snd.snd.snd.fst) 2 + 1) (.int .i64) fun i33 =>
                        .call fn_tg_deleteHint [.c (.addr a0), .agg [.int .i64 (i32), .int .i64 (i33)], .c (.addr nh)] true [.agg [.int .i64, .int .i64], .c (.bool)] fun r34 =>
                        .guard (((0 : Int) ≤ 0) ∧ ((0 : Int) ≤ (↑y15.snd.fst.snd.snd : Int))) <|
                        .done (.exit 1000) [.c (.sl (slBase y15.snd.fst.fst y15.snd.fst.snd.snd 0 2) (0) (y15.snd.fst.snd.snd - 0)), .c (.addr nh)])
                      (.ite (r23.fst == 1)
                        (.nonnil (y15.fst) fun p35 =>
                          .load (p35.fst, p35.snd + 3) (.ptr) fun q36 =>
                          .nonnil (q36) fun p37 =>
                          .load p37 (.sl) fun s38 =>
                          .guard (InK IntKind.i64 (y15.snd.snd.snd.fst + 1)) <|
                          .nonnil (s38.fst) fun p39 =>
                          .guard (((0 : Int) ≤ y15.snd.snd.snd.fst + 1) ∧ ((y15.snd.snd.snd.fst + 1 : Int) < (↑s38.snd.fst : Int))) <|
                          .call fn_tg_isoLoad [.c (.addr a0), .c (.addr (p39.fst, p39.snd + (y15.snd.snd.snd.fst + 1).toNat)), .c (.tt)] false [.c (.ptr)] fun r40 =>
                          .guard (InK IntKind.i64 (y15.snd.snd.snd.fst + 1)) <|
                          .alloc ty_btree_stackItem_pub_greenwood_impl_Item [.ptr (r40.fst), .int .i64 (y15.snd.snd.snd.fst + 1)] fun n41 =>
                          .append ty_btree_stackItem_pub_greenwood_impl_Item 2 16 [.ptr none, .int .i64 (0)] ((y15.snd.fst.fst), y15.snd.fst.snd.fst, y15.snd.fst.snd.snd) ((some (n41, 0)), 1, 1) fun s42 =>
                          .bind (some 3) (.loop [.c (.sl), .c (.ptr)] [.c (.sl (s42.fst) (s42.snd.fst) (s42.snd.snd)), .c (.ptr (r40.fst))] fun y43 =>
                              .call fn_ng_leaf [.c (.ptr (y43.snd.fst))] false [.c (.bool)] fun r44 =>
                              .ite (!r44.fst)
                              (.nonnil (y43.snd.fst) fun p45 =>
                                .load (p45.fst, p45.snd + 3) (.ptr) fun q46 =>
                                .nonnil (q46) fun p47 =>
                                .load p47 (.sl) fun s48 =>
                                .nonnil (s48.fst) fun p49 =>
                                .guard (((0 : Int) ≤ 0) ∧ ((0 : Int) < (↑s48.snd.fst : Int))) <|
                                .call fn_tg_isoLoad [.c (.addr a0), .c (.addr (p49.fst, p49.snd)), .c (.tt)] false [.c (.ptr)] fun r50 =>
                                .alloc ty_btree_stackItem_pub_greenwood_impl_Item [.ptr (r50.fst), .int .i64 (0)] fun n51 =>
                                .append ty_btree_stackItem_pub_greenwood_impl_Item 2 16 [.ptr none, .int .i64 (0)] ((y43.fst.fst), y43.fst.snd.fst, y43.fst.snd.snd) ((some (n51, 0)), 1, 1) fun s52 =>
                                .done .normal [.c (.sl (s52.fst) (s52.snd.fst) (s52.snd.snd)), .c (.ptr (r50.fst))])
                              (.done (.exit 3) [.c (.sl (y43.fst.fst) (y43.fst.snd.fst) (y43.fst.snd.snd)), .c (.ptr (y43.snd.fst))])) [.c (.sl), .c (.ptr)] fun x53 =>
                          .done .normal [.c (.int .i64 (0)), .c (.ptr (x53.snd.fst)), .c (.sl (x53.fst.fst) (x53.fst.snd.fst) (x53.fst.snd.snd))])
                        (.done .ret [])))
                    (.nonnil (y15.fst) fun p54 =>
                      .load (p54.fst, p54.snd + 3) (.ptr) fun q55 =>
                      .nonnil (q55) fun p56 =>
                      .load p56 (.sl) fun s57 =>
                      .nonnil (s57.fst) fun p58 =>
                      .guard (((0 : Int) ≤ y15.snd.snd.snd.fst) ∧ ((y15.snd.snd.snd.fst : Int) < (↑s57.snd.fst : Int))) <|
                      .call fn_tg_isoLoad [.c (.addr a0), .c (.addr (p58.fst, p58.snd + Int.toNat y15.snd.snd.snd.fst)), .c (.tt)] false [.c (.ptr)] fun r59 =>
                      .alloc ty_btree_stackItem_pub_greenwood_impl_Item [.ptr (r59.fst), .int .i64 (y15.snd.snd.snd.fst)] fun n60 =>
                      .append ty_btree_stackItem_pub_greenwood_impl_Item 2 16 [.ptr none, .int .i64 (0)] ((y15.snd.fst.fst), y15.snd.fst.snd.fst, y15.snd.fst.snd.snd) ((some (n60, 0)), 1, 1) fun s61 =>
                      .done (.exit 1) [.c (.ptr (r59.fst)), .c (.sl (s61.fst) (s61.snd.fst) (s61.snd.snd))]))
                  (.done .normal [.c (.int .i64 (y15.snd.snd.snd.fst)), .c (.ptr (y15.fst)), .c (.sl (y15.snd.fst.fst) (y15.snd.fst.snd.fst) (y15.snd.fst.snd.snd))])) [.c (.int .i64), .c (.ptr), .c (.sl)] fun x62 =>
                .nonnil (x62.snd.fst) fun p63 =>
                .load (p63.fst, p63.snd + 2) (.sl) fun s64 =>
                .guard (InK IntKind.i64 ((↑s64.snd.fst : Int) - x62.fst)) <|
                .load (a0.fst, a0.snd + 10) (.int .i64) fun i65 =>
                .guard (InK IntKind.i64 ((↑s64.snd.fst : Int) - x62.fst - i65)) <|
                .bind none (.ite (decide ((↑s64.snd.fst : Int) - x62.fst - i65 > 1))
                  (.bind (some 5) (.loop [.c (.int .i64), .c (.int .i64)] [.c (.int .i64 (0)), .c (.int .i64 (0))] fun y66 =>
                        .ite (decide (y66.fst < (↑s64.snd.fst : Int) - x62.fst - i65))
                        (.nonnil (x62.snd.fst) fun p67 =>
                          .load (p67.fst, p67.snd + 2) (.sl) fun s68 =>
                          .guard (InK IntKind.i64 (x62.fst + y66.fst)) <|
                          .nonnil (s68.fst) fun p69 =>
                          .guard (((0 : Int) ≤ x62.fst + y66.fst) ∧ ((x62.fst + y66.fst : Int) < (↑s68.snd.fst : Int))) <|
                          .load (p69.fst, p69.snd + mulN (x62.fst + y66.fst).toNat 2) (.int .i64) fun i70 =>
                          .load (p69.fst, p69.snd + mulN (x62.fst + y66.fst).toNat 2 + 1) (.int .i64) fun i71 =>
                          .callv f [.agg [.int .i64 (i70), .int .i64 (i71)]] false [.c (.int .i64)] fun r72 =>
                          .ite (r72.fst != 2)
                          (.done (.exit 5) [.c (.int .i64 (y66.fst)), .c (.int .i64 (r72.fst))])
                          (.guard (InK IntKind.i64 (y66.fst + 1)) <|
                            .done .normal [.c (.int .i64 (y66.fst + 1)), .c (.int .i64 (r72.fst))]))
                        (.done (.exit 5) [.c (.int .i64 (y66.fst)), .c (.int .i64 (y66.snd.fst))])) [.c (.int .i64), .c (.int .i64)] fun x73 =>
                    .nonnil (x62.snd.fst) fun p74 =>
                    .load (p74.fst, p74.snd + 2) (.sl) fun s75 =>
                    .guard (((0 : Int) ≤ x62.fst) ∧ ((x62.fst : Int) ≤ (↑s75.snd.fst : Int))) <|
                    .nonnil (x62.snd.fst) fun p76 =>
                    .load (p76.fst, p76.snd + 2) (.sl) fun s77 =>
                    .guard (InK IntKind.i64 (x62.fst + x73.fst)) <|
                    .guard (((0 : Int) ≤ x62.fst + x73.fst) ∧ ((x62.fst + x73.fst : Int) ≤ (↑s77.snd.fst : Int))) <|
                    .copy 2 ((slBase s75.fst s75.snd.snd (Int.toNat x62.fst) 2), s75.snd.fst - Int.toNat x62.fst, s75.snd.snd - Int.toNat x62.fst) ((slBase s77.fst s77.snd.snd (x62.fst + x73.fst).toNat 2), s77.snd.fst - (x62.fst + x73.fst).toNat, s77.snd.snd - (x62.fst + x73.fst).toNat) fun m78 =>
                    .nonnil (x62.snd.fst) fun p79 =>
                    .load (p79.fst, p79.snd + 2) (.sl) fun s80 =>
                    .guard (InK IntKind.i64 ((↑s80.snd.fst : Int) - x73.fst)) <|
                    .bind (some 7) (.loop [.c (.int .i64)] [.c (.int .i64 ((↑s80.snd.fst : Int) - x73.fst))] fun y81 =>
                        .nonnil (x62.snd.fst) fun p82 =>
                        .load (p82.fst, p82.snd + 2) (.sl) fun s83 =>
                        .ite (decide (y81.fst < (↑s83.snd.fst : Int)))
                        (.nonnil (x62.snd.fst) fun p84 =>
                          .load (p84.fst, p84.snd + 2) (.sl) fun s85 =>
                          .load (a0.fst, a0.snd + 7) (.int .i64) fun i86 =>
                          .load (a0.fst, a0.snd + 8) (.int .i64) fun i87 =>
                          .nonnil (s85.fst) fun p88 =>
                          .guard (((0 : Int) ≤ y81.fst) ∧ ((y81.fst : Int) < (↑s85.snd.fst : Int))) <|
                          .store (p88.fst, p88.snd + mulN (Int.toNat y81.fst) 2) (.int .i64 (i86)) <|
                          .store (p88.fst, p88.snd + mulN (Int.toNat y81.fst) 2 + 1) (.int .i64 (i87)) <|
                          .guard (InK IntKind.i64 (y81.fst + 1)) <|
                          .done .normal [.c (.int .i64 (y81.fst + 1))])
                        (.done (.exit 7) [])) [] fun x89 =>
                    .nonnil (x62.snd.fst) fun p90 =>
                    .load (p90.fst, p90.snd + 2) (.sl) fun s91 =>
                    .nonnil (x62.snd.fst) fun p92 =>
                    .load (p92.fst, p92.snd + 2) (.sl) fun s93 =>
                    .guard (InK IntKind.i64 ((↑s93.snd.fst : Int) - x73.fst)) <|
                    .guard (((0 : Int) ≤ (↑s93.snd.fst : Int) - x73.fst) ∧ (((↑s93.snd.fst : Int) - x73.fst : Int) ≤ (↑s91.snd.snd : Int))) <|
                    .nonnil (x62.snd.fst) fun p94 =>
                    .store (p94.fst, p94.snd + 2) (.sl (slBase s91.fst s91.snd.snd 0 2) (((↑s93.snd.fst : Int) - x73.fst).toNat - 0) (s91.snd.snd - 0)) <|
                    .bind (some 9) (.loop [.c (.int .i64)] [.c (.int .i64 (0))] fun y95 =>
                        .ite (decide (y95.fst < (↑x62.snd.snd.fst.snd.fst : Int)))
                        (.nonnil (x62.snd.snd.fst.fst) fun p96 =>
                          .guard (((0 : Int) ≤ y95.fst) ∧ ((y95.fst : Int) < (↑x62.snd.snd.fst.snd.fst : Int))) <|
                          .load (p96.fst, p96.snd + mulN (Int.toNat y95.fst) 2) (.ptr) fun q97 =>
                          .nonnil (q97) fun p98 =>
                          .load (p98.fst, p98.snd + 1) (.int .i64) fun i99 =>
                          .guard (InK IntKind.i64 (i99 - x73.fst)) <|
                          .nonnil (q97) fun p100 =>
                          .store (p100.fst, p100.snd + 1) (.int .i64 (i99 - x73.fst)) <|
                          .guard (InK IntKind.i64 (y95.fst + 1)) <|
                          .done .normal [.c (.int .i64 (y95.fst + 1))])
                        (.done (.exit 9) [])) [] fun x101 =>
                    .load (a0.fst, a0.snd + 3) (.int .i64) fun i102 =>
                    .guard (InK IntKind.i64 (i102 - x73.fst)) <|
                    .store (a0.fst, a0.snd + 3) (.int .i64 (i102 - x73.fst)) <|
                    .ite (x73.snd.fst == 0)
                    (.done .ret [])
                    (.bind none (.ite (x73.snd.fst == 1)
                        (.guard (InK IntKind.i64 (x62.fst + 1)) <|
                          .done .normal [.c (.int .i64 (x62.fst + 1))])
                        (.done .normal [.c (.int .i64 (x62.fst))])) [.c (.int .i64)] fun x103 =>
                      .done .normal [.c (.int .i64 (x103.fst))]))
                  (.done .normal [.c (.int .i64 (x62.fst))])) [.c (.int .i64)] fun x104 =>
                .bind (some 11) (.loop [.c (.sl), .c (.int .i64)] [.c (.sl (x62.snd.snd.fst.fst) (x62.snd.snd.fst.snd.fst) (x62.snd.snd.fst.snd.snd)), .c (.int .i64 (x104.fst))] fun y105 =>
                    .nonnil (x62.snd.fst) fun p106 =>
                    .load (p106.fst, p106.snd + 2) (.sl) fun s107 =>
                    .ite (decide (y105.snd.fst < (↑s107.snd.fst : Int)))
                    (.nonnil (x62.snd.fst) fun p108 =>
                      .load (p108.fst, p108.snd + 2) (.sl) fun s109 =>
                      .nonnil (s109.fst) fun p110 =>
                      .guard (((0 : Int) ≤ y105.snd.fst) ∧ ((y105.snd.fst : Int) < (↑s109.snd.fst : Int))) <|
                      .load (p110.fst, p110.snd + mulN (Int.toNat y105.snd.fst) 2) (.int .i64) fun i111 =>
                      .load (p110.fst, p110.snd + mulN (Int.toNat y105.snd.fst) 2 + 1) (.int .i64) fun i112 =>
                      .callv f [.agg [.int .i64 (i111), .int .i64 (i112)]] false [.c (.int .i64)] fun r113 =>
                      .bind none (.ite (r113.fst == 2)
                        (.nonnil (x62.snd.fst) fun p114 =>
                          .load (p114.fst, p114.snd + 2) (.sl) fun s115 =>
                          .load (a0.fst, a0.snd + 10) (.int .i64) fun i116 =>
                          .ite (decide ((↑s115.snd.fst : Int) > i116))
                          (.nonnil (x62.snd.fst) fun p117 =>
                            .load (p117.fst, p117.snd + 2) (.sl) fun s118 =>
                            .guard (((0 : Int) ≤ y105.snd.fst) ∧ ((y105.snd.fst : Int) ≤ (↑s118.snd.fst : Int))) <|
                            .nonnil (x62.snd.fst) fun p119 =>
                            .load (p119.fst, p119.snd + 2) (.sl) fun s120 =>
                            .guard (InK IntKind.i64 (y105.snd.fst + 1)) <|
                            .guard (((0 : Int) ≤ y105.snd.fst + 1) ∧ ((y105.snd.fst + 1 : Int) ≤ (↑s120.snd.fst : Int))) <|
                            .copy 2 ((slBase s118.fst s118.snd.snd (Int.toNat y105.snd.fst) 2), s118.snd.fst - Int.toNat y105.snd.fst, s118.snd.snd - Int.toNat y105.snd.fst) ((slBase s120.fst s120.snd.snd (y105.snd.fst + 1).toNat 2), s120.snd.fst - (y105.snd.fst + 1).toNat, s120.snd.snd - (y105.snd.fst + 1).toNat) fun m121 =>
                            .nonnil (x62.snd.fst) fun p122 =>
                            .load (p122.fst, p122.snd + 2) (.sl) fun s123 =>
                            .nonnil (x62.snd.fst) fun p124 =>
                            .load (p124.fst, p124.snd + 2) (.sl) fun s125 =>
                            .guard (InK IntKind.i64 ((↑s125.snd.fst : Int) - 1)) <|
                            .load (a0.fst, a0.snd + 7) (.int .i64) fun i126 =>
                            .load (a0.fst, a0.snd + 8) (.int .i64) fun i127 =>
                            .nonnil (s123.fst) fun p128 =>
                            .guard (((0 : Int) ≤ (↑s125.snd.fst : Int) - 1) ∧ (((↑s125.snd.fst : Int) - 1 : Int) < (↑s123.snd.fst : Int))) <|
                            .store (p128.fst, p128.snd + mulN ((↑s125.snd.fst : Int) - 1).toNat 2) (.int .i64 (i126)) <|
                            .store (p128.fst, p128.snd + mulN ((↑s125.snd.fst : Int) - 1).toNat 2 + 1) (.int .i64 (i127)) <|
                            .nonnil (x62.snd.fst) fun p129 =>
                            .load (p129.fst, p129.snd + 2) (.sl) fun s130 =>
                            .nonnil (x62.snd.fst) fun p131 =>
                            .load (p131.fst, p131.snd + 2) (.sl) fun s132 =>
                            .guard (InK IntKind.i64 ((↑s132.snd.fst : Int) - 1)) <|
                            .guard (((0 : Int) ≤ (↑s132.snd.fst : Int) - 1) ∧ (((↑s132.snd.fst : Int) - 1 : Int) ≤ (↑s130.snd.snd : Int))) <|
                            .nonnil (x62.snd.fst) fun p133 =>
                            .store (p133.fst, p133.snd + 2) (.sl (slBase s130.fst s130.snd.snd 0 2) (((↑s132.snd.fst : Int) - 1).toNat - 0) (s130.snd.snd - 0)) <|
                            .bind (some 14) (.loop [.c (.int .i64)] [.c (.int .i64 (0))] fun y134 =>
                                .ite (decide (y134.fst < (↑y105.fst.snd.fst : Int)))
                                (.nonnil (y105.fst.fst) fun p135 =>
                                  .guard (((0 : Int) ≤ y134.fst) ∧ ((y134.fst : Int) < (↑y105.fst.snd.fst : Int))) <|
                                  .load (p135.fst, p135.snd + mulN (Int.toNat y134.fst) 2) (.ptr) fun q136 =>
                                  .nonnil (q136) fun p137 =>
                                  .load (p137.fst, p137.snd + 1) (.int .i64) fun i138 =>
                                  .guard (InK IntKind.i64 (i138 - 1)) <|
                                  .nonnil (q136) fun p139 =>
                                  .store (p139.fst, p139.snd + 1) (.int .i64 (i138 - 1)) <|
                                  .guard (InK IntKind.i64 (y134.fst + 1)) <|
                                  .done .normal [.c (.int .i64 (y134.fst + 1))])
                                (.done (.exit 14) [])) [] fun x140 =>
                            .load (a0.fst, a0.snd + 3) (.int .i64) fun i141 =>
                            .guard (InK IntKind.i64 (i141 - 1)) <|
                            .store (a0.fst, a0.snd + 3) (.int .i64 (i141 - 1)) <|
                            .guard (InK IntKind.i64 (y105.snd.fst - 1)) <|
                            .done .normal [.c (.sl (y105.fst.fst) (y105.fst.snd.fst) (y105.fst.snd.snd)), .c (.int .i64 (y105.snd.fst - 1))])
                          (.nonnil (x62.snd.fst) fun p142 =>
                            .load (p142.fst, p142.snd + 2) (.sl) fun s143 =>
                            .nonnil (s143.fst) fun p144 =>
                            .guard (((0 : Int) ≤ y105.snd.fst) ∧ ((y105.snd.fst : Int) < (↑s143.snd.fst : Int))) <|
                            .load (p144.fst, p144.snd + mulN (Int.toNat y105.snd.fst) 2) (.int .i64) fun i145 =>
                            .load (p144.fst, p144.snd + mulN (Int.toNat y105.snd.fst) 2 + 1) (.int .i64) fun i146 =>
                            .store (n0, 0) (.int .i64 (i145)) <|
                            .store (n0, 1) (.int .i64 (i146)) <|
                            .nonnil (x62.snd.fst) fun p147 =>
                            .load (p147.fst, p147.snd + 2) (.sl) fun s148 =>
                            .nonnil (s148.fst) fun p149 =>
                            .guard (((0 : Int) ≤ y105.snd.fst) ∧ ((y105.snd.fst : Int) < (↑s148.snd.fst : Int))) <|
                            .load (p149.fst, p149.snd + mulN (Int.toNat y105.snd.fst) 2) (.int .i64) fun i150 =>
                            .load (p149.fst, p149.snd + mulN (Int.toNat y105.snd.fst) 2 + 1) (.int .i64) fun i151 =>
                            .call fn_tg_deleteHint [.c (.addr a0), .agg [.int .i64 (i150), .int .i64 (i151)], .c (.addr nh)] true [.agg [.int .i64, .int .i64], .c (.bool)] fun r152 =>
                            .guard (((0 : Int) ≤ 0) ∧ ((0 : Int) ≤ (↑y105.fst.snd.snd : Int))) <|
                            .done (.exit 1000) [.c (.sl (slBase y105.fst.fst y105.fst.snd.snd 0 2) (0) (y105.fst.snd.snd - 0)), .c (.addr nh)]))
                        (.ite (r113.fst == 1)
                          (.done .normal [.c (.sl (y105.fst.fst) (y105.fst.snd.fst) (y105.fst.snd.snd)), .c (.int .i64 (y105.snd.fst))])
                          (.done .ret []))) [.c (.sl), .c (.int .i64)] fun x153 =>
                      .guard (InK IntKind.i64 (x153.snd.fst + 1)) <|
                      .done .normal [.c (.sl (x153.fst.fst) (x153.fst.snd.fst) (x153.fst.snd.snd)), .c (.int .i64 (x153.snd.fst + 1))])
                    (.done (.exit 11) [.c (.sl (y105.fst.fst) (y105.fst.snd.fst) (y105.fst.snd.snd))])) [.c (.sl)] fun x154 =>
                .loop [.c (.sl)] [.c (.sl (x154.fst.fst) (x154.fst.snd.fst) (x154.fst.snd.snd))] fun y155 =>
                  .guard (InK IntKind.i64 ((↑y155.fst.snd.fst : Int) - 1)) <|
                  .nonnil (y155.fst.fst) fun p156 =>
                  .guard (((0 : Int) ≤ (↑y155.fst.snd.fst : Int) - 1) ∧ (((↑y155.fst.snd.fst : Int) - 1 : Int) < (↑y155.fst.snd.fst : Int))) <|
                  .load (p156.fst, p156.snd + mulN ((↑y155.fst.snd.fst : Int) - 1).toNat 2 + 1) (.int .i64) fun i157 =>
                  .guard (InK IntKind.i64 ((↑y155.fst.snd.fst : Int) - 1)) <|
                  .guard (((0 : Int) ≤ (↑y155.fst.snd.fst : Int) - 1) ∧ (((↑y155.fst.snd.fst : Int) - 1 : Int) ≤ (↑y155.fst.snd.snd : Int))) <|
                  .ite ((↑(((↑y155.fst.snd.fst : Int) - 1).toNat - 0) : Int) == 0)
                  (.done .ret [])
                  (.guard (InK IntKind.i64 ((↑(((↑y155.fst.snd.fst : Int) - 1).toNat - 0) : Int) - 1)) <|
                    .nonnil (slBase y155.fst.fst y155.fst.snd.snd 0 2) fun p158 =>
                    .guard (((0 : Int) ≤ (↑(((↑y155.fst.snd.fst : Int) - 1).toNat - 0) : Int) - 1) ∧ (((↑(((↑y155.fst.snd.fst : Int) - 1).toNat - 0) : Int) - 1 : Int) < (↑(((↑y155.fst.snd.fst : Int) - 1).toNat - 0) : Int))) <|
                    .load (p158.fst, p158.snd + mulN ((↑(((↑y155.fst.snd.fst : Int) - 1).toNat - 0) : Int) - 1).toNat 2) (.ptr) fun q159 =>
                    .nonnil (q159) fun p160 =>
                    .load (p160.fst, p160.snd + 2) (.sl) fun s161 =>
                    .ite (decide (i157 < (↑s161.snd.fst : Int)))
                    (.done (.exit 1001) [.c (.ptr (q159)), .c (.sl (slBase y155.fst.fst y155.fst.snd.snd 0 2) (((↑y155.fst.snd.fst : Int) - 1).toNat - 0) (y155.fst.snd.snd - 0)), .c (.tt), .c (.int .i64 (i157))])
                    (.done .normal [.c (.sl (slBase y155.fst.fst y155.fst.snd.snd 0 2) (((↑y155.fst.snd.fst : Int) - 1).toNat - 0) (y155.fst.snd.snd - 0))]))) [.c (.ptr), .c (.sl), .c (.bool), .c (.int .i64)] fun x162 =>
              .done .normal [.c (.ptr (x162.fst)), .c (.sl (x162.snd.fst.fst) (x162.snd.fst.snd.fst) (x162.snd.fst.snd.snd)), .c (.bool (x162.snd.snd.fst)), .c (.int .i64 (x162.snd.snd.snd.fst))]) Q h := by
  refine w_lp (fun k y h' => ∃ (r i : Nat) (fd : Bool) (z : Zp n r) (b cs : Nat) (ps : PA) (u : BT KV r) (acc : List KV), y = (some (b, 0), (some ps, (z.stk b).length, cs), fd, (i : Int), ()) ∧ Nx o go FF b0 dg rnd lim r1 pv r z b u fd i acc k ∧ (z.stk b).length ≤ cs ∧
      St h0 G0 [K acc, Ow a0 (mapC ls iso ctr (some (b0, 0)) (z.all u).length dg (2 * dg + 1) false false) 0, Ow (n0, 0) (L.cells pv) 0, HtC (some nh), Ow ps (LFr.flat (z.stk b)) ((cs - (z.stk b).length) * LFr.sz), ZsC iso z (flatB r u).length, ZrC iso z b, TrC L iso r b u] h') k0 rfl ⟨r, i, fd, z, b, cs, ps, u, acc, rfl, nx, hcs, S⟩ ?_
  clear S nx hcs
  rintro k _ _ ⟨r, i, fd, z, b, cs, ps, u, acc, rfl, nx, hcs, S⟩
  have h1 := hl.one
  have hbig := hl.big
  have hrl := hl.rnd
  have hsl := z.len b
  refine w_bnd (w_nonnil ?_)
  obtain ⟨kp, hkr, hkp⟩ := S.kp L iso b
  refine w_ptr kp hkr ?_
  refine w_mid' none (fun (x : SV [.c (.int .i64), .c (.ptr), .c (.sl)]) h' => ∃ (i : Nat) (z : Zp n 0) (b cs : Nat) (ps : PA) (xs acc : List KV), x = ((i : Int), some (b, 0), (some ps, (z.stk b).length, cs), ()) ∧ Lv o go FF b0 dg rnd lim z b xs i acc ∧ z.rg.length < k ∧ (z.stk b).length ≤ cs ∧
      St h0 G0 [K acc, Ow a0 (mapC ls iso ctr (some (b0, 0)) (z.all (r := 0) xs).length dg (2 * dg + 1) false false) 0, Ow (n0, 0) (L.cells pv) 0, HtC (some nh), Ow ps (LFr.flat (z.stk b)) ((cs - (z.stk b).length) * LFr.sz), ZsC iso z xs.length, ZrC iso z b, TrC L iso 0 b xs] h') ?_ ?_
  case refine_2 =>
    clear S nx hcs hkr hkp hsl
    rintro _ _ ⟨i, z, b, cs, ps, xs, acc, rfl, lv, hlt, hcs, S⟩
    refine w_leafp (R := k - 1) hls hoc hcb hl lv (by omega) hcs hn S (fun h' S => bd_r (ln_r (hret h' S))) (fun h' cs ps cur x acc rv hlt S => bd_q (by decide) (ln_e (hrs h' cs ps cur x acc rv hlt S))) (fun h' r z b u i cs ps acc bv hcs S => bd_e rfl ?_)
    exact ln_n rfl (k - 1) ⟨r + 1, i, true, z, b, cs, ps, u, acc, rfl, .inl ⟨rfl, bv⟩, hcs, S⟩ (by omega)
  cases r with
  | zero => exact w_false (by show (!kp.isNone) = false; rw [hkp]; rfl) (md_n rfl ⟨i, z, b, cs, ps, u, acc, rfl, nx.1, nx.2, hcs, S⟩)
  | succ r =>
  obtain ⟨xs, ts⟩ := u
  refine w_true (by show (!kp.isNone) = true; rw [hkp]; rfl) ?_
  rcases nx with ⟨rfl, bv⟩ | ⟨rfl, hr1, pw, hf, hi⟩
  · -- the item i comes next
    obtain ⟨lu, hlt, ⟨A, hA, hfn⟩, hnn, hrm⟩ := bv
    have hl2 : ts.length = xs.length + 1 := lu.val.2.1
    have hlt : i < xs.length := hlt
    have hx := List.getElem?_eq_getElem hlt
    obtain ⟨v, hv⟩ : ∃ v, ts[i + 1]? = some v := ⟨_, List.getElem?_eq_getElem (by omega)⟩
    have hvm : (ts.map (flatB r))[i + 1]? = some (flatB r v) := by rw [List.getElem?_map, hv]; rfl
    have hpc : post (xs.drop i) ((ts.map (flatB r)).drop (i + 1)) = xs[i] :: (flatB r v ++ post (xs.drop (i + 1)) ((ts.map (flatB r)).drop (i + 1 + 1))) := post_cons hx hvm
    dsimp only at hA hfn hnn hrm
    rw [hpc] at hA hfn hnn hrm
    have hall : z.all ((xs, ts) : BT KV (r + 1)) = (z.lf ++ A) ++ xs[i] :: ((flatB r v ++ post (xs.drop (i + 1)) ((ts.map (flatB r)).drop (i + 1 + 1))) ++ z.rg) := by
      show z.lf ++ (flatB (r + 1) ((xs, ts) : BT KV (r + 1)) ++ z.rg) = _
      rw [hA]; simp only [List.append_assoc, List.cons_append]
    have htop := lu.top
    refine w_true rfl (w_nonnil ?_)
    obtain ⟨p, c, kp, hc, hkp, S⟩ := open_nd L iso (S.at (.tr b))
    have hc : xs.length ≤ c := hc
    obtain ⟨hb, q, d, ks, rfl, hd, hkl, S⟩ := open_kids L iso (S.at (.kd kp))
    have hkl : ks.length = ts.length := hkl
    have S : St h0 G0 (Ow (hb, 0) (hdC (some q, ks.length, d)) 0 :: Ow q (LK.flat (ks.map some)) ((d - ks.length) * LK.sz) :: FoC L iso r ks ts :: Ow (b, 0) (nodeC iso (flatB (r + 1) ((xs, ts) : BT KV (r + 1))).length (some p, xs.length, c) (some (hb, 0))) 0 :: Ow p (L.flat xs) ((c - xs.length) * L.sz) :: _) _ := S
    have S := S.ats [.ck (K acc)]
    refine ld_sls S rfl (w_nonnil (w_guard ⟨by (first | omega | ((try dsimp only [Sh.T, Sh1.T]); omega)), by (first | omega | ((try dsimp only [Sh.T, Sh1.T]); omega))⟩ ?_))
    dsimp only
    rw [Int.toNat_natCast]
    refine ld_it S hx ?_
    refine st_cba S hcb xs[i] (by simp at hnn; omega) rfl fun _ S => ?_
    rw [List.cons_append] at hfn
    -- the node shut again
    have hshut : ∀ {h : H} {l : List Ck}, St h0 G0 (Ow (b, 0) (nodeC iso (flatB (r + 1) ((xs, ts) : BT KV (r + 1))).length (some p, xs.length, c) (some (hb, 0))) 0 :: Ow p (L.flat xs) ((c - xs.length) * L.sz) :: Ow (hb, 0) (hdC (some q, ks.length, d)) 0 :: Ow q (LK.flat (ks.map some)) ((d - ks.length) * LK.sz) :: FoC L iso r ks ts :: l) h → St h0 G0 (TrC L iso (r + 1) b ((xs, ts) : BT KV (r + 1)) :: l) h := fun S =>
      shut_node L iso (xs := xs) (ts := ts) S rfl rfl rfl (LK_flat ks) rfl rfl rfl hc rfl hd (Nat.mul_one _)
    rcases hcb.1 acc xs[i] with h | h | h
    · refine w_false (by show (go acc xs[i] == 2) = false; rw [h]; rfl) (w_false (by show (go acc xs[i] == 1) = false; rw [h]; rfl) (md_r (bd_r (ln_r (hret _ ?_)))))
      rw [das_stop (by omega) (by omega)] at hfn
      rw [← hfn, ← hall]
      have S := hshut (S.ats [.ow (b, 0), .ow p, .ow (hb, 0), .ow q, .fo ks])
      have S := S.ats [.ck (K (acc ++ [xs[i]])), .ow a0, .ow (n0, 0), .ck (HtC (some nh)), .ow ps, .kd none, .fo [], .tr b]
      exact (fold_all hl lu S).only [.ck (K (acc ++ [xs[i]])), .mp a0]
    · refine w_false (by show (go acc xs[i] == 2) = false; rw [h]; rfl) (w_true (by show (go acc xs[i] == 1) = true; rw [h]; rfl) ?_)
      obtain ⟨k1, hk, S⟩ := fo_at L iso hkl hv (S.at (.fo ks))
      have hk0 : (LK.flat (ks.map some))[i + 1]? = some (kptr k1) := LK_get (ys := ks.map some) (y := some k1) (by rw [List.getElem?_map, hk]; rfl)
      have e : ((i : Int) + 1).toNat = i + 1 := by omega
      have hxl : xs.length ≤ 2 * dg + 1 := lu.val.1
      refine w_nonnil (ld_some S rfl (w_nonnil (ld_sls S rfl (w_guard (inK64 (by (first | omega | ((try dsimp only [Sh.T, Sh1.T]); omega))) (by (first | omega | ((try dsimp only [Sh.T, Sh1.T]); omega)))) (w_nonnil (w_guard ⟨by (first | omega | ((try dsimp only [Sh.T, Sh1.T]); omega)), by (first | omega | ((try dsimp only [Sh.T, Sh1.T]); omega))⟩ ?_))))))
      try dsimp only
      rw [e]
      refine w_callT (c_isoLoad (b := k1) (iso := iso) (S.rd hk0) (S.iso k1) (S.rd rfl)) ?_
      rintro _ _ ⟨rfl, rfl⟩
      refine w_guard (inK64 (by (first | omega | ((try dsimp only [Sh.T, Sh1.T]); omega))) (by (first | omega | ((try dsimp only [Sh.T, Sh1.T]); omega)))) (st_alloc S fun n41 _ S => ?_)
      have ec : ((i : Int) + 1) = ((i + 1 : Nat) : Int) := by omega
      rw [ec] at S
      have hnew : RSl _ (some (n41, 0), 1, 1) LFr.sz (LFr.flat [(k1, ((i + 1 : Nat) : Int))]) := S.rsl (LFr.flat [(k1, ((i + 1 : Nat) : Int))]) 1 1 2 (fun i v h => by rw [Nat.zero_add]; exact h) rfl
      refine st_app (L := LFr) (xs := z.stk b) (ys := [(k1, ((i + 1 : Nat) : Int))]) S rfl rfl rfl hcs rfl rfl hnew ⟨by (first | omega | ((try dsimp only [Sh.T, Sh1.T]); omega)), by (first | omega | ((try dsimp only [Sh.T, Sh1.T]); omega))⟩ fun ps' cs' _ hcs' S => ?_
      obtain ⟨x, hxo, hxb, hput, hC, hD, hXA, hB, S⟩ := zp_dn (mn := dg) (mx := 2 * dg + 1) (i := i + 1) (xs := xs) (ts := ts) (S.ats [.ow (b, 0), .ow p, .ow (hb, 0), .ow q, .tr k1, .fo (ks.drop (i + 1 + 1)), .fo (ks.take (i + 1)), .kd none, .fo []]) rfl rfl hc hd hkl hk hv rfl lu.val lu.one
      have hst : z.stk b ++ [(k1, ((i + 1 : Nat) : Int))] = Zp.stk (.dn z x) k1 := by
        show _ = z.stk x.b ++ [(k1, (x.A.length : Int))]
        rw [hxb, hXA, List.length_take, Nat.min_eq_left (by omega)]
      have hlen : (z.stk b).length + 1 = (Zp.stk (.dn z x) k1).length := by rw [← hst]; simp
      rw [hst, hlen] at S
      rw [hlen] at hcs' ⊢
      have hrg : x.rg = post (xs.drop (i + 1)) ((ts.map (flatB r)).drop (i + 1 + 1)) := by unfold Fm.rg; rw [hB, hD, List.map_drop]
      have hflx : flatB (r + 1) ((xs, ts) : BT KV (r + 1)) = x.lf ++ (flatB r v ++ x.rg) := by rw [← hput]; exact hxo.flat v
      have hAx : A ++ [xs[i]] = x.lf := by
        have : (A ++ [xs[i]]) ++ (flatB r v ++ x.rg) = x.lf ++ (flatB r v ++ x.rg) := by
          rw [← hflx, hA, hrg]; simp only [List.append_assoc, List.cons_append, List.nil_append]
        exact List.append_cancel_right this
      rw [← hput, Zp.all_put hxo] at S
      rw [← hput] at lu
      have S := S.only [.ck (K (acc ++ [xs[i]])), .ow a0, .ow (n0, 0), .ck (HtC (some nh)), .ow ps', .kd none, .fo [], .tr k1]
      rw [das_keep h, ← hrg, List.append_assoc z.lf A, hAx] at hfn
      have e3 : Zp.lf (.dn z x) = z.lf ++ x.lf := rfl
      have e4 : Zp.rg (.dn z x) = x.rg ++ z.rg := rfl
      rw [← hrg] at hnn hrm
      simp only [List.length_cons, List.length_append] at hnn hrm
      have q1 : Fn go (Zp.lf (.dn z x)) (flatB r v ++ Zp.rg (.dn z x)) (acc ++ [xs[i]]) = FF := by rw [e3, e4, ← List.append_assoc]; exact hfn
      have q2 : (acc ++ [xs[i]]).length + ((flatB r v).length + (Zp.rg (.dn z x)).length) ≤ lim := by
        rw [e4, List.length_append, List.length_append, List.length_singleton]; omega
      have q3 : (flatB r v).length + (Zp.rg (.dn z x)).length ≤ k - 1 := by
        rw [e4, List.length_append]; omega
      refine w_bnd (w_leftw (R := k - 1) hl (lu.dn hl hxo hxb) q1 q2 q3 hcs' hn S fun h' z b cs ps xs lu fn nn hR hcs S => bd_e rfl (md_n rfl ⟨0, z, b, cs, ps, xs, _, rfl, ⟨lu, by omega, by simpa using fn, by simpa using nn⟩, by omega, hcs, S⟩))
    · refine w_true (by show (go acc xs[i] == 2) = true; rw [h]; rfl) ?_
      refine w_nonnil (ld_sls S rfl (w_nonnil (w_guard ⟨by (first | omega | ((try dsimp only [Sh.T, Sh1.T]); omega)), by (first | omega | ((try dsimp only [Sh.T, Sh1.T]); omega))⟩ ?_)))
      refine ld_it S hx ?_
      refine st_store S (lt_ble rfl) fun _ S => ?_
      refine st_store S (lt_ble rfl) fun _ S => ?_
      refine w_nonnil (ld_sls S rfl (w_nonnil (w_guard ⟨by (first | omega | ((try dsimp only [Sh.T, Sh1.T]); omega)), by (first | omega | ((try dsimp only [Sh.T, Sh1.T]); omega))⟩ ?_)))
      refine ld_it S hx ?_
      have S := (S.at (.ow (n0, 0))).re (n0, 0) (L.cells xs[i]) 0 rfl rfl rfl
      have S := hshut (S.ats [.ow (b, 0), .ow p, .ow (hb, 0), .ow q, .fo ks])
      have S := fold_all (pv := xs[i]) hl lu (S.ats [.ck (K (acc ++ [xs[i]])), .ow a0, .ow (n0, 0), .ck (HtC (some nh)), .ow ps, .kd none, .fo [], .tr b])
      refine st_callF S [.mp a0, .ck (HtC (some nh))] (fun G' hG' hsub => HT.re (args' := [.c (.addr a0), .agg [.int .i64 xs[i].1, .int .i64 xs[i].2], .c (.ptr (some nh))]) rfl <| c_deleteHint (k := xs[i]) (.inr (hs_ok nh)) hls (by omega) (hoc.step S hsub) hG') ?_
      rintro _ _ _ ⟨rfl, rfl⟩ S
      dsimp only [List.cons_append, List.nil_append] at S
      refine w_guard ⟨by omega, by omega⟩ ?_
      have hsr := lu.srt
      rw [hall] at S hsr htop
      obtain ⟨hd, _⟩ := del_at2 hsr
      rw [hd] at S
      rw [slBase_zero]
      have S := ((S.at (.ow ps)).close_sl (n := (z.stk b).length) (c := cs) (sz := LFr.sz) hcs (by rw [LFr.flat_length]))
      have S := sl_none S
      refine me_p (bd_q (by decide) (ln_e (hrs _ cs ps _ xs[i] _ (Rv.mk2 hsr h hfn (by simp at hnn ⊢; omega)) (by simp at htop ⊢; omega) (S.ats [.ck (K (acc ++ [xs[i]])), .mp a0, .ow (n0, 0), .ck (HtC (some nh))]))))
  · -- it is sought further down
    have lu := pw.lu
    have hl2 : ts.length = xs.length + 1 := lu.val.2.1
    have hxl : xs.length ≤ 2 * dg + 1 := lu.val.1
    have hf : fnd (ltO o) xs pv = none := hf
    have hi : i = pos (ltO o) xs pv := hi
    have hpl := pos_le (lt := ltO o) xs pv
    obtain ⟨v, hv⟩ : ∃ v, ts[i]? = some v := ⟨_, List.getElem?_eq_getElem (by omega)⟩
    refine w_false rfl (w_nonnil ?_)
    obtain ⟨p, c, kp, hc, hkp, S⟩ := open_nd L iso (S.at (.tr b))
    have hc : xs.length ≤ c := hc
    obtain ⟨hb, q, d, ks, rfl, hd, hkl, S⟩ := open_kids L iso (S.at (.kd kp))
    have hkl : ks.length = ts.length := hkl
    have S : St h0 G0 (Ow (hb, 0) (hdC (some q, ks.length, d)) 0 :: Ow q (LK.flat (ks.map some)) ((d - ks.length) * LK.sz) :: FoC L iso r ks ts :: Ow (b, 0) (nodeC iso (flatB (r + 1) ((xs, ts) : BT KV (r + 1))).length (some p, xs.length, c) (some (hb, 0))) 0 :: Ow p (L.flat xs) ((c - xs.length) * L.sz) :: _) _ := S
    obtain ⟨k1, hk, S⟩ := fo_at L iso hkl hv (S.at (.fo ks))
    have hk0 : (LK.flat (ks.map some))[i]? = some (kptr k1) := LK_get (ys := ks.map some) (y := some k1) (by rw [List.getElem?_map, hk]; rfl)
    refine ld_some S rfl (w_nonnil (ld_sls S rfl (w_nonnil (w_guard ⟨by (first | omega | ((try dsimp only [Sh.T, Sh1.T]); omega)), by (first | omega | ((try dsimp only [Sh.T, Sh1.T]); omega))⟩ ?_))))
    try dsimp only
    rw [Int.toNat_natCast]
    refine w_callT (c_isoLoad (b := k1) (iso := iso) (S.rd hk0) (S.iso k1) (S.rd rfl)) ?_
    rintro _ _ ⟨rfl, rfl⟩
    refine st_alloc S fun n41 _ S => ?_
    have hnew : RSl _ (some (n41, 0), 1, 1) LFr.sz (LFr.flat [(k1, (i : Int))]) := S.rsl (LFr.flat [(k1, (i : Int))]) 1 1 2 (fun i v h => by rw [Nat.zero_add]; exact h) rfl
    refine st_app (L := LFr) (xs := z.stk b) (ys := [(k1, (i : Int))]) S rfl rfl rfl hcs rfl rfl hnew ⟨by (first | omega | ((try dsimp only [Sh.T, Sh1.T]); omega)), by (first | omega | ((try dsimp only [Sh.T, Sh1.T]); omega))⟩ fun ps' cs' _ hcs' S => ?_
    obtain ⟨x, hxo, hxb, hput, hC, hD, hXA, hB, S⟩ := zp_dn (mn := dg) (mx := 2 * dg + 1) (i := i) (xs := xs) (ts := ts) (S.ats [.ow (b, 0), .ow p, .ow (hb, 0), .ow q, .tr k1, .fo (ks.drop (i + 1)), .fo (ks.take i), .kd none, .fo []]) rfl rfl hc hd hkl hk hv rfl lu.val lu.one
    have hst : z.stk b ++ [(k1, (i : Int))] = Zp.stk (.dn z x) k1 := by
      show _ = z.stk x.b ++ [(k1, (x.A.length : Int))]
      rw [hxb, hXA, List.length_take, Nat.min_eq_left (by omega)]
    have hlen : (z.stk b).length + 1 = (Zp.stk (.dn z x) k1).length := by rw [← hst]; simp
    rw [hst, hlen] at S
    rw [hlen] at hcs' ⊢
    rw [← hput, Zp.all_put hxo] at S
    have S := S.only [.ck (K acc), .ow a0, .ow (n0, 0), .ck (HtC (some nh)), .ow ps', .kd none, .fo [], .tr k1]
    exact me_p (bd_q (by decide) (ln_e (hdn _ r (.dn z x) k1 v cs' ps' acc hr1 (pw.dn hl hf hi hv hxo hxb hput hC hD hXA hB) hcs' S)))
end
end Go.Proofs.Ytegnpimlfphncaa.TG
