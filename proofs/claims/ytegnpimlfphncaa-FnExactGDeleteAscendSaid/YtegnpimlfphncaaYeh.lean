/-
  The tree of items: DeleteAscend. Conditions: none.
-/
import Derived.Test.YtegnpimlfphncaaPgQ
import Derived.Test.YtegnpimlfphncaaYeg
set_option linter.unusedVariables false
set_option linter.unusedSimpArgs false
set_option linter.unusedSectionVars false
set_option maxRecDepth 100000
namespace Go.Proofs.Ytegnpimlfphncaa.TG
open Go Go.Proofs.Ytegnpimlfphncaa
section
variable {h h0 : H} {G0 : PA → Prop} {Q : Ex → List AV → H → Prop} {ls : Value} {oc : Ck} {o : List Int} {K : List KV → Ck} {go : List KV → KV → Int} {f : Value} {FF : List KV × List KV} {b0 dg rnd lim n n0 : Nat} {iso : Int} {ctr : Option PA} {a0 nh ps : PA} {pv : KV} {cs : Nat} {l : List Ck}
theorem srt_its {mn mx : Nat} : ∀ {r : Nat} {u : BT KV r}, Val mn mx r u → Srt (ltO o) (flatB r u) → Srt (ltO o) (itemsB r u)
  | 0, u, _, hs => hs
  | r + 1, u, hv, hs => by
    have hs : Srt (ltO o) (weave u.1 (u.2.map (flatB r))) := hs
    exact srt_items (by rw [List.length_map]; exact hv.2.1) hs
theorem Pv.nx {r b : Nat} {z : Zp n r} {u : BT KV r} {acc : List KV} (pw : Pv o go FF b0 dg rnd lim z b u pv acc) : Nx o go FF b0 dg rnd lim r pv r z b u (fnd (ltO o) (itemsB r u) pv).isSome (pos (ltO o) (itemsB r u) pv) acc (rnd + 1) := by
  obtain ⟨lu, lo, hi, fn, nn⟩ := pw
  have htop := lu.top
  rw [z.all_len] at htop
  have hs0 : Srt (ltO o) (z.lf ++ (flatB r u ++ z.rg)) := lu.srt
  have hsw : Srt (ltO o) (flatB r u) := (srt_append.1 (srt_append.1 hs0).2.1).1
  cases r with
  | zero => exact ⟨⟨lu, pos_le _ _, fn, nn⟩, by omega⟩
  | succ r =>
    obtain ⟨xs, ts⟩ := u
    have hl2 : ts.length = xs.length + 1 := lu.val.2.1
    have hlm : (ts.map (flatB r)).length = xs.length + 1 := by rw [List.length_map, hl2]
    have hsw : Srt (ltO o) (weave xs (ts.map (flatB r))) := hsw
    cases hf : fnd (ltO o) (itemsB (r + 1) ((xs, ts) : BT KV (r + 1))) pv with
    | none => exact .inr ⟨rfl, rfl, ⟨lu, lo, hi, fn, nn⟩, hf, rfl⟩
    | some y =>
      have hf : fnd (ltO o) xs pv = some y := hf
      have hd := drop_here (ordO o) hlm hsw hf
      have hd : (flatB (r + 1) ((xs, ts) : BT KV (r + 1))).drop (pos (ltO o) (flatB (r + 1) ((xs, ts) : BT KV (r + 1))) pv) = post (xs.drop (pos (ltO o) xs pv)) ((ts.map (flatB r)).drop (pos (ltO o) xs pv + 1)) := hd
      have hdl := congrArg List.length hd
      rw [List.length_drop] at hdl
      refine .inl ⟨rfl, lu, (fnd_some_lt hf).1, ⟨(flatB (r + 1) ((xs, ts) : BT KV (r + 1))).take (pos (ltO o) (flatB (r + 1) ((xs, ts) : BT KV (r + 1))) pv), ?_, ?_⟩, ?_, ?_⟩
      · show _ = _ ++ post (xs.drop (pos (ltO o) xs pv)) ((ts.map (flatB r)).drop (pos (ltO o) xs pv + 1))
        rw [← hd, List.take_append_drop]
      · show Fn go _ (post (xs.drop (pos (ltO o) xs pv)) ((ts.map (flatB r)).drop (pos (ltO o) xs pv + 1)) ++ z.rg) acc = FF
        rw [← hd]; exact fn
      · show acc.length + ((post (xs.drop (pos (ltO o) xs pv)) ((ts.map (flatB r)).drop (pos (ltO o) xs pv + 1))).length + z.rg.length) ≤ lim
        rw [← hdl]; exact nn
      · show (post (xs.drop (pos (ltO o) xs pv)) ((ts.map (flatB r)).drop (pos (ltO o) xs pv + 1))).length + z.rg.length ≤ rnd + 1
        rw [← hdl]; omega
set_option maxHeartbeats 4000000 in
theorem w_findw {r : Nat} {z : Zp n r} {b : Nat} {u : BT KV r} {acc : List KV} (hls : Lss ls oc o) (hoc : Bes oc h0 G0) (hcb : Cba Try.prog f argO K go lim) (hl : Lim b0 dg rnd) (pw : Pv o go FF b0 dg rnd lim z b u pv acc) (hcs : (z.stk b).length ≤ cs) (hn : n ≤ 4294967294)
    (S : St h0 G0 [K acc, Ow a0 (mapC ls iso ctr (some (b0, 0)) (z.all u).length dg (2 * dg + 1) false false) 0, Ow (n0, 0) (L.cells pv) 0, HtC (some nh), Ow ps (LFr.flat (z.stk b)) ((cs - (z.stk b).length) * LFr.sz), ZsC iso z (flatB r u).length, ZrC iso z b, TrC L iso r b u] h)
    (hret : ∀ h', St h0 G0 [K FF.1, MpC ls o iso dg a0 FF.2] h' → wp Try.prog (.done .ret []) Q h')
    (hrs : ∀ h' (cs : Nat) (ps : PA) (cur : List KV) (x : KV) (acc : List KV), Rv o go FF lim cur x acc → cur.length < rnd → St h0 G0 [K acc, MpC ls o iso dg a0 cur, Ow (n0, 0) (L.cells x) 0, HtC (some nh), SlC (some ps, 0, cs) LFr.sz []] h' → wp Try.prog (.done (.exit 1000) [.c (.sl (some ps) 0 cs), .c (.addr nh)]) Q h') :
    wp Try.prog (.loop [.c (.ptr), .c (.sl)] [.c (.ptr (some (b, 0))), .c (.sl ((some ps)) ((z.stk b).length) (cs))] fun y10 =>
          .bind (some 1) (.bind (some 1001) (.load (n0, 0) (.int .i64) fun i11 =>
              .load (n0, 1) (.int .i64) fun i12 =>
              .guard (InK IntKind.i64 ((↑y10.snd.fst.snd.fst : Int) - 1)) <|
              .call fn_tg_find [.c (.addr a0), .c (.ptr (y10.fst)), .agg [.int .i64 (i11), .int .i64 (i12)], .c (.addr nh), .c (.int .i64 ((↑y10.snd.fst.snd.fst : Int) - 1))] true [.c (.int .i64), .c (.bool)] fun r13 =>
              .done .normal [.c (.ptr (y10.fst)), .c (.sl (y10.snd.fst.fst) (y10.snd.fst.snd.fst) (y10.snd.fst.snd.snd)), .c (.bool (r13.snd.fst)), .c (.int .i64 (r13.fst))]) [.c (.ptr), .c (.sl), .c (.bool), .c (.int .i64)] fun x14 =>
            .loop [.c (.ptr), .c (.sl), .c (.bool), .c (.int .i64)] [.c (.ptr (x14.fst)), .c (.sl (x14.snd.fst.fst) (x14.snd.fst.snd.fst) (x14.snd.fst.snd.snd)), .c (.bool (x14.snd.snd.fst)), .c (.int .i64 (x14.snd.snd.snd.fst))] fun y15 =>
              .bind (some 1001) (.nonnil (y15.fst) fun p16 =>
                .load (p16.fst, p16.snd + 3) (.ptr) fun q17 =>
                .bind none (.ite (!Option.isNone q17)
                  (.ite (y15.snd.snd.fst)
                    (.nonnil (y15.fst) fun p18 =>
                      .load (p18.fst, p18.snd + 2) (.sl) fun s19 =>
                      .nonnil (s19.fst) fun p20 =>
                      .guard (((0 : Int) ≤ y15.snd.snd.snd.fst) ∧ ((y15.snd.snd.snd.fst : Int) < (↑s19.snd.fst : Int))) <|
                      .load (p20.fst, p20.snd + mulN (Int.toNat y15.snd.snd.snd.fst) 2) (.int .i64) fun i21 =>
                      .load (p20.fst, p20.snd + mulN (Int.toNat y15.snd.snd.snd.fst) 2 + 1) (.int .i64) fun i22 =>
                      .callv f [.agg [.int .i64 (i21), .int .i64 (i22)]] false [.c (.int .i64)] fun r23 =>
                      .ite (r23.fst == 2)
                      (.nonnil (y15.fst) fun p24 =>
                        .load (p24.fst, p24.snd + 2) (.sl) fun s25 =>
                        .nonnil (s25.fst) fun p26 =>
                        .guard (((0 : Int) ≤ y15.snd.snd.snd.fst) ∧ ((y15.snd.snd.snd.fst : Int) < (↑s25.snd.fst : Int))) <|
                        .load (p26.fst, p26.snd + mulN (Int.toNat y15.snd.snd.snd.fst) 2) (.int .i64) fun i27 =>
                        .load (p26.fst, p26.snd + mulN (Int.toNat y15.snd.snd.snd.fst) 2 + 1) (.int .i64) fun i28 =>
                        .store (n0, 0) (.int .i64 (i27)) <|
                        .store (n0, 1) (.int .i64 (i28)) <|
                        .nonnil (y15.fst) fun p29 =>
                        .load (p29.fst, p29.snd + 2) (.sl) fun s30 =>
                        .nonnil (s30.fst) fun p31 =>
                        .guard (((0 : Int) ≤ y15.snd.snd.snd.fst) ∧ ((y15.snd.snd.snd.fst : Int) < (↑s30.snd.fst : Int))) <|
                        .load (p31.fst, p31.snd + mulN (Int.toNat y15.snd.snd.snd.fst) 2) (.int .i64) fun i32 =>
                        .load (p31.fst, p31.snd + mulN (Int.toNat y15.snd.snd.snd.fst) 2 + 1) (.int .i64) fun i33 =>
                        .call fn_tg_deleteHint [.c (.addr a0), .agg [.int .i64 (i32), .int .i64 (i33)], .c (.addr nh)] true [.agg [.int .i64, .int .i64], .c (.bool)] fun r34 =>
                        .guard (((0 : Int) ≤ 0) ∧ ((0 : Int) ≤ (↑y15.snd.fst.snd.snd : Int))) <|
                        .done (.exit 1000) [.c (.sl (slBase y15.snd.fst.fst y15.snd.fst.snd.snd 0 2) (0) (y15.snd.fst.snd.snd - 0)), .c (.addr nh)])
                      (.ite (r23.fst == 1)
                        (.nonnil (y15.fst) fun p35 =>
                          .load (p35.fst, p35.snd + 3) (.ptr) fun q36 =>
                          .nonnil (q36) fun p37 =>
                          .load p37 (.sl) fun s38 =>
                          .guard (InK IntKind.i64 (y15.snd.snd.snd.fst + 1)) <|
                          .nonnil (s38.fst) fun p39 =>
                          .guard (((0 : Int) ≤ y15.snd.snd.snd.fst + 1) ∧ ((y15.snd.snd.snd.fst + 1 : Int) < (↑s38.snd.fst : Int))) <|
                          .call fn_tg_isoLoad [.c (.addr a0), .c (.addr (p39.fst, p39.snd + (y15.snd.snd.snd.fst + 1).toNat)), .c (.tt)] false [.c (.ptr)] fun r40 =>
                          .guard (InK IntKind.i64 (y15.snd.snd.snd.fst + 1)) <|
                          .alloc ty_btree_stackItem_pub_greenwood_impl_Item [.ptr (r40.fst), .int .i64 (y15.snd.snd.snd.fst + 1)] fun n41 =>
                          .append ty_btree_stackItem_pub_greenwood_impl_Item 2 16 [.ptr none, .int .i64 (0)] ((y15.snd.fst.fst), y15.snd.fst.snd.fst, y15.snd.fst.snd.snd) ((some (n41, 0)), 1, 1) fun s42 =>
                          .bind (some 3) (.loop [.c (.sl), .c (.ptr)] [.c (.sl (s42.fst) (s42.snd.fst) (s42.snd.snd)), .c (.ptr (r40.fst))] fun y43 =>
                              .call fn_ng_leaf [.c (.ptr (y43.snd.fst))] false [.c (.bool)] fun r44 =>
                              .ite (!r44.fst)
                              (.nonnil (y43.snd.fst) fun p45 =>
                                .load (p45.fst, p45.snd + 3) (.ptr) fun q46 =>
                                .nonnil (q46) fun p47 =>
                                .load p47 (.sl) fun s48 =>
                                .nonnil (s48.fst) fun p49 =>
                                .guard (((0 : Int) ≤ 0) ∧ ((0 : Int) < (↑s48.snd.fst : Int))) <|
                                .call fn_tg_isoLoad [.c (.addr a0), .c (.addr (p49.fst, p49.snd)), .c (.tt)] false [.c (.ptr)] fun r50 =>
                                .alloc ty_btree_stackItem_pub_greenwood_impl_Item [.ptr (r50.fst), .int .i64 (0)] fun n51 =>
                                .append ty_btree_stackItem_pub_greenwood_impl_Item 2 16 [.ptr none, .int .i64 (0)] ((y43.fst.fst), y43.fst.snd.fst, y43.fst.snd.snd) ((some (n51, 0)), 1, 1) fun s52 =>
                                .done .normal [.c (.sl (s52.fst) (s52.snd.fst) (s52.snd.snd)), .c (.ptr (r50.fst))])
                              (.done (.exit 3) [.c (.sl (y43.fst.fst) (y43.fst.snd.fst) (y43.fst.snd.snd)), .c (.ptr (y43.snd.fst))])) [.c (.sl), .c (.ptr)] fun x53 =>
                          .done .normal [.c (.int .i64 (0)), .c (.ptr (x53.snd.fst)), .c (.sl (x53.fst.fst) (x53.fst.snd.fst) (x53.fst.snd.snd))])
                        (.done .ret [])))
                    (.nonnil (y15.fst) fun p54 =>
                      .load (p54.fst, p54.snd + 3) (.ptr) fun q55 =>
                      .nonnil (q55) fun p56 =>
                      .load p56 (.sl) fun s57 =>
                      .nonnil (s57.fst) fun p58 =>
                      .guard (((0 : Int) ≤ y15.snd.snd.snd.fst) ∧ ((y15.snd.snd.snd.fst : Int) < (↑s57.snd.fst : Int))) <|
                      .call fn_tg_isoLoad [.c (.addr a0), .c (.addr (p58.fst, p58.snd + Int.toNat y15.snd.snd.snd.fst)), .c (.tt)] false [.c (.ptr)] fun r59 =>
                      .alloc ty_btree_stackItem_pub_greenwood_impl_Item [.ptr (r59.fst), .int .i64 (y15.snd.snd.snd.fst)] fun n60 =>
                      .append ty_btree_stackItem_pub_greenwood_impl_Item 2 16 [.ptr none, .int .i64 (0)] ((y15.snd.fst.fst), y15.snd.fst.snd.fst, y15.snd.fst.snd.snd) ((some (n60, 0)), 1, 1) fun s61 =>
                      .done (.exit 1) [.c (.ptr (r59.fst)), .c (.sl (s61.fst) (s61.snd.fst) (s61.snd.snd))]))
                  (.done .normal [.c (.int .i64 (y15.snd.snd.snd.fst)), .c (.ptr (y15.fst)), .c (.sl (y15.snd.fst.fst) (y15.snd.fst.snd.fst) (y15.snd.fst.snd.snd))])) [.c (.int .i64), .c (.ptr), .c (.sl)] fun x62 =>
                .nonnil (x62.snd.fst) fun p63 =>
                .load (p63.fst, p63.snd + 2) (.sl) fun s64 =>
                .guard (InK IntKind.i64 ((↑s64.snd.fst : Int) - x62.fst)) <|
                .load (a0.fst, a0.snd + 10) (.int .i64) fun i65 =>
                .guard (InK IntKind.i64 ((↑s64.snd.fst : Int) - x62.fst - i65)) <|
                .bind none (.ite (decide ((↑s64.snd.fst : Int) - x62.fst - i65 > 1))
                  (.bind (some 5) (.loop [.c (.int .i64), .c (.int .i64)] [.c (.int .i64 (0)), .c (.int .i64 (0))] fun y66 =>
                        .ite (decide (y66.fst < (↑s64.snd.fst : Int) - x62.fst - i65))
                        (.nonnil (x62.snd.fst) fun p67 =>
                          .load (p67.fst, p67.snd + 2) (.sl) fun s68 =>
                          .guard (InK IntKind.i64 (x62.fst + y66.fst)) <|
                          .nonnil (s68.fst) fun p69 =>
                          .guard (((0 : Int) ≤ x62.fst + y66.fst) ∧ ((x62.fst + y66.fst : Int) < (↑s68.snd.fst : Int))) <|
                          .load (p69.fst, p69.snd + mulN (x62.fst + y66.fst).toNat 2) (.int .i64) fun i70 =>
                          .load (p69.fst, p69.snd + mulN (x62.fst + y66.fst).toNat 2 + 1) (.int .i64) fun i71 =>
                          .callv f [.agg [.int .i64 (i70), .int .i64 (i71)]] false [.c (.int .i64)] fun r72 =>
                          .ite (r72.fst != 2)
                          (.done (.exit 5) [.c (.int .i64 (y66.fst)), .c (.int .i64 (r72.fst))])
                          (.guard (InK IntKind.i64 (y66.fst + 1)) <|
                            .done .normal [.c (.int .i64 (y66.fst + 1)), .c (.int .i64 (r72.fst))]))
                        (.done (.exit 5) [.c (.int .i64 (y66.fst)), .c (.int .i64 (y66.snd.fst))])) [.c (.int .i64), .c (.int .i64)] fun x73 =>
                    .nonnil (x62.snd.fst) fun p74 =>
                    .load (p74.fst, p74.snd + 2) (.sl) fun s75 =>
                    .guard (((0 : Int) ≤ x62.fst) ∧ ((x62.fst : Int) ≤ (↑s75.snd.fst : Int))) <|
                    .nonnil (x62.snd.fst) fun p76 =>
                    .load (p76.fst, p76.snd + 2) (.sl) fun s77 =>
                    .guard (InK IntKind.i64 (x62.fst + x73.fst)) <|
                    .guard (((0 : Int) ≤ x62.fst + x73.fst) ∧ ((x62.fst + x73.fst : Int) ≤ (↑s77.snd.fst : Int))) <|
                    .copy 2 ((slBase s75.fst s75.snd.snd (Int.toNat x62.fst) 2), s75.snd.fst - Int.toNat x62.fst, s75.snd.snd - Int.toNat x62.fst) ((slBase s77.fst s77.snd.snd (x62.fst + x73.fst).toNat 2), s77.snd.fst - (x62.fst + x73.fst).toNat, s77.snd.snd - (x62.fst + x73.fst).toNat) fun m78 =>
                    .nonnil (x62.snd.fst) fun p79 =>
                    .load (p79.fst, p79.snd + 2) (.sl) fun s80 =>
                    .guard (InK IntKind.i64 ((↑s80.snd.fst : Int) - x73.fst)) <|
                    .bind (some 7) (.loop [.c (.int .i64)] [.c (.int .i64 ((↑s80.snd.fst : Int) - x73.fst))] fun y81 =>
                        .nonnil (x62.snd.fst) fun p82 =>
                        .load (p82.fst, p82.snd + 2) (.sl) fun s83 =>
                        .ite (decide (y81.fst < (↑s83.snd.fst : Int)))
                        (.nonnil (x62.snd.fst) fun p84 =>
                          .load (p84.fst, p84.snd + 2) (.sl) fun s85 =>
                          .load (a0.fst, a0.snd + 7) (.int .i64) fun i86 =>
                          .load (a0.fst, a0.snd + 8) (.int .i64) fun i87 =>
                          .nonnil (s85.fst) fun p88 =>
                          .guard (((0 : Int) ≤ y81.fst) ∧ ((y81.fst : Int) < (↑s85.snd.fst : Int))) <|
                          .store (p88.fst, p88.snd + mulN (Int.toNat y81.fst) 2) (.int .i64 (i86)) <|
                          .store (p88.fst, p88.snd + mulN (Int.toNat y81.fst) 2 + 1) (.int .i64 (i87)) <|
                          .guard (InK IntKind.i64 (y81.fst + 1)) <|
                          .done .normal [.c (.int .i64 (y81.fst + 1))])
                        (.done (.exit 7) [])) [] fun x89 =>
                    .nonnil (x62.snd.fst) fun p90 =>
                    .load (p90.fst, p90.snd + 2) (.sl) fun s91 =>
                    .nonnil (x62.snd.fst) fun p92 =>
                    .load (p92.fst, p92.snd + 2) (.sl) fun s93 =>
                    .guard (InK IntKind.i64 ((↑s93.snd.fst : Int) - x73.fst)) <|
                    .guard (((0 : Int) ≤ (↑s93.snd.fst : Int) - x73.fst) ∧ (((↑s93.snd.fst : Int) - x73.fst : Int) ≤ (↑s91.snd.snd : Int))) <|
                    .nonnil (x62.snd.fst) fun p94 =>
                    .store (p94.fst, p94.snd + 2) (.sl (slBase s91.fst s91.snd.snd 0 2) (((↑s93.snd.fst : Int) - x73.fst).toNat - 0) (s91.snd.snd - 0)) <|
                    .bind (some 9) (.loop [.c (.int .i64)] [.c (.int .i64 (0))] fun y95 =>
                        .ite (decide (y95.fst < (↑x62.snd.snd.fst.snd.fst : Int)))
                        (.nonnil (x62.snd.snd.fst.fst) fun p96 =>
                          .guard (((0 : Int) ≤ y95.fst) ∧ ((y95.fst : Int) < (↑x62.snd.snd.fst.snd.fst : Int))) <|
                          .load (p96.fst, p96.snd + mulN (Int.toNat y95.fst) 2) (.ptr) fun q97 =>
                          .nonnil (q97) fun p98 =>
                          .load (p98.fst, p98.snd + 1) (.int .i64) fun i99 =>
                          .guard (InK IntKind.i64 (i99 - x73.fst)) <|
                          .nonnil (q97) fun p100 =>
                          .store (p100.fst, p100.snd + 1) (.int .i64 (i99 - x73.fst)) <|
                          .guard (InK IntKind.i64 (y95.fst + 1)) <|
                          .done .normal [.c (.int .i64 (y95.fst + 1))])
                        (.done (.exit 9) [])) [] fun x101 =>
                    .load (a0.fst, a0.snd + 3) (.int .i64) fun i102 =>
                    .guard (InK IntKind.i64 (i102 - x73.fst)) <|
                    .store (a0.fst, a0.snd + 3) (.int .i64 (i102 - x73.fst)) <|
                    .ite (x73.snd.fst == 0)
                    (.done .ret [])
                    (.bind none (.ite (x73.snd.fst == 1)
                        (.guard (InK IntKind.i64 (x62.fst + 1)) <|
                          .done .normal [.c (.int .i64 (x62.fst + 1))])
                        (.done .normal [.c (.int .i64 (x62.fst))])) [.c (.int .i64)] fun x103 =>
                      .done .normal [.c (.int .i64 (x103.fst))]))
                  (.done .normal [.c (.int .i64 (x62.fst))])) [.c (.int .i64)] fun x104 =>
                .bind (some 11) (.loop [.c (.sl), .c (.int .i64)] [.c (.sl (x62.snd.snd.fst.fst) (x62.snd.snd.fst.snd.fst) (x62.snd.snd.fst.snd.snd)), .c (.int .i64 (x104.fst))] fun y105 =>
                    .nonnil (x62.snd.fst) fun p106 =>
                    .load (p106.fst, p106.snd + 2) (.sl) fun s107 =>
                    .ite (decide (y105.snd.fst < (↑s107.snd.fst : Int)))
                    (.nonnil (x62.snd.fst) fun p108 =>
                      .load (p108.fst, p108.snd + 2) (.sl) fun s109 =>
                      .nonnil (s109.fst) fun p110 =>
                      .guard (((0 : Int) ≤ y105.snd.fst) ∧ ((y105.snd.fst : Int) < (↑s109.snd.fst : Int))) <|
                      .load (p110.fst, p110.snd + mulN (Int.toNat y105.snd.fst) 2) (.int .i64) fun i111 =>
                      .load (p110.fst, p110.snd + mulN (Int.toNat y105.snd.fst) 2 + 1) (.int .i64) fun i112 =>
                      .callv f [.agg [.int .i64 (i111), .int .i64 (i112)]] false [.c (.int .i64)] fun r113 =>
                      .bind none (.ite (r113.fst == 2)
                        (.nonnil (x62.snd.fst) fun p114 =>
                          .load (p114.fst, p114.snd + 2) (.sl) fun s115 =>
                          .load (a0.fst, a0.snd + 10) (.int .i64) fun i116 =>
                          .ite (decide ((↑s115.snd.fst : Int) > i116))
                          (.nonnil (x62.snd.fst) fun p117 =>
                            .load (p117.fst, p117.snd + 2) (.sl) fun s118 =>
                            .guard (((0 : Int) ≤ y105.snd.fst) ∧ ((y105.snd.fst : Int) ≤ (↑s118.snd.fst : Int))) <|
                            .nonnil (x62.snd.fst) fun p119 =>
                            .load (p119.fst, p119.snd + 2) (.sl) fun s120 =>
                            .guard (InK IntKind.i64 (y105.snd.fst + 1)) <|
                            .guard (((0 : Int) ≤ y105.snd.fst + 1) ∧ ((y105.snd.fst + 1 : Int) ≤ (↑s120.snd.fst : Int))) <|
                            .copy 2 ((slBase s118.fst s118.snd.snd (Int.toNat y105.snd.fst) 2), s118.snd.fst - Int.toNat y105.snd.fst, s118.snd.snd - Int.toNat y105.snd.fst) ((slBase s120.fst s120.snd.snd (y105.snd.fst + 1).toNat 2), s120.snd.fst - (y105.snd.fst + 1).toNat, s120.snd.snd - (y105.snd.fst + 1).toNat) fun m121 =>
                            .nonnil (x62.snd.fst) fun p122 =>
                            .load (p122.fst, p122.snd + 2) (.sl) fun s123 =>
                            .nonnil (x62.snd.fst) fun p124 =>
                            .load (p124.fst, p124.snd + 2) (.sl) fun s125 =>
                            .guard (InK IntKind.i64 ((↑s125.snd.fst : Int) - 1)) <|
                            .load (a0.fst, a0.snd + 7) (.int .i64) fun i126 =>
                            .load (a0.fst, a0.snd + 8) (.int .i64) fun i127 =>
                            .nonnil (s123.fst) fun p128 =>
                            .guard (((0 : Int) ≤ (↑s125.snd.fst : Int) - 1) ∧ (((↑s125.snd.fst : Int) - 1 : Int) < (↑s123.snd.fst : Int))) <|
                            .store (p128.fst, p128.snd + mulN ((↑s125.snd.fst : Int) - 1).toNat 2) (.int .i64 (i126)) <|
                            .store (p128.fst, p128.snd + mulN ((↑s125.snd.fst : Int) - 1).toNat 2 + 1) (.int .i64 (i127)) <|
                            .nonnil (x62.snd.fst) fun p129 =>
                            .load (p129.fst, p129.snd + 2) (.sl) fun s130 =>
                            .nonnil (x62.snd.fst) fun p131 =>
                            .load (p131.fst, p131.snd + 2) (.sl) fun s132 =>
                            .guard (InK IntKind.i64 ((↑s132.snd.fst : Int) - 1)) <|
                            .guard (((0 : Int) ≤ (↑s132.snd.fst : Int) - 1) ∧ (((↑s132.snd.fst : Int) - 1 : Int) ≤ (↑s130.snd.snd : Int))) <|
                            .nonnil (x62.snd.fst) fun p133 =>
                            .store (p133.fst, p133.snd + 2) (.sl (slBase s130.fst s130.snd.snd 0 2) (((↑s132.snd.fst : Int) - 1).toNat - 0) (s130.snd.snd - 0)) <|
                            .bind (some 14) (.loop [.c (.int .i64)] [.c (.int .i64 (0))] fun y134 =>
                                .ite (decide (y134.fst < (↑y105.fst.snd.fst : Int)))
                                (.nonnil (y105.fst.fst) fun p135 =>
                                  .guard (((0 : Int) ≤ y134.fst) ∧ ((y134.fst : Int) < (↑y105.fst.snd.fst : Int))) <|
                                  .load (p135.fst, p135.snd + mulN (Int.toNat y134.fst) 2) (.ptr) fun q136 =>
                                  .nonnil (q136) fun p137 =>
                                  .load (p137.fst, p137.snd + 1) (.int .i64) fun i138 =>
                                  .guard (InK IntKind.i64 (i138 - 1)) <|
                                  .nonnil (q136) fun p139 =>
                                  .store (p139.fst, p139.snd + 1) (.int .i64 (i138 - 1)) <|
                                  .guard (InK IntKind.i64 (y134.fst + 1)) <|
                                  .done .normal [.c (.int .i64 (y134.fst + 1))])
                                (.done (.exit 14) [])) [] fun x140 =>
                            .load (a0.fst, a0.snd + 3) (.int .i64) fun i141 =>
                            .guard (InK IntKind.i64 (i141 - 1)) <|
                            .store (a0.fst, a0.snd + 3) (.int .i64 (i141 - 1)) <|
                            .guard (InK IntKind.i64 (y105.snd.fst - 1)) <|
                            .done .normal [.c (.sl (y105.fst.fst) (y105.fst.snd.fst) (y105.fst.snd.snd)), .c (.int .i64 (y105.snd.fst - 1))])
                          (.nonnil (x62.snd.fst) fun p142 =>
                            .load (p142.fst, p142.snd + 2) (.sl) fun s143 =>
                            .nonnil (s143.fst) fun p144 =>
                            .guard (((0 : Int) ≤ y105.snd.fst) ∧ ((y105.snd.fst : Int) < (↑s143.snd.fst : Int))) <|
                            .load (p144.fst, p144.snd + mulN (Int.toNat y105.snd.fst) 2) (.int .i64) fun i145 =>
                            .load (p144.fst, p144.snd + mulN (Int.toNat y105.snd.fst) 2 + 1) (.int .i64) fun i146 =>
                            .store (n0, 0) (.int .i64 (i145)) <|
                            .store (n0, 1) (.int .i64 (i146)) <|
                            .nonnil (x62.snd.fst) fun p147 =>
                            .load (p147.fst, p147.snd + 2) (.sl) fun s148 =>
                            .nonnil (s148.fst) fun p149 =>
                            .guard (((0 : Int) ≤ y105.snd.fst) ∧ ((y105.snd.fst : Int) < (↑s148.snd.fst : Int))) <|
                            .load (p149.fst, p149.snd + mulN (Int.toNat y105.snd.fst) 2) (.int .i64) fun i150 =>
                            .load (p149.fst, p149.snd + mulN (Int.toNat y105.snd.fst) 2 + 1) (.int .i64) fun i151 =>
                            .call fn_tg_deleteHint [.c (.addr a0), .agg [.int .i64 (i150), .int .i64 (i151)], .c (.addr nh)] true [.agg [.int .i64, .int .i64], .c (.bool)] fun r152 =>
                            .guard (((0 : Int) ≤ 0) ∧ ((0 : Int) ≤ (↑y105.fst.snd.snd : Int))) <|
                            .done (.exit 1000) [.c (.sl (slBase y105.fst.fst y105.fst.snd.snd 0 2) (0) (y105.fst.snd.snd - 0)), .c (.addr nh)]))
                        (.ite (r113.fst == 1)
                          (.done .normal [.c (.sl (y105.fst.fst) (y105.fst.snd.fst) (y105.fst.snd.snd)), .c (.int .i64 (y105.snd.fst))])
                          (.done .ret []))) [.c (.sl), .c (.int .i64)] fun x153 =>
                      .guard (InK IntKind.i64 (x153.snd.fst + 1)) <|
                      .done .normal [.c (.sl (x153.fst.fst) (x153.fst.snd.fst) (x153.fst.snd.snd)), .c (.int .i64 (x153.snd.fst + 1))])
                    (.done (.exit 11) [.c (.sl (y105.fst.fst) (y105.fst.snd.fst) (y105.fst.snd.snd))])) [.c (.sl)] fun x154 =>
                .loop [.c (.sl)] [.c (.sl (x154.fst.fst) (x154.fst.snd.fst) (x154.fst.snd.snd))] fun y155 =>
                  .guard (InK IntKind.i64 ((↑y155.fst.snd.fst : Int) - 1)) <|
                  .nonnil (y155.fst.fst) fun p156 =>
                  .guard (((0 : Int) ≤ (↑y155.fst.snd.fst : Int) - 1) ∧ (((↑y155.fst.snd.fst : Int) - 1 : Int) < (↑y155.fst.snd.fst : Int))) <|
                  .load (p156.fst, p156.snd + mulN ((↑y155.fst.snd.fst : Int) - 1).toNat 2 + 1) (.int .i64) fun i157 =>
                  .guard (InK IntKind.i64 ((↑y155.fst.snd.fst : Int) - 1)) <|
                  .guard (((0 : Int) ≤ (↑y155.fst.snd.fst : Int) - 1) ∧ (((↑y155.fst.snd.fst : Int) - 1 : Int) ≤ (↑y155.fst.snd.snd : Int))) <|
                  .ite ((↑(((↑y155.fst.snd.fst : Int) - 1).toNat - 0) : Int) == 0)
                  (.done .ret [])
                  (.guard (InK IntKind.i64 ((↑(((↑y155.fst.snd.fst : Int) - 1).toNat - 0) : Int) - 1)) <|
                    .nonnil (slBase y155.fst.fst y155.fst.snd.snd 0 2) fun p158 =>
                    .guard (((0 : Int) ≤ (↑(((↑y155.fst.snd.fst : Int) - 1).toNat - 0) : Int) - 1) ∧ (((↑(((↑y155.fst.snd.fst : Int) - 1).toNat - 0) : Int) - 1 : Int) < (↑(((↑y155.fst.snd.fst : Int) - 1).toNat - 0) : Int))) <|
                    .load (p158.fst, p158.snd + mulN ((↑(((↑y155.fst.snd.fst : Int) - 1).toNat - 0) : Int) - 1).toNat 2) (.ptr) fun q159 =>
                    .nonnil (q159) fun p160 =>
                    .load (p160.fst, p160.snd + 2) (.sl) fun s161 =>
                    .ite (decide (i157 < (↑s161.snd.fst : Int)))
                    (.done (.exit 1001) [.c (.ptr (q159)), .c (.sl (slBase y155.fst.fst y155.fst.snd.snd 0 2) (((↑y155.fst.snd.fst : Int) - 1).toNat - 0) (y155.fst.snd.snd - 0)), .c (.tt), .c (.int .i64 (i157))])
                    (.done .normal [.c (.sl (slBase y155.fst.fst y155.fst.snd.snd 0 2) (((↑y155.fst.snd.fst : Int) - 1).toNat - 0) (y155.fst.snd.snd - 0))]))) [.c (.ptr), .c (.sl), .c (.bool), .c (.int .i64)] fun x162 =>
              .done .normal [.c (.ptr (x162.fst)), .c (.sl (x162.snd.fst.fst) (x162.snd.fst.snd.fst) (x162.snd.fst.snd.snd)), .c (.bool (x162.snd.snd.fst)), .c (.int .i64 (x162.snd.snd.snd.fst))]) [.c (.ptr), .c (.sl)] fun x163 =>
          .done .normal [.c (.ptr (x163.fst)), .c (.sl (x163.snd.fst.fst) (x163.snd.fst.snd.fst) (x163.snd.fst.snd.snd))]) Q h := by
  refine w_lp (fun k y h' => ∃ (r : Nat) (z : Zp n r) (b cs : Nat) (ps : PA) (u : BT KV r) (acc : List KV), y = (some (b, 0), (some ps, (z.stk b).length, cs), ()) ∧ r = k ∧ Pv o go FF b0 dg rnd lim z b u pv acc ∧ (z.stk b).length ≤ cs ∧
      St h0 G0 [K acc, Ow a0 (mapC ls iso ctr (some (b0, 0)) (z.all u).length dg (2 * dg + 1) false false) 0, Ow (n0, 0) (L.cells pv) 0, HtC (some nh), Ow ps (LFr.flat (z.stk b)) ((cs - (z.stk b).length) * LFr.sz), ZsC iso z (flatB r u).length, ZrC iso z b, TrC L iso r b u] h') r rfl ⟨r, z, b, cs, ps, u, acc, rfl, rfl, pw, hcs, S⟩ ?_
  clear S pw hcs
  rintro k _ h1 ⟨r, z, b, cs, ps, u, acc, rfl, rfl, pw, hcs, S⟩
  have lu := pw.lu
  have g1 := hl.one
  have hbig := hl.big
  have hsl := z.len b
  have hs0 : Srt (ltO o) (z.lf ++ (flatB r u ++ z.rg)) := lu.srt
  have hsi := srt_its lu.val (srt_append.1 (srt_append.1 hs0).2.1).1
  have hil := Val.items lu.val
  have hi1 := lu.one
  have hs1 : 1 ≤ (z.stk b).length := by
    obtain ⟨c, gs, hc⟩ := z.last b
    rw [hc]; simp
  refine w_bnd (w_bnd (ld_int S rfl (ld_int S rfl (w_guard (inK64 (by (first | omega | ((try dsimp only [Sh.T, Sh1.T]); omega))) (by (first | omega | ((try dsimp only [Sh.T, Sh1.T]); omega)))) ?_))))
  obtain ⟨p, c, kp, hc, hkp, S⟩ := open_nd L iso (S.at (.tr b))
  have e : (((z.stk b).length : Int) - 1) = (((z.stk b).length - 1 : Nat) : Int) := by omega
  dsimp only
  rw [e]
  refine st_callS S [.ck (HtC (some nh))] (fun G B hG hB hd hsub => HT.re (args' := [.c (.addr a0), .c (.addr (b, 0)), .agg [.int .i64 pv.1, .int .i64 pv.2], .c (.ptr (some nh)), .c (.int .i64 (((z.stk b).length - 1 : Nat) : Int))]) rfl <| c_find (.inr (hs_ok nh)) hls (a1 := (b, 0)) (x := pv) (xs := itemsB r u) (cap := c) (kp := kp) (bes hB hd rfl) (besR hB hd) (bes hB hd rfl) (bes hB hd rfl) (hoc.step S hsub) hsi hi1 (by omega) (by omega) hG) ?_
  rintro _ _ _ ⟨rfl, rfl⟩ S
  dsimp only [List.cons_append, List.nil_append] at S
  have S := shut_nd L iso (S.ats [.ow (b, 0), .ow p, .kd kp]) rfl rfl rfl rfl hc rfl
  have S := S.ats [.ck (K acc), .ow a0, .ow (n0, 0), .ck (HtC (some nh)), .ow ps, .kd none, .fo [], .tr b]
  refine bd_n rfl ?_
  refine w_next (k0 := rnd + 1) (r1 := r) hls hoc hcb hl pw.nx hcs hn S (fun h' S => bd_r (ln_r (hret h' S))) (fun h' cs ps cur x acc rv hlt S => bd_q (by decide) (ln_e (hrs h' cs ps cur x acc rv hlt S))) (fun h' r z b u cs ps acc hr pw hcs S => bd_e rfl ?_)
  exact ln_n rfl r ⟨r, z, b, cs, ps, u, acc, rfl, rfl, pw, hcs, S⟩ (by omega)
set_option maxHeartbeats 4000000 in
theorem c_DeleteAscend {l acc : List KV} {x : KV} (hls : Lss ls oc o) (hcb : Cba Try.prog f argO K go lim) (hll : l.length ≤ 4294967295) (hlm : acc.length + l.length ≤ lim) {G : PA → Prop} (hoc : Bes oc h G) (hG : Star [K acc, MpC ls o iso dg a0 l] h G) :
    HT Try.prog fn_tg_DeleteAscend [.c (.addr a0), .agg [.int .i64 x.1, .int .i64 x.2], .c (.raw f)] true [] h fun _ h' => ∃ post, (post = [K (Fn go (l.take (pos (ltO o) l x)) (l.drop (pos (ltO o) l x)) acc).1, MpC ls o iso dg a0 (Fn go (l.take (pos (ltO o) l x)) (l.drop (pos (ltO o) l x)) acc).2]) ∧ St h G post h' := by
  apply hc_tg_DeleteAscend
  unfold M_tg_DeleteAscend
  obtain ⟨FF, hFF⟩ : ∃ FF, FF = Fn go (l.take (pos (ltO o) l x)) (l.drop (pos (ltO o) l x)) acc := ⟨_, rfl⟩
  rw [← hFF]
  refine st_alloc (St.start hG) fun n0 _ S => ?_
  refine w_bnd ?_
  (refine w_callT c_lock ?_; rintro _ hk ⟨rfl, rfl⟩; refine w_bnd (w_false rfl (bd_n rfl ?_)))
  refine st_alloc S fun nh _ S => ?_
  have S : St h G (HtC (some (nh, 0)) :: _) _ := St.ex_in (List.replicate 8 false, List.replicate 8 0) ⟨rfl, rfl, by simp⟩ S
  have S := sl_nil LFr S
  refine bd_n rfl ?_
  refine w_lp (fun k y h' => ∃ (cur : List KV) (pv : KV) (acc : List KV) (s : SlT), y = (s, (nh, 0), ()) ∧ cur.length = k ∧ k ≤ l.length ∧ Rv o go FF lim cur pv acc ∧ OwnL LFr s [] ∧ St h G [K acc, MpC ls o iso dg a0 cur, Ow (n0, 0) (L.cells pv) 0, HtC (some (nh, 0)), SlC s LFr.sz (LFr.flat [])] h') l.length rfl
    ⟨l, x, acc, (none, 0, 0), rfl, rfl, Nat.le_refl _, ⟨hFF.symm, by have := pos_le (lt := ltO o) l x; omega⟩, ⟨rfl, Nat.le_refl _, .inl rfl⟩, S.ats [.ck (K acc), .mp a0, .ow (n0, 0), .ck (HtC (some (nh, 0))), .sl (none, 0, 0)]⟩ ?_
  clear S hG hlm
  rintro k _ h2 ⟨cur, pv, acc, s, rfl, rfl, hk, rv, hs, S⟩
  refine w_bnd ?_
  rcases open_map (S.at (.mp a0)) with ⟨ctr, mn, mx, rfl, hg, S⟩ | ⟨ctr, n, b, t, rfl, hsr, hv, hi, hg, S⟩
  · refine ld_nil S rfl (w_true rfl (bd_r (ln_r (rt_n rfl rfl ⟨_, rfl, ?_⟩))))
    have := rv.fn
    simp only [List.take_nil, List.drop_nil] at this
    rw [das_nil] at this
    rw [← this]
    exact (shut_map0 (S.at (.ow a0)) hg).only [.ck (K acc), .mp a0]
  · have hgd := hg
    obtain ⟨hmx, hmn, hmb⟩ := hg
    have hnl := ht_le hmn n t hv hi
    refine ld_some S rfl (w_false rfl ?_)
    refine w_callT (c_isoLoad (b := b) (iso := iso) (S.rd rfl) (S.iso b) (S.rd rfl)) ?_
    rintro _ _ ⟨rfl, rfl⟩
    refine st_alloc S fun n8 _ S => ?_
    refine st_apo (L := LFr) (xs := []) (y := (b, (0 : Int))) S hs rfl rfl (S.rsl (LFr.flat [(b, (0 : Int))]) 1 1 2 (fun i v h => by rw [Nat.zero_add]; exact h) rfl) ⟨by simp, by simp⟩ fun s' _ hs' S => ?_
    obtain ⟨ps, m, cs, rfl, hmc, _, S⟩ := S.open_sl (hs'.2.2.resolve_left (by simp))
    obtain rfl : m = 1 := hs'.1
    have S := St.st_in (m := []) S
    have S := St.st_in (m := []) S
    have S : St h G (ZsC iso (.top (n := n)) (flatB n t).length :: ZrC iso (.top (n := n)) b :: _) _ := S
    have S := S.only [.ck (K acc), .ow a0, .ow (n0, 0), .ck (HtC (some (nh, 0))), .ow ps, .kd none, .fo [], .tr b]
    have hall : (Zp.top (n := n)).all t = flatB n t := by show [] ++ (flatB n t ++ []) = _; simp
    have lu : Lu o b dg (flatB n t).length (.top (n := n)) b t := ⟨rfl, hv, fun h => (by cases h), hi, by rw [hall]; exact hsr, by rw [hall]; exact Nat.le_refl _⟩
    have hlf : (Zp.top (n := n)).lf = [] := rfl
    have hrg : (Zp.top (n := n)).rg = [] := rfl
    have pw : Pv o go FF b dg (flatB n t).length lim (.top (n := n)) b t pv acc := ⟨lu, fun a ha => (by rw [hlf] at ha; cases ha), fun a ha => (by rw [hrg] at ha; cases ha), by rw [hlf, hrg, List.nil_append, List.append_nil]; exact rv.fn, by rw [hrg]; exact rv.nn⟩
    have htl : (Zp.stk (.top (n := n)) b).length = 1 := rfl
    refine w_findw (z := .top (n := n)) (b := b) (u := t) hls hoc hcb ⟨hmn, hmb, by omega⟩ pw hmc (by omega) (by rw [hall]; exact S) (fun h' S => bd_r (ln_r (rt_n rfl rfl ⟨_, rfl, S⟩))) (fun h' cs ps cur' x' acc' rv hlt S => bd_e rfl ?_)
    exact ln_n rfl cur'.length ⟨cur', x', acc', (some ps, 0, cs), rfl, rfl, by omega, rv, ⟨rfl, Nat.zero_le _, .inl rfl⟩, S⟩ hlt
end
end Go.Proofs.Ytegnpimlfphncaa.TG
