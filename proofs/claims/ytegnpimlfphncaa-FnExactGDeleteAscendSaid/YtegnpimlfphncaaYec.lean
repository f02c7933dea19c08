/-
  The tree of items: items of a leaf deleted in one stretch, as DeleteAscend does. Conditions: none.
-/
import Derived.Test.YtegnpimlfphncaaYeb
set_option linter.unusedVariables false
set_option linter.unusedSimpArgs false
set_option linter.unusedSectionVars false
set_option maxRecDepth 100000
namespace Go.Proofs.Ytegnpimlfphncaa.TG
open Go Go.Proofs.Ytegnpimlfphncaa
def Zp.all {n r : Nat} (z : Zp n r) (u : BT KV r) : List KV := z.lf ++ (flatB r u ++ z.rg)
structure Lu (o : List Int) (b0 dg rnd : Nat) {n r : Nat} (z : Zp n r) (b : Nat) (u : BT KV r) : Prop where
  ok : z.Ok b0 dg (2 * dg + 1) b
  val : Val dg (2 * dg + 1) r u
  mn : z.tp = false → dg ≤ (itemsB r u).length
  one : 1 ≤ (itemsB r u).length
  srt : Srt (ltO o) (z.all u)
  top : (z.all u).length ≤ rnd
structure Lv (o : List Int) (go : List KV → KV → Int) (FF : List KV × List KV) (b0 dg rnd lim : Nat) {n : Nat} (z : Zp n 0) (b : Nat) (xs : List KV) (i : Nat) (acc : List KV) : Prop where
  lu : Lu o b0 dg rnd z b (xs : BT KV 0)
  le : i ≤ xs.length
  fn : Fn go (z.lf ++ xs.take i) (xs.drop i ++ z.rg) acc = FF
  nn : acc.length + ((xs.length - i) + z.rg.length) ≤ lim
structure Lim (b0 dg rnd : Nat) : Prop where
  one : 1 ≤ dg
  big : 2 * dg + 1 ≤ 255
  rnd : rnd ≤ 4294967295
section
variable {o : List Int} {go : List KV → KV → Int} {FF : List KV × List KV} {b0 dg rnd lim n : Nat} {z : Zp n 0} {b i j : Nat} {xs acc : List KV}
theorem Zp.all_len {r : Nat} (z : Zp n r) (u : BT KV r) : (z.all u).length = z.lf.length + ((flatB r u).length + z.rg.length) := by simp [Zp.all]
theorem Lu.cut (hl : Lim b0 dg rnd) (lu : Lu o b0 dg rnd z b (xs : BT KV 0)) (h : i + j ≤ xs.length) (h2 : j + dg ≤ xs.length) : (xs.take i ++ xs.drop (i + j)).length = xs.length - j ∧ Lu o b0 dg rnd z b (xs.take i ++ xs.drop (i + j) : BT KV 0) := by
  have hlen : (xs.take i ++ xs.drop (i + j)).length = xs.length - j := by simp; omega
  have h1 := hl.one
  have hv : xs.length ≤ 2 * dg + 1 := lu.val
  have hsub : (z.all (r := 0) (xs.take i ++ xs.drop (i + j))).Sublist (z.all (r := 0) xs) := by
    refine List.Sublist.append (List.Sublist.refl _) (List.Sublist.append ?_ (List.Sublist.refl _))
    show (xs.take i ++ xs.drop (i + j)).Sublist xs
    conv => rhs; rw [← List.take_append_drop i xs]
    refine List.Sublist.append (List.Sublist.refl _) ?_
    rw [← List.drop_drop]
    exact List.drop_sublist _ _
  refine ⟨hlen, lu.ok, ?_, fun _ => ?_, ?_, lu.srt.sublist hsub, Nat.le_trans hsub.length_le lu.top⟩
  · show (xs.take i ++ xs.drop (i + j)).length ≤ 2 * dg + 1
    omega
  · show dg ≤ (xs.take i ++ xs.drop (i + j)).length
    omega
  · show 1 ≤ (xs.take i ++ xs.drop (i + j)).length
    omega
end
section
variable {h h0 : H} {G0 : PA → Prop} {Q : Ex → List AV → H → Prop} {ls : Value} {oc : Ck} {o : List Int} {K : List KV → Ck} {go : List KV → KV → Int} {f : Value} {FF : List KV × List KV} {b0 dg rnd lim n n0 : Nat} {iso : Int} {ctr : Option PA} {a0 nh ps : PA} {pv : KV} {cs : Nat}
set_option maxHeartbeats 4000000 in
theorem w_bulk {z : Zp n 0} {b i c : Nat} {p : PA} {xs acc : List KV} (hcb : Cba Try.prog f argO K go lim) (hl : Lim b0 dg rnd) (lv : Lv o go FF b0 dg rnd lim z b xs i acc) (hc : xs.length ≤ c) (hcs : (z.stk b).length ≤ cs) (hn : n ≤ 4294967294)
    (S : St h0 G0 [K acc, Ow a0 (mapC ls iso ctr (some (b0, 0)) (z.all (r := 0) xs).length dg (2 * dg + 1) false false) 0, Ow (n0, 0) (L.cells pv) 0, HtC (some nh), Ow ps (LFr.flat (z.stk b)) ((cs - (z.stk b).length) * LFr.sz), ZsC iso z xs.length, ZrC iso z b, Ow (b, 0) (nodeC iso xs.length (some p, xs.length, c) none) 0, Ow p (L.flat xs) ((c - xs.length) * L.sz)] h)
    (hret : ∀ h' (xs acc : List KV), Lu o b0 dg rnd z b (xs : BT KV 0) → FF = (acc, z.all (r := 0) xs) → xs.length ≤ c → St h0 G0 [K acc, Ow a0 (mapC ls iso ctr (some (b0, 0)) (z.all (r := 0) xs).length dg (2 * dg + 1) false false) 0, Ow (n0, 0) (L.cells pv) 0, HtC (some nh), Ow ps (LFr.flat (z.stk b)) ((cs - (z.stk b).length) * LFr.sz), ZsC iso z xs.length, ZrC iso z b, Ow (b, 0) (nodeC iso xs.length (some p, xs.length, c) none) 0, Ow p (L.flat xs) ((c - xs.length) * L.sz)] h' → wp Try.prog (.done .ret []) Q h')
    (hnx : ∀ h' (xs acc : List KV) (i : Nat), Lv o go FF b0 dg rnd lim z b xs i acc → xs.length ≤ c → St h0 G0 [K acc, Ow a0 (mapC ls iso ctr (some (b0, 0)) (z.all (r := 0) xs).length dg (2 * dg + 1) false false) 0, Ow (n0, 0) (L.cells pv) 0, HtC (some nh), Ow ps (LFr.flat (z.stk b)) ((cs - (z.stk b).length) * LFr.sz), ZsC iso z xs.length, ZrC iso z b, Ow (b, 0) (nodeC iso xs.length (some p, xs.length, c) none) 0, Ow p (L.flat xs) ((c - xs.length) * L.sz)] h' → wp Try.prog (.done .normal [.c (.int .i64 (i : Int))]) Q h') :
    wp Try.prog (.ite (decide ((↑xs.length : Int) - (i : Int) - (dg : Int) > 1))
                  (.bind (some 5) (.loop [.c (.int .i64), .c (.int .i64)] [.c (.int .i64 (0)), .c (.int .i64 (0))] fun y66 =>
                        .ite (decide (y66.fst < (↑xs.length : Int) - (i : Int) - (dg : Int)))
                        (.nonnil (some (b, 0)) fun p67 =>
                          .load (p67.fst, p67.snd + 2) (.sl) fun s68 =>
                          .guard (InK IntKind.i64 ((i : Int) + y66.fst)) <|
                          .nonnil (s68.fst) fun p69 =>
                          .guard (((0 : Int) ≤ (i : Int) + y66.fst) ∧ (((i : Int) + y66.fst : Int) < (↑s68.snd.fst : Int))) <|
                          .load (p69.fst, p69.snd + mulN ((i : Int) + y66.fst).toNat 2) (.int .i64) fun i70 =>
                          .load (p69.fst, p69.snd + mulN ((i : Int) + y66.fst).toNat 2 + 1) (.int .i64) fun i71 =>
                          .callv f [.agg [.int .i64 (i70), .int .i64 (i71)]] false [.c (.int .i64)] fun r72 =>
                          .ite (r72.fst != 2)
                          (.done (.exit 5) [.c (.int .i64 (y66.fst)), .c (.int .i64 (r72.fst))])
                          (.guard (InK IntKind.i64 (y66.fst + 1)) <|
                            .done .normal [.c (.int .i64 (y66.fst + 1)), .c (.int .i64 (r72.fst))]))
                        (.done (.exit 5) [.c (.int .i64 (y66.fst)), .c (.int .i64 (y66.snd.fst))])) [.c (.int .i64), .c (.int .i64)] fun x73 =>
                    .nonnil (some (b, 0)) fun p74 =>
                    .load (p74.fst, p74.snd + 2) (.sl) fun s75 =>
                    .guard (((0 : Int) ≤ (i : Int)) ∧ (((i : Int) : Int) ≤ (↑s75.snd.fst : Int))) <|
                    .nonnil (some (b, 0)) fun p76 =>
                    .load (p76.fst, p76.snd + 2) (.sl) fun s77 =>
                    .guard (InK IntKind.i64 ((i : Int) + x73.fst)) <|
                    .guard (((0 : Int) ≤ (i : Int) + x73.fst) ∧ (((i : Int) + x73.fst : Int) ≤ (↑s77.snd.fst : Int))) <|
                    .copy 2 ((slBase s75.fst s75.snd.snd (Int.toNat (i : Int)) 2), s75.snd.fst - Int.toNat (i : Int), s75.snd.snd - Int.toNat (i : Int)) ((slBase s77.fst s77.snd.snd ((i : Int) + x73.fst).toNat 2), s77.snd.fst - ((i : Int) + x73.fst).toNat, s77.snd.snd - ((i : Int) + x73.fst).toNat) fun m78 =>
                    .nonnil (some (b, 0)) fun p79 =>
                    .load (p79.fst, p79.snd + 2) (.sl) fun s80 =>
                    .guard (InK IntKind.i64 ((↑s80.snd.fst : Int) - x73.fst)) <|
                    .bind (some 7) (.loop [.c (.int .i64)] [.c (.int .i64 ((↑s80.snd.fst : Int) - x73.fst))] fun y81 =>
                        .nonnil (some (b, 0)) fun p82 =>
                        .load (p82.fst, p82.snd + 2) (.sl) fun s83 =>
                        .ite (decide (y81.fst < (↑s83.snd.fst : Int)))
                        (.nonnil (some (b, 0)) fun p84 =>
                          .load (p84.fst, p84.snd + 2) (.sl) fun s85 =>
                          .load (a0.fst, a0.snd + 7) (.int .i64) fun i86 =>
                          .load (a0.fst, a0.snd + 8) (.int .i64) fun i87 =>
                          .nonnil (s85.fst) fun p88 =>
                          .guard (((0 : Int) ≤ y81.fst) ∧ ((y81.fst : Int) < (↑s85.snd.fst : Int))) <|
                          .store (p88.fst, p88.snd + mulN (Int.toNat y81.fst) 2) (.int .i64 (i86)) <|
                          .store (p88.fst, p88.snd + mulN (Int.toNat y81.fst) 2 + 1) (.int .i64 (i87)) <|
                          .guard (InK IntKind.i64 (y81.fst + 1)) <|
                          .done .normal [.c (.int .i64 (y81.fst + 1))])
                        (.done (.exit 7) [])) [] fun x89 =>
                    .nonnil (some (b, 0)) fun p90 =>
                    .load (p90.fst, p90.snd + 2) (.sl) fun s91 =>
                    .nonnil (some (b, 0)) fun p92 =>
                    .load (p92.fst, p92.snd + 2) (.sl) fun s93 =>
                    .guard (InK IntKind.i64 ((↑s93.snd.fst : Int) - x73.fst)) <|
                    .guard (((0 : Int) ≤ (↑s93.snd.fst : Int) - x73.fst) ∧ (((↑s93.snd.fst : Int) - x73.fst : Int) ≤ (↑s91.snd.snd : Int))) <|
                    .nonnil (some (b, 0)) fun p94 =>
                    .store (p94.fst, p94.snd + 2) (.sl (slBase s91.fst s91.snd.snd 0 2) (((↑s93.snd.fst : Int) - x73.fst).toNat - 0) (s91.snd.snd - 0)) <|
                    .bind (some 9) (.loop [.c (.int .i64)] [.c (.int .i64 (0))] fun y95 =>
                        .ite (decide (y95.fst < (↑(z.stk b).length : Int)))
                        (.nonnil ((some ps)) fun p96 =>
                          .guard (((0 : Int) ≤ y95.fst) ∧ ((y95.fst : Int) < (↑(z.stk b).length : Int))) <|
                          .load (p96.fst, p96.snd + mulN (Int.toNat y95.fst) 2) (.ptr) fun q97 =>
                          .nonnil (q97) fun p98 =>
                          .load (p98.fst, p98.snd + 1) (.int .i64) fun i99 =>
                          .guard (InK IntKind.i64 (i99 - x73.fst)) <|
                          .nonnil (q97) fun p100 =>
                          .store (p100.fst, p100.snd + 1) (.int .i64 (i99 - x73.fst)) <|
                          .guard (InK IntKind.i64 (y95.fst + 1)) <|
                          .done .normal [.c (.int .i64 (y95.fst + 1))])
                        (.done (.exit 9) [])) [] fun x101 =>
                    .load (a0.fst, a0.snd + 3) (.int .i64) fun i102 =>
                    .guard (InK IntKind.i64 (i102 - x73.fst)) <|
                    .store (a0.fst, a0.snd + 3) (.int .i64 (i102 - x73.fst)) <|
                    .ite (x73.snd.fst == 0)
                    (.done .ret [])
                    (.bind none (.ite (x73.snd.fst == 1)
                        (.guard (InK IntKind.i64 ((i : Int) + 1)) <|
                          .done .normal [.c (.int .i64 ((i : Int) + 1))])
                        (.done .normal [.c (.int .i64 ((i : Int)))])) [.c (.int .i64)] fun x103 =>
                      .done .normal [.c (.int .i64 (x103.fst))]))
                  (.done .normal [.c (.int .i64 ((i : Int)))])) Q h := by
  obtain ⟨lu, le, fn, nn⟩ := lv
  have h1 := hl.one
  have hbig := hl.big
  have hrl := hl.rnd
  have hxl : xs.length ≤ 2 * dg + 1 := lu.val
  have htop := lu.top
  have hal : ∀ ys : List KV, (z.all (r := 0) ys).length = z.lf.length + (ys.length + z.rg.length) := fun ys => z.all_len (r := 0) ys
  rw [hal] at htop
  have hall := hal xs
  have hsl := z.len b
  have htk : ∀ D : List KV, (xs.take i ++ D).take i = xs.take i := fun D => List.take_left' (by simp; omega)
  have hdk : ∀ D : List KV, (xs.take i ++ D).drop i = D := fun D => List.drop_left' (by simp; omega)
  by_cases hbk : i + dg + 1 < xs.length
  case neg => exact w_false (decide_eq_false (by omega)) (hnx _ xs acc i ⟨lu, le, fn, nn⟩ hc S)
  refine w_true (decide_eq_true (by omega)) ?_
  refine w_mid' (some 5) (fun (x : SV [.c (.int .i64), .c (.int .i64)]) h' => ∃ (j : Nat) (act : Int) (acc' : List KV), x = ((j : Int), act, ()) ∧ i + j + dg ≤ xs.length ∧
      ((act = 2 ∧ Lv o go FF b0 dg rnd lim z b (xs.take i ++ xs.drop (i + j)) i acc') ∨ (act = 1 ∧ Lv o go FF b0 dg rnd lim z b (xs.take i ++ xs.drop (i + j)) (i + 1) acc') ∨ (act = 0 ∧ FF = (acc', z.all (r := 0) (xs.take i ++ xs.drop (i + j))))) ∧
      St h0 G0 [K acc', Ow a0 (mapC ls iso ctr (some (b0, 0)) (z.all (r := 0) xs).length dg (2 * dg + 1) false false) 0, Ow (n0, 0) (L.cells pv) 0, HtC (some nh), Ow ps (LFr.flat (z.stk b)) ((cs - (z.stk b).length) * LFr.sz), ZsC iso z xs.length, ZrC iso z b, Ow (b, 0) (nodeC iso xs.length (some p, xs.length, c) none) 0, Ow p (L.flat xs) ((c - xs.length) * L.sz)] h') ?_ ?_
  · refine w_lp (fun r y h' => ∃ (j : Nat) (a : Int) (acc' : List KV), y = ((j : Int), a, ()) ∧ i + j + dg + r = xs.length ∧ (j = 0 ∨ a = 2) ∧ Fn go (z.lf ++ xs.take i) (xs.drop (i + j) ++ z.rg) acc' = FF ∧ acc'.length + ((xs.length - (i + j)) + z.rg.length) ≤ lim ∧
      St h0 G0 [K acc', Ow a0 (mapC ls iso ctr (some (b0, 0)) (z.all (r := 0) xs).length dg (2 * dg + 1) false false) 0, Ow (n0, 0) (L.cells pv) 0, HtC (some nh), Ow ps (LFr.flat (z.stk b)) ((cs - (z.stk b).length) * LFr.sz), ZsC iso z xs.length, ZrC iso z b, Ow (b, 0) (nodeC iso xs.length (some p, xs.length, c) none) 0, Ow p (L.flat xs) ((c - xs.length) * L.sz)] h') (xs.length - (i + dg)) rfl ⟨0, 0, acc, rfl, by omega, .inl rfl, by simpa using fn, by simpa using nn, S⟩ ?_
    clear S
    rintro r _ _ ⟨j, a, acc', rfl, hj, hja, hfn, hnn, S⟩
    by_cases hr : r = 0
    · obtain ⟨hlen', lu'⟩ := lu.cut hl (show i + j ≤ xs.length by omega) (by omega)
      refine w_false (decide_eq_false (by (first | omega | ((try dsimp only [Sh.T, Sh1.T]); omega)))) (ln_e (md_e rfl ⟨j, a, acc', rfl, by omega, .inl ⟨hja.resolve_left (by omega), lu', by omega, by rw [htk, hdk]; exact hfn, by omega⟩, S⟩))
    · have hlt : i + j < xs.length := by omega
      have hx := List.getElem?_eq_getElem hlt
      have e : ((i : Int) + (j : Int)).toNat = i + j := by omega
      refine w_true (decide_eq_true (by (first | omega | ((try dsimp only [Sh.T, Sh1.T]); omega)))) ?_
      refine w_nonnil (ld_sls S rfl (w_guard (inK64 (by (first | omega | ((try dsimp only [Sh.T, Sh1.T]); omega))) (by (first | omega | ((try dsimp only [Sh.T, Sh1.T]); omega)))) (w_nonnil (w_guard ⟨by (first | omega | ((try dsimp only [Sh.T, Sh1.T]); omega)), by (first | omega | ((try dsimp only [Sh.T, Sh1.T]); omega))⟩ ?_))))
      dsimp only
      rw [e]
      refine ld_it S hx ?_
      refine st_cba S hcb xs[i + j] (by omega) rfl fun _ S => ?_
      have hdr : xs.drop (i + j) = xs[i + j] :: xs.drop (i + j + 1) := List.drop_eq_getElem_cons hlt
      rw [hdr, List.cons_append] at hfn
      by_cases h2 : go acc' xs[i + j] = 2
      · rw [das_del h2] at hfn
        refine w_false (by show (go acc' xs[i + j] != 2) = false; simp [h2]) (w_guard (inK64 (by (first | omega | ((try dsimp only [Sh.T, Sh1.T]); omega))) (by (first | omega | ((try dsimp only [Sh.T, Sh1.T]); omega)))) (ln_n rfl (r - 1) ⟨j + 1, _, _, rfl, by omega, .inr h2, hfn, by simp; omega, S⟩ (by omega)))
      · obtain ⟨hlen', lu'⟩ := lu.cut hl (show i + j ≤ xs.length by omega) (by omega)
        refine w_true (by show (go acc' xs[i + j] != 2) = true; simp [h2]) (ln_e (md_e rfl ⟨j, _, _, rfl, by omega, ?_, S⟩))
        rcases hcb.1 acc' xs[i + j] with h | h | h
        · refine .inr (.inr ⟨h, ?_⟩)
          rw [das_stop h2 (by omega)] at hfn
          rw [← hfn]
          show (_, _) = (_, z.lf ++ ((xs.take i ++ xs.drop (i + j)) ++ z.rg))
          rw [hdr]; simp only [List.append_assoc, List.cons_append]
        · rw [das_keep h] at hfn
          refine .inr (.inl ⟨h, lu', by omega, ?_, by simp; omega⟩)
          have e1 : (xs.take i ++ xs.drop (i + j)).take (i + 1) = xs.take i ++ [xs[i + j]] := by
            rw [hdr, show xs.take i ++ xs[i + j] :: xs.drop (i + j + 1) = (xs.take i ++ [xs[i + j]]) ++ xs.drop (i + j + 1) by simp]
            exact List.take_left' (by simp; omega)
          have e2 : (xs.take i ++ xs.drop (i + j)).drop (i + 1) = xs.drop (i + j + 1) := by
            rw [hdr, show xs.take i ++ xs[i + j] :: xs.drop (i + j + 1) = (xs.take i ++ [xs[i + j]]) ++ xs.drop (i + j + 1) by simp]
            exact List.drop_left' (by simp; omega)
          rw [e1, e2, ← List.append_assoc]
          exact hfn
        · exact absurd h h2
  clear S
  rintro _ _ ⟨j, act, acc', rfl, hj, hcase, S⟩
  obtain ⟨hlen', lu'⟩ := lu.cut hl (show i + j ≤ xs.length by omega) (by omega)
  have e : ((i : Int) + (j : Int)).toNat = i + j := by omega
  refine w_nonnil (ld_sls S rfl (w_guard ⟨by (first | omega | ((try dsimp only [Sh.T, Sh1.T]); omega)), by (first | omega | ((try dsimp only [Sh.T, Sh1.T]); omega))⟩ (w_nonnil (ld_sls S rfl (w_guard (inK64 (by (first | omega | ((try dsimp only [Sh.T, Sh1.T]); omega))) (by (first | omega | ((try dsimp only [Sh.T, Sh1.T]); omega)))) (w_guard ⟨by (first | omega | ((try dsimp only [Sh.T, Sh1.T]); omega)), by (first | omega | ((try dsimp only [Sh.T, Sh1.T]); omega))⟩ ?_))))))
  dsimp only
  rw [e]
  simp only [Int.toNat_natCast]
  refine st_copyB (L := L) (ys := xs) (n := xs.length) (c := c) (a := i) (b := i + j) S rfl rfl (by omega) (by omega) hc fun _ S => ?_
  obtain ⟨ws, hws⟩ : ∃ ws, ws = (xs.take i ++ ((xs.drop (i + j)).take (xs.length - (i + j)) ++ xs.drop (i + (xs.length - (i + j))))) := ⟨_, rfl⟩
  rw [← hws] at S
  have hwl : ws.length = xs.length := by rw [hws]; exact cp_len rfl (by omega) (by omega)
  have hwt : ws.take (xs.length - j) = xs.take i ++ xs.drop (i + j) := by
    rw [hws, ← List.append_assoc, List.take_of_length_le (l := xs.drop (i + j)) (by simp), List.take_left' (by simp; omega)]
  clear hws
  refine w_nonnil (ld_sls S rfl (w_guard (inK64 (by (first | omega | ((try dsimp only [Sh.T, Sh1.T]); omega))) (by (first | omega | ((try dsimp only [Sh.T, Sh1.T]); omega)))) ?_))
  refine w_mid' (some 7) (fun (_ : SV []) h' => ∃ zs : List KV, zs.length = xs.length ∧ zs.take (xs.length - j) = xs.take i ++ xs.drop (i + j) ∧
      St h0 G0 [K acc', Ow a0 (mapC ls iso ctr (some (b0, 0)) (z.all (r := 0) xs).length dg (2 * dg + 1) false false) 0, Ow (n0, 0) (L.cells pv) 0, HtC (some nh), Ow ps (LFr.flat (z.stk b)) ((cs - (z.stk b).length) * LFr.sz), ZsC iso z xs.length, ZrC iso z b, Ow (b, 0) (nodeC iso xs.length (some p, xs.length, c) none) 0, Ow p (L.flat zs) ((c - xs.length) * L.sz)] h') ?_ ?_
  · refine w_lp (fun r y h' => ∃ (k : Nat) (zs : List KV), y = ((k : Int), ()) ∧ k + r = xs.length ∧ xs.length - j ≤ k ∧ zs.length = xs.length ∧ zs.take (xs.length - j) = xs.take i ++ xs.drop (i + j) ∧
      St h0 G0 [K acc', Ow a0 (mapC ls iso ctr (some (b0, 0)) (z.all (r := 0) xs).length dg (2 * dg + 1) false false) 0, Ow (n0, 0) (L.cells pv) 0, HtC (some nh), Ow ps (LFr.flat (z.stk b)) ((cs - (z.stk b).length) * LFr.sz), ZsC iso z xs.length, ZrC iso z b, Ow (b, 0) (nodeC iso xs.length (some p, xs.length, c) none) 0, Ow p (L.flat zs) ((c - xs.length) * L.sz)] h') j rfl
      ⟨xs.length - j, ws, Prod.ext (by show (xs.length : Int) - (j : Int) = ((xs.length - j : Nat) : Int); omega) rfl, by omega, Nat.le_refl _, hwl, hwt, S⟩ ?_
    clear S
    rintro r _ _ ⟨k, zs, rfl, hk, hkj, hzl, hzt, S⟩
    refine w_nonnil (ld_sls S rfl ?_)
    by_cases hkl : k < xs.length
    · refine w_true (lt_t (by (first | omega | ((try dsimp only [Sh.T, Sh1.T]); omega)))) (w_nonnil (ld_sls S rfl (ld_int S rfl (ld_int S rfl (w_nonnil (w_guard ⟨by (first | omega | ((try dsimp only [Sh.T, Sh1.T]); omega)), by (first | omega | ((try dsimp only [Sh.T, Sh1.T]); omega))⟩ ?_))))))
      dsimp only
      rw [Int.toNat_natCast]
      refine st_it S (by omega) fun _ S => ?_
      refine w_guard (inK64 (by (first | omega | ((try dsimp only [Sh.T, Sh1.T]); omega))) (by (first | omega | ((try dsimp only [Sh.T, Sh1.T]); omega)))) (ln_n rfl (r - 1) ⟨k + 1, _, rfl, by omega, by omega, by rw [List.length_set]; exact hzl, by rw [List.take_set_of_le (by omega)]; exact hzt, S⟩ (by omega))
    · exact w_false (lt_f (by (first | omega | ((try dsimp only [Sh.T, Sh1.T]); omega)))) (ln_e (md_e rfl ⟨zs, hzl, hzt, S⟩))
  clear S
  rintro _ _ ⟨zs, hzl, hzt, S⟩
  refine w_nonnil (ld_sls S rfl (w_nonnil (ld_sls S rfl (w_guard (inK64 (by (first | omega | ((try dsimp only [Sh.T, Sh1.T]); omega))) (by (first | omega | ((try dsimp only [Sh.T, Sh1.T]); omega)))) (w_guard ⟨by (first | omega | ((try dsimp only [Sh.T, Sh1.T]); omega)), by (first | omega | ((try dsimp only [Sh.T, Sh1.T]); omega))⟩ (w_nonnil ?_))))))
  refine st_store S (lt_ble rfl) fun _ S => ?_
  have S := (S.at (.ow (b, 0))).re (b, 0) (nodeC iso xs.length (some p, xs.length - j, c) none) 0 rfl (by simp [nodeC, Cell.val, slBase_zero]) rfl
  have S := (S.at (.ow p)).re p (L.flat (xs.take i ++ xs.drop (i + j)) ++ L.flat (zs.drop (xs.length - j))) _ rfl (by rw [← L.flat_append, ← hzt, List.take_append_drop]) rfl
  have S := S.shrink
  have S := S.re p (L.flat (xs.take i ++ xs.drop (i + j))) ((c - (xs.length - j)) * L.sz) rfl rfl (by rw [L.flat_length, List.length_drop, hzl, ← Nat.add_mul]; congr 1; omega)
  have S := zp_in (S.ats [.ow (b, 0), .kd none])
  have S := (S.at (.ow ps)).pull1
  refine w_mid' (some 9) (fun (_ : SV []) h' => St h0 G0 [K acc', Ow a0 (mapC ls iso ctr (some (b0, 0)) (z.all (r := 0) xs).length dg (2 * dg + 1) false false) 0, Ow (n0, 0) (L.cells pv) 0, HtC (some nh), Ow ps (LFr.flat (z.stk b)) ((cs - (z.stk b).length) * LFr.sz), ZsC iso z (xs.length - j), ZrC iso z b, Ow (b, 0) (nodeC iso (xs.length - j) (some p, xs.length - j, c) none) 0, Ow p (L.flat (xs.take i ++ xs.drop (i + j))) ((c - (xs.length - j)) * L.sz)] h') ?_ ?_
  · refine w_dec (k := j) (gs := z.stk b) (fs := z.sp xs.length ++ [(b, xs.length, (some p, xs.length - j, c), none)]) rfl rfl (by rw [List.map_append]; exact z.ids b xs.length) (fun e he => ?_) (by omega) S fun _ S => md_e rfl ?_
    · rcases List.mem_append.1 he with he | he
      · have := z.cnts _ e he
        omega
      · simp only [List.mem_cons, List.not_mem_nil, or_false] at he
        subst he
        dsimp only
        omega
    · rw [List.map_append, z.spd j xs.length (by omega)] at S
      have S := zp_ou (m := xs.length - j) (b := b) (cnt := xs.length - j) (s := (some p, xs.length - j, c)) (kp := none) S
      exact S.ats [.ck (K acc'), .ow a0, .ow (n0, 0), .ck (HtC (some nh)), .ow ps, .kd none, .fo [], .ow (b, 0), .ow p]
  clear S
  rintro _ _ S
  refine ld_int S rfl (w_guard (inK64 (by (first | omega | ((try dsimp only [Sh.T, Sh1.T]); omega))) (by (first | omega | ((try dsimp only [Sh.T, Sh1.T]); omega)))) (st_store S (lt_ble rfl) fun _ S => ?_))
  have S := (S.at (.ow a0)).re a0 (mapC ls iso ctr (some (b0, 0)) (z.all (r := 0) (xs.take i ++ xs.drop (i + j))).length dg (2 * dg + 1) false false) 0 rfl (by rw [hal, hal, hlen']; simp [mapC, Cell.val]; omega) rfl
  have S := S.ats [.ck (K acc'), .ow a0, .ow (n0, 0), .ck (HtC (some nh)), .ow ps, .kd none, .fo [], .ow (b, 0), .ow p]
  rw [← hlen'] at S
  rcases hcase with ⟨rfl, lv'⟩ | ⟨rfl, lv'⟩ | ⟨rfl, hFF⟩
  · exact w_false rfl (w_bnd (w_false rfl (bd_n rfl (hnx _ _ _ i lv' (by omega) S))))
  · refine w_false rfl (w_bnd (w_true rfl (w_guard (inK64 (by (first | omega | ((try dsimp only [Sh.T, Sh1.T]); omega))) (by (first | omega | ((try dsimp only [Sh.T, Sh1.T]); omega)))) (bd_n rfl (hnx _ _ _ (i + 1) lv' (by omega) S)))))
  · exact w_true rfl (hret _ _ _ lu' hFF (by omega) S)
end
end Go.Proofs.Ytegnpimlfphncaa.TG
