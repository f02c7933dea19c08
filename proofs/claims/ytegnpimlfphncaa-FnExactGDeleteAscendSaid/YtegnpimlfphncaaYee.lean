/-
  The tree of items: up and down along a stack of frames. Conditions: none.
-/
import Derived.Test.YtegnpimlfphncaaYed
set_option linter.unusedVariables false
set_option linter.unusedSimpArgs false
set_option linter.unusedSectionVars false
set_option maxRecDepth 100000
namespace Go.Proofs.Ytegnpimlfphncaa.TG
open Go Go.Proofs.Ytegnpimlfphncaa
structure Bv (o : List Int) (go : List KV → KV → Int) (FF : List KV × List KV) (b0 dg rnd lim R : Nat) {n r : Nat} (z : Zp n (r + 1)) (b : Nat) (u : BT KV (r + 1)) (i : Nat) (acc : List KV) : Prop where
  lu : Lu o b0 dg rnd z b u
  lt : i < u.1.length
  fn : ∃ A, flatB (r + 1) u = A ++ post (u.1.drop i) ((u.2.map (flatB r)).drop (i + 1)) ∧ Fn go (z.lf ++ A) (post (u.1.drop i) ((u.2.map (flatB r)).drop (i + 1)) ++ z.rg) acc = FF
  nn : acc.length + ((post (u.1.drop i) ((u.2.map (flatB r)).drop (i + 1))).length + z.rg.length) ≤ lim
  rm : (post (u.1.drop i) ((u.2.map (flatB r)).drop (i + 1))).length + z.rg.length ≤ R
theorem Zp.all_put {n r mn mx : Nat} {z : Zp n (r + 1)} {x : Fm r} (o : x.Ok mn mx) (u : BT KV r) : z.all (x.put u) = (Zp.dn z x).all u := by
  show z.lf ++ (flatB (r + 1) (x.put u) ++ z.rg) = (z.lf ++ x.lf) ++ (flatB r u ++ (x.rg ++ z.rg))
  rw [o.flat]; simp
theorem Lu.up {o : List Int} {b0 dg rnd n r b : Nat} {z : Zp n (r + 1)} {x : Fm r} {u : BT KV r} (lu : Lu o b0 dg rnd (.dn z x) b u) : Lu o b0 dg rnd z x.b (x.put u) := by
  obtain ⟨h1, h2, h3⟩ := lu.ok
  exact ⟨h1, h2.val lu.val (lu.mn rfl), h3, h2.one, by rw [Zp.all_put h2]; exact lu.srt, by rw [Zp.all_put h2]; exact lu.top⟩
section
variable {h h0 : H} {G0 : PA → Prop} {Q : Ex → List AV → H → Prop} {ls : Value} {oc : Ck} {o : List Int} {K : List KV → Ck} {go : List KV → KV → Int} {f : Value} {FF : List KV × List KV} {b0 dg rnd lim n n0 : Nat} {iso : Int} {ctr : Option PA} {a0 nh ps : PA} {pv : KV} {cs : Nat} {l : List Ck}
set_option maxHeartbeats 4000000 in
theorem w_upw {r R : Nat} {z : Zp n r} {b : Nat} {u : BT KV r} {acc : List KV} (hl : Lim b0 dg rnd) (lu : Lu o b0 dg rnd z b u) (fn : Fn go (z.lf ++ flatB r u) z.rg acc = FF) (nn : acc.length + z.rg.length ≤ lim) (hR : z.rg.length ≤ R) (hcs : (z.stk b).length ≤ cs) (hn : n ≤ 4294967294)
    (S : St h0 G0 [K acc, Ow a0 (mapC ls iso ctr (some (b0, 0)) (z.all u).length dg (2 * dg + 1) false false) 0, Ow (n0, 0) (L.cells pv) 0, HtC (some nh), Ow ps (LFr.flat (z.stk b)) ((cs - (z.stk b).length) * LFr.sz), ZsC iso z (flatB r u).length, ZrC iso z b, TrC L iso r b u] h)
    (hret : ∀ h' (r : Nat) (z : Zp n r) (b : Nat) (u : BT KV r), Lu o b0 dg rnd z b u → FF = (acc, z.all u) → St h0 G0 [K acc, Ow a0 (mapC ls iso ctr (some (b0, 0)) (z.all u).length dg (2 * dg + 1) false false) 0, Ow (n0, 0) (L.cells pv) 0, HtC (some nh), Ow ps (LFr.flat (z.stk b)) ((cs - (z.stk b).length) * LFr.sz), ZsC iso z (flatB r u).length, ZrC iso z b, TrC L iso r b u] h' → wp Try.prog (.done .ret []) Q h')
    (hnx : ∀ h' (r : Nat) (z : Zp n (r + 1)) (b : Nat) (u : BT KV (r + 1)) (i : Nat), Bv o go FF b0 dg rnd lim R z b u i acc → (z.stk b).length ≤ cs → St h0 G0 [K acc, Ow a0 (mapC ls iso ctr (some (b0, 0)) (z.all u).length dg (2 * dg + 1) false false) 0, Ow (n0, 0) (L.cells pv) 0, HtC (some nh), Ow ps (LFr.flat (z.stk b)) ((cs - (z.stk b).length) * LFr.sz), ZsC iso z (flatB (r + 1) u).length, ZrC iso z b, TrC L iso (r + 1) b u] h' →
      wp Try.prog (.done (.exit 1001) [.c (.ptr (some (b, 0))), .c (.sl (some ps) (z.stk b).length cs), .c (.tt), .c (.int .i64 (i : Int))]) Q h') :
    wp Try.prog (.loop [.c (.sl)] [.c (.sl ((some ps)) ((z.stk b).length) (cs))] fun y155 =>
                  .guard (InK IntKind.i64 ((↑y155.fst.snd.fst : Int) - 1)) <|
                  .nonnil (y155.fst.fst) fun p156 =>
                  .guard (((0 : Int) ≤ (↑y155.fst.snd.fst : Int) - 1) ∧ (((↑y155.fst.snd.fst : Int) - 1 : Int) < (↑y155.fst.snd.fst : Int))) <|
                  .load (p156.fst, p156.snd + mulN ((↑y155.fst.snd.fst : Int) - 1).toNat 2 + 1) (.int .i64) fun i157 =>
                  .guard (InK IntKind.i64 ((↑y155.fst.snd.fst : Int) - 1)) <|
                  .guard (((0 : Int) ≤ (↑y155.fst.snd.fst : Int) - 1) ∧ (((↑y155.fst.snd.fst : Int) - 1 : Int) ≤ (↑y155.fst.snd.snd : Int))) <|
                  .ite ((↑(((↑y155.fst.snd.fst : Int) - 1).toNat - 0) : Int) == 0)
                  (.done .ret [])
                  (.guard (InK IntKind.i64 ((↑(((↑y155.fst.snd.fst : Int) - 1).toNat - 0) : Int) - 1)) <|
                    .nonnil (slBase y155.fst.fst y155.fst.snd.snd 0 2) fun p158 =>
                    .guard (((0 : Int) ≤ (↑(((↑y155.fst.snd.fst : Int) - 1).toNat - 0) : Int) - 1) ∧ (((↑(((↑y155.fst.snd.fst : Int) - 1).toNat - 0) : Int) - 1 : Int) < (↑(((↑y155.fst.snd.fst : Int) - 1).toNat - 0) : Int))) <|
                    .load (p158.fst, p158.snd + mulN ((↑(((↑y155.fst.snd.fst : Int) - 1).toNat - 0) : Int) - 1).toNat 2) (.ptr) fun q159 =>
                    .nonnil (q159) fun p160 =>
                    .load (p160.fst, p160.snd + 2) (.sl) fun s161 =>
                    .ite (decide (i157 < (↑s161.snd.fst : Int)))
                    (.done (.exit 1001) [.c (.ptr (q159)), .c (.sl (slBase y155.fst.fst y155.fst.snd.snd 0 2) (((↑y155.fst.snd.fst : Int) - 1).toNat - 0) (y155.fst.snd.snd - 0)), .c (.tt), .c (.int .i64 (i157))])
                    (.done .normal [.c (.sl (slBase y155.fst.fst y155.fst.snd.snd 0 2) (((↑y155.fst.snd.fst : Int) - 1).toNat - 0) (y155.fst.snd.snd - 0))]))) Q h := by
  refine w_lp (fun k y h' => ∃ (r : Nat) (z : Zp n r) (b : Nat) (u : BT KV r), y = ((some ps, (z.stk b).length, cs), ()) ∧ Lu o b0 dg rnd z b u ∧ Fn go (z.lf ++ flatB r u) z.rg acc = FF ∧ acc.length + z.rg.length ≤ lim ∧ z.rg.length ≤ R ∧ (z.stk b).length ≤ cs ∧ (z.stk b).length = k ∧
      St h0 G0 [K acc, Ow a0 (mapC ls iso ctr (some (b0, 0)) (z.all u).length dg (2 * dg + 1) false false) 0, Ow (n0, 0) (L.cells pv) 0, HtC (some nh), Ow ps (LFr.flat (z.stk b)) ((cs - (z.stk b).length) * LFr.sz), ZsC iso z (flatB r u).length, ZrC iso z b, TrC L iso r b u] h') (z.stk b).length rfl ⟨r, z, b, u, rfl, lu, fn, nn, hR, hcs, rfl, S⟩ ?_
  clear S lu fn hcs hR nn
  rintro k _ _ ⟨r, z, b, u, rfl, lu, fn, nn, hR, hcs, rfl, S⟩
  have hsl := z.len b
  cases z with
  | top =>
    have hf : (Zp.stk (n := n) .top b)[(Zp.stk (n := n) .top b).length - 1]? = some (b, 0) := rfl
    refine w_guard (inK64 (by (first | omega | ((try dsimp only [Sh.T, Sh1.T]); omega))) (by (first | omega | ((try dsimp only [Sh.T, Sh1.T]); omega)))) (w_nonnil (w_guard ⟨by (first | omega | ((try dsimp only [Sh.T, Sh1.T]); omega)), by (first | omega | ((try dsimp only [Sh.T, Sh1.T]); omega))⟩ ?_))
    dsimp only
    rw [toNat_pred]
    refine w_fi (frs S) hf (w_guard (inK64 (by (first | omega | ((try dsimp only [Sh.T, Sh1.T]); omega))) (by (first | omega | ((try dsimp only [Sh.T, Sh1.T]); omega)))) (w_guard ⟨by (first | omega | ((try dsimp only [Sh.T, Sh1.T]); omega)), by (first | omega | ((try dsimp only [Sh.T, Sh1.T]); omega))⟩ (w_true rfl (ln_r (hret _ _ _ _ u lu ?_ S)))))
    rw [← fn]
    have e : (Zp.rg (n := n) .top) = [] := rfl
    have e2 : (Zp.lf (n := n) .top) = [] := rfl
    rw [e, das_nil]
    show _ = (acc, [] ++ (flatB n u ++ []))
    rw [e2]; simp
  | dn z x =>
    obtain ⟨h1, h2, h3⟩ := lu.ok
    have hgs : Zp.stk (.dn z x) b = z.stk x.b ++ [(b, (x.A.length : Int))] := rfl
    have hsl2 := z.len x.b
    obtain ⟨M, hM⟩ : ∃ M, M = (z.stk x.b).length := ⟨_, rfl⟩
    have hN : (Zp.stk (.dn z x) b).length = M + 1 := by rw [hgs, hM]; simp
    have hM1 : 1 ≤ M := by
      obtain ⟨c, gs, hc⟩ := z.last x.b
      rw [hM, hc]; simp
    rw [hN] at hcs hsl S ⊢
    have e1 : (((M + 1 : Nat) : Int) - 1).toNat = M := by omega
    have hf : (Zp.stk (.dn z x) b)[M]? = some (b, (x.A.length : Int)) := by rw [hgs]; exact get_mid hM.symm
    have hf2 : ∃ c, (Zp.stk (.dn z x) b)[M - 1]? = some (x.b, c) := by
      obtain ⟨c, gs, hc⟩ := z.last x.b
      refine ⟨c, ?_⟩
      have : gs.length = M - 1 := by rw [hM, hc]; simp
      rw [hgs, hc, List.append_assoc]
      exact get_mid this
    obtain ⟨c2, hf2⟩ := hf2
    refine w_guard (inK64 (by (first | omega | ((try dsimp only [Sh.T, Sh1.T]); omega))) (by (first | omega | ((try dsimp only [Sh.T, Sh1.T]); omega)))) (w_nonnil (w_guard ⟨by (first | omega | ((try dsimp only [Sh.T, Sh1.T]); omega)), by (first | omega | ((try dsimp only [Sh.T, Sh1.T]); omega))⟩ ?_))
    dsimp only
    rw [e1]
    refine w_fi (frs S) hf (w_guard (inK64 (by (first | omega | ((try dsimp only [Sh.T, Sh1.T]); omega))) (by (first | omega | ((try dsimp only [Sh.T, Sh1.T]); omega)))) (w_guard ⟨by (first | omega | ((try dsimp only [Sh.T, Sh1.T]); omega)), by (first | omega | ((try dsimp only [Sh.T, Sh1.T]); omega))⟩ ?_))
    refine w_false (beq_f (by (first | omega | ((try dsimp only [Sh.T, Sh1.T]); omega)))) (w_guard (inK64 (by (first | omega | ((try dsimp only [Sh.T, Sh1.T]); omega))) (by (first | omega | ((try dsimp only [Sh.T, Sh1.T]); omega)))) ?_)
    rw [slBase_zero]
    refine w_nonnil (w_guard ⟨by (first | omega | ((try dsimp only [Sh.T, Sh1.T]); omega)), by (first | omega | ((try dsimp only [Sh.T, Sh1.T]); omega))⟩ ?_)
    dsimp only
    rw [Nat.sub_zero, toNat_pred]
    refine w_fp (frs S) hf2 (w_nonnil ?_)
    have S := zp_up h2 rfl (S.ats [.tr b, .kd none, .fo []])
    obtain ⟨pi, ci, hci⟩ := S.itm x.b
    refine w_sl (some pi, (x.C ++ x.D).length, ci) hci ?_
    have S := ((S.at (.ow ps)).re ps (LFr.flat (z.stk x.b) ++ LFr.flat [(b, (x.A.length : Int))]) _ rfl (by rw [hgs, LFr.flat_append]) rfl).shrink
    have S := S.re ps (LFr.flat (z.stk x.b)) ((cs - (z.stk x.b).length) * LFr.sz) rfl rfl (by rw [LFr.flat_length, ← Nat.add_mul]; congr 1; show 1 + _ = _; omega)
    have S := S.ats [.ck (K acc), .ow a0, .ow (n0, 0), .ck (HtC (some nh)), .ow ps, .kd none, .fo [], .tr x.b]
    have hal : ((Zp.dn z x).all u).length = (z.all (x.put u)).length := by rw [Zp.all_put h2]
    rw [hal] at S
    have hrg : (Zp.rg (.dn z x)) = x.rg ++ z.rg := rfl
    have hlf : (Zp.lf (.dn z x)) = z.lf ++ x.lf := rfl
    rw [hrg] at fn nn hR
    rw [hlf] at fn
    have hac := h2.ac
    have hbd := h2.bd
    by_cases hlt : x.A.length < (x.C ++ x.D).length
    · refine w_true (lt_t (by (first | omega | ((try dsimp only [Sh.T, Sh1.T]); omega)))) (ln_e ?_)
      have e3 : (x.C ++ x.D).drop x.A.length = x.D := List.drop_left' hac.symm
      have e4 : ((x.A ++ u :: x.B).map (flatB r)).drop (x.A.length + 1) = x.B.map (flatB r) := by
        rw [List.map_append, List.map_cons, show (x.A.map (flatB r)) ++ flatB r u :: x.B.map (flatB r) = (x.A.map (flatB r) ++ [flatB r u]) ++ x.B.map (flatB r) by simp]
        exact List.drop_left' (by simp)
      have e5 : post ((x.put u).1.drop x.A.length) (((x.put u).2.map (flatB r)).drop (x.A.length + 1)) = x.rg := by
        show post ((x.C ++ x.D).drop x.A.length) (((x.A ++ u :: x.B).map (flatB r)).drop (x.A.length + 1)) = _
        rw [e3, e4]; rfl
      have bv : Bv o go FF b0 dg rnd lim R z x.b (x.put u) x.A.length acc := by
        refine ⟨lu.up, hlt, ⟨x.lf ++ flatB r u, ?_, ?_⟩, ?_, ?_⟩
        · rw [e5, h2.flat]; simp
        · rw [e5, ← List.append_assoc]; exact fn
        · rw [e5]; simp at nn; omega
        · rw [e5]; simp at hR; omega
      have := hnx _ r z x.b (x.put u) x.A.length bv (by omega) S
      rw [← hM] at this
      exact this
    · refine w_false (lt_f (by (first | omega | ((try dsimp only [Sh.T, Sh1.T]); omega)))) ?_
      have hD : x.D = [] := by
        rw [List.length_append] at hlt
        exact List.length_eq_zero_iff.1 (by omega)
      have hB : x.rg = [] := by unfold Fm.rg; rw [hD]; cases x.B.map (flatB r) <;> rfl
      rw [hB, List.nil_append] at fn nn hR
      refine ln_n rfl M ⟨r + 1, z, x.b, x.put u, by rw [hM]; rfl, lu.up, ?_, nn, hR, by omega, hM.symm, S⟩ (by omega)
      rw [h2.flat, hB, List.append_nil, ← List.append_assoc]
      exact fn
theorem Lu.dn {r b k : Nat} {z : Zp n (r + 1)} {x : Fm r} {v : BT KV r} (hl : Lim b0 dg rnd) (lu : Lu o b0 dg rnd z b (x.put v)) (hx : x.Ok dg (2 * dg + 1)) (hb : x.b = b) : Lu o b0 dg rnd (.dn z x) k v := by
  have h1 := hl.one
  have hv : Val dg (2 * dg + 1) r v ∧ dg ≤ (itemsB r v).length := lu.val.2.2 v (by show v ∈ x.A ++ v :: x.B; simp)
  exact ⟨⟨by rw [hb]; exact lu.ok, hx, lu.mn⟩, hv.1, fun _ => hv.2, by omega, by rw [← Zp.all_put hx]; exact lu.srt, by rw [← Zp.all_put hx]; exact lu.top⟩
set_option maxHeartbeats 4000000 in
theorem w_leftw {r R : Nat} {z : Zp n r} {b : Nat} {u : BT KV r} {acc : List KV} (hl : Lim b0 dg rnd) (lu : Lu o b0 dg rnd z b u) (fn : Fn go z.lf (flatB r u ++ z.rg) acc = FF) (nn : acc.length + ((flatB r u).length + z.rg.length) ≤ lim) (hR : (flatB r u).length + z.rg.length ≤ R) (hcs : (z.stk b).length ≤ cs) (hn : n ≤ 4294967294)
    (S : St h0 G0 [K acc, Ow a0 (mapC ls iso ctr (some (b0, 0)) (z.all u).length dg (2 * dg + 1) false false) 0, Ow (n0, 0) (L.cells pv) 0, HtC (some nh), Ow ps (LFr.flat (z.stk b)) ((cs - (z.stk b).length) * LFr.sz), ZsC iso z (flatB r u).length, ZrC iso z b, TrC L iso r b u] h)
    (hnx : ∀ h' (z : Zp n 0) (b cs : Nat) (ps : PA) (xs : List KV), Lu o b0 dg rnd z b (xs : BT KV 0) → Fn go z.lf (xs ++ z.rg) acc = FF → acc.length + (xs.length + z.rg.length) ≤ lim → xs.length + z.rg.length ≤ R → (z.stk b).length ≤ cs →
      St h0 G0 [K acc, Ow a0 (mapC ls iso ctr (some (b0, 0)) (z.all (r := 0) xs).length dg (2 * dg + 1) false false) 0, Ow (n0, 0) (L.cells pv) 0, HtC (some nh), Ow ps (LFr.flat (z.stk b)) ((cs - (z.stk b).length) * LFr.sz), ZsC iso z xs.length, ZrC iso z b, TrC L iso 0 b xs] h' → wp Try.prog (.done (.exit 3) [.c (.sl (some ps) (z.stk b).length cs), .c (.ptr (some (b, 0)))]) Q h') :
    wp Try.prog (.loop [.c (.sl), .c (.ptr)] [.c (.sl (some ps) (z.stk b).length cs), .c (.ptr (some (b, 0)))] fun y43 =>
                              .call fn_ng_leaf [.c (.ptr (y43.snd.fst))] false [.c (.bool)] fun r44 =>
                              .ite (!r44.fst)
                              (.nonnil (y43.snd.fst) fun p45 =>
                                .load (p45.fst, p45.snd + 3) (.ptr) fun q46 =>
                                .nonnil (q46) fun p47 =>
                                .load p47 (.sl) fun s48 =>
                                .nonnil (s48.fst) fun p49 =>
                                .guard (((0 : Int) ≤ 0) ∧ ((0 : Int) < (↑s48.snd.fst : Int))) <|
                                .call fn_tg_isoLoad [.c (.addr a0), .c (.addr (p49.fst, p49.snd)), .c (.tt)] false [.c (.ptr)] fun r50 =>
                                .alloc ty_btree_stackItem_pub_greenwood_impl_Item [.ptr (r50.fst), .int .i64 (0)] fun n51 =>
                                .append ty_btree_stackItem_pub_greenwood_impl_Item 2 16 [.ptr none, .int .i64 (0)] ((y43.fst.fst), y43.fst.snd.fst, y43.fst.snd.snd) ((some (n51, 0)), 1, 1) fun s52 =>
                                .done .normal [.c (.sl (s52.fst) (s52.snd.fst) (s52.snd.snd)), .c (.ptr (r50.fst))])
                              (.done (.exit 3) [.c (.sl (y43.fst.fst) (y43.fst.snd.fst) (y43.fst.snd.snd)), .c (.ptr (y43.snd.fst))])) Q h := by
  refine w_lp (fun k y h' => ∃ (r : Nat) (z : Zp n r) (b cs : Nat) (ps : PA) (u : BT KV r), y = ((some ps, (z.stk b).length, cs), some (b, 0), ()) ∧ r = k ∧ Lu o b0 dg rnd z b u ∧ Fn go z.lf (flatB r u ++ z.rg) acc = FF ∧ acc.length + ((flatB r u).length + z.rg.length) ≤ lim ∧ (flatB r u).length + z.rg.length ≤ R ∧ (z.stk b).length ≤ cs ∧
      St h0 G0 [K acc, Ow a0 (mapC ls iso ctr (some (b0, 0)) (z.all u).length dg (2 * dg + 1) false false) 0, Ow (n0, 0) (L.cells pv) 0, HtC (some nh), Ow ps (LFr.flat (z.stk b)) ((cs - (z.stk b).length) * LFr.sz), ZsC iso z (flatB r u).length, ZrC iso z b, TrC L iso r b u] h') r rfl ⟨r, z, b, cs, ps, u, rfl, rfl, lu, fn, nn, hR, hcs, S⟩ ?_
  clear S lu fn hcs hR nn
  rintro k _ _ ⟨r, z, b, cs, ps, u, rfl, rfl, lu, fn, nn, hR, hcs, S⟩
  have h1 := hl.one
  have hbig := hl.big
  have hsl := z.len b
  obtain ⟨p, c, kp, hc, hkp, S⟩ := open_nd L iso (S.at (.tr b))
  refine w_callT (c_leafp (kp := kp) (S.rd rfl)) ?_
  rintro _ _ ⟨rfl, rfl⟩
  cases r with
  | zero =>
    have S := shut_nd L iso (S.ats [.ow (b, 0), .ow p, .kd kp]) rfl rfl rfl rfl hc rfl
    have S := S.ats [.ck (K acc), .ow a0, .ow (n0, 0), .ck (HtC (some nh)), .ow ps, .kd none, .fo [], .tr b]
    refine w_false (by show (!kp.isNone) = false; rw [hkp]; rfl) (ln_e (hnx _ z b cs ps u lu fn nn hR hcs S))
  | succ r =>
    obtain ⟨xs, ts⟩ := u
    have hl2 : ts.length = xs.length + 1 := lu.val.2.1
    have hc : xs.length ≤ c := hc
    obtain ⟨hb, q, d, ks, rfl, hd, hkl, S⟩ := open_kids L iso (S.at (.kd kp))
    have hkl : ks.length = ts.length := hkl
    obtain ⟨v, hv⟩ : ∃ v, ts[0]? = some v := ⟨_, List.getElem?_eq_getElem (by omega)⟩
    obtain ⟨k, hk, S⟩ := fo_at L iso hkl hv (S.at (.fo ks))
    have hk0 : (LK.flat (ks.map some))[0]? = some (kptr k) := LK_get (ys := ks.map some) (y := some k) (by rw [List.getElem?_map, hk]; rfl)
    refine w_true rfl (w_nonnil (ld_some S rfl (w_nonnil (ld_sls S rfl (w_nonnil (w_guard ⟨by (first | omega | ((try dsimp only [Sh.T, Sh1.T]); omega)), by (first | omega | ((try dsimp only [Sh.T, Sh1.T]); omega))⟩ ?_))))))
    refine w_callT (c_isoLoad (b := k) (iso := iso) (S.rd hk0) (S.iso k) (S.rd rfl)) ?_
    rintro _ _ ⟨rfl, rfl⟩
    refine st_alloc S fun n51 _ S => ?_
    have hnew : RSl _ (some (n51, 0), 1, 1) LFr.sz (LFr.flat [(k, (0 : Int))]) := S.rsl (LFr.flat [(k, (0 : Int))]) 1 1 2 (fun i v h => by rw [Nat.zero_add]; exact h) rfl
    refine st_app (L := LFr) (xs := z.stk b) (ys := [(k, (0 : Int))]) S rfl rfl rfl hcs rfl rfl hnew ⟨by (first | omega | ((try dsimp only [Sh.T, Sh1.T]); omega)), by (first | omega | ((try dsimp only [Sh.T, Sh1.T]); omega))⟩ fun ps' cs' _ hcs' S => ?_
    obtain ⟨x, hx, hxb, hput, hC, hD, hA, hB, S⟩ := zp_dn (mn := dg) (mx := 2 * dg + 1) (i := 0) (xs := xs) (ts := ts) (S.ats [.ow (b, 0), .ow p, .ow (hb, 0), .ow q, .tr k, .fo (ks.drop 1), .fo (ks.take 0), .kd none, .fo []]) rfl rfl hc hd hkl hk hv rfl lu.val lu.one
    have hst : z.stk b ++ [(k, (0 : Int))] = Zp.stk (.dn z x) k := by
      show _ = z.stk x.b ++ [(k, (x.A.length : Int))]
      rw [hxb, hA]; rfl
    have hlen : (z.stk b).length + 1 = (Zp.stk (.dn z x) k).length := by rw [← hst]; simp
    rw [hst, hlen] at S
    rw [hlen] at hcs' ⊢
    rw [← hput] at lu fn nn hR S
    rw [Zp.all_put hx] at S
    have S := S.only [.ck (K acc), .ow a0, .ow (n0, 0), .ck (HtC (some nh)), .ow ps', .kd none, .fo [], .tr k]
    have hlf : x.lf = [] := by unfold Fm.lf; rw [hC, hA]; rfl
    rw [hx.flat, hlf, List.nil_append] at fn nn hR
    have e1 : Zp.lf (.dn z x) = z.lf := by show z.lf ++ x.lf = _; rw [hlf, List.append_nil]
    have e2 : Zp.rg (.dn z x) = x.rg ++ z.rg := rfl
    refine ln_n rfl r ⟨r, .dn z x, k, cs', ps', v, rfl, rfl, lu.dn hl hx hxb, ?_, ?_, ?_, hcs', S⟩ (by omega)
    · rw [e1, e2, ← List.append_assoc]; exact fn
    · rw [e2]; simp at nn ⊢; omega
    · rw [e2]; simp at hR ⊢; omega
end
end Go.Proofs.Ytegnpimlfphncaa.TG
