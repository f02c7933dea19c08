/-
  The tree of items: an item of a node and all right of it deleted at once, as DeleteRange does. Conditions: none.
-/
import Derived.Test.YtegnpimlfphncaaYkc
set_option linter.unusedVariables false
set_option linter.unusedSimpArgs false
set_option linter.unusedSectionVars false
set_option maxRecDepth 100000
namespace Go.Proofs.Ytegnpimlfphncaa.TG
open Go Go.Proofs.Ytegnpimlfphncaa
section
variable {h h0 : H} {G0 : PA → Prop} {Q : Ex → List AV → H → Prop} {ls : Value} {oc : Ck} {o : List Int} {K : List KV → Ck} {Rf : List KV → AV → List Ck → Prop} {st : KV → Bool} {f : Value} {FL l : List KV} {Cp : List KV → Prop} {b0 dg rnd n n0 n2 n3 nv : Nat} {iso : Int} {ctr : Option PA} {a0 nh ps la : PA} {pv mk : KV} {cs : Nat} {ext : Bool}
set_option maxHeartbeats 4000000 in
theorem w_upr {r R : Nat} {z : Zp n r} {b : Nat} {u : BT KV r} (hrt : Rtn K Rf la n3) (hl : Lim b0 dg rnd) (lu : Lu o b0 dg rnd z b u) (fn : FL = (z.lf ++ flatB r u) ++ z.rg.filter st) (gr : z.Gr Cp) (hsb : ∀ a ∈ z.all u, a ∈ l) (hR : z.rg.length ≤ R) (hcs : (z.stk b).length ≤ cs) (hn : n ≤ 4294967294)
    (S : St h0 G0 [K (z.all u), Ow a0 (mapC ls iso ctr (some (b0, 0)) (z.all u).length dg (2 * dg + 1) false false) 0, Ow (nv, 0) (L.cells pv) 0, HtC (some nh), Ow ps (LFr.flat (z.stk b)) ((cs - (z.stk b).length) * LFr.sz), ZsC iso z (flatB r u).length, ZrC iso z b, TrC L iso r b u] h)
    (hret : ∀ h' (r : Nat) (z : Zp n r) (b : Nat) (u : BT KV r) (v : AV) (post : List Ck), Lu o b0 dg rnd z b u → FL = z.all u → Rf FL v post → St h0 G0 [StC post, Ow a0 (mapC ls iso ctr (some (b0, 0)) (z.all u).length dg (2 * dg + 1) false false) 0, Ow (nv, 0) (L.cells pv) 0, HtC (some nh), Ow ps (LFr.flat (z.stk b)) ((cs - (z.stk b).length) * LFr.sz), ZsC iso z (flatB r u).length, ZrC iso z b, TrC L iso r b u] h' → wp Try.prog (.done .ret [v]) Q h')
    (hnx : ∀ h' (r : Nat) (z : Zp n (r + 1)) (b : Nat) (u : BT KV (r + 1)) (i : Nat), Bw o st FL Cp b0 dg rnd R z b u i → (∀ a ∈ z.all u, a ∈ l) → (z.stk b).length ≤ cs → St h0 G0 [K (z.all u), Ow a0 (mapC ls iso ctr (some (b0, 0)) (z.all u).length dg (2 * dg + 1) false false) 0, Ow (nv, 0) (L.cells pv) 0, HtC (some nh), Ow ps (LFr.flat (z.stk b)) ((cs - (z.stk b).length) * LFr.sz), ZsC iso z (flatB (r + 1) u).length, ZrC iso z b, TrC L iso (r + 1) b u] h' →
      wp Try.prog (.done (.exit 1001) [.c (.ptr (some (b, 0))), .c (.sl (some ps) (z.stk b).length cs), .c (.tt), .c (.int .i64 (i : Int))]) Q h') :
    wp Try.prog (.loop [.c (.sl)] [.c (.sl ((some ps)) ((z.stk b).length) (cs))] fun y355 => .guard (InK IntKind.i64 ((↑y355.fst.snd.fst : Int) - 1)) <| .nonnil (y355.fst.fst) fun p356 => .guard (((0 : Int) ≤ (↑y355.fst.snd.fst : Int) - 1) ∧ (((↑y355.fst.snd.fst : Int) - 1 : Int) < (↑y355.fst.snd.fst : Int))) <| .load (p356.fst, p356.snd + mulN ((↑y355.fst.snd.fst : Int) - 1).toNat 2 + 1) (.int .i64) fun i357 => .guard (InK IntKind.i64 ((↑y355.fst.snd.fst : Int) - 1)) <| .guard (((0 : Int) ≤ (↑y355.fst.snd.fst : Int) - 1) ∧ (((↑y355.fst.snd.fst : Int) - 1 : Int) ≤ (↑y355.fst.snd.snd : Int))) <| .ite ((↑(((↑y355.fst.snd.fst : Int) - 1).toNat - 0) : Int) == 0) (.nonnil ((some la)) fun p358 => .load p358 (.raw) fun v359 => .load (p358.fst, p358.snd + 1) (.int .i64) fun i360 => .load (p358.fst, p358.snd + 2) (.int .i64) fun i361 => .load (p358.fst, p358.snd + 3) (.sl) fun s362 => .store (n3, 0) (.raw (v359)) <| .store (n3, 1) (.int .i64 (i360)) <| .store (n3, 2) (.int .i64 (i361)) <| .store (n3, 3) (.sl (s362.fst) (s362.snd.fst) (s362.snd.snd)) <| .load (n3, 0) (.raw) fun v363 => .load (n3, 1) (.int .i64) fun i364 => .load (n3, 2) (.int .i64) fun i365 => .load (n3, 3) (.sl) fun s366 => .done .ret [.agg [.raw (v363), .int .i64 (i364), .int .i64 (i365), .sl (s366.fst) (s366.snd.fst) (s366.snd.snd)]]) (.guard (InK IntKind.i64 ((↑(((↑y355.fst.snd.fst : Int) - 1).toNat - 0) : Int) - 1)) <| .nonnil (slBase y355.fst.fst y355.fst.snd.snd 0 2) fun p367 => .guard (((0 : Int) ≤ (↑(((↑y355.fst.snd.fst : Int) - 1).toNat - 0) : Int) - 1) ∧ (((↑(((↑y355.fst.snd.fst : Int) - 1).toNat - 0) : Int) - 1 : Int) < (↑(((↑y355.fst.snd.fst : Int) - 1).toNat - 0) : Int))) <| .load (p367.fst, p367.snd + mulN ((↑(((↑y355.fst.snd.fst : Int) - 1).toNat - 0) : Int) - 1).toNat 2) (.ptr) fun q368 => .nonnil (q368) fun p369 => .load (p369.fst, p369.snd + 2) (.sl) fun s370 => .ite (decide (i357 < (↑s370.snd.fst : Int))) (.done (.exit 1001) [.c (.ptr (q368)), .c (.sl (slBase y355.fst.fst y355.fst.snd.snd 0 2) (((↑y355.fst.snd.fst : Int) - 1).toNat - 0) (y355.fst.snd.snd - 0)), .c (.tt), .c (.int .i64 (i357))]) (.done .normal [.c (.sl (slBase y355.fst.fst y355.fst.snd.snd 0 2) (((↑y355.fst.snd.fst : Int) - 1).toNat - 0) (y355.fst.snd.snd - 0))]))) Q h := by
  refine w_lp (fun k y h' => ∃ (r : Nat) (z : Zp n r) (b : Nat) (u : BT KV r), y = ((some ps, (z.stk b).length, cs), ()) ∧ Lu o b0 dg rnd z b u ∧ FL = (z.lf ++ flatB r u) ++ z.rg.filter st ∧ z.Gr Cp ∧ (∀ a ∈ z.all u, a ∈ l) ∧ z.rg.length ≤ R ∧ (z.stk b).length ≤ cs ∧ (z.stk b).length = k ∧
      St h0 G0 [K (z.all u), Ow a0 (mapC ls iso ctr (some (b0, 0)) (z.all u).length dg (2 * dg + 1) false false) 0, Ow (nv, 0) (L.cells pv) 0, HtC (some nh), Ow ps (LFr.flat (z.stk b)) ((cs - (z.stk b).length) * LFr.sz), ZsC iso z (flatB r u).length, ZrC iso z b, TrC L iso r b u] h') (z.stk b).length rfl ⟨r, z, b, u, rfl, lu, fn, gr, hsb, hR, hcs, rfl, S⟩ ?_
  clear S lu fn hcs hR gr hsb
  rintro k _ _ ⟨r, z, b, u, rfl, lu, fn, gr, hsb, hR, hcs, rfl, S⟩
  have hsl := z.len b
  cases z with
  | top =>
    have hf : (Zp.stk (n := n) .top b)[(Zp.stk (n := n) .top b).length - 1]? = some (b, 0) := rfl
    refine w_guard (inK64 (by (first | omega | ((try dsimp only [Sh.T, Sh1.T]); omega))) (by (first | omega | ((try dsimp only [Sh.T, Sh1.T]); omega)))) (w_nonnil (w_guard ⟨by (first | omega | ((try dsimp only [Sh.T, Sh1.T]); omega)), by (first | omega | ((try dsimp only [Sh.T, Sh1.T]); omega))⟩ ?_))
    dsimp only
    rw [toNat_pred]
    have hfn : FL = (Zp.top (n := n)).all u := by
      have e : (Zp.rg (n := n) .top) = [] := rfl
      have e2 : (Zp.lf (n := n) .top) = [] := rfl
      rw [fn]
      show _ = (Zp.lf (n := n) .top) ++ (flatB n u ++ (Zp.rg (n := n) .top))
      rw [e, e2]; simp
    exact w_fi (frs S) hf (w_guard (inK64 (by (first | omega | ((try dsimp only [Sh.T, Sh1.T]); omega))) (by (first | omega | ((try dsimp only [Sh.T, Sh1.T]); omega)))) (w_guard ⟨by (first | omega | ((try dsimp only [Sh.T, Sh1.T]); omega)), by (first | omega | ((try dsimp only [Sh.T, Sh1.T]); omega))⟩ (w_true rfl (hrt _ _ _ _ _ _ S fun h' v post hRf S => ln_r (hret _ _ _ _ u v post lu hfn (by rw [hfn]; exact hRf) S)))))
  | dn z x =>
    obtain ⟨h1, h2, h3⟩ := lu.ok
    have hgs : Zp.stk (.dn z x) b = z.stk x.b ++ [(b, (x.A.length : Int))] := rfl
    have hsl2 := z.len x.b
    obtain ⟨M, hM⟩ : ∃ M, M = (z.stk x.b).length := ⟨_, rfl⟩
    have hN : (Zp.stk (.dn z x) b).length = M + 1 := by rw [hgs, hM]; simp
    have hM1 : 1 ≤ M := by
      obtain ⟨c, gs, hc⟩ := z.last x.b
      rw [hM, hc]; simp
    rw [hN] at hcs hsl S ⊢
    have e1 : (((M + 1 : Nat) : Int) - 1).toNat = M := by omega
    have hf : (Zp.stk (.dn z x) b)[M]? = some (b, (x.A.length : Int)) := by rw [hgs]; exact get_mid hM.symm
    have hf2 : ∃ c, (Zp.stk (.dn z x) b)[M - 1]? = some (x.b, c) := by
      obtain ⟨c, gs, hc⟩ := z.last x.b
      refine ⟨c, ?_⟩
      have : gs.length = M - 1 := by rw [hM, hc]; simp
      rw [hgs, hc, List.append_assoc]
      exact get_mid this
    obtain ⟨c2, hf2⟩ := hf2
    refine w_guard (inK64 (by (first | omega | ((try dsimp only [Sh.T, Sh1.T]); omega))) (by (first | omega | ((try dsimp only [Sh.T, Sh1.T]); omega)))) (w_nonnil (w_guard ⟨by (first | omega | ((try dsimp only [Sh.T, Sh1.T]); omega)), by (first | omega | ((try dsimp only [Sh.T, Sh1.T]); omega))⟩ ?_))
    dsimp only
    rw [e1]
    refine w_fi (frs S) hf (w_guard (inK64 (by (first | omega | ((try dsimp only [Sh.T, Sh1.T]); omega))) (by (first | omega | ((try dsimp only [Sh.T, Sh1.T]); omega)))) (w_guard ⟨by (first | omega | ((try dsimp only [Sh.T, Sh1.T]); omega)), by (first | omega | ((try dsimp only [Sh.T, Sh1.T]); omega))⟩ ?_))
    refine w_false (beq_f (by (first | omega | ((try dsimp only [Sh.T, Sh1.T]); omega)))) (w_guard (inK64 (by (first | omega | ((try dsimp only [Sh.T, Sh1.T]); omega))) (by (first | omega | ((try dsimp only [Sh.T, Sh1.T]); omega)))) ?_)
    rw [slBase_zero]
    refine w_nonnil (w_guard ⟨by (first | omega | ((try dsimp only [Sh.T, Sh1.T]); omega)), by (first | omega | ((try dsimp only [Sh.T, Sh1.T]); omega))⟩ ?_)
    dsimp only
    rw [Nat.sub_zero, toNat_pred]
    refine w_fp (frs S) hf2 (w_nonnil ?_)
    have S := zp_up h2 rfl (S.ats [.tr b, .kd none, .fo []])
    obtain ⟨pi, ci, hci⟩ := S.itm x.b
    refine w_sl (some pi, (x.C ++ x.D).length, ci) hci ?_
    have S := ((S.at (.ow ps)).re ps (LFr.flat (z.stk x.b) ++ LFr.flat [(b, (x.A.length : Int))]) _ rfl (by rw [hgs, LFr.flat_append]) rfl).shrink
    have S := S.re ps (LFr.flat (z.stk x.b)) ((cs - (z.stk x.b).length) * LFr.sz) rfl rfl (by rw [LFr.flat_length, ← Nat.add_mul]; congr 1; show 1 + _ = _; omega)
    have S := S.ats [.ck (K ((Zp.dn z x).all u)), .ow a0, .ow (nv, 0), .ck (HtC (some nh)), .ow ps, .kd none, .fo [], .tr x.b]
    have hal : (Zp.dn z x).all u = z.all (x.put u) := by rw [Zp.all_put h2]
    rw [hal] at S hsb
    obtain ⟨gz, rt⟩ := rt_up (u := u) h2 gr
    have hrg : (Zp.rg (.dn z x)) = x.rg ++ z.rg := rfl
    have hlf : (Zp.lf (.dn z x)) = z.lf ++ x.lf := rfl
    rw [hrg] at fn hR
    rw [hlf] at fn
    have hac := h2.ac
    have hbd := h2.bd
    by_cases hlt : x.A.length < (x.C ++ x.D).length
    · refine w_true (lt_t (by (first | omega | ((try dsimp only [Sh.T, Sh1.T]); omega)))) (ln_e ?_)
      have e3 : (x.C ++ x.D).drop x.A.length = x.D := List.drop_left' hac.symm
      have e4 : ((x.A ++ u :: x.B).map (flatB r)).drop (x.A.length + 1) = x.B.map (flatB r) := by
        rw [List.map_append, List.map_cons, show (x.A.map (flatB r)) ++ flatB r u :: x.B.map (flatB r) = (x.A.map (flatB r) ++ [flatB r u]) ++ x.B.map (flatB r) by simp]
        exact List.drop_left' (by simp)
      have e5 : post ((x.put u).1.drop x.A.length) (((x.put u).2.map (flatB r)).drop (x.A.length + 1)) = x.rg := by
        show post ((x.C ++ x.D).drop x.A.length) (((x.A ++ u :: x.B).map (flatB r)).drop (x.A.length + 1)) = _
        rw [e3, e4]; rfl
      have bv : Bw o st FL Cp b0 dg rnd R z x.b (x.put u) x.A.length := by
        refine ⟨lu.up, hlt, ⟨x.lf ++ flatB r u, ?_, ?_⟩, ?_, gz, rt⟩
        · rw [e5, h2.flat]; simp
        · rw [e5, ← List.append_assoc]; exact fn
        · rw [e5]; simp at hR; omega
      have := hnx _ r z x.b (x.put u) x.A.length bv hsb (by omega) S
      rw [← hM] at this
      exact this
    · refine w_false (lt_f (by (first | omega | ((try dsimp only [Sh.T, Sh1.T]); omega)))) ?_
      have hD : x.D = [] := by
        rw [List.length_append] at hlt
        exact List.length_eq_zero_iff.1 (by omega)
      have hB : x.rg = [] := by unfold Fm.rg; rw [hD]; cases x.B.map (flatB r) <;> rfl
      rw [hB, List.nil_append] at fn hR
      refine ln_n rfl M ⟨r + 1, z, x.b, x.put u, by rw [hM]; rfl, lu.up, ?_, gz, hsb, hR, by omega, hM.symm, S⟩ (by omega)
      rw [h2.flat, hB, List.append_nil, ← List.append_assoc]
      exact fn
theorem foldA {r b : Nat} {z : Zp n r} {u : BT KV r} {X : Ck} (hl : Lim b0 dg rnd) (lu : Lu o b0 dg rnd z b u) (S : St h0 G0 [X, Ow a0 (mapC ls iso ctr (some (b0, 0)) (z.all u).length dg (2 * dg + 1) false false) 0, Ow (nv, 0) (L.cells pv) 0, HtC (some nh), Ow ps (LFr.flat (z.stk b)) ((cs - (z.stk b).length) * LFr.sz), ZsC iso z (flatB r u).length, ZrC iso z b, TrC L iso r b u] h) :
    St h0 G0 [X, MpC ls o iso dg a0 (z.all u)] h :=
  (fold_all (K := fun _ => X) (acc := []) hl lu S).only [.ck X, .mp a0]
theorem foldL {b c : Nat} {p : PA} {z : Zp n 0} {xs : List KV} {X : Ck} (hl : Lim b0 dg rnd) (lu : Lu o b0 dg rnd z b (xs : BT KV 0)) (hc : xs.length ≤ c) (S : St h0 G0 [X, Ow a0 (mapC ls iso ctr (some (b0, 0)) (z.all (r := 0) xs).length dg (2 * dg + 1) false false) 0, Ow (nv, 0) (L.cells pv) 0, HtC (some nh), Ow ps (LFr.flat (z.stk b)) ((cs - (z.stk b).length) * LFr.sz), ZsC iso z xs.length, ZrC iso z b, Ow (b, 0) (nodeC iso xs.length (some p, xs.length, c) none) 0, Ow p (L.flat xs) ((c - xs.length) * L.sz)] h) :
    St h0 G0 [X, MpC ls o iso dg a0 (z.all (r := 0) xs)] h :=
  (fold_leaf (K := fun _ => X) (acc := []) hl lu hc S).only [.ck X, .mp a0]
abbrev Rets (h0 : H) (G0 : PA → Prop) (Q : Ex → List AV → H → Prop) (ls : Value) (o : List Int) (Rf : List KV → AV → List Ck → Prop) (FL : List KV) (dg : Nat) (iso : Int) (a0 : PA) : Prop :=
  ∀ h' (v : AV) (post : List Ck), Rf FL v post → St h0 G0 [StC post, MpC ls o iso dg a0 FL] h' → wp Try.prog (.done .ret [v]) Q h'
set_option maxHeartbeats 4000000 in
theorem w_leafr {R i : Nat} {z : Zp n 0} {b : Nat} {xs : List KV} (hn0 : Bes (RdC (n0, 0) (.pointer (some a0.val))) h0 G0) (hls : Lss ls oc o) (hoc : Bes oc h0 G0) (hst : Stp h0 G0 f st a0 ls) (hap : Apn oc K iso dg l la ext) (hrt : Rtn K Rf la n3) (hsm : Stm o st mk) (hC : Icl Cp) (hl : Lim b0 dg rnd) (hsb : ∀ a ∈ z.all (r := 0) xs, a ∈ l) (lv : Lw o st FL Cp b0 dg rnd z b xs i) (hR : z.rg.length ≤ R) (hcs : (z.stk b).length ≤ cs) (hn : n ≤ 4294967294)
    (S : St h0 G0 [K (z.all (r := 0) xs), Ow a0 (mapC ls iso ctr (some (b0, 0)) (z.all (r := 0) xs).length dg (2 * dg + 1) false false) 0, Ow (nv, 0) (L.cells pv) 0, HtC (some nh), Ow ps (LFr.flat (z.stk b)) ((cs - (z.stk b).length) * LFr.sz), ZsC iso z xs.length, ZrC iso z b, TrC L iso 0 b xs] h)
    (hret : Rets h0 G0 Q ls o Rf FL dg iso a0)
    (hrs : Rs h0 G0 Q ls o K st f FL l Cp dg rnd nv iso a0 nh la ext)
    (hnx : ∀ h' (r : Nat) (z : Zp n (r + 1)) (b : Nat) (u : BT KV (r + 1)) (i : Nat), Bw o st FL Cp b0 dg rnd R z b u i → (∀ a ∈ z.all u, a ∈ l) → (z.stk b).length ≤ cs → St h0 G0 [K (z.all u), Ow a0 (mapC ls iso ctr (some (b0, 0)) (z.all u).length dg (2 * dg + 1) false false) 0, Ow (nv, 0) (L.cells pv) 0, HtC (some nh), Ow ps (LFr.flat (z.stk b)) ((cs - (z.stk b).length) * LFr.sz), ZsC iso z (flatB (r + 1) u).length, ZrC iso z b, TrC L iso (r + 1) b u] h' →
      wp Try.prog (.done (.exit 1001) [.c (.ptr (some (b, 0))), .c (.sl (some ps) (z.stk b).length cs), .c (.tt), .c (.int .i64 (i : Int))]) Q h') :
    wp Try.prog (.nonnil (some (b, 0)) fun p211 => .load (p211.fst, p211.snd + 2) (.sl) fun s212 => .guard (InK IntKind.i64 ((↑s212.snd.fst : Int) - (i : Int))) <| .load (n0, 0) (.ptr) fun q213 => .nonnil (q213) fun p214 => .load (p214.fst, p214.snd + 10) (.int .i64) fun i215 => .guard (InK IntKind.i64 ((↑s212.snd.fst : Int) - (i : Int) - i215)) <| .bind none (.ite (decide ((↑s212.snd.fst : Int) - (i : Int) - i215 > 1)) (.bind (some 4) (.loop [.c (.int .i64), .c (.bool)] [.c (.int .i64 (0)), .c (.ff)] fun y216 => .ite (decide (y216.fst < (↑s212.snd.fst : Int) - (i : Int) - i215)) (.nonnil (some (b, 0)) fun p217 => .load (p217.fst, p217.snd + 2) (.sl) fun s218 => .guard (InK IntKind.i64 ((i : Int) + y216.fst)) <| .nonnil (s218.fst) fun p219 => .guard (((0 : Int) ≤ (i : Int) + y216.fst) ∧ (((i : Int) + y216.fst : Int) < (↑s218.snd.fst : Int))) <| .load (p219.fst, p219.snd + mulN ((i : Int) + y216.fst).toNat 2) (.int .i64) fun i220 => .load (p219.fst, p219.snd + mulN ((i : Int) + y216.fst).toNat 2 + 1) (.int .i64) fun i221 => .callv (f) [.agg [.int .i64 (i220), .int .i64 (i221)]] false [.c (.bool)] fun r222 => .ite (r222.fst) (.done (.exit 4) [.c (.int .i64 (y216.fst)), .c (.bool (r222.fst))]) (.bind none (.ite (ext) (.nonnil (some (b, 0)) fun p223 => .load (p223.fst, p223.snd + 2) (.sl) fun s224 => .guard (InK IntKind.i64 ((i : Int) + y216.fst)) <| .nonnil (s224.fst) fun p225 => .guard (((0 : Int) ≤ (i : Int) + y216.fst) ∧ (((i : Int) + y216.fst : Int) < (↑s224.snd.fst : Int))) <| .load (p225.fst, p225.snd + mulN ((i : Int) + y216.fst).toNat 2) (.int .i64) fun i226 => .load (p225.fst, p225.snd + mulN ((i : Int) + y216.fst).toNat 2 + 1) (.int .i64) fun i227 => .call fn_lg_append [.c (.ptr ((some la))), .agg [.int .i64 (i226), .int .i64 (i227)], .c (.ptr none)] true [] fun r228 => .done .normal []) (.done .normal [])) [] fun x229 => .guard (InK IntKind.i64 (y216.fst + 1)) <| .done .normal [.c (.int .i64 (y216.fst + 1)), .c (.bool (r222.fst))])) (.done (.exit 4) [.c (.int .i64 (y216.fst)), .c (.bool (y216.snd.fst))])) [.c (.int .i64), .c (.bool)] fun x230 => .nonnil (some (b, 0)) fun p231 => .load (p231.fst, p231.snd + 2) (.sl) fun s232 => .guard (((0 : Int) ≤ (i : Int)) ∧ (((i : Int) : Int) ≤ (↑s232.snd.fst : Int))) <| .nonnil (some (b, 0)) fun p233 => .load (p233.fst, p233.snd + 2) (.sl) fun s234 => .guard (InK IntKind.i64 ((i : Int) + x230.fst)) <| .guard (((0 : Int) ≤ (i : Int) + x230.fst) ∧ (((i : Int) + x230.fst : Int) ≤ (↑s234.snd.fst : Int))) <| .copy 2 ((slBase s232.fst s232.snd.snd (Int.toNat (i : Int)) 2), s232.snd.fst - Int.toNat (i : Int), s232.snd.snd - Int.toNat (i : Int)) ((slBase s234.fst s234.snd.snd ((i : Int) + x230.fst).toNat 2), s234.snd.fst - ((i : Int) + x230.fst).toNat, s234.snd.snd - ((i : Int) + x230.fst).toNat) fun m235 => .nonnil (some (b, 0)) fun p236 => .load (p236.fst, p236.snd + 2) (.sl) fun s237 => .guard (InK IntKind.i64 ((↑s237.snd.fst : Int) - x230.fst)) <| .bind (some 6) (.loop [.c (.int .i64)] [.c (.int .i64 ((↑s237.snd.fst : Int) - x230.fst))] fun y238 => .nonnil (some (b, 0)) fun p239 => .load (p239.fst, p239.snd + 2) (.sl) fun s240 => .ite (decide (y238.fst < (↑s240.snd.fst : Int))) (.nonnil (some (b, 0)) fun p241 => .load (p241.fst, p241.snd + 2) (.sl) fun s242 => .load (n0, 0) (.ptr) fun q243 => .nonnil (q243) fun p244 => .load (p244.fst, p244.snd + 7) (.int .i64) fun i245 => .load (p244.fst, p244.snd + 8) (.int .i64) fun i246 => .nonnil (s242.fst) fun p247 => .guard (((0 : Int) ≤ y238.fst) ∧ ((y238.fst : Int) < (↑s242.snd.fst : Int))) <| .store (p247.fst, p247.snd + mulN (Int.toNat y238.fst) 2) (.int .i64 (i245)) <| .store (p247.fst, p247.snd + mulN (Int.toNat y238.fst) 2 + 1) (.int .i64 (i246)) <| .guard (InK IntKind.i64 (y238.fst + 1)) <| .done .normal [.c (.int .i64 (y238.fst + 1))]) (.done (.exit 6) [])) [] fun x248 => .nonnil (some (b, 0)) fun p249 => .load (p249.fst, p249.snd + 2) (.sl) fun s250 => .nonnil (some (b, 0)) fun p251 => .load (p251.fst, p251.snd + 2) (.sl) fun s252 => .guard (InK IntKind.i64 ((↑s252.snd.fst : Int) - x230.fst)) <| .guard (((0 : Int) ≤ (↑s252.snd.fst : Int) - x230.fst) ∧ (((↑s252.snd.fst : Int) - x230.fst : Int) ≤ (↑s250.snd.snd : Int))) <| .nonnil (some (b, 0)) fun p253 => .store (p253.fst, p253.snd + 2) (.sl (slBase s250.fst s250.snd.snd 0 2) (((↑s252.snd.fst : Int) - x230.fst).toNat - 0) (s250.snd.snd - 0)) <| .bind (some 8) (.loop [.c (.int .i64)] [.c (.int .i64 (0))] fun y254 => .ite (decide (y254.fst < (↑(z.stk b).length : Int))) (.nonnil ((some ps)) fun p255 => .guard (((0 : Int) ≤ y254.fst) ∧ ((y254.fst : Int) < (↑(z.stk b).length : Int))) <| .load (p255.fst, p255.snd + mulN (Int.toNat y254.fst) 2) (.ptr) fun q256 => .nonnil (q256) fun p257 => .load (p257.fst, p257.snd + 1) (.int .i64) fun i258 => .guard (InK IntKind.i64 (i258 - x230.fst)) <| .nonnil (q256) fun p259 => .store (p259.fst, p259.snd + 1) (.int .i64 (i258 - x230.fst)) <| .guard (InK IntKind.i64 (y254.fst + 1)) <| .done .normal [.c (.int .i64 (y254.fst + 1))]) (.done (.exit 8) [])) [] fun x260 => .load (n0, 0) (.ptr) fun q261 => .nonnil (q261) fun p262 => .load (p262.fst, p262.snd + 3) (.int .i64) fun i263 => .guard (InK IntKind.i64 (i263 - x230.fst)) <| .nonnil (q261) fun p264 => .store (p264.fst, p264.snd + 3) (.int .i64 (i263 - x230.fst)) <| .ite (x230.snd.fst) (.nonnil ((some la)) fun p265 => .load p265 (.raw) fun v266 => .load (p265.fst, p265.snd + 1) (.int .i64) fun i267 => .load (p265.fst, p265.snd + 2) (.int .i64) fun i268 => .load (p265.fst, p265.snd + 3) (.sl) fun s269 => .store (n3, 0) (.raw (v266)) <| .store (n3, 1) (.int .i64 (i267)) <| .store (n3, 2) (.int .i64 (i268)) <| .store (n3, 3) (.sl (s269.fst) (s269.snd.fst) (s269.snd.snd)) <| .load (n3, 0) (.raw) fun v270 => .load (n3, 1) (.int .i64) fun i271 => .load (n3, 2) (.int .i64) fun i272 => .load (n3, 3) (.sl) fun s273 => .done .ret [.agg [.raw (v270), .int .i64 (i271), .int .i64 (i272), .sl (s273.fst) (s273.snd.fst) (s273.snd.snd)]]) (.done .normal [])) (.done .normal [])) [] fun x274 => .bind (some 10) (.loop [.c (.sl), .c (.int .i64)] [.c (.sl ((some ps)) ((z.stk b).length) (cs)), .c (.int .i64 ((i : Int)))] fun y275 => .nonnil (some (b, 0)) fun p276 => .load (p276.fst, p276.snd + 2) (.sl) fun s277 => .ite (decide (y275.snd.fst < (↑s277.snd.fst : Int))) (.nonnil (some (b, 0)) fun p278 => .load (p278.fst, p278.snd + 2) (.sl) fun s279 => .nonnil (s279.fst) fun p280 => .guard (((0 : Int) ≤ y275.snd.fst) ∧ ((y275.snd.fst : Int) < (↑s279.snd.fst : Int))) <| .load (p280.fst, p280.snd + mulN (Int.toNat y275.snd.fst) 2) (.int .i64) fun i281 => .load (p280.fst, p280.snd + mulN (Int.toNat y275.snd.fst) 2 + 1) (.int .i64) fun i282 => .callv (f) [.agg [.int .i64 (i281), .int .i64 (i282)]] false [.c (.bool)] fun r283 => .ite (r283.fst) (.nonnil ((some la)) fun p284 => .load p284 (.raw) fun v285 => .load (p284.fst, p284.snd + 1) (.int .i64) fun i286 => .load (p284.fst, p284.snd + 2) (.int .i64) fun i287 => .load (p284.fst, p284.snd + 3) (.sl) fun s288 => .store (n3, 0) (.raw (v285)) <| .store (n3, 1) (.int .i64 (i286)) <| .store (n3, 2) (.int .i64 (i287)) <| .store (n3, 3) (.sl (s288.fst) (s288.snd.fst) (s288.snd.snd)) <| .load (n3, 0) (.raw) fun v289 => .load (n3, 1) (.int .i64) fun i290 => .load (n3, 2) (.int .i64) fun i291 => .load (n3, 3) (.sl) fun s292 => .done .ret [.agg [.raw (v289), .int .i64 (i290), .int .i64 (i291), .sl (s292.fst) (s292.snd.fst) (s292.snd.snd)]]) (.nonnil (some (b, 0)) fun p293 => .load (p293.fst, p293.snd + 2) (.sl) fun s294 => .load (n0, 0) (.ptr) fun q295 => .nonnil (q295) fun p296 => .load (p296.fst, p296.snd + 10) (.int .i64) fun i297 => .ite (decide ((↑s294.snd.fst : Int) > i297)) (.bind none (.ite (ext) (.nonnil (some (b, 0)) fun p298 => .load (p298.fst, p298.snd + 2) (.sl) fun s299 => .nonnil (s299.fst) fun p300 => .guard (((0 : Int) ≤ y275.snd.fst) ∧ ((y275.snd.fst : Int) < (↑s299.snd.fst : Int))) <| .load (p300.fst, p300.snd + mulN (Int.toNat y275.snd.fst) 2) (.int .i64) fun i301 => .load (p300.fst, p300.snd + mulN (Int.toNat y275.snd.fst) 2 + 1) (.int .i64) fun i302 => .call fn_lg_append [.c (.ptr ((some la))), .agg [.int .i64 (i301), .int .i64 (i302)], .c (.ptr none)] true [] fun r303 => .done .normal []) (.done .normal [])) [] fun x304 => .nonnil (some (b, 0)) fun p305 => .load (p305.fst, p305.snd + 2) (.sl) fun s306 => .guard (((0 : Int) ≤ y275.snd.fst) ∧ ((y275.snd.fst : Int) ≤ (↑s306.snd.fst : Int))) <| .nonnil (some (b, 0)) fun p307 => .load (p307.fst, p307.snd + 2) (.sl) fun s308 => .guard (InK IntKind.i64 (y275.snd.fst + 1)) <| .guard (((0 : Int) ≤ y275.snd.fst + 1) ∧ ((y275.snd.fst + 1 : Int) ≤ (↑s308.snd.fst : Int))) <| .copy 2 ((slBase s306.fst s306.snd.snd (Int.toNat y275.snd.fst) 2), s306.snd.fst - Int.toNat y275.snd.fst, s306.snd.snd - Int.toNat y275.snd.fst) ((slBase s308.fst s308.snd.snd (y275.snd.fst + 1).toNat 2), s308.snd.fst - (y275.snd.fst + 1).toNat, s308.snd.snd - (y275.snd.fst + 1).toNat) fun m309 => .nonnil (some (b, 0)) fun p310 => .load (p310.fst, p310.snd + 2) (.sl) fun s311 => .nonnil (some (b, 0)) fun p312 => .load (p312.fst, p312.snd + 2) (.sl) fun s313 => .guard (InK IntKind.i64 ((↑s313.snd.fst : Int) - 1)) <| .load (n0, 0) (.ptr) fun q314 => .nonnil (q314) fun p315 => .load (p315.fst, p315.snd + 7) (.int .i64) fun i316 => .load (p315.fst, p315.snd + 8) (.int .i64) fun i317 => .nonnil (s311.fst) fun p318 => .guard (((0 : Int) ≤ (↑s313.snd.fst : Int) - 1) ∧ (((↑s313.snd.fst : Int) - 1 : Int) < (↑s311.snd.fst : Int))) <| .store (p318.fst, p318.snd + mulN ((↑s313.snd.fst : Int) - 1).toNat 2) (.int .i64 (i316)) <| .store (p318.fst, p318.snd + mulN ((↑s313.snd.fst : Int) - 1).toNat 2 + 1) (.int .i64 (i317)) <| .nonnil (some (b, 0)) fun p319 => .load (p319.fst, p319.snd + 2) (.sl) fun s320 => .nonnil (some (b, 0)) fun p321 => .load (p321.fst, p321.snd + 2) (.sl) fun s322 => .guard (InK IntKind.i64 ((↑s322.snd.fst : Int) - 1)) <| .guard (((0 : Int) ≤ (↑s322.snd.fst : Int) - 1) ∧ (((↑s322.snd.fst : Int) - 1 : Int) ≤ (↑s320.snd.snd : Int))) <| .nonnil (some (b, 0)) fun p323 => .store (p323.fst, p323.snd + 2) (.sl (slBase s320.fst s320.snd.snd 0 2) (((↑s322.snd.fst : Int) - 1).toNat - 0) (s320.snd.snd - 0)) <| .bind (some 12) (.loop [.c (.int .i64)] [.c (.int .i64 (0))] fun y324 => .ite (decide (y324.fst < (↑y275.fst.snd.fst : Int))) (.nonnil (y275.fst.fst) fun p325 => .guard (((0 : Int) ≤ y324.fst) ∧ ((y324.fst : Int) < (↑y275.fst.snd.fst : Int))) <| .load (p325.fst, p325.snd + mulN (Int.toNat y324.fst) 2) (.ptr) fun q326 => .nonnil (q326) fun p327 => .load (p327.fst, p327.snd + 1) (.int .i64) fun i328 => .guard (InK IntKind.i64 (i328 - 1)) <| .nonnil (q326) fun p329 => .store (p329.fst, p329.snd + 1) (.int .i64 (i328 - 1)) <| .guard (InK IntKind.i64 (y324.fst + 1)) <| .done .normal [.c (.int .i64 (y324.fst + 1))]) (.done (.exit 12) [])) [] fun x330 => .load (n0, 0) (.ptr) fun q331 => .nonnil (q331) fun p332 => .load (p332.fst, p332.snd + 3) (.int .i64) fun i333 => .guard (InK IntKind.i64 (i333 - 1)) <| .nonnil (q331) fun p334 => .store (p334.fst, p334.snd + 3) (.int .i64 (i333 - 1)) <| .guard (InK IntKind.i64 (y275.snd.fst - 1)) <| .guard (InK IntKind.i64 (y275.snd.fst - 1 + 1)) <| .done .normal [.c (.sl (y275.fst.fst) (y275.fst.snd.fst) (y275.fst.snd.snd)), .c (.int .i64 (y275.snd.fst - 1 + 1))]) (.nonnil (some (b, 0)) fun p335 => .load (p335.fst, p335.snd + 2) (.sl) fun s336 => .nonnil (s336.fst) fun p337 => .guard (((0 : Int) ≤ y275.snd.fst) ∧ ((y275.snd.fst : Int) < (↑s336.snd.fst : Int))) <| .load (p337.fst, p337.snd + mulN (Int.toNat y275.snd.fst) 2) (.int .i64) fun i338 => .load (p337.fst, p337.snd + mulN (Int.toNat y275.snd.fst) 2 + 1) (.int .i64) fun i339 => .store ((nv, 0) : PA) (.int .i64 (i338)) <| .store (((nv, 0) : PA).fst, ((nv, 0) : PA).snd + 1) (.int .i64 (i339)) <| .bind none (.ite (ext) (.nonnil (some (b, 0)) fun p340 => .load (p340.fst, p340.snd + 2) (.sl) fun s341 => .nonnil (s341.fst) fun p342 => .guard (((0 : Int) ≤ y275.snd.fst) ∧ ((y275.snd.fst : Int) < (↑s341.snd.fst : Int))) <| .load (p342.fst, p342.snd + mulN (Int.toNat y275.snd.fst) 2) (.int .i64) fun i343 => .load (p342.fst, p342.snd + mulN (Int.toNat y275.snd.fst) 2 + 1) (.int .i64) fun i344 => .call fn_lg_append [.c (.ptr ((some la))), .agg [.int .i64 (i343), .int .i64 (i344)], .c (.ptr none)] true [] fun r345 => .done .normal []) (.done .normal [])) [] fun x346 => .load (n0, 0) (.ptr) fun q347 => .nonnil (some (b, 0)) fun p348 => .load (p348.fst, p348.snd + 2) (.sl) fun s349 => .nonnil (s349.fst) fun p350 => .guard (((0 : Int) ≤ y275.snd.fst) ∧ ((y275.snd.fst : Int) < (↑s349.snd.fst : Int))) <| .load (p350.fst, p350.snd + mulN (Int.toNat y275.snd.fst) 2) (.int .i64) fun i351 => .load (p350.fst, p350.snd + mulN (Int.toNat y275.snd.fst) 2 + 1) (.int .i64) fun i352 => .call fn_tg_deleteHint [.c (.ptr (q347)), .agg [.int .i64 (i351), .int .i64 (i352)], .c (.addr nh)] true [.agg [.int .i64, .int .i64], .c (.bool)] fun r353 => .guard (((0 : Int) ≤ 0) ∧ ((0 : Int) ≤ (↑y275.fst.snd.snd : Int))) <| .done (.exit 1000) [.c (.sl (slBase y275.fst.fst y275.fst.snd.snd 0 2) (0) (y275.fst.snd.snd - 0)), .c (.addr ((nv, 0) : PA)), .c (.addr nh), .c (.raw (f)), .c (.ptr ((some la))), .c (.bool (ext))]))) (.done (.exit 10) [.c (.sl (y275.fst.fst) (y275.fst.snd.fst) (y275.fst.snd.snd))])) [.c (.sl)] fun x354 => .loop [.c (.sl)] [.c (.sl (x354.fst.fst) (x354.fst.snd.fst) (x354.fst.snd.snd))] fun y355 => .guard (InK IntKind.i64 ((↑y355.fst.snd.fst : Int) - 1)) <| .nonnil (y355.fst.fst) fun p356 => .guard (((0 : Int) ≤ (↑y355.fst.snd.fst : Int) - 1) ∧ (((↑y355.fst.snd.fst : Int) - 1 : Int) < (↑y355.fst.snd.fst : Int))) <| .load (p356.fst, p356.snd + mulN ((↑y355.fst.snd.fst : Int) - 1).toNat 2 + 1) (.int .i64) fun i357 => .guard (InK IntKind.i64 ((↑y355.fst.snd.fst : Int) - 1)) <| .guard (((0 : Int) ≤ (↑y355.fst.snd.fst : Int) - 1) ∧ (((↑y355.fst.snd.fst : Int) - 1 : Int) ≤ (↑y355.fst.snd.snd : Int))) <| .ite ((↑(((↑y355.fst.snd.fst : Int) - 1).toNat - 0) : Int) == 0) (.nonnil ((some la)) fun p358 => .load p358 (.raw) fun v359 => .load (p358.fst, p358.snd + 1) (.int .i64) fun i360 => .load (p358.fst, p358.snd + 2) (.int .i64) fun i361 => .load (p358.fst, p358.snd + 3) (.sl) fun s362 => .store (n3, 0) (.raw (v359)) <| .store (n3, 1) (.int .i64 (i360)) <| .store (n3, 2) (.int .i64 (i361)) <| .store (n3, 3) (.sl (s362.fst) (s362.snd.fst) (s362.snd.snd)) <| .load (n3, 0) (.raw) fun v363 => .load (n3, 1) (.int .i64) fun i364 => .load (n3, 2) (.int .i64) fun i365 => .load (n3, 3) (.sl) fun s366 => .done .ret [.agg [.raw (v363), .int .i64 (i364), .int .i64 (i365), .sl (s366.fst) (s366.snd.fst) (s366.snd.snd)]]) (.guard (InK IntKind.i64 ((↑(((↑y355.fst.snd.fst : Int) - 1).toNat - 0) : Int) - 1)) <| .nonnil (slBase y355.fst.fst y355.fst.snd.snd 0 2) fun p367 => .guard (((0 : Int) ≤ (↑(((↑y355.fst.snd.fst : Int) - 1).toNat - 0) : Int) - 1) ∧ (((↑(((↑y355.fst.snd.fst : Int) - 1).toNat - 0) : Int) - 1 : Int) < (↑(((↑y355.fst.snd.fst : Int) - 1).toNat - 0) : Int))) <| .load (p367.fst, p367.snd + mulN ((↑(((↑y355.fst.snd.fst : Int) - 1).toNat - 0) : Int) - 1).toNat 2) (.ptr) fun q368 => .nonnil (q368) fun p369 => .load (p369.fst, p369.snd + 2) (.sl) fun s370 => .ite (decide (i357 < (↑s370.snd.fst : Int))) (.done (.exit 1001) [.c (.ptr (q368)), .c (.sl (slBase y355.fst.fst y355.fst.snd.snd 0 2) (((↑y355.fst.snd.fst : Int) - 1).toNat - 0) (y355.fst.snd.snd - 0)), .c (.tt), .c (.int .i64 (i357))]) (.done .normal [.c (.sl (slBase y355.fst.fst y355.fst.snd.snd 0 2) (((↑y355.fst.snd.fst : Int) - 1).toNat - 0) (y355.fst.snd.snd - 0))]))) Q h := by
  have h1 := hl.one
  have hbig := hl.big
  have hxl : xs.length ≤ 2 * dg + 1 := lv.lu.val
  have hle := lv.le
  obtain ⟨p, c, hc, S⟩ := open_leaf L iso (S.at (.tr b))
  have hc : xs.length ≤ c := hc
  have S : St h0 G0 (Ow (b, 0) (nodeC iso xs.length (some p, xs.length, c) none) 0 :: Ow p (L.flat xs) ((c - xs.length) * L.sz) :: _) h := S
  have S := S.ats [.ck (K (z.all (r := 0) xs)), .ow a0, .ow (nv, 0), .ck (HtC (some nh)), .ow ps, .kd none, .fo [], .ow (b, 0), .ow p]
  have retl : ∀ h' (xs : List KV) (v : AV) (post : List Ck), Lu o b0 dg rnd z b (xs : BT KV 0) → FL = z.all (r := 0) xs → xs.length ≤ c → Rf FL v post → St h0 G0 [StC post, Ow a0 (mapC ls iso ctr (some (b0, 0)) (z.all (r := 0) xs).length dg (2 * dg + 1) false false) 0, Ow (nv, 0) (L.cells pv) 0, HtC (some nh), Ow ps (LFr.flat (z.stk b)) ((cs - (z.stk b).length) * LFr.sz), ZsC iso z xs.length, ZrC iso z b, Ow (b, 0) (nodeC iso xs.length (some p, xs.length, c) none) 0, Ow p (L.flat xs) ((c - xs.length) * L.sz)] h' → wp Try.prog (.done .ret [v]) Q h' :=
    fun h' xs v post lu hFL hc hRf S => hret h' v post hRf (by rw [hFL]; exact foldL hl lu hc S)
  refine w_nonnil (ld_sls S rfl (w_guard (inK64 (by (first | omega | ((try dsimp only [Sh.T, Sh1.T]); omega))) (by (first | omega | ((try dsimp only [Sh.T, Sh1.T]); omega)))) (w_ptr (some a0) (hn0.now S).rd (w_nonnil (ld_int S rfl (w_guard (inK64 (by (first | omega | ((try dsimp only [Sh.T, Sh1.T]); omega))) (by (first | omega | ((try dsimp only [Sh.T, Sh1.T]); omega)))) (w_bnd ?_)))))))
  refine w_bulkr hn0 hoc hst hap hrt hsm hl hsb lv hc hcs hn S (fun h' xs v post lu hFL hc hRf S => bd_r (retl h' xs v post lu hFL hc hRf S)) (fun h' xs lv hc hsb S => bd_n rfl ?_)
  refine w_bnd (w_singler hn0 hls hoc hst hap hrt hsm hC hl hsb lv hc hcs hn S (fun h' xs v post lu hFL hc hRf S => bd_r (retl h' xs v post lu hFL hc hRf S)) (fun h' cs ps cur x e1 e2 e3 S => bd_q (by decide) (hrs h' cs ps cur x e1 e2 e3 S)) (fun h' xs lv hc hsb S => bd_e rfl ?_))
  have fn := lv.fn
  rw [List.take_length, List.drop_length, List.nil_append] at fn
  have S := shut_leaf L iso (xs := xs) (S.ats [.ow (b, 0), .ow p]) rfl rfl rfl rfl hc rfl
  have S := S.ats [.ck (K (z.all (r := 0) xs)), .ow a0, .ow (nv, 0), .ck (HtC (some nh)), .ow ps, .kd none, .fo [], .tr b]
  exact w_upr hrt hl lv.lu fn lv.gr hsb hR hcs hn S (fun h' r z b u v post lu hFL hRf S => hret h' v post hRf (by rw [hFL]; exact foldA hl lu S)) (fun h' r z b u i bv hsb hcs S => hnx h' r z b u i bv hsb hcs S)
end
end Go.Proofs.Ytegnpimlfphncaa.TG
set_option linter.unusedVariables false
set_option linter.unusedSimpArgs false
set_option linter.unusedSectionVars false
set_option maxRecDepth 100000
namespace Go.Proofs.Ytegnpimlfphncaa.TG
open Go Go.Proofs.Ytegnpimlfphncaa
section
variable {h h0 : H} {G0 : PA → Prop} {Q : Ex → List AV → H → Prop} {ls : Value} {oc : Ck} {o : List Int} {K : List KV → Ck} {Rf : List KV → AV → List Ck → Prop} {st : KV → Bool} {f : Value} {FL l : List KV} {Cp : List KV → Prop} {b0 dg rnd n n0 n2 n3 nv : Nat} {iso : Int} {ctr : Option PA} {a0 nh ps la : PA} {pv mk : KV} {cs : Nat} {ext fd : Bool}
theorem w_decB {k N kk r : Nat} {ps : PA} {gs : List (Nat × Int)} {fs : List En} {v : BT KV r} {l : List Ck} (hN : N = gs.length) (hid : gs.map (fun f : Nat × Int => f.1) = fs.map (fun e : En => e.1)) (hb : ∀ e ∈ fs, (flatB r v).length + 1 ≤ e.2.1 ∧ e.2.1 ≤ 4294967296) (hN2 : N ≤ 4294967296) (hvl : (flatB r v).length ≤ 4294967296)
    (S : St h0 G0 (StC (fs.map (enC iso)) :: Ow ps (LFr.flat gs) kk :: TrC L iso r k v :: l) h)
    (hw : ∀ h', St h0 G0 (StC ((fs.map (dcE ((flatB r v).length + 1))).map (enC iso)) :: Ow ps (LFr.flat gs) kk :: TrC L iso r k v :: l) h' → wp Try.prog (.done (.exit 2) []) Q h') :
    wp Try.prog (.loop [.c (.int .i64)] [.c (.int .i64 (0))] fun y149 => .ite (decide (y149.fst < (↑N : Int))) (.nonnil ((some ps)) fun p150 => .guard (((0 : Int) ≤ y149.fst) ∧ ((y149.fst : Int) < (↑N : Int))) <| .load (p150.fst, p150.snd + mulN (Int.toNat y149.fst) 2) (.ptr) fun q151 => .nonnil (q151) fun p152 => .load (p152.fst, p152.snd + 1) (.int .i64) fun i153 => .nonnil (some (k, 0)) fun p154 => .load (p154.fst, p154.snd + 1) (.int .i64) fun i155 => .guard (InK IntKind.i64 (i155 + 1)) <| .guard (InK IntKind.i64 (i153 - (i155 + 1))) <| .nonnil (q151) fun p156 => .store (p156.fst, p156.snd + 1) (.int .i64 (i153 - (i155 + 1))) <| .guard (InK IntKind.i64 (y149.fst + 1)) <| .done .normal [.c (.int .i64 (y149.fst + 1))]) (.done (.exit 2) [])) Q h := by
  have hfl : fs.length = gs.length := by have := congrArg List.length hid; simpa using this.symm
  refine w_lp (fun r2 y h' => ∃ i : Nat, y = ((i : Int), ()) ∧ i + r2 = N ∧ St h0 G0 (StC (((fs.take i).map (dcE ((flatB r v).length + 1)) ++ fs.drop i).map (enC iso)) :: Ow ps (LFr.flat gs) kk :: TrC L iso r k v :: l) h') N rfl ⟨0, rfl, by omega, by simpa using S⟩ ?_
  clear S
  rintro r2 _ _ ⟨i, rfl, hi, S⟩
  by_cases hlt : i < N
  · have hgi := List.getElem?_eq_getElem (show i < gs.length by omega)
    have hil : i < fs.length := by omega
    have hfi := List.getElem?_eq_getElem hil
    have hid1 : gs[i].1 = fs[i].1 := by
      have := congrArg (fun l => l[i]?) hid
      simp only [List.getElem?_map, hgi, hfi, Option.map_some] at this
      exact Option.some.inj this
    obtain ⟨b1, b2⟩ := hb fs[i] (List.getElem_mem hil)
    rw [List.drop_eq_getElem_cons hil, List.map_append, List.map_cons] at S
    have S := st_mid S
    have S : St h0 G0 (Ow (fs[i].1, 0) (nodeC iso fs[i].2.1 fs[i].2.2.1 fs[i].2.2.2) 0 :: _) _ := S
    refine w_true (lt_t (by (first | omega | ((try dsimp only [Sh.T, Sh1.T]); omega)))) (w_nonnil (w_guard ⟨by (first | omega | ((try dsimp only [Sh.T, Sh1.T]); omega)), by (first | omega | ((try dsimp only [Sh.T, Sh1.T]); omega))⟩ ?_))
    dsimp only
    rw [Int.toNat_natCast]
    refine w_fp (frs S) hgi ?_
    rw [hid1]
    refine w_nonnil (ld_int S rfl (w_nonnil (w_int _ (S.cnt k) (w_guard (inK64 (by (first | omega | ((try dsimp only [Sh.T, Sh1.T]); omega))) (by (first | omega | ((try dsimp only [Sh.T, Sh1.T]); omega)))) (w_guard (inK64 (by (first | omega | ((try dsimp only [Sh.T, Sh1.T]); omega))) (by (first | omega | ((try dsimp only [Sh.T, Sh1.T]); omega)))) (w_nonnil ?_))))))
    refine st_store S (lt_ble rfl) fun _ S => ?_
    have S := S.re (fs[i].1, 0) (nodeC iso (fs[i].2.1 - ((flatB r v).length + 1)) fs[i].2.2.1 fs[i].2.2.2) 0 rfl (nodeC_cnt (by omega)) rfl
    have S : St h0 G0 (enC iso (dcE ((flatB r v).length + 1) fs[i]) :: _) _ := S
    have S := st_dim S
    refine w_guard (inK64 (by (first | omega | ((try dsimp only [Sh.T, Sh1.T]); omega))) (by (first | omega | ((try dsimp only [Sh.T, Sh1.T]); omega)))) (ln_n rfl (r2 - 1) ⟨i + 1, rfl, by omega, ?_⟩ (by omega))
    rw [List.take_succ_eq_append_getElem hil, List.map_append, List.map_append, List.map_append]
    rw [List.append_assoc]
    exact S
  · rw [List.take_of_length_le (by omega), List.drop_eq_nil_of_le (by omega), List.append_nil] at S
    exact w_false (lt_f (by (first | omega | ((try dsimp only [Sh.T, Sh1.T]); omega)))) (ln_e (hw _ S))
set_option maxHeartbeats 8000000 in
theorem w_bran {r i : Nat} {z : Zp n (r + 1)} {b : Nat} {xs : List KV} {ts : List (BT KV r)} (hn0 : Bes (RdC (n0, 0) (.pointer (some a0.val))) h0 G0) (h2a : Bes (RdC (n2, 0) (.int .i64 mk.1)) h0 G0) (h2b : Bes (RdC (n2, 1) (.int .i64 mk.2)) h0 G0) (hls : Lss ls oc o) (hoc : Bes oc h0 G0) (hap : Apn oc K iso dg l la ext) (hl : Lim b0 dg rnd) (lu : Lu o b0 dg rnd z b ((xs, ts) : BT KV (r + 1))) (hil : i ≤ xs.length)
    (hin : ∀ a v, xs[i]? = some a → ts[i + 1]? = some v → (a :: flatB r v) <:+: l) (hcs : (z.stk b).length ≤ cs) (hn : n ≤ 4294967294)
    (S : St h0 G0 [K (z.all ((xs, ts) : BT KV (r + 1))), Ow a0 (mapC ls iso ctr (some (b0, 0)) (z.all ((xs, ts) : BT KV (r + 1))).length dg (2 * dg + 1) false false) 0, Ow (nv, 0) (L.cells pv) 0, HtC (some nh), Ow ps (LFr.flat (z.stk b)) ((cs - (z.stk b).length) * LFr.sz), ZsC iso z (flatB (r + 1) ((xs, ts) : BT KV (r + 1))).length, ZrC iso z b, TrC L iso (r + 1) b ((xs, ts) : BT KV (r + 1))] h)
    (hbk : ∀ h' y, xs[i + 1]? = some y → ltO o y mk = true → Lu o b0 dg rnd z b (cutB ((xs, ts) : BT KV (r + 1)) i) →
      St h0 G0 [K (z.all (cutB ((xs, ts) : BT KV (r + 1)) i)), Ow a0 (mapC ls iso ctr (some (b0, 0)) (z.all (cutB ((xs, ts) : BT KV (r + 1)) i)).length dg (2 * dg + 1) false false) 0, Ow (nv, 0) (L.cells pv) 0, HtC (some nh), Ow ps (LFr.flat (z.stk b)) ((cs - (z.stk b).length) * LFr.sz), ZsC iso z (flatB (r + 1) (cutB ((xs, ts) : BT KV (r + 1)) i)).length, ZrC iso z b, TrC L iso (r + 1) b (cutB ((xs, ts) : BT KV (r + 1)) i)] h' →
      wp Try.prog (.ite fd (.done (.exit 1001) [.c (.ptr (some (b, 0))), .c (.sl (some ps) (z.stk b).length cs), .c (.bool fd), .c (.int .i64 (i : Int))]) (.done (.exit 1) [.c (.ptr (some (b, 0))), .c (.sl (some ps) (z.stk b).length cs)])) Q h')
    (hno : ∀ h', St h0 G0 [K (z.all ((xs, ts) : BT KV (r + 1))), Ow a0 (mapC ls iso ctr (some (b0, 0)) (z.all ((xs, ts) : BT KV (r + 1))).length dg (2 * dg + 1) false false) 0, Ow (nv, 0) (L.cells pv) 0, HtC (some nh), Ow ps (LFr.flat (z.stk b)) ((cs - (z.stk b).length) * LFr.sz), ZsC iso z (flatB (r + 1) ((xs, ts) : BT KV (r + 1))).length, ZrC iso z b, TrC L iso (r + 1) b ((xs, ts) : BT KV (r + 1))] h' →
      wp Try.prog ((.ite (fd) (.nonnil (some (b, 0)) fun p168 => .load (p168.fst, p168.snd + 2) (.sl) fun s169 => .nonnil (s169.fst) fun p170 => .guard (((0 : Int) ≤ (i : Int)) ∧ (((i : Int) : Int) < (↑s169.snd.fst : Int))) <| .load (p170.fst, p170.snd + mulN (Int.toNat (i : Int)) 2) (.int .i64) fun i171 => .load (p170.fst, p170.snd + mulN (Int.toNat (i : Int)) 2 + 1) (.int .i64) fun i172 => .callv (f) [.agg [.int .i64 (i171), .int .i64 (i172)]] false [.c (.bool)] fun r173 => .ite (r173.fst) (.nonnil ((some la)) fun p174 => .load p174 (.raw) fun v175 => .load (p174.fst, p174.snd + 1) (.int .i64) fun i176 => .load (p174.fst, p174.snd + 2) (.int .i64) fun i177 => .load (p174.fst, p174.snd + 3) (.sl) fun s178 => .store (n3, 0) (.raw (v175)) <| .store (n3, 1) (.int .i64 (i176)) <| .store (n3, 2) (.int .i64 (i177)) <| .store (n3, 3) (.sl (s178.fst) (s178.snd.fst) (s178.snd.snd)) <| .load (n3, 0) (.raw) fun v179 => .load (n3, 1) (.int .i64) fun i180 => .load (n3, 2) (.int .i64) fun i181 => .load (n3, 3) (.sl) fun s182 => .done .ret [.agg [.raw (v179), .int .i64 (i180), .int .i64 (i181), .sl (s182.fst) (s182.snd.fst) (s182.snd.snd)]]) (.nonnil (some (b, 0)) fun p183 => .load (p183.fst, p183.snd + 2) (.sl) fun s184 => .nonnil (s184.fst) fun p185 => .guard (((0 : Int) ≤ (i : Int)) ∧ (((i : Int) : Int) < (↑s184.snd.fst : Int))) <| .load (p185.fst, p185.snd + mulN (Int.toNat (i : Int)) 2) (.int .i64) fun i186 => .load (p185.fst, p185.snd + mulN (Int.toNat (i : Int)) 2 + 1) (.int .i64) fun i187 => .store ((nv, 0) : PA) (.int .i64 (i186)) <| .store (((nv, 0) : PA).fst, ((nv, 0) : PA).snd + 1) (.int .i64 (i187)) <| .bind none (.ite (ext) (.nonnil (some (b, 0)) fun p188 => .load (p188.fst, p188.snd + 2) (.sl) fun s189 => .nonnil (s189.fst) fun p190 => .guard (((0 : Int) ≤ (i : Int)) ∧ (((i : Int) : Int) < (↑s189.snd.fst : Int))) <| .load (p190.fst, p190.snd + mulN (Int.toNat (i : Int)) 2) (.int .i64) fun i191 => .load (p190.fst, p190.snd + mulN (Int.toNat (i : Int)) 2 + 1) (.int .i64) fun i192 => .call fn_lg_append [.c (.ptr ((some la))), .agg [.int .i64 (i191), .int .i64 (i192)], .c (.ptr none)] true [] fun r193 => .done .normal []) (.done .normal [])) [] fun x194 => .load (n0, 0) (.ptr) fun q195 => .nonnil (some (b, 0)) fun p196 => .load (p196.fst, p196.snd + 2) (.sl) fun s197 => .nonnil (s197.fst) fun p198 => .guard (((0 : Int) ≤ (i : Int)) ∧ (((i : Int) : Int) < (↑s197.snd.fst : Int))) <| .load (p198.fst, p198.snd + mulN (Int.toNat (i : Int)) 2) (.int .i64) fun i199 => .load (p198.fst, p198.snd + mulN (Int.toNat (i : Int)) 2 + 1) (.int .i64) fun i200 => .call fn_tg_deleteHint [.c (.ptr (q195)), .agg [.int .i64 (i199), .int .i64 (i200)], .c (.addr nh)] true [.agg [.int .i64, .int .i64], .c (.bool)] fun r201 => .guard (((0 : Int) ≤ 0) ∧ ((0 : Int) ≤ (↑cs : Int))) <| .done (.exit 1000) [.c (.sl (slBase (some ps) cs 0 2) (0) (cs - 0)), .c (.addr ((nv, 0) : PA)), .c (.addr nh), .c (.raw (f)), .c (.ptr ((some la))), .c (.bool (ext))])) (.load (n0, 0) (.ptr) fun q202 => .nonnil (some (b, 0)) fun p203 => .load (p203.fst, p203.snd + 3) (.ptr) fun q204 => .nonnil (q204) fun p205 => .load p205 (.sl) fun s206 => .nonnil (s206.fst) fun p207 => .guard (((0 : Int) ≤ (i : Int)) ∧ (((i : Int) : Int) < (↑s206.snd.fst : Int))) <| .call fn_tg_isoLoad [.c (.ptr (q202)), .c (.addr (p207.fst, p207.snd + Int.toNat (i : Int))), .c (.tt)] false [.c (.ptr)] fun r208 => .alloc ty_btree_stackItem_pub_greenwood_impl_Item_110 [.ptr (r208.fst), .int .i64 ((i : Int))] fun n209 => .append ty_btree_stackItem_pub_greenwood_impl_Item_110 2 16 [.ptr none, .int .i64 (0)] (((some ps)), (z.stk b).length, cs) ((some (n209, 0)), 1, 1) fun s210 => .done (.exit 1) [.c (.ptr (r208.fst)), .c (.sl (s210.fst) (s210.snd.fst) (s210.snd.snd))]))) Q h') :
    wp Try.prog ((.bind none (.nonnil (some (b, 0)) fun p57 => .load (p57.fst, p57.snd + 2) (.sl) fun s58 => .guard (InK IntKind.i64 ((↑s58.snd.fst : Int) - 1)) <| .ite (decide ((i : Int) < (↑s58.snd.fst : Int) - 1)) (.nonnil (some (b, 0)) fun p59 => .load (p59.fst, p59.snd + 2) (.sl) fun s60 => .load (n0, 0) (.ptr) fun q61 => .nonnil (q61) fun p62 => .load (p62.fst, p62.snd + 10) (.int .i64) fun i63 => .ite (decide ((↑s60.snd.fst : Int) > i63)) (.load (n0, 0) (.ptr) fun q64 => .nonnil (q64) fun p65 => .load (p65.fst, p65.snd + 6) (.raw) fun v66 => .nonnil (some (b, 0)) fun p67 => .load (p67.fst, p67.snd + 2) (.sl) fun s68 => .guard (InK IntKind.i64 ((i : Int) + 1)) <| .nonnil (s68.fst) fun p69 => .guard (((0 : Int) ≤ (i : Int) + 1) ∧ (((i : Int) + 1 : Int) < (↑s68.snd.fst : Int))) <| .load (p69.fst, p69.snd + mulN ((i : Int) + 1).toNat 2) (.int .i64) fun i70 => .load (p69.fst, p69.snd + mulN ((i : Int) + 1).toNat 2 + 1) (.int .i64) fun i71 => .load (n2, 0) (.int .i64) fun i72 => .load (n2, 1) (.int .i64) fun i73 => .callv (v66) [.agg [.int .i64 (i70), .int .i64 (i71)], .agg [.int .i64 (i72), .int .i64 (i73)]] false [.c (.bool)] fun r74 => .done .normal [.c (.bool (r74.fst))]) (.nonnil (some (b, 0)) fun p75 => .load (p75.fst, p75.snd + 2) (.sl) fun s76 => .ite (decide ((↑s76.snd.fst : Int) > 1)) (.ite ((↑(z.stk b).length : Int) == 1) (.load (n0, 0) (.ptr) fun q77 => .nonnil (q77) fun p78 => .load (p78.fst, p78.snd + 6) (.raw) fun v79 => .nonnil (some (b, 0)) fun p80 => .load (p80.fst, p80.snd + 2) (.sl) fun s81 => .guard (InK IntKind.i64 ((i : Int) + 1)) <| .nonnil (s81.fst) fun p82 => .guard (((0 : Int) ≤ (i : Int) + 1) ∧ (((i : Int) + 1 : Int) < (↑s81.snd.fst : Int))) <| .load (p82.fst, p82.snd + mulN ((i : Int) + 1).toNat 2) (.int .i64) fun i83 => .load (p82.fst, p82.snd + mulN ((i : Int) + 1).toNat 2 + 1) (.int .i64) fun i84 => .load (n2, 0) (.int .i64) fun i85 => .load (n2, 1) (.int .i64) fun i86 => .callv (v79) [.agg [.int .i64 (i83), .int .i64 (i84)], .agg [.int .i64 (i85), .int .i64 (i86)]] false [.c (.bool)] fun r87 => .done .normal [.c (.bool (r87.fst))]) (.done .normal [.c (.ff)])) (.done .normal [.c (.ff)]))) (.done .normal [.c (.ff)])) [.c (.bool)] fun x88 => .ite (x88.fst) (.nonnil (some (b, 0)) fun p89 => .load (p89.fst, p89.snd + 2) (.sl) fun s90 => .nonnil (s90.fst) fun p91 => .guard (((0 : Int) ≤ (i : Int)) ∧ (((i : Int) : Int) < (↑s90.snd.fst : Int))) <| .load (p91.fst, p91.snd + mulN (Int.toNat (i : Int)) 2) (.int .i64) fun i92 => .load (p91.fst, p91.snd + mulN (Int.toNat (i : Int)) 2 + 1) (.int .i64) fun i93 => .alloc ty_impl_Item [.int .i64 (0), .int .i64 (0)] fun n94 => .store (n94, 0) (.int .i64 (i92)) <| .store (n94, 1) (.int .i64 (i93)) <| .nonnil (some (b, 0)) fun p95 => .load (p95.fst, p95.snd + 2) (.sl) fun s96 => .guard (((0 : Int) ≤ (i : Int)) ∧ (((i : Int) : Int) ≤ (↑s96.snd.fst : Int))) <| .nonnil (some (b, 0)) fun p97 => .load (p97.fst, p97.snd + 2) (.sl) fun s98 => .guard (InK IntKind.i64 ((i : Int) + 1)) <| .guard (((0 : Int) ≤ (i : Int) + 1) ∧ (((i : Int) + 1 : Int) ≤ (↑s98.snd.fst : Int))) <| .copy 2 ((slBase s96.fst s96.snd.snd (Int.toNat (i : Int)) 2), s96.snd.fst - Int.toNat (i : Int), s96.snd.snd - Int.toNat (i : Int)) ((slBase s98.fst s98.snd.snd ((i : Int) + 1).toNat 2), s98.snd.fst - ((i : Int) + 1).toNat, s98.snd.snd - ((i : Int) + 1).toNat) fun m99 => .nonnil (some (b, 0)) fun p100 => .load (p100.fst, p100.snd + 2) (.sl) fun s101 => .nonnil (some (b, 0)) fun p102 => .load (p102.fst, p102.snd + 2) (.sl) fun s103 => .guard (InK IntKind.i64 ((↑s103.snd.fst : Int) - 1)) <| .load (n0, 0) (.ptr) fun q104 => .nonnil (q104) fun p105 => .load (p105.fst, p105.snd + 7) (.int .i64) fun i106 => .load (p105.fst, p105.snd + 8) (.int .i64) fun i107 => .nonnil (s101.fst) fun p108 => .guard (((0 : Int) ≤ (↑s103.snd.fst : Int) - 1) ∧ (((↑s103.snd.fst : Int) - 1 : Int) < (↑s101.snd.fst : Int))) <| .store (p108.fst, p108.snd + mulN ((↑s103.snd.fst : Int) - 1).toNat 2) (.int .i64 (i106)) <| .store (p108.fst, p108.snd + mulN ((↑s103.snd.fst : Int) - 1).toNat 2 + 1) (.int .i64 (i107)) <| .nonnil (some (b, 0)) fun p109 => .load (p109.fst, p109.snd + 2) (.sl) fun s110 => .nonnil (some (b, 0)) fun p111 => .load (p111.fst, p111.snd + 2) (.sl) fun s112 => .guard (InK IntKind.i64 ((↑s112.snd.fst : Int) - 1)) <| .guard (((0 : Int) ≤ (↑s112.snd.fst : Int) - 1) ∧ (((↑s112.snd.fst : Int) - 1 : Int) ≤ (↑s110.snd.snd : Int))) <| .nonnil (some (b, 0)) fun p113 => .store (p113.fst, p113.snd + 2) (.sl (slBase s110.fst s110.snd.snd 0 2) (((↑s112.snd.fst : Int) - 1).toNat - 0) (s110.snd.snd - 0)) <| .nonnil (some (b, 0)) fun p114 => .load (p114.fst, p114.snd + 3) (.ptr) fun q115 => .nonnil (q115) fun p116 => .load p116 (.sl) fun s117 => .guard (InK IntKind.i64 ((i : Int) + 1)) <| .nonnil (s117.fst) fun p118 => .guard (((0 : Int) ≤ (i : Int) + 1) ∧ (((i : Int) + 1 : Int) < (↑s117.snd.fst : Int))) <| .load (p118.fst, p118.snd + ((i : Int) + 1).toNat) (.ptr) fun q119 => .nonnil (some (b, 0)) fun p120 => .load (p120.fst, p120.snd + 3) (.ptr) fun q121 => .nonnil (q121) fun p122 => .load p122 (.sl) fun s123 => .guard (InK IntKind.i64 ((i : Int) + 1)) <| .guard (((0 : Int) ≤ (i : Int) + 1) ∧ (((i : Int) + 1 : Int) ≤ (↑s123.snd.fst : Int))) <| .nonnil (some (b, 0)) fun p124 => .load (p124.fst, p124.snd + 3) (.ptr) fun q125 => .nonnil (q125) fun p126 => .load p126 (.sl) fun s127 => .guard (InK IntKind.i64 ((i : Int) + 2)) <| .guard (((0 : Int) ≤ (i : Int) + 2) ∧ (((i : Int) + 2 : Int) ≤ (↑s127.snd.fst : Int))) <| .copy 1 ((slBase s123.fst s123.snd.snd ((i : Int) + 1).toNat 1), s123.snd.fst - ((i : Int) + 1).toNat, s123.snd.snd - ((i : Int) + 1).toNat) ((slBase s127.fst s127.snd.snd ((i : Int) + 2).toNat 1), s127.snd.fst - ((i : Int) + 2).toNat, s127.snd.snd - ((i : Int) + 2).toNat) fun m128 => .nonnil (some (b, 0)) fun p129 => .load (p129.fst, p129.snd + 3) (.ptr) fun q130 => .nonnil (q130) fun p131 => .load p131 (.sl) fun s132 => .nonnil (some (b, 0)) fun p133 => .load (p133.fst, p133.snd + 3) (.ptr) fun q134 => .nonnil (q134) fun p135 => .load p135 (.sl) fun s136 => .guard (InK IntKind.i64 ((↑s136.snd.fst : Int) - 1)) <| .nonnil (s132.fst) fun p137 => .guard (((0 : Int) ≤ (↑s136.snd.fst : Int) - 1) ∧ (((↑s136.snd.fst : Int) - 1 : Int) < (↑s132.snd.fst : Int))) <| .store (p137.fst, p137.snd + ((↑s136.snd.fst : Int) - 1).toNat) (.ptr none) <| .nonnil (some (b, 0)) fun p138 => .load (p138.fst, p138.snd + 3) (.ptr) fun q139 => .nonnil (some (b, 0)) fun p140 => .load (p140.fst, p140.snd + 3) (.ptr) fun q141 => .nonnil (q141) fun p142 => .load p142 (.sl) fun s143 => .nonnil (some (b, 0)) fun p144 => .load (p144.fst, p144.snd + 3) (.ptr) fun q145 => .nonnil (q145) fun p146 => .load p146 (.sl) fun s147 => .guard (InK IntKind.i64 ((↑s147.snd.fst : Int) - 1)) <| .guard (((0 : Int) ≤ (↑s147.snd.fst : Int) - 1) ∧ (((↑s147.snd.fst : Int) - 1 : Int) ≤ (↑s143.snd.snd : Int))) <| .nonnil (q139) fun p148 => .store p148 (.sl (slBase s143.fst s143.snd.snd 0 1) (((↑s147.snd.fst : Int) - 1).toNat - 0) (s143.snd.snd - 0)) <| .bind (some 2) (.loop [.c (.int .i64)] [.c (.int .i64 (0))] fun y149 => .ite (decide (y149.fst < (↑(z.stk b).length : Int))) (.nonnil ((some ps)) fun p150 => .guard (((0 : Int) ≤ y149.fst) ∧ ((y149.fst : Int) < (↑(z.stk b).length : Int))) <| .load (p150.fst, p150.snd + mulN (Int.toNat y149.fst) 2) (.ptr) fun q151 => .nonnil (q151) fun p152 => .load (p152.fst, p152.snd + 1) (.int .i64) fun i153 => .nonnil (q119) fun p154 => .load (p154.fst, p154.snd + 1) (.int .i64) fun i155 => .guard (InK IntKind.i64 (i155 + 1)) <| .guard (InK IntKind.i64 (i153 - (i155 + 1))) <| .nonnil (q151) fun p156 => .store (p156.fst, p156.snd + 1) (.int .i64 (i153 - (i155 + 1))) <| .guard (InK IntKind.i64 (y149.fst + 1)) <| .done .normal [.c (.int .i64 (y149.fst + 1))]) (.done (.exit 2) [])) [] fun x157 => .load (n0, 0) (.ptr) fun q158 => .nonnil (q158) fun p159 => .load (p159.fst, p159.snd + 3) (.int .i64) fun i160 => .nonnil (q119) fun p161 => .load (p161.fst, p161.snd + 1) (.int .i64) fun i162 => .guard (InK IntKind.i64 (i162 + 1)) <| .guard (InK IntKind.i64 (i160 - (i162 + 1))) <| .nonnil (q158) fun p163 => .store (p163.fst, p163.snd + 3) (.int .i64 (i160 - (i162 + 1))) <| .bind none (.ite (ext) (.load (n94, 0) (.int .i64) fun i164 => .load (n94, 1) (.int .i64) fun i165 => .call fn_lg_append [.c (.ptr ((some la))), .agg [.int .i64 (i164), .int .i64 (i165)], .c (.ptr (q119))] true [] fun r166 => .done .normal []) (.done .normal [])) [] fun x167 => .ite (fd) (.done (.exit 1001) [.c (.ptr (some (b, 0))), .c (.sl ((some ps)) ((z.stk b).length) (cs)), .c (.bool (fd)), .c (.int .i64 ((i : Int)))]) (.done (.exit 1) [.c (.ptr (some (b, 0))), .c (.sl ((some ps)) ((z.stk b).length) (cs))])) (.ite (fd) (.nonnil (some (b, 0)) fun p168 => .load (p168.fst, p168.snd + 2) (.sl) fun s169 => .nonnil (s169.fst) fun p170 => .guard (((0 : Int) ≤ (i : Int)) ∧ (((i : Int) : Int) < (↑s169.snd.fst : Int))) <| .load (p170.fst, p170.snd + mulN (Int.toNat (i : Int)) 2) (.int .i64) fun i171 => .load (p170.fst, p170.snd + mulN (Int.toNat (i : Int)) 2 + 1) (.int .i64) fun i172 => .callv (f) [.agg [.int .i64 (i171), .int .i64 (i172)]] false [.c (.bool)] fun r173 => .ite (r173.fst) (.nonnil ((some la)) fun p174 => .load p174 (.raw) fun v175 => .load (p174.fst, p174.snd + 1) (.int .i64) fun i176 => .load (p174.fst, p174.snd + 2) (.int .i64) fun i177 => .load (p174.fst, p174.snd + 3) (.sl) fun s178 => .store (n3, 0) (.raw (v175)) <| .store (n3, 1) (.int .i64 (i176)) <| .store (n3, 2) (.int .i64 (i177)) <| .store (n3, 3) (.sl (s178.fst) (s178.snd.fst) (s178.snd.snd)) <| .load (n3, 0) (.raw) fun v179 => .load (n3, 1) (.int .i64) fun i180 => .load (n3, 2) (.int .i64) fun i181 => .load (n3, 3) (.sl) fun s182 => .done .ret [.agg [.raw (v179), .int .i64 (i180), .int .i64 (i181), .sl (s182.fst) (s182.snd.fst) (s182.snd.snd)]]) (.nonnil (some (b, 0)) fun p183 => .load (p183.fst, p183.snd + 2) (.sl) fun s184 => .nonnil (s184.fst) fun p185 => .guard (((0 : Int) ≤ (i : Int)) ∧ (((i : Int) : Int) < (↑s184.snd.fst : Int))) <| .load (p185.fst, p185.snd + mulN (Int.toNat (i : Int)) 2) (.int .i64) fun i186 => .load (p185.fst, p185.snd + mulN (Int.toNat (i : Int)) 2 + 1) (.int .i64) fun i187 => .store ((nv, 0) : PA) (.int .i64 (i186)) <| .store (((nv, 0) : PA).fst, ((nv, 0) : PA).snd + 1) (.int .i64 (i187)) <| .bind none (.ite (ext) (.nonnil (some (b, 0)) fun p188 => .load (p188.fst, p188.snd + 2) (.sl) fun s189 => .nonnil (s189.fst) fun p190 => .guard (((0 : Int) ≤ (i : Int)) ∧ (((i : Int) : Int) < (↑s189.snd.fst : Int))) <| .load (p190.fst, p190.snd + mulN (Int.toNat (i : Int)) 2) (.int .i64) fun i191 => .load (p190.fst, p190.snd + mulN (Int.toNat (i : Int)) 2 + 1) (.int .i64) fun i192 => .call fn_lg_append [.c (.ptr ((some la))), .agg [.int .i64 (i191), .int .i64 (i192)], .c (.ptr none)] true [] fun r193 => .done .normal []) (.done .normal [])) [] fun x194 => .load (n0, 0) (.ptr) fun q195 => .nonnil (some (b, 0)) fun p196 => .load (p196.fst, p196.snd + 2) (.sl) fun s197 => .nonnil (s197.fst) fun p198 => .guard (((0 : Int) ≤ (i : Int)) ∧ (((i : Int) : Int) < (↑s197.snd.fst : Int))) <| .load (p198.fst, p198.snd + mulN (Int.toNat (i : Int)) 2) (.int .i64) fun i199 => .load (p198.fst, p198.snd + mulN (Int.toNat (i : Int)) 2 + 1) (.int .i64) fun i200 => .call fn_tg_deleteHint [.c (.ptr (q195)), .agg [.int .i64 (i199), .int .i64 (i200)], .c (.addr nh)] true [.agg [.int .i64, .int .i64], .c (.bool)] fun r201 => .guard (((0 : Int) ≤ 0) ∧ ((0 : Int) ≤ (↑cs : Int))) <| .done (.exit 1000) [.c (.sl (slBase (some ps) cs 0 2) (0) (cs - 0)), .c (.addr ((nv, 0) : PA)), .c (.addr nh), .c (.raw (f)), .c (.ptr ((some la))), .c (.bool (ext))])) (.load (n0, 0) (.ptr) fun q202 => .nonnil (some (b, 0)) fun p203 => .load (p203.fst, p203.snd + 3) (.ptr) fun q204 => .nonnil (q204) fun p205 => .load p205 (.sl) fun s206 => .nonnil (s206.fst) fun p207 => .guard (((0 : Int) ≤ (i : Int)) ∧ (((i : Int) : Int) < (↑s206.snd.fst : Int))) <| .call fn_tg_isoLoad [.c (.ptr (q202)), .c (.addr (p207.fst, p207.snd + Int.toNat (i : Int))), .c (.tt)] false [.c (.ptr)] fun r208 => .alloc ty_btree_stackItem_pub_greenwood_impl_Item_110 [.ptr (r208.fst), .int .i64 ((i : Int))] fun n209 => .append ty_btree_stackItem_pub_greenwood_impl_Item_110 2 16 [.ptr none, .int .i64 (0)] (((some ps)), (z.stk b).length, cs) ((some (n209, 0)), 1, 1) fun s210 => .done (.exit 1) [.c (.ptr (r208.fst)), .c (.sl (s210.fst) (s210.snd.fst) (s210.snd.snd))])))) Q h := by
  have h1 := hl.one
  have hbig := hl.big
  have hrl := hl.rnd
  have htop := lu.top
  have hsl := z.len b
  have hxl : xs.length ≤ 2 * dg + 1 := lu.val.1
  have hl2 : ts.length = xs.length + 1 := lu.val.2.1
  have hone : 1 ≤ xs.length := lu.one
  have hmn : z.tp = false → dg ≤ xs.length := lu.mn
  rw [z.all_len] at htop
  obtain ⟨p, c, kp, hc, hkp, S⟩ := open_nd L iso (S.at (.tr b))
  have hc : xs.length ≤ c := hc
  obtain ⟨hb, q, d, ks, rfl, hd, hkl, S⟩ := open_kids L iso (S.at (.kd kp))
  have hkl : ks.length = ts.length := hkl
  have S : St h0 G0 (Ow (hb, 0) (hdC (some q, ks.length, d)) 0 :: Ow q (LK.flat (ks.map some)) ((d - ks.length) * LK.sz) :: FoC L iso r ks ts :: Ow (b, 0) (nodeC iso (flatB (r + 1) ((xs, ts) : BT KV (r + 1))).length (some p, xs.length, c) (some (hb, 0))) 0 :: Ow p (L.flat xs) ((c - xs.length) * L.sz) :: _) _ := S
  have S := S.ats [.ck (K (z.all ((xs, ts) : BT KV (r + 1)))), .ow a0, .ow (nv, 0), .ck (HtC (some nh)), .ow ps, .kd none, .fo [], .ow (b, 0), .ow p, .ow (hb, 0), .ow q, .fo ks]
  have hbz : (z.stk b).length = 1 → z.tp = true := fun h => by
    cases z with
    | top => rfl
    | dn z x =>
      have hgs : Zp.stk (.dn z x) b = z.stk x.b ++ [(b, (x.A.length : Int))] := rfl
      obtain ⟨c, gs, hc⟩ := z.last x.b
      rw [hgs, hc] at h
      simp at h
  refine w_mid' none (fun x h' => ∃ bb : Bool, x = (bb, ()) ∧ (bb = true → i + 1 < xs.length ∧ (z.tp = false → dg ≤ xs.length - 1) ∧ ∃ y, xs[i + 1]? = some y ∧ ltO o y mk = true) ∧
    St h0 G0 [K (z.all ((xs, ts) : BT KV (r + 1))), Ow a0 (mapC ls iso ctr (some (b0, 0)) (z.all ((xs, ts) : BT KV (r + 1))).length dg (2 * dg + 1) false false) 0, Ow (nv, 0) (L.cells pv) 0, HtC (some nh), Ow ps (LFr.flat (z.stk b)) ((cs - (z.stk b).length) * LFr.sz), ZsC iso z (flatB (r + 1) ((xs, ts) : BT KV (r + 1))).length, ZrC iso z b, Ow (b, 0) (nodeC iso (flatB (r + 1) ((xs, ts) : BT KV (r + 1))).length (some p, xs.length, c) (some (hb, 0))) 0, Ow p (L.flat xs) ((c - xs.length) * L.sz), Ow (hb, 0) (hdC (some q, ks.length, d)) 0, Ow q (LK.flat (ks.map some)) ((d - ks.length) * LK.sz), FoC L iso r ks ts] h') ?_ ?_
  · refine w_nonnil (ld_sls S rfl (w_guard (inK64 (by (first | omega | ((try dsimp only [Sh.T, Sh1.T]); omega))) (by (first | omega | ((try dsimp only [Sh.T, Sh1.T]); omega)))) ?_))
    by_cases hi1 : i + 1 < xs.length
    case neg => exact w_false (decide_eq_false (by (first | omega | ((try dsimp only [Sh.T, Sh1.T]); omega)))) (md_n rfl ⟨false, rfl, (fun h => by cases h), S⟩)
    have hx1 := List.getElem?_eq_getElem hi1
    have e1 : ((i : Int) + 1).toNat = i + 1 := by omega
    refine w_true (decide_eq_true (by (first | omega | ((try dsimp only [Sh.T, Sh1.T]); omega)))) (w_nonnil (ld_sls S rfl (w_ptr (some a0) (hn0.now S).rd (w_nonnil (ld_int S rfl ?_)))))
    by_cases hgt : dg < xs.length
    · refine w_true (decide_eq_true (by (first | omega | ((try dsimp only [Sh.T, Sh1.T]); omega)))) (w_ptr (some a0) (hn0.now S).rd (w_nonnil (w_less hls (S.rd rfl) (w_nonnil (ld_sls S rfl (w_guard (inK64 (by (first | omega | ((try dsimp only [Sh.T, Sh1.T]); omega))) (by (first | omega | ((try dsimp only [Sh.T, Sh1.T]); omega)))) (w_nonnil (w_guard ⟨by (first | omega | ((try dsimp only [Sh.T, Sh1.T]); omega)), by (first | omega | ((try dsimp only [Sh.T, Sh1.T]); omega))⟩ ?_))))))))
      try dsimp only
      try rw [e1]
      refine ld_it S hx1 (w_int _ (h2a.now S).rd (w_int _ (h2b.now S).rd ?_))
      exact st_less S hls (hoc.now S).ex xs[i + 1] mk fun _ S => md_n rfl ⟨_, rfl, fun hb => ⟨hi1, fun _ => by omega, _, hx1, hb⟩, S⟩
    · refine w_false (decide_eq_false (by (first | omega | ((try dsimp only [Sh.T, Sh1.T]); omega)))) (w_nonnil (ld_sls S rfl ?_))
      refine w_true (decide_eq_true (by (first | omega | ((try dsimp only [Sh.T, Sh1.T]); omega)))) ?_
      by_cases hs1 : (z.stk b).length = 1
      · refine w_true (beq_t (by (first | omega | ((try dsimp only [Sh.T, Sh1.T]); omega)))) (w_ptr (some a0) (hn0.now S).rd (w_nonnil (w_less hls (S.rd rfl) (w_nonnil (ld_sls S rfl (w_guard (inK64 (by (first | omega | ((try dsimp only [Sh.T, Sh1.T]); omega))) (by (first | omega | ((try dsimp only [Sh.T, Sh1.T]); omega)))) (w_nonnil (w_guard ⟨by (first | omega | ((try dsimp only [Sh.T, Sh1.T]); omega)), by (first | omega | ((try dsimp only [Sh.T, Sh1.T]); omega))⟩ ?_))))))))
        try dsimp only
        try rw [e1]
        refine ld_it S hx1 (w_int _ (h2a.now S).rd (w_int _ (h2b.now S).rd ?_))
        exact st_less S hls (hoc.now S).ex xs[i + 1] mk fun _ S => md_n rfl ⟨_, rfl, fun hb => ⟨hi1, (fun h => by rw [hbz hs1] at h; cases h), _, hx1, hb⟩, S⟩
      · exact w_false (beq_f (by (first | omega | ((try dsimp only [Sh.T, Sh1.T]); omega)))) (md_n rfl ⟨false, rfl, (fun h => by cases h), S⟩)
  clear S
  rintro _ h2 ⟨bb, rfl, hbb, S⟩
  cases bb with
  | false =>
    have S := shut_node L iso (xs := xs) (ts := ts) (S.ats [.ow (b, 0), .ow p, .ow (hb, 0), .ow q, .fo ks]) rfl rfl rfl (LK_flat ks) rfl rfl rfl hc rfl hd (Nat.mul_one _)
    exact w_false rfl (hno _ (S.ats [.ck (K (z.all ((xs, ts) : BT KV (r + 1)))), .ow a0, .ow (nv, 0), .ck (HtC (some nh)), .ow ps, .kd none, .fo [], .tr b]))
  | true =>
  obtain ⟨hi1, hdg, y, hy, hym⟩ := hbb rfl
  have hx := List.getElem?_eq_getElem (show i < xs.length by omega)
  obtain ⟨v, hv⟩ : ∃ v, ts[i + 1]? = some v := ⟨_, List.getElem?_eq_getElem (by omega)⟩
  obtain ⟨P, hP1, hP2, hP3, hP4⟩ := cut_flat (u := ((xs, ts) : BT KV (r + 1))) hl2 hx hv
  dsimp only at hP1 hP2 hP3 hP4
  obtain ⟨T, hT⟩ : ∃ T, T = post (xs.drop (i + 1)) ((ts.map (flatB r)).drop (i + 1 + 1)) := ⟨_, rfl⟩
  rw [← hT] at hP1 hP2
  have hcnt : (flatB (r + 1) (cutB ((xs, ts) : BT KV (r + 1)) i)).length + ((flatB r v).length + 1) = (flatB (r + 1) ((xs, ts) : BT KV (r + 1))).length := by
    rw [hP1, hP2]; simp; omega
  have hperm := z.sub_all (u := ((xs, ts) : BT KV (r + 1))) (v := cutB ((xs, ts) : BT KV (r + 1)) i) hP1 hP2
  have hall1 := z.all_len ((xs, ts) : BT KV (r + 1))
  have hall2 := z.all_len (cutB ((xs, ts) : BT KV (r + 1)) i)
  have lu' : Lu o b0 dg rnd z b (cutB ((xs, ts) : BT KV (r + 1)) i) := by
    have hxe : (xs.eraseIdx i).length = xs.length - 1 := by rw [List.length_eraseIdx]; split <;> omega
    have hte : (ts.eraseIdx (i + 1)).length = ts.length - 1 := by rw [List.length_eraseIdx]; split <;> omega
    have hsub : (z.all (cutB ((xs, ts) : BT KV (r + 1)) i)).Sublist (z.all ((xs, ts) : BT KV (r + 1))) := by
      unfold Zp.all
      rw [hP1, hP2]
      refine List.Sublist.append (List.Sublist.refl _) (List.Sublist.append (List.Sublist.append (List.Sublist.refl _) ?_) (List.Sublist.refl _))
      exact List.sublist_append_right _ _
    refine ⟨lu.ok, ⟨?_, ?_, fun k hk => lu.val.2.2 k (List.mem_of_mem_eraseIdx (show k ∈ ts.eraseIdx (i + 1) from hk))⟩, fun h => ?_, ?_, lu.srt.sublist hsub, Nat.le_trans hsub.length_le lu.top⟩
    · show (xs.eraseIdx i).length ≤ 2 * dg + 1
      omega
    · show (ts.eraseIdx (i + 1)).length = (xs.eraseIdx i).length + 1
      omega
    · show dg ≤ (xs.eraseIdx i).length
      have := hdg h
      omega
    · show 1 ≤ (xs.eraseIdx i).length
      omega
  obtain ⟨k1, hk, S⟩ := fo_at L iso hkl hv (S.at (.fo ks))
  have hk0 : (LK.flat (ks.map some))[i + 1]? = some (kptr k1) := LK_get (ys := ks.map some) (y := some k1) (by rw [List.getElem?_map, hk]; rfl)
  have e1 : ((i : Int) + 1).toNat = i + 1 := by omega
  have e2 : ((i : Int) + 2).toNat = i + 1 + 1 := by omega
  refine w_true rfl (w_nonnil (ld_sls S rfl (w_nonnil (w_guard ⟨by (first | omega | ((try dsimp only [Sh.T, Sh1.T]); omega)), by (first | omega | ((try dsimp only [Sh.T, Sh1.T]); omega))⟩ ?_))))
  try dsimp only
  try rw [Int.toNat_natCast]
  refine ld_it S hx (st_alloc S fun n94 _ S => ?_)
  refine st_store S (lt_ble rfl) fun _ S => ?_
  refine st_store S (lt_ble rfl) fun _ S => ?_
  refine w_nonnil (ld_sls S rfl (w_guard ⟨by (first | omega | ((try dsimp only [Sh.T, Sh1.T]); omega)), by (first | omega | ((try dsimp only [Sh.T, Sh1.T]); omega))⟩ (w_nonnil (ld_sls S rfl (w_guard (inK64 (by (first | omega | ((try dsimp only [Sh.T, Sh1.T]); omega))) (by (first | omega | ((try dsimp only [Sh.T, Sh1.T]); omega)))) (w_guard ⟨by (first | omega | ((try dsimp only [Sh.T, Sh1.T]); omega)), by (first | omega | ((try dsimp only [Sh.T, Sh1.T]); omega))⟩ ?_))))))
  try dsimp only
  try rw [e1]
  try rw [Int.toNat_natCast]
  refine st_cpdel (L := L) (ys := xs) (n := xs.length) (i := i) S rfl rfl (by omega) hc fun _ zs hzl hzd S => ?_
  have hzd := hzd (0, 0)
  refine w_nonnil (ld_sls S rfl (w_nonnil (ld_sls S rfl (w_guard (inK64 (by (first | omega | ((try dsimp only [Sh.T, Sh1.T]); omega))) (by (first | omega | ((try dsimp only [Sh.T, Sh1.T]); omega)))) (w_ptr (some a0) (hn0.now S).rd (w_nonnil (ld_int S rfl (ld_int S rfl (w_nonnil (w_guard ⟨by (first | omega | ((try dsimp only [Sh.T, Sh1.T]); omega)), by (first | omega | ((try dsimp only [Sh.T, Sh1.T]); omega))⟩ ?_))))))))))
  dsimp only
  rw [toNat_pred]
  refine st_it S (by omega) fun _ S => ?_
  rw [hzd] at S
  refine w_nonnil (ld_sls S rfl (w_nonnil (ld_sls S rfl (w_guard (inK64 (by (first | omega | ((try dsimp only [Sh.T, Sh1.T]); omega))) (by (first | omega | ((try dsimp only [Sh.T, Sh1.T]); omega)))) (w_guard ⟨by (first | omega | ((try dsimp only [Sh.T, Sh1.T]); omega)), by (first | omega | ((try dsimp only [Sh.T, Sh1.T]); omega))⟩ (w_nonnil ?_))))))
  refine st_store S (lt_ble rfl) fun _ S => ?_
  -- the children
  refine w_nonnil (ld_some S rfl (w_nonnil (ld_sls S rfl (w_guard (inK64 (by (first | omega | ((try dsimp only [Sh.T, Sh1.T]); omega))) (by (first | omega | ((try dsimp only [Sh.T, Sh1.T]); omega)))) (w_nonnil (w_guard ⟨by (first | omega | ((try dsimp only [Sh.T, Sh1.T]); omega)), by (first | omega | ((try dsimp only [Sh.T, Sh1.T]); omega))⟩ ?_))))))
  try dsimp only
  try rw [e1]
  refine w_ptr (some (k1, 0)) (S.rd hk0) ?_
  refine w_nonnil (ld_some S rfl (w_nonnil (ld_sls S rfl (w_guard (inK64 (by (first | omega | ((try dsimp only [Sh.T, Sh1.T]); omega))) (by (first | omega | ((try dsimp only [Sh.T, Sh1.T]); omega)))) (w_guard ⟨by (first | omega | ((try dsimp only [Sh.T, Sh1.T]); omega)), by (first | omega | ((try dsimp only [Sh.T, Sh1.T]); omega))⟩ ?_)))))
  refine w_nonnil (ld_some S rfl (w_nonnil (ld_sls S rfl (w_guard (inK64 (by (first | omega | ((try dsimp only [Sh.T, Sh1.T]); omega))) (by (first | omega | ((try dsimp only [Sh.T, Sh1.T]); omega)))) (w_guard ⟨by (first | omega | ((try dsimp only [Sh.T, Sh1.T]); omega)), by (first | omega | ((try dsimp only [Sh.T, Sh1.T]); omega))⟩ ?_)))))
  try dsimp only
  try rw [e2]
  try rw [e1]
  refine st_cpdel (L := LK) (ys := ks.map some) (n := ks.length) (i := i + 1) S rfl (by simp) (by omega) hd fun _ ws hwl hws S => ?_
  have hws := hws none
  repeat (first | refine w_nonnil ?_ | refine ld_it S (by assumption) ?_ | refine ld_int S rfl ?_ | refine w_int _ (S.cnt _) ?_ | refine ld_some S rfl ?_ | refine ld_sls S rfl ?_ | refine st_it S (by first | omega | (dsimp only; omega)) fun _ S => ?_ | refine st_kid S (by first | omega | (dsimp only; omega)) none rfl fun _ S => ?_ | refine st_kid S (by first | omega | (dsimp only; omega)) (some _) rfl fun _ S => ?_ | refine st_store S (lt_ble rfl) fun _ S => ?_ | refine st_alloc S fun _ _ S => ?_ | refine w_guard (by (first | exact inK64 (by omega) (by omega) | omega | (constructor <;> omega) | ((try dsimp only [Sh.T, Sh1.T]); first | exact inK64 (by omega) (by omega) | omega | exact ⟨by decide, inK64 (by omega) (by omega)⟩ | trivial))) ?_ | refine w_true (b := true) rfl ?_ | refine w_false (b := false) rfl ?_ | refine w_guard (show noMeths _ _ by show _ = _; kernel_rfl) ?_ )
  obtain ⟨XE, hXE⟩ : ∃ XE, XE = xs.eraseIdx i := ⟨_, rfl⟩
  obtain ⟨TE, hTE⟩ : ∃ TE, TE = ts.eraseIdx (i + 1) := ⟨_, rfl⟩
  obtain ⟨KE, hKE⟩ : ∃ KE, KE = ks.eraseIdx (i + 1) := ⟨_, rfl⟩
  have hxe : XE.length = xs.length - 1 := by rw [hXE, List.length_eraseIdx]; split <;> omega
  have hke : KE.length = ks.length - 1 := by rw [hKE, List.length_eraseIdx]; split <;> omega
  have hcut : cutB ((xs, ts) : BT KV (r + 1)) i = ((XE, TE) : BT KV (r + 1)) := by rw [hXE, hTE]; rfl
  have hKE2 : ks.take (i + 1) ++ ks.drop (i + 1 + 1) = KE := by rw [hKE, List.eraseIdx_eq_take_drop_succ]
  have hTE2 : ts.take (i + 1) ++ ts.drop (i + 1 + 1) = TE := by rw [hTE, List.eraseIdx_eq_take_drop_succ]
  have hws2 : (ks.map some).eraseIdx (i + 1) = KE.map some := by rw [hKE, List.eraseIdx_eq_take_drop_succ, List.eraseIdx_eq_take_drop_succ, List.map_append, List.map_take, List.map_drop]
  rw [hws2] at hws
  rw [← hXE] at S
  rw [hcut] at hcnt hall2 hperm lu' hbk
  have S := (S.at (.ow (b, 0))).re (b, 0) (nodeC iso (flatB (r + 1) ((xs, ts) : BT KV (r + 1))).length (some p, xs.length - 1, c) (some (hb, 0))) 0 rfl (by simp [nodeC, Cell.val, slBase_zero]) rfl
  have S := ((S.at (.ow p)).re p (L.flat XE ++ L.flat [(0, 0)]) _ rfl (by rw [L.flat_append]) rfl).shrink
  have S := S.re p (L.flat XE) ((c - (xs.length - 1)) * L.sz) rfl rfl (by rw [L.flat_length, ← Nat.add_mul]; congr 1; show 1 + _ = _; omega)
  have S := ((S.at (.ow q)).re q (LK.flat (KE.map some) ++ LK.flat [none]) _ rfl (by rw [← LK.flat_append, ← hws]; congr 2; show ((ks.length : Int) - 1).toNat = ks.length - 1; omega) rfl).shrink
  have S := S.re q (LK.flat (KE.map some)) ((d - (ks.length - 1)) * LK.sz) rfl rfl (by rw [LK.flat_length, ← Nat.add_mul]; congr 1; show 1 + _ = _; omega)
  have S := (S.at (.ow (hb, 0))).re (hb, 0) (hdC (some q, ks.length - 1, d)) 0 rfl (by simp [hdC, Cell.val, slBase_zero]) rfl
  have S := (S.at (.ow (n94, 0))).re (n94, 0) (L.cells xs[i]) 0 rfl rfl rfl
  have S := zp_in (S.ats [.ow (b, 0), .kd none])
  have S := ((S.at (.tr k1)).at (.ow ps)).pull2
  have hvl2 : (flatB r v).length ≤ 4294967296 := by omega
  refine w_mid' (some 2) (fun (_ : SV []) h' => St h0 G0 [K (z.all ((xs, ts) : BT KV (r + 1))), Ow a0 (mapC ls iso ctr (some (b0, 0)) (z.all ((xs, ts) : BT KV (r + 1))).length dg (2 * dg + 1) false false) 0, Ow (nv, 0) (L.cells pv) 0, HtC (some nh), Ow ps (LFr.flat (z.stk b)) ((cs - (z.stk b).length) * LFr.sz), ZsC iso z (flatB (r + 1) ((XE, TE) : BT KV (r + 1))).length, ZrC iso z b, Ow (b, 0) (nodeC iso (flatB (r + 1) ((XE, TE) : BT KV (r + 1))).length (some p, xs.length - 1, c) (some (hb, 0))) 0, Ow p (L.flat XE) ((c - (xs.length - 1)) * L.sz), Ow (hb, 0) (hdC (some q, ks.length - 1, d)) 0, Ow q (LK.flat (KE.map some)) ((d - (ks.length - 1)) * LK.sz),
    FoC L iso r (ks.take (i + 1)) (ts.take (i + 1)), FoC L iso r (ks.drop (i + 1 + 1)) (ts.drop (i + 1 + 1)), TrC L iso r k1 v, Ow (n94, 0) (L.cells xs[i]) 0] h') ?_ ?_
  · refine w_decB (r := r) (v := v) (k := k1) (gs := z.stk b) (fs := z.sp (flatB (r + 1) ((xs, ts) : BT KV (r + 1))).length ++ [(b, (flatB (r + 1) ((xs, ts) : BT KV (r + 1))).length, (some p, xs.length - 1, c), some (hb, 0))]) rfl (by rw [List.map_append]; exact z.ids b _) (fun e he => ?_) (by omega) hvl2 S fun _ S => md_e rfl ?_
    · rcases List.mem_append.1 he with he | he
      · have := z.cnts _ e he
        omega
      · simp only [List.mem_cons, List.not_mem_nil, or_false] at he
        subst he
        dsimp only
        omega
    · rw [List.map_append, z.spd _ _ (by omega)] at S
      have e5 : (flatB (r + 1) ((xs, ts) : BT KV (r + 1))).length - ((flatB r v).length + 1) = (flatB (r + 1) ((XE, TE) : BT KV (r + 1))).length := by omega
      rw [e5] at S
      have S := zp_ou (m := (flatB (r + 1) ((XE, TE) : BT KV (r + 1))).length) (b := b) (cnt := (flatB (r + 1) ((XE, TE) : BT KV (r + 1))).length) (s := (some p, xs.length - 1, c)) (kp := some (hb, 0)) (by rw [← e5] at S ⊢; exact S)
      exact S.ats [.ck (K (z.all ((xs, ts) : BT KV (r + 1)))), .ow a0, .ow (nv, 0), .ck (HtC (some nh)), .ow ps, .kd none, .fo [], .ow (b, 0), .ow p, .ow (hb, 0), .ow q, .fo (ks.take (i + 1)), .fo (ks.drop (i + 1 + 1)), .tr k1, .ow (n94, 0)]
  clear S
  rintro _ _ S
  refine w_ptr (some a0) (hn0.now S).rd (w_nonnil (ld_int S rfl (w_nonnil (w_int _ (S.cnt k1) (w_guard (inK64 (by (first | omega | ((try dsimp only [Sh.T, Sh1.T]); omega))) (by (first | omega | ((try dsimp only [Sh.T, Sh1.T]); omega)))) (w_guard (inK64 (by (first | omega | ((try dsimp only [Sh.T, Sh1.T]); omega))) (by (first | omega | ((try dsimp only [Sh.T, Sh1.T]); omega)))) (w_nonnil (st_store S (lt_ble rfl) fun _ S => ?_))))))))
  have S := (S.at (.ow a0)).re a0 (mapC ls iso ctr (some (b0, 0)) (z.all ((XE, TE) : BT KV (r + 1))).length dg (2 * dg + 1) false false) 0 rfl (by simp [mapC, Cell.val]; omega) rfl
  refine w_mid' none (fun _ h' => St h0 G0 [K (z.all ((XE, TE) : BT KV (r + 1))), Ow a0 (mapC ls iso ctr (some (b0, 0)) (z.all ((XE, TE) : BT KV (r + 1))).length dg (2 * dg + 1) false false) 0, Ow (nv, 0) (L.cells pv) 0, HtC (some nh), Ow ps (LFr.flat (z.stk b)) ((cs - (z.stk b).length) * LFr.sz), ZsC iso z (flatB (r + 1) ((XE, TE) : BT KV (r + 1))).length, ZrC iso z b, Ow (b, 0) (nodeC iso (flatB (r + 1) ((XE, TE) : BT KV (r + 1))).length (some p, xs.length - 1, c) (some (hb, 0))) 0, Ow p (L.flat XE) ((c - (xs.length - 1)) * L.sz), Ow (hb, 0) (hdC (some q, ks.length - 1, d)) 0, Ow q (LK.flat (KE.map some)) ((d - (ks.length - 1)) * LK.sz),
    FoC L iso r (ks.take (i + 1)) (ts.take (i + 1)), FoC L iso r (ks.drop (i + 1 + 1)) (ts.drop (i + 1 + 1))] h') ?_ ?_
  · cases he : ext with
    | false =>
      have S := hap.2 he _ _ _ _ _ (z.all ((XE, TE) : BT KV (r + 1))) (S.at (.ck (K (z.all ((xs, ts) : BT KV (r + 1))))))
      exact w_false rfl (md_n rfl (S.only [.ck (K (z.all ((XE, TE) : BT KV (r + 1)))), .ow a0, .ow (nv, 0), .ck (HtC (some nh)), .ow ps, .kd none, .fo [], .ow (b, 0), .ow p, .ow (hb, 0), .ow q, .fo (ks.take (i + 1)), .fo (ks.drop (i + 1 + 1))]))
    | true =>
      refine w_true rfl (ld_int S rfl (ld_int S rfl ?_))
      refine st_callF S [.ck (K (z.all ((xs, ts) : BT KV (r + 1)))), .tr k1] (fun G' hG' hsub => HT.re (args' := [.c (.addr la), .agg [.int .i64 xs[i].1, .int .i64 xs[i].2], .c (.ptr (ptE (xs[i], some ⟨r, k1, v⟩)))]) rfl <| hap.1 he _ G' (z.all ((xs, ts) : BT KV (r + 1))) (z.all ((XE, TE) : BT KV (r + 1))) (xs[i], some ⟨r, k1, v⟩) hperm (hin _ v hx hv) (fun s hs => by cases hs; exact (lu.val.2.2 v (List.mem_of_getElem? hv)).1) (hoc.step S hsub) hG') ?_
      rintro _ _ _ rfl S
      dsimp only [List.cons_append, List.nil_append] at S
      exact md_n rfl (S.only [.ck (K (z.all ((XE, TE) : BT KV (r + 1)))), .ow a0, .ow (nv, 0), .ck (HtC (some nh)), .ow ps, .kd none, .fo [], .ow (b, 0), .ow p, .ow (hb, 0), .ow q, .fo (ks.take (i + 1)), .fo (ks.drop (i + 1 + 1))])
  clear S
  rintro _ _ S
  have S := fo_app L iso (S.ats [.fo (ks.take (i + 1)), .fo (ks.drop (i + 1 + 1))])
  rw [hKE2, hTE2] at S
  have S := shut_node L iso (xs := XE) (ts := TE) (S.ats [.ow (b, 0), .ow p, .ow (hb, 0), .ow q, .fo KE]) rfl rfl rfl (LK_flat KE) hxe.symm hke.symm rfl (by omega) rfl (by omega) (Nat.mul_one _)
  exact hbk _ y hy hym lu' (S.ats [.ck (K (z.all ((XE, TE) : BT KV (r + 1)))), .ow a0, .ow (nv, 0), .ck (HtC (some nh)), .ow ps, .kd none, .fo [], .tr b])
end
end Go.Proofs.Ytegnpimlfphncaa.TG
