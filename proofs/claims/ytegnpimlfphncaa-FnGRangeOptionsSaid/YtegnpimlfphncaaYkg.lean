/-
  The tree of items: DeleteRange from a node on, the walk. Conditions: none.
-/
import Derived.Test.YtegnpimlfphncaaYke
set_option linter.unusedVariables false
set_option linter.unusedSimpArgs false
set_option linter.unusedSectionVars false
set_option maxRecDepth 100000
namespace Go.Proofs.Ytegnpimlfphncaa.TG
open Go Go.Proofs.Ytegnpimlfphncaa
section
variable {h h0 : H} {G0 : PA → Prop} {Q : Ex → List AV → H → Prop} {ls : Value} {oc : Ck} {o : List Int} {K : List KV → Ck} {Rf : List KV → AV → List Ck → Prop} {st : KV → Bool} {f : Value} {FL l : List KV} {Cp : List KV → Prop} {b0 dg rnd n n0 n2 n3 nv : Nat} {iso : Int} {ctr : Option PA} {a0 nh ps la : PA} {pv mk : KV} {cs : Nat} {ext fd : Bool}
theorem cut_no {r i : Nat} {z : Zp n (r + 1)} {b : Nat} {xs : List KV} {ts : List (BT KV r)} {P : List KV} {x y : KV} {v : BT KV r} (hsm : Stm o st mk) (lu : Lu o b0 dg rnd z b ((xs, ts) : BT KV (r + 1))) (hP : flatB (r + 1) ((xs, ts) : BT KV (r + 1)) = P ++ ((x :: flatB r v) ++ post (xs.drop (i + 1)) ((ts.map (flatB r)).drop (i + 1 + 1)))) (hy : xs[i + 1]? = some y) (hym : ltO o y mk = true) : ∀ a ∈ x :: flatB r v, st a = false := by
  have hl2 : ts.length = xs.length + 1 := lu.val.2.1
  have hi := (List.getElem?_eq_some_iff.1 hy).1
  obtain ⟨w, hw⟩ : ∃ w, ts[i + 1 + 1]? = some w := ⟨_, List.getElem?_eq_getElem (by omega)⟩
  rw [post_cons hy (by rw [List.getElem?_map, hw]; rfl : (ts.map (flatB r))[i + 1 + 1]? = some (flatB r w))] at hP
  have hs : Srt (ltO o) (z.lf ++ (flatB (r + 1) ((xs, ts) : BT KV (r + 1)) ++ z.rg)) := lu.srt
  have hs := (srt_append.1 (srt_append.1 hs).2.1).1
  rw [hP] at hs
  exact none_stop hsm hs hym
theorem Bw.cut {R r i : Nat} {z : Zp n (r + 1)} {b : Nat} {xs : List KV} {ts : List (BT KV r)} {y : KV} (hsm : Stm o st mk) (bw : Bw o st FL Cp b0 dg rnd R z b ((xs, ts) : BT KV (r + 1)) i) (hy : xs[i + 1]? = some y) (hym : ltO o y mk = true) (lu' : Lu o b0 dg rnd z b (cutB ((xs, ts) : BT KV (r + 1)) i)) : Bw o st FL Cp b0 dg rnd (R - 1) z b (cutB ((xs, ts) : BT KV (r + 1)) i) i := by
  obtain ⟨lu, hlt, ⟨A, hA, hfn⟩, hrm, gr, rt⟩ := bw
  have hl2 : ts.length = xs.length + 1 := lu.val.2.1
  have hlt : i < xs.length := hlt
  have hi1 := (List.getElem?_eq_some_iff.1 hy).1
  have hx := List.getElem?_eq_getElem hlt
  obtain ⟨v, hv⟩ : ∃ v, ts[i + 1]? = some v := ⟨_, List.getElem?_eq_getElem (by omega)⟩
  have hvm : (ts.map (flatB r))[i + 1]? = some (flatB r v) := by rw [List.getElem?_map, hv]; rfl
  obtain ⟨P, hP1, hP2, hP3, hP4⟩ := cut_flat (u := ((xs, ts) : BT KV (r + 1))) hl2 hx hv
  dsimp only at hP1 hP2 hP3 hP4 hA hfn hrm
  have hno := cut_no hsm lu hP1 hy hym
  rw [post_cons hx hvm] at hA hfn hrm
  have hPA : A = P := by
    rw [hP1] at hA
    exact (List.append_cancel_right (bs := xs[i] :: (flatB r v ++ post (xs.drop (i + 1)) ((ts.map (flatB r)).drop (i + 1 + 1)))) (by rw [← hA]; simp))
  subst hPA
  refine ⟨lu', ?_, ⟨A, ?_, ?_⟩, ?_, gr, rt_cut rt⟩
  · show i < (xs.eraseIdx i).length
    rw [List.length_eraseIdx]; split <;> omega
  · rw [hP3, hP4]; exact hP2
  · rw [hP3, hP4, hfn]
    congr 1
    have e : xs[i] :: (flatB r v ++ post (xs.drop (i + 1)) ((ts.map (flatB r)).drop (i + 1 + 1))) ++ z.rg = [] ++ ((xs[i] :: flatB r v) ++ (post (xs.drop (i + 1)) ((ts.map (flatB r)).drop (i + 1 + 1)) ++ z.rg)) := by simp
    rw [e, filter_cut hno]
    rfl
  · rw [hP3, hP4]
    simp at hrm
    omega
theorem Pw.cut {r i : Nat} {z : Zp n (r + 1)} {b : Nat} {xs : List KV} {ts : List (BT KV r)} {y : KV} (hsm : Stm o st mk) (pw : Pw o st FL Cp b0 dg rnd z b ((xs, ts) : BT KV (r + 1)) pv) (hf : fnd (ltO o) xs pv = none) (hi : i = pos (ltO o) xs pv) (hy : xs[i + 1]? = some y) (hym : ltO o y mk = true) (lu' : Lu o b0 dg rnd z b (cutB ((xs, ts) : BT KV (r + 1)) i)) :
    Pw o st FL Cp b0 dg rnd z b (cutB ((xs, ts) : BT KV (r + 1)) i) pv ∧ (z.all (cutB ((xs, ts) : BT KV (r + 1)) i)).length < (z.all ((xs, ts) : BT KV (r + 1))).length := by
  obtain ⟨lu, lo, hgt, fn, gr, gd⟩ := pw
  have hl2 : ts.length = xs.length + 1 := lu.val.2.1
  have hlm : (ts.map (flatB r)).length = xs.length + 1 := by rw [List.length_map, hl2]
  have hi1 := (List.getElem?_eq_some_iff.1 hy).1
  have hlt : i < xs.length := by omega
  have hx := List.getElem?_eq_getElem hlt
  obtain ⟨v, hv⟩ : ∃ v, ts[i + 1]? = some v := ⟨_, List.getElem?_eq_getElem (by omega)⟩
  obtain ⟨w, hw⟩ : ∃ w, ts[i]? = some w := ⟨_, List.getElem?_eq_getElem (by omega)⟩
  have hvm : (ts.map (flatB r))[i + 1]? = some (flatB r v) := by rw [List.getElem?_map, hv]; rfl
  have hwm : (ts.map (flatB r))[pos (ltO o) xs pv]? = some (flatB r w) := by rw [← hi, List.getElem?_map, hw]; rfl
  obtain ⟨P, hP1, hP2, hP3, hP4⟩ := cut_flat (u := ((xs, ts) : BT KV (r + 1))) hl2 hx hv
  dsimp only at hP1 hP2 hP3 hP4
  have hno := cut_no hsm lu hP1 hy hym
  have hs0 : Srt (ltO o) (z.lf ++ (flatB (r + 1) ((xs, ts) : BT KV (r + 1)) ++ z.rg)) := lu.srt
  have hsw : Srt (ltO o) (weave xs (ts.map (flatB r))) := (srt_append.1 (srt_append.1 hs0).2.1).1
  have hsi := srt_items hlm hsw
  obtain ⟨_, g2⟩ := around (ordO o) hlm hsw hwm hf
  rw [← hi, post_cons hx hvm] at g2
  have hkp : ∀ a ∈ xs[i] :: flatB r v, kp o st pv a = false := fun a ha => by
    have h1 := hno a ha
    have h2 := g2 a (by
      rcases List.mem_cons.1 ha with rfl | ha
      · exact List.mem_cons_self
      · exact List.mem_cons_of_mem _ (List.mem_append.2 (.inl ha)))
    unfold kp
    rw [h1, (ordO o).asym h2]; rfl
  have hlen := (z.sub_all (u := ((xs, ts) : BT KV (r + 1))) (v := cutB ((xs, ts) : BT KV (r + 1)) i) hP1 hP2).length_eq
  refine ⟨⟨lu', lo, hgt, ?_, gr, gd_cut (fun j a hj ha hob => ?_) gd⟩, by rw [← hlen]; simp; omega⟩
  · rw [fn]
    show (z.lf ++ (flatB (r + 1) ((xs, ts) : BT KV (r + 1)) ++ z.rg)).filter _ = (z.lf ++ (flatB (r + 1) (cutB ((xs, ts) : BT KV (r + 1)) i) ++ z.rg)).filter _
    rw [hP1, hP2]
    rw [List.filter_append, List.filter_append, filter_cut hkp, ← List.filter_append, ← List.filter_append]
  · have ha : xs[j]? = some a := ha
    have := (pos_spec (ordO o) hsi pv j a ha).1 (by omega)
    have hob : ltO o a pv = false := hob
    rw [this] at hob; cases hob
theorem Pw.dn {r b k i : Nat} {z : Zp n (r + 1)} {x : Fm r} {xs : List KV} {ts : List (BT KV r)} {v : BT KV r} (hl : Lim b0 dg rnd) (pw : Pw o st FL Cp b0 dg rnd z b ((xs, ts) : BT KV (r + 1)) pv) (hf : fnd (ltO o) xs pv = none) (hi : i = pos (ltO o) xs pv) (hv : ts[i]? = some v)
    (hx : x.Ok dg (2 * dg + 1)) (hb : x.b = b) (hput : x.put v = (xs, ts)) (hC : x.C = xs.take i) (hD : x.D = xs.drop i) (hA : x.A = ts.take i) (hB : x.B = ts.drop (i + 1)) : Pw o st FL Cp b0 dg rnd (.dn z x) k v pv := by
  obtain ⟨lu, lo, hgt, fn, gr, gd⟩ := pw
  have hl2 : ts.length = xs.length + 1 := lu.val.2.1
  have hlm : (ts.map (flatB r)).length = xs.length + 1 := by rw [List.length_map, hl2]
  have hs0 : Srt (ltO o) (z.lf ++ (flatB (r + 1) ((xs, ts) : BT KV (r + 1)) ++ z.rg)) := lu.srt
  have hsf := (srt_append.1 (srt_append.1 hs0).2.1).1
  have hsw : Srt (ltO o) (weave xs (ts.map (flatB r))) := hsf
  have hvm : (ts.map (flatB r))[pos (ltO o) xs pv]? = some (flatB r v) := by rw [← hi, List.getElem?_map, hv]; rfl
  obtain ⟨g1, g2⟩ := around (ordO o) hlm hsw hvm hf
  rw [← hi] at g1 g2
  have e1 : x.lf = pre ((ts.map (flatB r)).take i) (xs.take i) := by unfold Fm.lf; rw [hA, hC, List.map_take]
  have e2 : x.rg = post (xs.drop i) ((ts.map (flatB r)).drop (i + 1)) := by unfold Fm.rg; rw [hB, hD, List.map_drop]
  rw [← e1] at g1
  rw [← e2] at g2
  have e3 : Zp.lf (.dn z x) = z.lf ++ x.lf := rfl
  have e4 : Zp.rg (.dn z x) = x.rg ++ z.rg := rfl
  obtain ⟨q1, q2⟩ := gr_dn (z := z) (x := x) lu.val hsf hf hi hv hD hB gr gd
  refine ⟨Lu.dn hl (by rw [hput]; exact lu) hx hb, fun a ha => ?_, fun a ha => ?_, ?_, q1, q2⟩
  · rw [e3] at ha
    exact (List.mem_append.1 ha).elim (lo a) (g1 a)
  · rw [e4] at ha
    exact (List.mem_append.1 ha).elim (g2 a) (hgt a)
  · rw [← Zp.all_put hx, hput]; exact fn
end
end Go.Proofs.Ytegnpimlfphncaa.TG
set_option linter.unusedVariables false
set_option linter.unusedSimpArgs false
set_option linter.unusedSectionVars false
set_option maxRecDepth 100000
namespace Go.Proofs.Ytegnpimlfphncaa.TG
open Go Go.Proofs.Ytegnpimlfphncaa
section
variable {h h0 : H} {G0 : PA → Prop} {Q : Ex → List AV → H → Prop} {ls : Value} {oc : Ck} {o : List Int} {K : List KV → Ck} {Rf : List KV → AV → List Ck → Prop} {st : KV → Bool} {f : Value} {FL l : List KV} {Cp : List KV → Prop} {b0 dg rnd n n0 n2 n3 nv : Nat} {iso : Int} {ctr : Option PA} {a0 nh ps la : PA} {pv mk : KV} {cs : Nat} {ext fd : Bool}
set_option maxHeartbeats 4000000 in
theorem w_foundr {r i R : Nat} {z : Zp n (r + 1)} {b : Nat} {xs : List KV} {ts : List (BT KV r)} (hn0 : Bes (RdC (n0, 0) (.pointer (some a0.val))) h0 G0) (hls : Lss ls oc o) (hoc : Bes oc h0 G0) (hst : Stp h0 G0 f st a0 ls) (hap : Apn oc K iso dg l la ext) (hrt : Rtn K Rf la n3) (hsm : Stm o st mk) (hC : Icl Cp) (hl : Lim b0 dg rnd) (hsb : ∀ a ∈ z.all ((xs, ts) : BT KV (r + 1)), a ∈ l) (bw : Bw o st FL Cp b0 dg rnd R z b ((xs, ts) : BT KV (r + 1)) i) (hcs : (z.stk b).length ≤ cs) (hn : n ≤ 4294967294)
    (S : St h0 G0 [K (z.all ((xs, ts) : BT KV (r + 1))), Ow a0 (mapC ls iso ctr (some (b0, 0)) (z.all ((xs, ts) : BT KV (r + 1))).length dg (2 * dg + 1) false false) 0, Ow (nv, 0) (L.cells pv) 0, HtC (some nh), Ow ps (LFr.flat (z.stk b)) ((cs - (z.stk b).length) * LFr.sz), ZsC iso z (flatB (r + 1) ((xs, ts) : BT KV (r + 1))).length, ZrC iso z b, TrC L iso (r + 1) b ((xs, ts) : BT KV (r + 1))] h)
    (hret : Rets h0 G0 Q ls o Rf FL dg iso a0)
    (hrs : Rs h0 G0 Q ls o K st f FL l Cp dg rnd nv iso a0 nh la ext) :
    wp Try.prog (.nonnil (some (b, 0)) fun p168 => .load (p168.fst, p168.snd + 2) (.sl) fun s169 => .nonnil (s169.fst) fun p170 => .guard (((0 : Int) ≤ (i : Int)) ∧ (((i : Int) : Int) < (↑s169.snd.fst : Int))) <| .load (p170.fst, p170.snd + mulN (Int.toNat (i : Int)) 2) (.int .i64) fun i171 => .load (p170.fst, p170.snd + mulN (Int.toNat (i : Int)) 2 + 1) (.int .i64) fun i172 => .callv (f) [.agg [.int .i64 (i171), .int .i64 (i172)]] false [.c (.bool)] fun r173 => .ite (r173.fst) (.nonnil ((some la)) fun p174 => .load p174 (.raw) fun v175 => .load (p174.fst, p174.snd + 1) (.int .i64) fun i176 => .load (p174.fst, p174.snd + 2) (.int .i64) fun i177 => .load (p174.fst, p174.snd + 3) (.sl) fun s178 => .store (n3, 0) (.raw (v175)) <| .store (n3, 1) (.int .i64 (i176)) <| .store (n3, 2) (.int .i64 (i177)) <| .store (n3, 3) (.sl (s178.fst) (s178.snd.fst) (s178.snd.snd)) <| .load (n3, 0) (.raw) fun v179 => .load (n3, 1) (.int .i64) fun i180 => .load (n3, 2) (.int .i64) fun i181 => .load (n3, 3) (.sl) fun s182 => .done .ret [.agg [.raw (v179), .int .i64 (i180), .int .i64 (i181), .sl (s182.fst) (s182.snd.fst) (s182.snd.snd)]]) (.nonnil (some (b, 0)) fun p183 => .load (p183.fst, p183.snd + 2) (.sl) fun s184 => .nonnil (s184.fst) fun p185 => .guard (((0 : Int) ≤ (i : Int)) ∧ (((i : Int) : Int) < (↑s184.snd.fst : Int))) <| .load (p185.fst, p185.snd + mulN (Int.toNat (i : Int)) 2) (.int .i64) fun i186 => .load (p185.fst, p185.snd + mulN (Int.toNat (i : Int)) 2 + 1) (.int .i64) fun i187 => .store ((nv, 0) : PA) (.int .i64 (i186)) <| .store (((nv, 0) : PA).fst, ((nv, 0) : PA).snd + 1) (.int .i64 (i187)) <| .bind none (.ite (ext) (.nonnil (some (b, 0)) fun p188 => .load (p188.fst, p188.snd + 2) (.sl) fun s189 => .nonnil (s189.fst) fun p190 => .guard (((0 : Int) ≤ (i : Int)) ∧ (((i : Int) : Int) < (↑s189.snd.fst : Int))) <| .load (p190.fst, p190.snd + mulN (Int.toNat (i : Int)) 2) (.int .i64) fun i191 => .load (p190.fst, p190.snd + mulN (Int.toNat (i : Int)) 2 + 1) (.int .i64) fun i192 => .call fn_lg_append [.c (.ptr ((some la))), .agg [.int .i64 (i191), .int .i64 (i192)], .c (.ptr none)] true [] fun r193 => .done .normal []) (.done .normal [])) [] fun x194 => .load (n0, 0) (.ptr) fun q195 => .nonnil (some (b, 0)) fun p196 => .load (p196.fst, p196.snd + 2) (.sl) fun s197 => .nonnil (s197.fst) fun p198 => .guard (((0 : Int) ≤ (i : Int)) ∧ (((i : Int) : Int) < (↑s197.snd.fst : Int))) <| .load (p198.fst, p198.snd + mulN (Int.toNat (i : Int)) 2) (.int .i64) fun i199 => .load (p198.fst, p198.snd + mulN (Int.toNat (i : Int)) 2 + 1) (.int .i64) fun i200 => .call fn_tg_deleteHint [.c (.ptr (q195)), .agg [.int .i64 (i199), .int .i64 (i200)], .c (.addr nh)] true [.agg [.int .i64, .int .i64], .c (.bool)] fun r201 => .guard (((0 : Int) ≤ 0) ∧ ((0 : Int) ≤ (↑cs : Int))) <| .done (.exit 1000) [.c (.sl (slBase (some ps) cs 0 2) (0) (cs - 0)), .c (.addr ((nv, 0) : PA)), .c (.addr nh), .c (.raw (f)), .c (.ptr ((some la))), .c (.bool (ext))])) Q h := by
  have h1 := hl.one
  have hbig := hl.big
  have hrl := hl.rnd
  obtain ⟨lu, hlt, ⟨A, hA, hfn⟩, hrm, gr, rt⟩ := bw
  have hl2 : ts.length = xs.length + 1 := lu.val.2.1
  have hxl : xs.length ≤ 2 * dg + 1 := lu.val.1
  have hlt : i < xs.length := hlt
  have hx := List.getElem?_eq_getElem hlt
  obtain ⟨v, hv⟩ : ∃ v, ts[i + 1]? = some v := ⟨_, List.getElem?_eq_getElem (by omega)⟩
  have hvm : (ts.map (flatB r))[i + 1]? = some (flatB r v) := by rw [List.getElem?_map, hv]; rfl
  have hpc : post (xs.drop i) ((ts.map (flatB r)).drop (i + 1)) = xs[i] :: (flatB r v ++ post (xs.drop (i + 1)) ((ts.map (flatB r)).drop (i + 1 + 1))) := post_cons hx hvm
  dsimp only at hA hfn
  rw [hpc] at hA hfn
  obtain ⟨B, hB⟩ : ∃ B, B = (flatB r v ++ post (xs.drop (i + 1)) ((ts.map (flatB r)).drop (i + 1 + 1))) ++ z.rg := ⟨_, rfl⟩
  have hall : z.all ((xs, ts) : BT KV (r + 1)) = (z.lf ++ A) ++ xs[i] :: B := by
    show z.lf ++ (flatB (r + 1) ((xs, ts) : BT KV (r + 1)) ++ z.rg) = _
    rw [hA, hB]; simp only [List.append_assoc, List.cons_append]
  rw [List.cons_append, ← hB] at hfn
  have hxl2 : xs[i] ∈ l := hsb _ (by rw [hall]; simp)
  obtain ⟨p, c, kp, hc, hkp, S⟩ := open_nd L iso (S.at (.tr b))
  have hc : xs.length ≤ c := hc
  have S : St h0 G0 (Ow (b, 0) (nodeC iso (flatB (r + 1) ((xs, ts) : BT KV (r + 1))).length (some p, xs.length, c) kp) 0 :: Ow p (L.flat xs) ((c - xs.length) * L.sz) :: KdC L iso (r + 1) kp ((xs, ts) : BT KV (r + 1)) :: _) _ := S
  refine w_nonnil (ld_sls S rfl (w_nonnil (w_guard ⟨by (first | omega | ((try dsimp only [Sh.T, Sh1.T]); omega)), by (first | omega | ((try dsimp only [Sh.T, Sh1.T]); omega))⟩ ?_)))
  try dsimp only
  try rw [Int.toNat_natCast]
  refine ld_it S hx ?_
  refine hst _ _ _ xs[i] _ S (S.rd rfl) fun _ S => ?_
  cases hs : st xs[i] with
  | true =>
    have hsr := lu.srt
    rw [hall] at hsr
    rw [all_stop hsm (srt_append.1 hsr).2.1 hs, ← hall] at hfn
    have S := shut_nd L iso (S.ats [.ow (b, 0), .ow p, .kd kp]) rfl rfl rfl rfl hc rfl
    have S := S.ats [.ck (K (z.all ((xs, ts) : BT KV (r + 1)))), .ow a0, .ow (nv, 0), .ck (HtC (some nh)), .ow ps, .kd none, .fo [], .tr b]
    exact w_true rfl (hrt _ _ _ _ _ _ S fun h' v post hR S => hret h' v post (by rw [hfn]; exact hR) (by rw [hfn]; exact foldA hl lu S))
  | false =>
  refine w_false rfl (w_nonnil (ld_sls S rfl (w_nonnil (w_guard ⟨by (first | omega | ((try dsimp only [Sh.T, Sh1.T]); omega)), by (first | omega | ((try dsimp only [Sh.T, Sh1.T]); omega))⟩ ?_))))
  try dsimp only
  try rw [Int.toNat_natCast]
  refine ld_it S hx ?_
  refine st_store S (lt_ble rfl) fun _ S => ?_
  refine st_store S (lt_ble rfl) fun _ S => ?_
  have S := (S.at (.ow (nv, 0))).re (nv, 0) (L.cells xs[i]) 0 rfl rfl rfl
  have S := S.ats [.ck (K (z.all ((xs, ts) : BT KV (r + 1)))), .ow a0, .ow (nv, 0), .ck (HtC (some nh)), .ow ps, .kd none, .fo [], .ow (b, 0), .ow p, .kd kp]
  refine w_mid' none (fun _ h' => St h0 G0 [K ((z.lf ++ A) ++ B), Ow a0 (mapC ls iso ctr (some (b0, 0)) (z.all ((xs, ts) : BT KV (r + 1))).length dg (2 * dg + 1) false false) 0, Ow (nv, 0) (L.cells xs[i]) 0, HtC (some nh), Ow ps (LFr.flat (z.stk b)) ((cs - (z.stk b).length) * LFr.sz), ZsC iso z (flatB (r + 1) ((xs, ts) : BT KV (r + 1))).length, ZrC iso z b,
    Ow (b, 0) (nodeC iso (flatB (r + 1) ((xs, ts) : BT KV (r + 1))).length (some p, xs.length, c) kp) 0, Ow p (L.flat xs) ((c - xs.length) * L.sz), KdC L iso (r + 1) kp ((xs, ts) : BT KV (r + 1))] h') ?_ ?_
  · cases he : ext with
    | false => exact w_false rfl (md_n rfl (hap.2 he _ _ _ _ _ _ S))
    | true =>
      refine w_true rfl (w_nonnil (ld_sls S rfl (w_nonnil (w_guard ⟨by (first | omega | ((try dsimp only [Sh.T, Sh1.T]); omega)), by (first | omega | ((try dsimp only [Sh.T, Sh1.T]); omega))⟩ ?_))))
      try dsimp only
      try rw [Int.toNat_natCast]
      refine ld_it S hx ?_
      refine w_apx (cur' := (z.lf ++ A) ++ B) hap he hoc ?_ hxl2 S fun _ S => md_n rfl S
      rw [hall]
      exact List.perm_middle.symm
  clear S
  rintro _ _ S
  refine w_ptr (some a0) (hn0.now S).rd (w_nonnil (ld_sls S rfl (w_nonnil (w_guard ⟨by (first | omega | ((try dsimp only [Sh.T, Sh1.T]); omega)), by (first | omega | ((try dsimp only [Sh.T, Sh1.T]); omega))⟩ ?_))))
  try dsimp only
  try rw [Int.toNat_natCast]
  refine ld_it S hx ?_
  have S := shut_nd L iso (S.ats [.ow (b, 0), .ow p, .kd kp]) rfl rfl rfl rfl hc rfl
  have S := S.ats [.ck (K ((z.lf ++ A) ++ B)), .ow a0, .ow (nv, 0), .ck (HtC (some nh)), .ow ps, .kd none, .fo [], .tr b]
  have hsr : Srt (ltO o) (z.lf ++ (flatB (r + 1) ((xs, ts) : BT KV (r + 1)) ++ z.rg)) := lu.srt
  have hsf := (srt_append.1 (srt_append.1 hsr).2.1).1
  refine w_delrs hls hoc hC hl lu hall hfn hs (gd_put lu.ok gr (fun a ha hq => ?_) (rt_gd lu.val hsf hx rt)) (fun a ha => hsb a ?_) hcs S hrs
  · have := (srt_append.1 hsr).2.2 a ha xs[i] (List.mem_append.2 (.inl (by rw [hA]; exact List.mem_append.2 (.inr List.mem_cons_self))))
    have hq : ltO o a xs[i] = false := hq
    rw [this] at hq; cases hq
  · rw [hall]
    rcases List.mem_append.1 ha with ha | ha
    · exact List.mem_append.2 (.inl ha)
    · exact List.mem_append.2 (.inr (List.mem_cons_of_mem _ ha))
set_option maxHeartbeats 4000000 in
theorem w_descr {r i : Nat} {z : Zp n (r + 1)} {b : Nat} {xs : List KV} {ts : List (BT KV r)} (hn0 : Bes (RdC (n0, 0) (.pointer (some a0.val))) h0 G0) (hl : Lim b0 dg rnd) (pw : Pw o st FL Cp b0 dg rnd z b ((xs, ts) : BT KV (r + 1)) pv) (hf : fnd (ltO o) xs pv = none) (hi : i = pos (ltO o) xs pv) (hcs : (z.stk b).length ≤ cs) (hn : n ≤ 4294967294)
    (S : St h0 G0 [K (z.all ((xs, ts) : BT KV (r + 1))), Ow a0 (mapC ls iso ctr (some (b0, 0)) (z.all ((xs, ts) : BT KV (r + 1))).length dg (2 * dg + 1) false false) 0, Ow (nv, 0) (L.cells pv) 0, HtC (some nh), Ow ps (LFr.flat (z.stk b)) ((cs - (z.stk b).length) * LFr.sz), ZsC iso z (flatB (r + 1) ((xs, ts) : BT KV (r + 1))).length, ZrC iso z b, TrC L iso (r + 1) b ((xs, ts) : BT KV (r + 1))] h)
    (hdn : ∀ h' (z' : Zp n r) (b' : Nat) (u : BT KV r) (cs : Nat) (ps : PA), Pw o st FL Cp b0 dg rnd z' b' u pv → z'.all u = z.all ((xs, ts) : BT KV (r + 1)) → (z'.stk b').length ≤ cs → St h0 G0 [K (z'.all u), Ow a0 (mapC ls iso ctr (some (b0, 0)) (z'.all u).length dg (2 * dg + 1) false false) 0, Ow (nv, 0) (L.cells pv) 0, HtC (some nh), Ow ps (LFr.flat (z'.stk b')) ((cs - (z'.stk b').length) * LFr.sz), ZsC iso z' (flatB r u).length, ZrC iso z' b', TrC L iso r b' u] h' →
      wp Try.prog (.done (.exit 1) [.c (.ptr (some (b', 0))), .c (.sl (some ps) (z'.stk b').length cs)]) Q h') :
    wp Try.prog (.load (n0, 0) (.ptr) fun q202 => .nonnil (some (b, 0)) fun p203 => .load (p203.fst, p203.snd + 3) (.ptr) fun q204 => .nonnil (q204) fun p205 => .load p205 (.sl) fun s206 => .nonnil (s206.fst) fun p207 => .guard (((0 : Int) ≤ (i : Int)) ∧ (((i : Int) : Int) < (↑s206.snd.fst : Int))) <| .call fn_tg_isoLoad [.c (.ptr (q202)), .c (.addr (p207.fst, p207.snd + Int.toNat (i : Int))), .c (.tt)] false [.c (.ptr)] fun r208 => .alloc ty_btree_stackItem_pub_greenwood_impl_Item_110 [.ptr (r208.fst), .int .i64 ((i : Int))] fun n209 => .append ty_btree_stackItem_pub_greenwood_impl_Item_110 2 16 [.ptr none, .int .i64 (0)] (((some ps)), (z.stk b).length, cs) ((some (n209, 0)), 1, 1) fun s210 => .done (.exit 1) [.c (.ptr (r208.fst)), .c (.sl (s210.fst) (s210.snd.fst) (s210.snd.snd))]) Q h := by
  have h1 := hl.one
  have hbig := hl.big
  have hsl := z.len b
  have lu := pw.lu
  have hl2 : ts.length = xs.length + 1 := lu.val.2.1
  have hxl : xs.length ≤ 2 * dg + 1 := lu.val.1
  have hpl := pos_le (lt := ltO o) xs pv
  obtain ⟨v, hv⟩ : ∃ v, ts[i]? = some v := ⟨_, List.getElem?_eq_getElem (by omega)⟩
  obtain ⟨p, c, kp, hc, hkp, S⟩ := open_nd L iso (S.at (.tr b))
  have hc : xs.length ≤ c := hc
  obtain ⟨hb, q, d, ks, rfl, hd, hkl, S⟩ := open_kids L iso (S.at (.kd kp))
  have hkl : ks.length = ts.length := hkl
  have S : St h0 G0 (Ow (hb, 0) (hdC (some q, ks.length, d)) 0 :: Ow q (LK.flat (ks.map some)) ((d - ks.length) * LK.sz) :: FoC L iso r ks ts :: Ow (b, 0) (nodeC iso (flatB (r + 1) ((xs, ts) : BT KV (r + 1))).length (some p, xs.length, c) (some (hb, 0))) 0 :: Ow p (L.flat xs) ((c - xs.length) * L.sz) :: _) _ := S
  obtain ⟨k1, hk, S⟩ := fo_at L iso hkl hv (S.at (.fo ks))
  have hk0 : (LK.flat (ks.map some))[i]? = some (kptr k1) := LK_get (ys := ks.map some) (y := some k1) (by rw [List.getElem?_map, hk]; rfl)
  refine w_ptr (some a0) (hn0.now S).rd (w_nonnil (ld_some S rfl (w_nonnil (ld_sls S rfl (w_nonnil (w_guard ⟨by (first | omega | ((try dsimp only [Sh.T, Sh1.T]); omega)), by (first | omega | ((try dsimp only [Sh.T, Sh1.T]); omega))⟩ ?_))))))
  try dsimp only
  try rw [Int.toNat_natCast]
  refine w_callT (c_isoLoad (b := k1) (iso := iso) (S.rd hk0) (S.iso k1) (S.rd rfl)) ?_
  rintro _ _ ⟨rfl, rfl⟩
  refine st_alloc S fun n41 _ S => ?_
  have hnew : RSl _ (some (n41, 0), 1, 1) LFr.sz (LFr.flat [(k1, (i : Int))]) := S.rsl (LFr.flat [(k1, (i : Int))]) 1 1 2 (fun i v h => by rw [Nat.zero_add]; exact h) rfl
  refine st_app (L := LFr) (xs := z.stk b) (ys := [(k1, (i : Int))]) S rfl rfl rfl hcs rfl rfl hnew ⟨by (first | omega | ((try dsimp only [Sh.T, Sh1.T]); omega)), by (first | omega | ((try dsimp only [Sh.T, Sh1.T]); omega))⟩ fun ps' cs' _ hcs' S => ?_
  obtain ⟨x, hxo, hxb, hput, hCC, hD, hXA, hB, S⟩ := zp_dn (mn := dg) (mx := 2 * dg + 1) (i := i) (xs := xs) (ts := ts) (S.ats [.ow (b, 0), .ow p, .ow (hb, 0), .ow q, .tr k1, .fo (ks.drop (i + 1)), .fo (ks.take i), .kd none, .fo []]) rfl rfl hc hd hkl hk hv rfl lu.val lu.one
  have hst : z.stk b ++ [(k1, (i : Int))] = Zp.stk (.dn z x) k1 := by
    show _ = z.stk x.b ++ [(k1, (x.A.length : Int))]
    rw [hxb, hXA, List.length_take, Nat.min_eq_left (by omega)]
  have hlen : (z.stk b).length + 1 = (Zp.stk (.dn z x) k1).length := by rw [← hst]; simp
  rw [hst, hlen] at S
  rw [hlen] at hcs' ⊢
  have hae : (Zp.dn z x).all v = z.all ((xs, ts) : BT KV (r + 1)) := by rw [← Zp.all_put hxo, hput]
  rw [← hae] at S
  have S := S.only [.ck (K ((Zp.dn z x).all v)), .ow a0, .ow (nv, 0), .ck (HtC (some nh)), .ow ps', .kd none, .fo [], .tr k1]
  exact hdn _ (.dn z x) k1 v cs' ps' (pw.dn hl hf hi hv hxo hxb hput hCC hD hXA hB) hae hcs' S
set_option maxHeartbeats 8000000 in
theorem w_nextr {k0 r1 r i M : Nat} {z : Zp n r} {b : Nat} {u : BT KV r} (hn0 : Bes (RdC (n0, 0) (.pointer (some a0.val))) h0 G0) (h2a : Bes (RdC (n2, 0) (.int .i64 mk.1)) h0 G0) (h2b : Bes (RdC (n2, 1) (.int .i64 mk.2)) h0 G0) (hls : Lss ls oc o) (hoc : Bes oc h0 G0) (hst : Stp h0 G0 f st a0 ls) (hap : Apn oc K iso dg l la ext) (hrt : Rtn K Rf la n3) (hsm : Stm o st mk) (hC : Icl Cp) (hCl : ∀ X, Cp X → X <:+: l) (hl : Lim b0 dg rnd)
    (nx : Nw o st FL Cp b0 dg rnd r1 pv r z b u fd i k0) (hM : fd = false → 0 < r → r + (z.all u).length = M) (hsb : ∀ a ∈ z.all u, a ∈ l) (hcs : (z.stk b).length ≤ cs) (hn : n ≤ 4294967294)
    (S : St h0 G0 [K (z.all u), Ow a0 (mapC ls iso ctr (some (b0, 0)) (z.all u).length dg (2 * dg + 1) false false) 0, Ow (nv, 0) (L.cells pv) 0, HtC (some nh), Ow ps (LFr.flat (z.stk b)) ((cs - (z.stk b).length) * LFr.sz), ZsC iso z (flatB r u).length, ZrC iso z b, TrC L iso r b u] h)
    (hret : Rets h0 G0 Q ls o Rf FL dg iso a0)
    (hrs : Rs h0 G0 Q ls o K st f FL l Cp dg rnd nv iso a0 nh la ext)
    (hdn : ∀ h' (r : Nat) (z : Zp n r) (b : Nat) (u : BT KV r) (cs : Nat) (ps : PA), r + (z.all u).length < M → Pw o st FL Cp b0 dg rnd z b u pv → (∀ a ∈ z.all u, a ∈ l) → (z.stk b).length ≤ cs → St h0 G0 [K (z.all u), Ow a0 (mapC ls iso ctr (some (b0, 0)) (z.all u).length dg (2 * dg + 1) false false) 0, Ow (nv, 0) (L.cells pv) 0, HtC (some nh), Ow ps (LFr.flat (z.stk b)) ((cs - (z.stk b).length) * LFr.sz), ZsC iso z (flatB r u).length, ZrC iso z b, TrC L iso r b u] h' →
      wp Try.prog (.done (.exit 1) [.c (.ptr (some (b, 0))), .c (.sl (some ps) (z.stk b).length cs)]) Q h') :
    wp Try.prog (.loop [.c (.ptr), .c (.sl), .c (.bool), .c (.int .i64)] [.c (.ptr (some (b, 0))), .c (.sl ((some ps)) ((z.stk b).length) (cs)), .c (.bool (fd)), .c (.int .i64 ((i : Int)))] fun y54 => .bind (some 1001) (.nonnil (y54.fst) fun p55 => .load (p55.fst, p55.snd + 3) (.ptr) fun q56 => .ite (!Option.isNone q56) (.bind none (.nonnil (y54.fst) fun p57 => .load (p57.fst, p57.snd + 2) (.sl) fun s58 => .guard (InK IntKind.i64 ((↑s58.snd.fst : Int) - 1)) <| .ite (decide (y54.snd.snd.snd.fst < (↑s58.snd.fst : Int) - 1)) (.nonnil (y54.fst) fun p59 => .load (p59.fst, p59.snd + 2) (.sl) fun s60 => .load (n0, 0) (.ptr) fun q61 => .nonnil (q61) fun p62 => .load (p62.fst, p62.snd + 10) (.int .i64) fun i63 => .ite (decide ((↑s60.snd.fst : Int) > i63)) (.load (n0, 0) (.ptr) fun q64 => .nonnil (q64) fun p65 => .load (p65.fst, p65.snd + 6) (.raw) fun v66 => .nonnil (y54.fst) fun p67 => .load (p67.fst, p67.snd + 2) (.sl) fun s68 => .guard (InK IntKind.i64 (y54.snd.snd.snd.fst + 1)) <| .nonnil (s68.fst) fun p69 => .guard (((0 : Int) ≤ y54.snd.snd.snd.fst + 1) ∧ ((y54.snd.snd.snd.fst + 1 : Int) < (↑s68.snd.fst : Int))) <| .load (p69.fst, p69.snd + mulN (y54.snd.snd.snd.fst + 1).toNat 2) (.int .i64) fun i70 => .load (p69.fst, p69.snd + mulN (y54.snd.snd.snd.fst + 1).toNat 2 + 1) (.int .i64) fun i71 => .load (n2, 0) (.int .i64) fun i72 => .load (n2, 1) (.int .i64) fun i73 => .callv (v66) [.agg [.int .i64 (i70), .int .i64 (i71)], .agg [.int .i64 (i72), .int .i64 (i73)]] false [.c (.bool)] fun r74 => .done .normal [.c (.bool (r74.fst))]) (.nonnil (y54.fst) fun p75 => .load (p75.fst, p75.snd + 2) (.sl) fun s76 => .ite (decide ((↑s76.snd.fst : Int) > 1)) (.ite ((↑y54.snd.fst.snd.fst : Int) == 1) (.load (n0, 0) (.ptr) fun q77 => .nonnil (q77) fun p78 => .load (p78.fst, p78.snd + 6) (.raw) fun v79 => .nonnil (y54.fst) fun p80 => .load (p80.fst, p80.snd + 2) (.sl) fun s81 => .guard (InK IntKind.i64 (y54.snd.snd.snd.fst + 1)) <| .nonnil (s81.fst) fun p82 => .guard (((0 : Int) ≤ y54.snd.snd.snd.fst + 1) ∧ ((y54.snd.snd.snd.fst + 1 : Int) < (↑s81.snd.fst : Int))) <| .load (p82.fst, p82.snd + mulN (y54.snd.snd.snd.fst + 1).toNat 2) (.int .i64) fun i83 => .load (p82.fst, p82.snd + mulN (y54.snd.snd.snd.fst + 1).toNat 2 + 1) (.int .i64) fun i84 => .load (n2, 0) (.int .i64) fun i85 => .load (n2, 1) (.int .i64) fun i86 => .callv (v79) [.agg [.int .i64 (i83), .int .i64 (i84)], .agg [.int .i64 (i85), .int .i64 (i86)]] false [.c (.bool)] fun r87 => .done .normal [.c (.bool (r87.fst))]) (.done .normal [.c (.ff)])) (.done .normal [.c (.ff)]))) (.done .normal [.c (.ff)])) [.c (.bool)] fun x88 => .ite (x88.fst) (.nonnil (y54.fst) fun p89 => .load (p89.fst, p89.snd + 2) (.sl) fun s90 => .nonnil (s90.fst) fun p91 => .guard (((0 : Int) ≤ y54.snd.snd.snd.fst) ∧ ((y54.snd.snd.snd.fst : Int) < (↑s90.snd.fst : Int))) <| .load (p91.fst, p91.snd + mulN (Int.toNat y54.snd.snd.snd.fst) 2) (.int .i64) fun i92 => .load (p91.fst, p91.snd + mulN (Int.toNat y54.snd.snd.snd.fst) 2 + 1) (.int .i64) fun i93 => .alloc ty_impl_Item [.int .i64 (0), .int .i64 (0)] fun n94 => .store (n94, 0) (.int .i64 (i92)) <| .store (n94, 1) (.int .i64 (i93)) <| .nonnil (y54.fst) fun p95 => .load (p95.fst, p95.snd + 2) (.sl) fun s96 => .guard (((0 : Int) ≤ y54.snd.snd.snd.fst) ∧ ((y54.snd.snd.snd.fst : Int) ≤ (↑s96.snd.fst : Int))) <| .nonnil (y54.fst) fun p97 => .load (p97.fst, p97.snd + 2) (.sl) fun s98 => .guard (InK IntKind.i64 (y54.snd.snd.snd.fst + 1)) <| .guard (((0 : Int) ≤ y54.snd.snd.snd.fst + 1) ∧ ((y54.snd.snd.snd.fst + 1 : Int) ≤ (↑s98.snd.fst : Int))) <| .copy 2 ((slBase s96.fst s96.snd.snd (Int.toNat y54.snd.snd.snd.fst) 2), s96.snd.fst - Int.toNat y54.snd.snd.snd.fst, s96.snd.snd - Int.toNat y54.snd.snd.snd.fst) ((slBase s98.fst s98.snd.snd (y54.snd.snd.snd.fst + 1).toNat 2), s98.snd.fst - (y54.snd.snd.snd.fst + 1).toNat, s98.snd.snd - (y54.snd.snd.snd.fst + 1).toNat) fun m99 => .nonnil (y54.fst) fun p100 => .load (p100.fst, p100.snd + 2) (.sl) fun s101 => .nonnil (y54.fst) fun p102 => .load (p102.fst, p102.snd + 2) (.sl) fun s103 => .guard (InK IntKind.i64 ((↑s103.snd.fst : Int) - 1)) <| .load (n0, 0) (.ptr) fun q104 => .nonnil (q104) fun p105 => .load (p105.fst, p105.snd + 7) (.int .i64) fun i106 => .load (p105.fst, p105.snd + 8) (.int .i64) fun i107 => .nonnil (s101.fst) fun p108 => .guard (((0 : Int) ≤ (↑s103.snd.fst : Int) - 1) ∧ (((↑s103.snd.fst : Int) - 1 : Int) < (↑s101.snd.fst : Int))) <| .store (p108.fst, p108.snd + mulN ((↑s103.snd.fst : Int) - 1).toNat 2) (.int .i64 (i106)) <| .store (p108.fst, p108.snd + mulN ((↑s103.snd.fst : Int) - 1).toNat 2 + 1) (.int .i64 (i107)) <| .nonnil (y54.fst) fun p109 => .load (p109.fst, p109.snd + 2) (.sl) fun s110 => .nonnil (y54.fst) fun p111 => .load (p111.fst, p111.snd + 2) (.sl) fun s112 => .guard (InK IntKind.i64 ((↑s112.snd.fst : Int) - 1)) <| .guard (((0 : Int) ≤ (↑s112.snd.fst : Int) - 1) ∧ (((↑s112.snd.fst : Int) - 1 : Int) ≤ (↑s110.snd.snd : Int))) <| .nonnil (y54.fst) fun p113 => .store (p113.fst, p113.snd + 2) (.sl (slBase s110.fst s110.snd.snd 0 2) (((↑s112.snd.fst : Int) - 1).toNat - 0) (s110.snd.snd - 0)) <| .nonnil (y54.fst) fun p114 => .load (p114.fst, p114.snd + 3) (.ptr) fun q115 => .nonnil (q115) fun p116 => .load p116 (.sl) fun s117 => .guard (InK IntKind.i64 (y54.snd.snd.snd.fst + 1)) <| .nonnil (s117.fst) fun p118 => .guard (((0 : Int) ≤ y54.snd.snd.snd.fst + 1) ∧ ((y54.snd.snd.snd.fst + 1 : Int) < (↑s117.snd.fst : Int))) <| .load (p118.fst, p118.snd + (y54.snd.snd.snd.fst + 1).toNat) (.ptr) fun q119 => .nonnil (y54.fst) fun p120 => .load (p120.fst, p120.snd + 3) (.ptr) fun q121 => .nonnil (q121) fun p122 => .load p122 (.sl) fun s123 => .guard (InK IntKind.i64 (y54.snd.snd.snd.fst + 1)) <| .guard (((0 : Int) ≤ y54.snd.snd.snd.fst + 1) ∧ ((y54.snd.snd.snd.fst + 1 : Int) ≤ (↑s123.snd.fst : Int))) <| .nonnil (y54.fst) fun p124 => .load (p124.fst, p124.snd + 3) (.ptr) fun q125 => .nonnil (q125) fun p126 => .load p126 (.sl) fun s127 => .guard (InK IntKind.i64 (y54.snd.snd.snd.fst + 2)) <| .guard (((0 : Int) ≤ y54.snd.snd.snd.fst + 2) ∧ ((y54.snd.snd.snd.fst + 2 : Int) ≤ (↑s127.snd.fst : Int))) <| .copy 1 ((slBase s123.fst s123.snd.snd (y54.snd.snd.snd.fst + 1).toNat 1), s123.snd.fst - (y54.snd.snd.snd.fst + 1).toNat, s123.snd.snd - (y54.snd.snd.snd.fst + 1).toNat) ((slBase s127.fst s127.snd.snd (y54.snd.snd.snd.fst + 2).toNat 1), s127.snd.fst - (y54.snd.snd.snd.fst + 2).toNat, s127.snd.snd - (y54.snd.snd.snd.fst + 2).toNat) fun m128 => .nonnil (y54.fst) fun p129 => .load (p129.fst, p129.snd + 3) (.ptr) fun q130 => .nonnil (q130) fun p131 => .load p131 (.sl) fun s132 => .nonnil (y54.fst) fun p133 => .load (p133.fst, p133.snd + 3) (.ptr) fun q134 => .nonnil (q134) fun p135 => .load p135 (.sl) fun s136 => .guard (InK IntKind.i64 ((↑s136.snd.fst : Int) - 1)) <| .nonnil (s132.fst) fun p137 => .guard (((0 : Int) ≤ (↑s136.snd.fst : Int) - 1) ∧ (((↑s136.snd.fst : Int) - 1 : Int) < (↑s132.snd.fst : Int))) <| .store (p137.fst, p137.snd + ((↑s136.snd.fst : Int) - 1).toNat) (.ptr none) <| .nonnil (y54.fst) fun p138 => .load (p138.fst, p138.snd + 3) (.ptr) fun q139 => .nonnil (y54.fst) fun p140 => .load (p140.fst, p140.snd + 3) (.ptr) fun q141 => .nonnil (q141) fun p142 => .load p142 (.sl) fun s143 => .nonnil (y54.fst) fun p144 => .load (p144.fst, p144.snd + 3) (.ptr) fun q145 => .nonnil (q145) fun p146 => .load p146 (.sl) fun s147 => .guard (InK IntKind.i64 ((↑s147.snd.fst : Int) - 1)) <| .guard (((0 : Int) ≤ (↑s147.snd.fst : Int) - 1) ∧ (((↑s147.snd.fst : Int) - 1 : Int) ≤ (↑s143.snd.snd : Int))) <| .nonnil (q139) fun p148 => .store p148 (.sl (slBase s143.fst s143.snd.snd 0 1) (((↑s147.snd.fst : Int) - 1).toNat - 0) (s143.snd.snd - 0)) <| .bind (some 2) (.loop [.c (.int .i64)] [.c (.int .i64 (0))] fun y149 => .ite (decide (y149.fst < (↑y54.snd.fst.snd.fst : Int))) (.nonnil (y54.snd.fst.fst) fun p150 => .guard (((0 : Int) ≤ y149.fst) ∧ ((y149.fst : Int) < (↑y54.snd.fst.snd.fst : Int))) <| .load (p150.fst, p150.snd + mulN (Int.toNat y149.fst) 2) (.ptr) fun q151 => .nonnil (q151) fun p152 => .load (p152.fst, p152.snd + 1) (.int .i64) fun i153 => .nonnil (q119) fun p154 => .load (p154.fst, p154.snd + 1) (.int .i64) fun i155 => .guard (InK IntKind.i64 (i155 + 1)) <| .guard (InK IntKind.i64 (i153 - (i155 + 1))) <| .nonnil (q151) fun p156 => .store (p156.fst, p156.snd + 1) (.int .i64 (i153 - (i155 + 1))) <| .guard (InK IntKind.i64 (y149.fst + 1)) <| .done .normal [.c (.int .i64 (y149.fst + 1))]) (.done (.exit 2) [])) [] fun x157 => .load (n0, 0) (.ptr) fun q158 => .nonnil (q158) fun p159 => .load (p159.fst, p159.snd + 3) (.int .i64) fun i160 => .nonnil (q119) fun p161 => .load (p161.fst, p161.snd + 1) (.int .i64) fun i162 => .guard (InK IntKind.i64 (i162 + 1)) <| .guard (InK IntKind.i64 (i160 - (i162 + 1))) <| .nonnil (q158) fun p163 => .store (p163.fst, p163.snd + 3) (.int .i64 (i160 - (i162 + 1))) <| .bind none (.ite (ext) (.load (n94, 0) (.int .i64) fun i164 => .load (n94, 1) (.int .i64) fun i165 => .call fn_lg_append [.c (.ptr ((some la))), .agg [.int .i64 (i164), .int .i64 (i165)], .c (.ptr (q119))] true [] fun r166 => .done .normal []) (.done .normal [])) [] fun x167 => .ite (y54.snd.snd.fst) (.done (.exit 1001) [.c (.ptr (y54.fst)), .c (.sl (y54.snd.fst.fst) (y54.snd.fst.snd.fst) (y54.snd.fst.snd.snd)), .c (.bool (y54.snd.snd.fst)), .c (.int .i64 (y54.snd.snd.snd.fst))]) (.done (.exit 1) [.c (.ptr (y54.fst)), .c (.sl (y54.snd.fst.fst) (y54.snd.fst.snd.fst) (y54.snd.fst.snd.snd))])) (.ite (y54.snd.snd.fst) (.nonnil (y54.fst) fun p168 => .load (p168.fst, p168.snd + 2) (.sl) fun s169 => .nonnil (s169.fst) fun p170 => .guard (((0 : Int) ≤ y54.snd.snd.snd.fst) ∧ ((y54.snd.snd.snd.fst : Int) < (↑s169.snd.fst : Int))) <| .load (p170.fst, p170.snd + mulN (Int.toNat y54.snd.snd.snd.fst) 2) (.int .i64) fun i171 => .load (p170.fst, p170.snd + mulN (Int.toNat y54.snd.snd.snd.fst) 2 + 1) (.int .i64) fun i172 => .callv (f) [.agg [.int .i64 (i171), .int .i64 (i172)]] false [.c (.bool)] fun r173 => .ite (r173.fst) (.nonnil ((some la)) fun p174 => .load p174 (.raw) fun v175 => .load (p174.fst, p174.snd + 1) (.int .i64) fun i176 => .load (p174.fst, p174.snd + 2) (.int .i64) fun i177 => .load (p174.fst, p174.snd + 3) (.sl) fun s178 => .store (n3, 0) (.raw (v175)) <| .store (n3, 1) (.int .i64 (i176)) <| .store (n3, 2) (.int .i64 (i177)) <| .store (n3, 3) (.sl (s178.fst) (s178.snd.fst) (s178.snd.snd)) <| .load (n3, 0) (.raw) fun v179 => .load (n3, 1) (.int .i64) fun i180 => .load (n3, 2) (.int .i64) fun i181 => .load (n3, 3) (.sl) fun s182 => .done .ret [.agg [.raw (v179), .int .i64 (i180), .int .i64 (i181), .sl (s182.fst) (s182.snd.fst) (s182.snd.snd)]]) (.nonnil (y54.fst) fun p183 => .load (p183.fst, p183.snd + 2) (.sl) fun s184 => .nonnil (s184.fst) fun p185 => .guard (((0 : Int) ≤ y54.snd.snd.snd.fst) ∧ ((y54.snd.snd.snd.fst : Int) < (↑s184.snd.fst : Int))) <| .load (p185.fst, p185.snd + mulN (Int.toNat y54.snd.snd.snd.fst) 2) (.int .i64) fun i186 => .load (p185.fst, p185.snd + mulN (Int.toNat y54.snd.snd.snd.fst) 2 + 1) (.int .i64) fun i187 => .store ((nv, 0) : PA) (.int .i64 (i186)) <| .store (((nv, 0) : PA).fst, ((nv, 0) : PA).snd + 1) (.int .i64 (i187)) <| .bind none (.ite (ext) (.nonnil (y54.fst) fun p188 => .load (p188.fst, p188.snd + 2) (.sl) fun s189 => .nonnil (s189.fst) fun p190 => .guard (((0 : Int) ≤ y54.snd.snd.snd.fst) ∧ ((y54.snd.snd.snd.fst : Int) < (↑s189.snd.fst : Int))) <| .load (p190.fst, p190.snd + mulN (Int.toNat y54.snd.snd.snd.fst) 2) (.int .i64) fun i191 => .load (p190.fst, p190.snd + mulN (Int.toNat y54.snd.snd.snd.fst) 2 + 1) (.int .i64) fun i192 => .call fn_lg_append [.c (.ptr ((some la))), .agg [.int .i64 (i191), .int .i64 (i192)], .c (.ptr none)] true [] fun r193 => .done .normal []) (.done .normal [])) [] fun x194 => .load (n0, 0) (.ptr) fun q195 => .nonnil (y54.fst) fun p196 => .load (p196.fst, p196.snd + 2) (.sl) fun s197 => .nonnil (s197.fst) fun p198 => .guard (((0 : Int) ≤ y54.snd.snd.snd.fst) ∧ ((y54.snd.snd.snd.fst : Int) < (↑s197.snd.fst : Int))) <| .load (p198.fst, p198.snd + mulN (Int.toNat y54.snd.snd.snd.fst) 2) (.int .i64) fun i199 => .load (p198.fst, p198.snd + mulN (Int.toNat y54.snd.snd.snd.fst) 2 + 1) (.int .i64) fun i200 => .call fn_tg_deleteHint [.c (.ptr (q195)), .agg [.int .i64 (i199), .int .i64 (i200)], .c (.addr nh)] true [.agg [.int .i64, .int .i64], .c (.bool)] fun r201 => .guard (((0 : Int) ≤ 0) ∧ ((0 : Int) ≤ (↑y54.snd.fst.snd.snd : Int))) <| .done (.exit 1000) [.c (.sl (slBase y54.snd.fst.fst y54.snd.fst.snd.snd 0 2) (0) (y54.snd.fst.snd.snd - 0)), .c (.addr ((nv, 0) : PA)), .c (.addr nh), .c (.raw (f)), .c (.ptr ((some la))), .c (.bool (ext))])) (.load (n0, 0) (.ptr) fun q202 => .nonnil (y54.fst) fun p203 => .load (p203.fst, p203.snd + 3) (.ptr) fun q204 => .nonnil (q204) fun p205 => .load p205 (.sl) fun s206 => .nonnil (s206.fst) fun p207 => .guard (((0 : Int) ≤ y54.snd.snd.snd.fst) ∧ ((y54.snd.snd.snd.fst : Int) < (↑s206.snd.fst : Int))) <| .call fn_tg_isoLoad [.c (.ptr (q202)), .c (.addr (p207.fst, p207.snd + Int.toNat y54.snd.snd.snd.fst)), .c (.tt)] false [.c (.ptr)] fun r208 => .alloc ty_btree_stackItem_pub_greenwood_impl_Item_110 [.ptr (r208.fst), .int .i64 (y54.snd.snd.snd.fst)] fun n209 => .append ty_btree_stackItem_pub_greenwood_impl_Item_110 2 16 [.ptr none, .int .i64 (0)] ((y54.snd.fst.fst), y54.snd.fst.snd.fst, y54.snd.fst.snd.snd) ((some (n209, 0)), 1, 1) fun s210 => .done (.exit 1) [.c (.ptr (r208.fst)), .c (.sl (s210.fst) (s210.snd.fst) (s210.snd.snd))]))) (.nonnil (y54.fst) fun p211 => .load (p211.fst, p211.snd + 2) (.sl) fun s212 => .guard (InK IntKind.i64 ((↑s212.snd.fst : Int) - y54.snd.snd.snd.fst)) <| .load (n0, 0) (.ptr) fun q213 => .nonnil (q213) fun p214 => .load (p214.fst, p214.snd + 10) (.int .i64) fun i215 => .guard (InK IntKind.i64 ((↑s212.snd.fst : Int) - y54.snd.snd.snd.fst - i215)) <| .bind none (.ite (decide ((↑s212.snd.fst : Int) - y54.snd.snd.snd.fst - i215 > 1)) (.bind (some 4) (.loop [.c (.int .i64), .c (.bool)] [.c (.int .i64 (0)), .c (.ff)] fun y216 => .ite (decide (y216.fst < (↑s212.snd.fst : Int) - y54.snd.snd.snd.fst - i215)) (.nonnil (y54.fst) fun p217 => .load (p217.fst, p217.snd + 2) (.sl) fun s218 => .guard (InK IntKind.i64 (y54.snd.snd.snd.fst + y216.fst)) <| .nonnil (s218.fst) fun p219 => .guard (((0 : Int) ≤ y54.snd.snd.snd.fst + y216.fst) ∧ ((y54.snd.snd.snd.fst + y216.fst : Int) < (↑s218.snd.fst : Int))) <| .load (p219.fst, p219.snd + mulN (y54.snd.snd.snd.fst + y216.fst).toNat 2) (.int .i64) fun i220 => .load (p219.fst, p219.snd + mulN (y54.snd.snd.snd.fst + y216.fst).toNat 2 + 1) (.int .i64) fun i221 => .callv (f) [.agg [.int .i64 (i220), .int .i64 (i221)]] false [.c (.bool)] fun r222 => .ite (r222.fst) (.done (.exit 4) [.c (.int .i64 (y216.fst)), .c (.bool (r222.fst))]) (.bind none (.ite (ext) (.nonnil (y54.fst) fun p223 => .load (p223.fst, p223.snd + 2) (.sl) fun s224 => .guard (InK IntKind.i64 (y54.snd.snd.snd.fst + y216.fst)) <| .nonnil (s224.fst) fun p225 => .guard (((0 : Int) ≤ y54.snd.snd.snd.fst + y216.fst) ∧ ((y54.snd.snd.snd.fst + y216.fst : Int) < (↑s224.snd.fst : Int))) <| .load (p225.fst, p225.snd + mulN (y54.snd.snd.snd.fst + y216.fst).toNat 2) (.int .i64) fun i226 => .load (p225.fst, p225.snd + mulN (y54.snd.snd.snd.fst + y216.fst).toNat 2 + 1) (.int .i64) fun i227 => .call fn_lg_append [.c (.ptr ((some la))), .agg [.int .i64 (i226), .int .i64 (i227)], .c (.ptr none)] true [] fun r228 => .done .normal []) (.done .normal [])) [] fun x229 => .guard (InK IntKind.i64 (y216.fst + 1)) <| .done .normal [.c (.int .i64 (y216.fst + 1)), .c (.bool (r222.fst))])) (.done (.exit 4) [.c (.int .i64 (y216.fst)), .c (.bool (y216.snd.fst))])) [.c (.int .i64), .c (.bool)] fun x230 => .nonnil (y54.fst) fun p231 => .load (p231.fst, p231.snd + 2) (.sl) fun s232 => .guard (((0 : Int) ≤ y54.snd.snd.snd.fst) ∧ ((y54.snd.snd.snd.fst : Int) ≤ (↑s232.snd.fst : Int))) <| .nonnil (y54.fst) fun p233 => .load (p233.fst, p233.snd + 2) (.sl) fun s234 => .guard (InK IntKind.i64 (y54.snd.snd.snd.fst + x230.fst)) <| .guard (((0 : Int) ≤ y54.snd.snd.snd.fst + x230.fst) ∧ ((y54.snd.snd.snd.fst + x230.fst : Int) ≤ (↑s234.snd.fst : Int))) <| .copy 2 ((slBase s232.fst s232.snd.snd (Int.toNat y54.snd.snd.snd.fst) 2), s232.snd.fst - Int.toNat y54.snd.snd.snd.fst, s232.snd.snd - Int.toNat y54.snd.snd.snd.fst) ((slBase s234.fst s234.snd.snd (y54.snd.snd.snd.fst + x230.fst).toNat 2), s234.snd.fst - (y54.snd.snd.snd.fst + x230.fst).toNat, s234.snd.snd - (y54.snd.snd.snd.fst + x230.fst).toNat) fun m235 => .nonnil (y54.fst) fun p236 => .load (p236.fst, p236.snd + 2) (.sl) fun s237 => .guard (InK IntKind.i64 ((↑s237.snd.fst : Int) - x230.fst)) <| .bind (some 6) (.loop [.c (.int .i64)] [.c (.int .i64 ((↑s237.snd.fst : Int) - x230.fst))] fun y238 => .nonnil (y54.fst) fun p239 => .load (p239.fst, p239.snd + 2) (.sl) fun s240 => .ite (decide (y238.fst < (↑s240.snd.fst : Int))) (.nonnil (y54.fst) fun p241 => .load (p241.fst, p241.snd + 2) (.sl) fun s242 => .load (n0, 0) (.ptr) fun q243 => .nonnil (q243) fun p244 => .load (p244.fst, p244.snd + 7) (.int .i64) fun i245 => .load (p244.fst, p244.snd + 8) (.int .i64) fun i246 => .nonnil (s242.fst) fun p247 => .guard (((0 : Int) ≤ y238.fst) ∧ ((y238.fst : Int) < (↑s242.snd.fst : Int))) <| .store (p247.fst, p247.snd + mulN (Int.toNat y238.fst) 2) (.int .i64 (i245)) <| .store (p247.fst, p247.snd + mulN (Int.toNat y238.fst) 2 + 1) (.int .i64 (i246)) <| .guard (InK IntKind.i64 (y238.fst + 1)) <| .done .normal [.c (.int .i64 (y238.fst + 1))]) (.done (.exit 6) [])) [] fun x248 => .nonnil (y54.fst) fun p249 => .load (p249.fst, p249.snd + 2) (.sl) fun s250 => .nonnil (y54.fst) fun p251 => .load (p251.fst, p251.snd + 2) (.sl) fun s252 => .guard (InK IntKind.i64 ((↑s252.snd.fst : Int) - x230.fst)) <| .guard (((0 : Int) ≤ (↑s252.snd.fst : Int) - x230.fst) ∧ (((↑s252.snd.fst : Int) - x230.fst : Int) ≤ (↑s250.snd.snd : Int))) <| .nonnil (y54.fst) fun p253 => .store (p253.fst, p253.snd + 2) (.sl (slBase s250.fst s250.snd.snd 0 2) (((↑s252.snd.fst : Int) - x230.fst).toNat - 0) (s250.snd.snd - 0)) <| .bind (some 8) (.loop [.c (.int .i64)] [.c (.int .i64 (0))] fun y254 => .ite (decide (y254.fst < (↑y54.snd.fst.snd.fst : Int))) (.nonnil (y54.snd.fst.fst) fun p255 => .guard (((0 : Int) ≤ y254.fst) ∧ ((y254.fst : Int) < (↑y54.snd.fst.snd.fst : Int))) <| .load (p255.fst, p255.snd + mulN (Int.toNat y254.fst) 2) (.ptr) fun q256 => .nonnil (q256) fun p257 => .load (p257.fst, p257.snd + 1) (.int .i64) fun i258 => .guard (InK IntKind.i64 (i258 - x230.fst)) <| .nonnil (q256) fun p259 => .store (p259.fst, p259.snd + 1) (.int .i64 (i258 - x230.fst)) <| .guard (InK IntKind.i64 (y254.fst + 1)) <| .done .normal [.c (.int .i64 (y254.fst + 1))]) (.done (.exit 8) [])) [] fun x260 => .load (n0, 0) (.ptr) fun q261 => .nonnil (q261) fun p262 => .load (p262.fst, p262.snd + 3) (.int .i64) fun i263 => .guard (InK IntKind.i64 (i263 - x230.fst)) <| .nonnil (q261) fun p264 => .store (p264.fst, p264.snd + 3) (.int .i64 (i263 - x230.fst)) <| .ite (x230.snd.fst) (.nonnil ((some la)) fun p265 => .load p265 (.raw) fun v266 => .load (p265.fst, p265.snd + 1) (.int .i64) fun i267 => .load (p265.fst, p265.snd + 2) (.int .i64) fun i268 => .load (p265.fst, p265.snd + 3) (.sl) fun s269 => .store (n3, 0) (.raw (v266)) <| .store (n3, 1) (.int .i64 (i267)) <| .store (n3, 2) (.int .i64 (i268)) <| .store (n3, 3) (.sl (s269.fst) (s269.snd.fst) (s269.snd.snd)) <| .load (n3, 0) (.raw) fun v270 => .load (n3, 1) (.int .i64) fun i271 => .load (n3, 2) (.int .i64) fun i272 => .load (n3, 3) (.sl) fun s273 => .done .ret [.agg [.raw (v270), .int .i64 (i271), .int .i64 (i272), .sl (s273.fst) (s273.snd.fst) (s273.snd.snd)]]) (.done .normal [])) (.done .normal [])) [] fun x274 => .bind (some 10) (.loop [.c (.sl), .c (.int .i64)] [.c (.sl (y54.snd.fst.fst) (y54.snd.fst.snd.fst) (y54.snd.fst.snd.snd)), .c (.int .i64 (y54.snd.snd.snd.fst))] fun y275 => .nonnil (y54.fst) fun p276 => .load (p276.fst, p276.snd + 2) (.sl) fun s277 => .ite (decide (y275.snd.fst < (↑s277.snd.fst : Int))) (.nonnil (y54.fst) fun p278 => .load (p278.fst, p278.snd + 2) (.sl) fun s279 => .nonnil (s279.fst) fun p280 => .guard (((0 : Int) ≤ y275.snd.fst) ∧ ((y275.snd.fst : Int) < (↑s279.snd.fst : Int))) <| .load (p280.fst, p280.snd + mulN (Int.toNat y275.snd.fst) 2) (.int .i64) fun i281 => .load (p280.fst, p280.snd + mulN (Int.toNat y275.snd.fst) 2 + 1) (.int .i64) fun i282 => .callv (f) [.agg [.int .i64 (i281), .int .i64 (i282)]] false [.c (.bool)] fun r283 => .ite (r283.fst) (.nonnil ((some la)) fun p284 => .load p284 (.raw) fun v285 => .load (p284.fst, p284.snd + 1) (.int .i64) fun i286 => .load (p284.fst, p284.snd + 2) (.int .i64) fun i287 => .load (p284.fst, p284.snd + 3) (.sl) fun s288 => .store (n3, 0) (.raw (v285)) <| .store (n3, 1) (.int .i64 (i286)) <| .store (n3, 2) (.int .i64 (i287)) <| .store (n3, 3) (.sl (s288.fst) (s288.snd.fst) (s288.snd.snd)) <| .load (n3, 0) (.raw) fun v289 => .load (n3, 1) (.int .i64) fun i290 => .load (n3, 2) (.int .i64) fun i291 => .load (n3, 3) (.sl) fun s292 => .done .ret [.agg [.raw (v289), .int .i64 (i290), .int .i64 (i291), .sl (s292.fst) (s292.snd.fst) (s292.snd.snd)]]) (.nonnil (y54.fst) fun p293 => .load (p293.fst, p293.snd + 2) (.sl) fun s294 => .load (n0, 0) (.ptr) fun q295 => .nonnil (q295) fun p296 => .load (p296.fst, p296.snd + 10) (.int .i64) fun i297 => .ite (decide ((↑s294.snd.fst : Int) > i297)) (.bind none (.ite (ext) (.nonnil (y54.fst) fun p298 => .load (p298.fst, p298.snd + 2) (.sl) fun s299 => .nonnil (s299.fst) fun p300 => .guard (((0 : Int) ≤ y275.snd.fst) ∧ ((y275.snd.fst : Int) < (↑s299.snd.fst : Int))) <| .load (p300.fst, p300.snd + mulN (Int.toNat y275.snd.fst) 2) (.int .i64) fun i301 => .load (p300.fst, p300.snd + mulN (Int.toNat y275.snd.fst) 2 + 1) (.int .i64) fun i302 => .call fn_lg_append [.c (.ptr ((some la))), .agg [.int .i64 (i301), .int .i64 (i302)], .c (.ptr none)] true [] fun r303 => .done .normal []) (.done .normal [])) [] fun x304 => .nonnil (y54.fst) fun p305 => .load (p305.fst, p305.snd + 2) (.sl) fun s306 => .guard (((0 : Int) ≤ y275.snd.fst) ∧ ((y275.snd.fst : Int) ≤ (↑s306.snd.fst : Int))) <| .nonnil (y54.fst) fun p307 => .load (p307.fst, p307.snd + 2) (.sl) fun s308 => .guard (InK IntKind.i64 (y275.snd.fst + 1)) <| .guard (((0 : Int) ≤ y275.snd.fst + 1) ∧ ((y275.snd.fst + 1 : Int) ≤ (↑s308.snd.fst : Int))) <| .copy 2 ((slBase s306.fst s306.snd.snd (Int.toNat y275.snd.fst) 2), s306.snd.fst - Int.toNat y275.snd.fst, s306.snd.snd - Int.toNat y275.snd.fst) ((slBase s308.fst s308.snd.snd (y275.snd.fst + 1).toNat 2), s308.snd.fst - (y275.snd.fst + 1).toNat, s308.snd.snd - (y275.snd.fst + 1).toNat) fun m309 => .nonnil (y54.fst) fun p310 => .load (p310.fst, p310.snd + 2) (.sl) fun s311 => .nonnil (y54.fst) fun p312 => .load (p312.fst, p312.snd + 2) (.sl) fun s313 => .guard (InK IntKind.i64 ((↑s313.snd.fst : Int) - 1)) <| .load (n0, 0) (.ptr) fun q314 => .nonnil (q314) fun p315 => .load (p315.fst, p315.snd + 7) (.int .i64) fun i316 => .load (p315.fst, p315.snd + 8) (.int .i64) fun i317 => .nonnil (s311.fst) fun p318 => .guard (((0 : Int) ≤ (↑s313.snd.fst : Int) - 1) ∧ (((↑s313.snd.fst : Int) - 1 : Int) < (↑s311.snd.fst : Int))) <| .store (p318.fst, p318.snd + mulN ((↑s313.snd.fst : Int) - 1).toNat 2) (.int .i64 (i316)) <| .store (p318.fst, p318.snd + mulN ((↑s313.snd.fst : Int) - 1).toNat 2 + 1) (.int .i64 (i317)) <| .nonnil (y54.fst) fun p319 => .load (p319.fst, p319.snd + 2) (.sl) fun s320 => .nonnil (y54.fst) fun p321 => .load (p321.fst, p321.snd + 2) (.sl) fun s322 => .guard (InK IntKind.i64 ((↑s322.snd.fst : Int) - 1)) <| .guard (((0 : Int) ≤ (↑s322.snd.fst : Int) - 1) ∧ (((↑s322.snd.fst : Int) - 1 : Int) ≤ (↑s320.snd.snd : Int))) <| .nonnil (y54.fst) fun p323 => .store (p323.fst, p323.snd + 2) (.sl (slBase s320.fst s320.snd.snd 0 2) (((↑s322.snd.fst : Int) - 1).toNat - 0) (s320.snd.snd - 0)) <| .bind (some 12) (.loop [.c (.int .i64)] [.c (.int .i64 (0))] fun y324 => .ite (decide (y324.fst < (↑y275.fst.snd.fst : Int))) (.nonnil (y275.fst.fst) fun p325 => .guard (((0 : Int) ≤ y324.fst) ∧ ((y324.fst : Int) < (↑y275.fst.snd.fst : Int))) <| .load (p325.fst, p325.snd + mulN (Int.toNat y324.fst) 2) (.ptr) fun q326 => .nonnil (q326) fun p327 => .load (p327.fst, p327.snd + 1) (.int .i64) fun i328 => .guard (InK IntKind.i64 (i328 - 1)) <| .nonnil (q326) fun p329 => .store (p329.fst, p329.snd + 1) (.int .i64 (i328 - 1)) <| .guard (InK IntKind.i64 (y324.fst + 1)) <| .done .normal [.c (.int .i64 (y324.fst + 1))]) (.done (.exit 12) [])) [] fun x330 => .load (n0, 0) (.ptr) fun q331 => .nonnil (q331) fun p332 => .load (p332.fst, p332.snd + 3) (.int .i64) fun i333 => .guard (InK IntKind.i64 (i333 - 1)) <| .nonnil (q331) fun p334 => .store (p334.fst, p334.snd + 3) (.int .i64 (i333 - 1)) <| .guard (InK IntKind.i64 (y275.snd.fst - 1)) <| .guard (InK IntKind.i64 (y275.snd.fst - 1 + 1)) <| .done .normal [.c (.sl (y275.fst.fst) (y275.fst.snd.fst) (y275.fst.snd.snd)), .c (.int .i64 (y275.snd.fst - 1 + 1))]) (.nonnil (y54.fst) fun p335 => .load (p335.fst, p335.snd + 2) (.sl) fun s336 => .nonnil (s336.fst) fun p337 => .guard (((0 : Int) ≤ y275.snd.fst) ∧ ((y275.snd.fst : Int) < (↑s336.snd.fst : Int))) <| .load (p337.fst, p337.snd + mulN (Int.toNat y275.snd.fst) 2) (.int .i64) fun i338 => .load (p337.fst, p337.snd + mulN (Int.toNat y275.snd.fst) 2 + 1) (.int .i64) fun i339 => .store ((nv, 0) : PA) (.int .i64 (i338)) <| .store (((nv, 0) : PA).fst, ((nv, 0) : PA).snd + 1) (.int .i64 (i339)) <| .bind none (.ite (ext) (.nonnil (y54.fst) fun p340 => .load (p340.fst, p340.snd + 2) (.sl) fun s341 => .nonnil (s341.fst) fun p342 => .guard (((0 : Int) ≤ y275.snd.fst) ∧ ((y275.snd.fst : Int) < (↑s341.snd.fst : Int))) <| .load (p342.fst, p342.snd + mulN (Int.toNat y275.snd.fst) 2) (.int .i64) fun i343 => .load (p342.fst, p342.snd + mulN (Int.toNat y275.snd.fst) 2 + 1) (.int .i64) fun i344 => .call fn_lg_append [.c (.ptr ((some la))), .agg [.int .i64 (i343), .int .i64 (i344)], .c (.ptr none)] true [] fun r345 => .done .normal []) (.done .normal [])) [] fun x346 => .load (n0, 0) (.ptr) fun q347 => .nonnil (y54.fst) fun p348 => .load (p348.fst, p348.snd + 2) (.sl) fun s349 => .nonnil (s349.fst) fun p350 => .guard (((0 : Int) ≤ y275.snd.fst) ∧ ((y275.snd.fst : Int) < (↑s349.snd.fst : Int))) <| .load (p350.fst, p350.snd + mulN (Int.toNat y275.snd.fst) 2) (.int .i64) fun i351 => .load (p350.fst, p350.snd + mulN (Int.toNat y275.snd.fst) 2 + 1) (.int .i64) fun i352 => .call fn_tg_deleteHint [.c (.ptr (q347)), .agg [.int .i64 (i351), .int .i64 (i352)], .c (.addr nh)] true [.agg [.int .i64, .int .i64], .c (.bool)] fun r353 => .guard (((0 : Int) ≤ 0) ∧ ((0 : Int) ≤ (↑y275.fst.snd.snd : Int))) <| .done (.exit 1000) [.c (.sl (slBase y275.fst.fst y275.fst.snd.snd 0 2) (0) (y275.fst.snd.snd - 0)), .c (.addr ((nv, 0) : PA)), .c (.addr nh), .c (.raw (f)), .c (.ptr ((some la))), .c (.bool (ext))]))) (.done (.exit 10) [.c (.sl (y275.fst.fst) (y275.fst.snd.fst) (y275.fst.snd.snd))])) [.c (.sl)] fun x354 => .loop [.c (.sl)] [.c (.sl (x354.fst.fst) (x354.fst.snd.fst) (x354.fst.snd.snd))] fun y355 => .guard (InK IntKind.i64 ((↑y355.fst.snd.fst : Int) - 1)) <| .nonnil (y355.fst.fst) fun p356 => .guard (((0 : Int) ≤ (↑y355.fst.snd.fst : Int) - 1) ∧ (((↑y355.fst.snd.fst : Int) - 1 : Int) < (↑y355.fst.snd.fst : Int))) <| .load (p356.fst, p356.snd + mulN ((↑y355.fst.snd.fst : Int) - 1).toNat 2 + 1) (.int .i64) fun i357 => .guard (InK IntKind.i64 ((↑y355.fst.snd.fst : Int) - 1)) <| .guard (((0 : Int) ≤ (↑y355.fst.snd.fst : Int) - 1) ∧ (((↑y355.fst.snd.fst : Int) - 1 : Int) ≤ (↑y355.fst.snd.snd : Int))) <| .ite ((↑(((↑y355.fst.snd.fst : Int) - 1).toNat - 0) : Int) == 0) (.nonnil ((some la)) fun p358 => .load p358 (.raw) fun v359 => .load (p358.fst, p358.snd + 1) (.int .i64) fun i360 => .load (p358.fst, p358.snd + 2) (.int .i64) fun i361 => .load (p358.fst, p358.snd + 3) (.sl) fun s362 => .store (n3, 0) (.raw (v359)) <| .store (n3, 1) (.int .i64 (i360)) <| .store (n3, 2) (.int .i64 (i361)) <| .store (n3, 3) (.sl (s362.fst) (s362.snd.fst) (s362.snd.snd)) <| .load (n3, 0) (.raw) fun v363 => .load (n3, 1) (.int .i64) fun i364 => .load (n3, 2) (.int .i64) fun i365 => .load (n3, 3) (.sl) fun s366 => .done .ret [.agg [.raw (v363), .int .i64 (i364), .int .i64 (i365), .sl (s366.fst) (s366.snd.fst) (s366.snd.snd)]]) (.guard (InK IntKind.i64 ((↑(((↑y355.fst.snd.fst : Int) - 1).toNat - 0) : Int) - 1)) <| .nonnil (slBase y355.fst.fst y355.fst.snd.snd 0 2) fun p367 => .guard (((0 : Int) ≤ (↑(((↑y355.fst.snd.fst : Int) - 1).toNat - 0) : Int) - 1) ∧ (((↑(((↑y355.fst.snd.fst : Int) - 1).toNat - 0) : Int) - 1 : Int) < (↑(((↑y355.fst.snd.fst : Int) - 1).toNat - 0) : Int))) <| .load (p367.fst, p367.snd + mulN ((↑(((↑y355.fst.snd.fst : Int) - 1).toNat - 0) : Int) - 1).toNat 2) (.ptr) fun q368 => .nonnil (q368) fun p369 => .load (p369.fst, p369.snd + 2) (.sl) fun s370 => .ite (decide (i357 < (↑s370.snd.fst : Int))) (.done (.exit 1001) [.c (.ptr (q368)), .c (.sl (slBase y355.fst.fst y355.fst.snd.snd 0 2) (((↑y355.fst.snd.fst : Int) - 1).toNat - 0) (y355.fst.snd.snd - 0)), .c (.tt), .c (.int .i64 (i357))]) (.done .normal [.c (.sl (slBase y355.fst.fst y355.fst.snd.snd 0 2) (((↑y355.fst.snd.fst : Int) - 1).toNat - 0) (y355.fst.snd.snd - 0))])))) [.c (.ptr), .c (.sl), .c (.bool), .c (.int .i64)] fun x371 => .done .normal [.c (.ptr (x371.fst)), .c (.sl (x371.snd.fst.fst) (x371.snd.fst.snd.fst) (x371.snd.fst.snd.snd)), .c (.bool (x371.snd.snd.fst)), .c (.int .i64 (x371.snd.snd.snd.fst))]) Q h := by
  refine w_lp (fun k y h' => ∃ (r i : Nat) (fd : Bool) (z : Zp n r) (b cs : Nat) (ps : PA) (u : BT KV r), y = (some (b, 0), (some ps, (z.stk b).length, cs), fd, (i : Int), ()) ∧ Nw o st FL Cp b0 dg rnd r1 pv r z b u fd i k ∧ (fd = false → 0 < r → r + (z.all u).length = M) ∧ (∀ a ∈ z.all u, a ∈ l) ∧ (z.stk b).length ≤ cs ∧
      St h0 G0 [K (z.all u), Ow a0 (mapC ls iso ctr (some (b0, 0)) (z.all u).length dg (2 * dg + 1) false false) 0, Ow (nv, 0) (L.cells pv) 0, HtC (some nh), Ow ps (LFr.flat (z.stk b)) ((cs - (z.stk b).length) * LFr.sz), ZsC iso z (flatB r u).length, ZrC iso z b, TrC L iso r b u] h') k0 rfl ⟨r, i, fd, z, b, cs, ps, u, rfl, nx, hM, hsb, hcs, S⟩ ?_
  clear S nx hcs hM hsb
  rintro k _ _ ⟨r, i, fd, z, b, cs, ps, u, rfl, nx, hM, hsb, hcs, S⟩
  have h1 := hl.one
  refine w_bnd (w_nonnil ?_)
  obtain ⟨kp, hkr, hkp⟩ := S.kp L iso b
  refine w_ptr kp hkr ?_
  cases r with
  | zero =>
    obtain ⟨lw, hlt⟩ := nx
    refine w_false (by show (!kp.isNone) = false; rw [hkp]; rfl) ?_
    refine w_leafr (R := k - 1) hn0 hls hoc hst hap hrt hsm hC hl hsb lw (by omega) hcs hn S (fun h' v post hRf S => bd_r (ln_r (hret h' v post hRf S))) (fun h' cs ps cur x e1 e2 e3 S => bd_q (by decide) (ln_e (hrs h' cs ps cur x e1 e2 e3 S))) (fun h' r z b u i bw hsb hcs S => bd_e rfl ?_)
    exact ln_n rfl (k - 1) ⟨r + 1, i, true, z, b, cs, ps, u, rfl, .inl ⟨rfl, bw⟩, (fun h => by cases h), hsb, hcs, S⟩ (by omega)
  | succ r =>
  obtain ⟨xs, ts⟩ := u
  refine w_true (by show (!kp.isNone) = true; rw [hkp]; rfl) ?_
  rcases nx with ⟨rfl, bw⟩ | ⟨rfl, hr1, pw, hf, hi⟩
  · have hlt : i < xs.length := bw.lt
    refine w_bran (i := i) (fd := true) hn0 h2a h2b hls hoc hap hl bw.lu (by omega) (fun a v ha hv => hCl _ (bw.rt.pr i a v (Nat.le_refl _) ha hv)) hcs hn S (fun h' y hy hym lu' S => ?_) (fun h' S => ?_)
    · have bw' := bw.cut hsm hy hym lu'
      have hsub : ∀ a ∈ z.all (cutB ((xs, ts) : BT KV (r + 1)) i), a ∈ l := fun a ha => by
        have hl2 : ts.length = xs.length + 1 := bw.lu.val.2.1
        obtain ⟨v, hv⟩ : ∃ v, ts[i + 1]? = some v := ⟨_, List.getElem?_eq_getElem (by omega)⟩
        obtain ⟨P, hP1, hP2, hP3, hP4⟩ := cut_flat (u := ((xs, ts) : BT KV (r + 1))) hl2 (List.getElem?_eq_getElem hlt) hv
        exact hsb a ((z.sub_all (u := ((xs, ts) : BT KV (r + 1))) (v := cutB ((xs, ts) : BT KV (r + 1)) i) hP1 hP2).subset (List.mem_append.2 (.inr ha)))
      have hk1 : 1 ≤ k := by
        have := bw.rm
        obtain ⟨v, hv⟩ : ∃ v, ts[i + 1]? = some v := ⟨_, List.getElem?_eq_getElem (by have hl2 : ts.length = xs.length + 1 := bw.lu.val.2.1; omega)⟩
        dsimp only at this
        rw [post_cons (List.getElem?_eq_getElem hlt) (by rw [List.getElem?_map, hv]; rfl : (ts.map (flatB r))[i + 1]? = some (flatB r v))] at this
        simp at this
        omega
      exact w_true rfl (bd_e rfl (ln_n rfl (k - 1) ⟨r + 1, i, true, z, b, cs, ps, _, rfl, .inl ⟨rfl, bw'⟩, (fun h => by cases h), hsub, hcs, S⟩ (by omega)))
    · exact w_true rfl (w_foundr hn0 hls hoc hst hap hrt hsm hC hl hsb bw hcs hn S (fun h' v post hRf S => bd_r (ln_r (hret h' v post hRf S))) (fun h' cs ps cur x e1 e2 e3 S => bd_q (by decide) (ln_e (hrs h' cs ps cur x e1 e2 e3 S))))
  · have hf : fnd (ltO o) xs pv = none := hf
    have hi : i = pos (ltO o) xs pv := hi
    have lu := pw.lu
    have hpl := pos_le (lt := ltO o) xs pv
    have hl2 : ts.length = xs.length + 1 := lu.val.2.1
    have hM := hM rfl (by omega)
    have hs0 : Srt (ltO o) (z.lf ++ (flatB (r + 1) ((xs, ts) : BT KV (r + 1)) ++ z.rg)) := lu.srt
    have hsw : Srt (ltO o) (weave xs (ts.map (flatB r))) := (srt_append.1 (srt_append.1 hs0).2.1).1
    have hsi := srt_items (by rw [List.length_map]; exact hl2) hsw
    refine w_bran (i := i) (fd := false) hn0 h2a h2b hls hoc hap hl lu (by omega) (fun a v ha hv => hCl _ (pw.gd.1 i a v ha hv ?_)) hcs hn S (fun h' y hy hym lu' S => ?_) (fun h' S => ?_)
    · show ltO o a pv = false
      have := pos_spec (ordO o) hsi pv i a ha
      cases hq : ltO o a pv with
      | false => rfl
      | true => exact absurd (this.2 hq) (by omega)
    · have hi1 := (List.getElem?_eq_some_iff.1 hy).1
      obtain ⟨pw', hlt'⟩ := pw.cut hsm hf hi hy hym lu'
      have hsub : ∀ a ∈ z.all (cutB ((xs, ts) : BT KV (r + 1)) i), a ∈ l := fun a ha => by
        obtain ⟨v, hv⟩ : ∃ v, ts[i + 1]? = some v := ⟨_, List.getElem?_eq_getElem (by omega)⟩
        obtain ⟨P, hP1, hP2, hP3, hP4⟩ := cut_flat (u := ((xs, ts) : BT KV (r + 1))) hl2 (List.getElem?_eq_getElem (show i < xs.length by omega)) hv
        exact hsb a ((z.sub_all (u := ((xs, ts) : BT KV (r + 1))) (v := cutB ((xs, ts) : BT KV (r + 1)) i) hP1 hP2).subset (List.mem_append.2 (.inr ha)))
      exact w_false rfl (bd_q (by decide) (ln_e (hdn h' (r + 1) z b _ cs ps (by omega) pw' hsub hcs S)))
    · exact w_false rfl (w_descr hn0 hl pw hf hi hcs hn S (fun h' z' b' u cs ps pw' hae hcs S => bd_q (by decide) (ln_e (hdn h' r z' b' u cs ps (by rw [hae]; omega) pw' (by rw [hae]; exact hsb) hcs S))))
end
end Go.Proofs.Ytegnpimlfphncaa.TG
