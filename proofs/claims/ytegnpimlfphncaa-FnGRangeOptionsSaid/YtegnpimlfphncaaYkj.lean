/-
  The tree of items: DeleteRange, whole. Conditions: none.
-/
import Derived.Test.YtegnpimlfphncaaYkg
import Derived.Test.YtegnpimlfphncaaPgQ
set_option linter.unusedVariables false
set_option linter.unusedSimpArgs false
set_option linter.unusedSectionVars false
set_option maxRecDepth 100000
namespace Go.Proofs.Ytegnpimlfphncaa.TG
open Go Go.Proofs.Ytegnpimlfphncaa
def Kq (ls : Value) (o : List Int) (iso : Int) (dg : Nat) (ext : Bool) (la : PA) (l : List KV) (n3 : Nat) (cur : List KV) : Ck := StC [QuC ls o iso dg ext la l cur, Ow (n3, 0) (listC Value.nilFunc 0 0 (none, 0, 0)) 0]
def Rq (ls : Value) (o : List Int) (iso : Int) (dg : Nat) (ext : Bool) (la : PA) (l cur : List KV) (v : AV) (post : List Ck) : Prop :=
  ∃ (t : SlT) (q : List El), v = .agg [.raw (if ext then ls else Value.nilFunc), .int .i64 (cntQ q), .int .i64 0, .sl t.1 t.2.1 t.2.2] ∧ OwC t q ∧ Qv o dg ext l cur q ∧ post = [Ow la (listC (if ext then ls else Value.nilFunc) (cntQ q) 0 t) 0, SlC t LE.sz (LE.flat q), StC (tsL iso q)]
section
variable {h h0 : H} {G0 : PA → Prop} {Q : Ex → List AV → H → Prop} {ls : Value} {oc : Ck} {o : List Int} {K : List KV → Ck} {Rf : List KV → AV → List Ck → Prop} {st : KV → Bool} {f : Value} {FL l : List KV} {Cp : List KV → Prop} {b0 dg rnd n n0 n2 n3 nv : Nat} {iso : Int} {ctr : Option PA} {a0 nh ps la : PA} {pv mk : KV} {cs : Nat} {ext fd : Bool}
theorem apn_q (hls : Lss ls oc o) (hll : l.length ≤ 4294967295) : Apn oc (Kq ls o iso dg ext la l n3) iso dg l la ext := by
  refine ⟨fun he h G cur cur' e h1 h2 h3 hoc hG => ?_, fun he h0 G0 r h cur cur' S => ?_⟩
  · subst he
    have S := St.start hG
    have S : St h G [QuC ls o iso dg true la l cur, Ow (n3, 0) (listC Value.nilFunc 0 0 (none, 0, 0)) 0, elC iso e] h := S.st_out
    obtain ⟨G1, hG1, hB, hsub, hback⟩ := St.cutB (A := [QuC ls o iso dg true la l cur, elC iso e]) (B := [Ow (n3, 0) (listC Value.nilFunc 0 0 (none, 0, 0)) 0]) S.pull2.pull1
    refine HT.mono (c_lappQ (cur' := cur') hls h1 h2 h3 hll (hoc.step (St.start hG) hsub) hG1) ?_
    rintro _ h' ⟨post, rfl, S'⟩
    exact ⟨_, rfl, St.st_in (m := [_, _]) (hback _ h' S')⟩
  · subst he
    have S := S.st_out
    exact St.st_in (m := [_, _]) (qu_no S)
theorem rtn_q (hls : Lss ls oc o) : Rtn (Kq ls o iso dg ext la l n3) (Rq ls o iso dg ext la l) la n3 := by
  intro Q h0 h G0 r cur S hw
  unfold rtM
  have S := S.st_out
  obtain ⟨t, q, h1, h2, S⟩ := open_qu S
  have S : St h0 G0 (Ow la (listC (if ext then ls else Value.nilFunc) (cntQ q) 0 t) 0 :: SlC t LE.sz (LE.flat q) :: StC (tsL iso q) :: Ow (n3, 0) (listC Value.nilFunc 0 0 (none, 0, 0)) 0 :: r) h := S
  have hraw : (Cell.raw (if ext then ls else Value.nilFunc)).val = (if ext then ls else Value.nilFunc) := by
    cases ext with
    | true => exact hls.1
    | false => rfl
  obtain ⟨V, hV⟩ : ∃ V, V = (if ext then ls else Value.nilFunc) := ⟨_, rfl⟩
  rw [← hV] at hraw S
  obtain ⟨t1, t2, t3⟩ := t
  refine w_nonnil (w_raw V (by rw [hraw]; exact S.rd rfl) (ld_int S rfl (ld_int S rfl (ld_sl S t1 t2 t3 rfl ?_))))
  refine st_store S (lt_ble rfl) fun _ S => ?_
  refine st_store S (lt_ble rfl) fun _ S => ?_
  refine st_store S (lt_ble rfl) fun _ S => ?_
  refine st_store S (lt_ble rfl) fun _ S => ?_
  refine w_raw V (S.rd rfl) (ld_int S rfl (ld_int S rfl (ld_sl S t1 t2 t3 rfl ?_)))
  refine hw _ _ [Ow la (listC V (cntQ q) 0 (t1, t2, t3)) 0, SlC (t1, t2, t3) LE.sz (LE.flat q), StC (tsL iso q)] ⟨(t1, t2, t3), q, by rw [← hV], h1, h2, by rw [← hV]⟩ ?_
  exact St.st_in (m := [_, _, _]) (S.at (.ow la)).pull3.drop
end
end Go.Proofs.Ytegnpimlfphncaa.TG
set_option linter.unusedVariables false
set_option linter.unusedSimpArgs false
set_option linter.unusedSectionVars false
set_option maxRecDepth 100000
namespace Go.Proofs.Ytegnpimlfphncaa.TG
open Go Go.Proofs.Ytegnpimlfphncaa
section
variable {o : List Int} {l : List KV} {x a : KV}
theorem take_pos (hs : Srt (ltO o) l) (ha : a ∈ l.take (pos (ltO o) l x)) : ltO o a x = true := by
  obtain ⟨j, hj⟩ := List.mem_iff_getElem?.1 ha
  have hlt := (List.getElem?_eq_some_iff.1 hj).1
  rw [List.length_take] at hlt
  rw [List.getElem?_take_of_lt (by omega)] at hj
  exact (pos_spec (ordO o) hs x j a hj).1 (by omega)
theorem drop_pos (hs : Srt (ltO o) l) (ha : a ∈ l.drop (pos (ltO o) l x)) : ltO o a x = false := by
  obtain ⟨j, hj⟩ := List.mem_iff_getElem?.1 ha
  rw [List.getElem?_drop] at hj
  cases hq : ltO o a x with
  | false => rfl
  | true => exact absurd ((pos_spec (ordO o) hs x _ a hj).2 hq) (by omega)
end
section
variable {h h0 : H} {G0 : PA → Prop} {Q : Ex → List AV → H → Prop} {ls : Value} {oc : Ck} {o : List Int} {K : List KV → Ck} {Rf : List KV → AV → List Ck → Prop} {st : KV → Bool} {f : Value} {FL l : List KV} {Cp : List KV → Prop} {b0 dg rnd n n0 n2 n3 nv : Nat} {iso : Int} {ctr : Option PA} {a0 nh ps la : PA} {pv mk : KV} {cs : Nat} {ext fd : Bool}
theorem srt_ti {mn mx : Nat} : ∀ {r : Nat} {u : BT KV r}, Val mn mx r u → Srt (ltO o) (flatB r u) → Srt (ltO o) (itemsB r u)
  | 0, u, _, hs => hs
  | r + 1, u, hv, hs => by
    have hs : Srt (ltO o) (weave u.1 (u.2.map (flatB r))) := hs
    exact srt_items (by rw [List.length_map]; exact hv.2.1) hs
theorem Pw.nx {r b : Nat} {z : Zp n r} {u : BT KV r} (pw : Pw o st FL Cp b0 dg rnd z b u pv) : Nw o st FL Cp b0 dg rnd r pv r z b u (fnd (ltO o) (itemsB r u) pv).isSome (pos (ltO o) (itemsB r u) pv) (rnd + 1) := by
  obtain ⟨lu, lo, hi, fn, gr, gd⟩ := pw
  have htop := lu.top
  rw [z.all_len] at htop
  have hs0 : Srt (ltO o) (z.lf ++ (flatB r u ++ z.rg)) := lu.srt
  have hsw : Srt (ltO o) (flatB r u) := (srt_append.1 (srt_append.1 hs0).2.1).1
  have hsp : FL = (z.lf ++ (flatB r u).take (pos (ltO o) (flatB r u) pv)) ++ ((flatB r u).drop (pos (ltO o) (flatB r u) pv) ++ z.rg).filter st := by
    rw [fn]
    have e : z.all u = (z.lf ++ (flatB r u).take (pos (ltO o) (flatB r u) pv)) ++ ((flatB r u).drop (pos (ltO o) (flatB r u) pv) ++ z.rg) := by
      show z.lf ++ (flatB r u ++ z.rg) = _
      conv => lhs; rw [← List.take_append_drop (pos (ltO o) (flatB r u) pv) (flatB r u)]
      simp only [List.append_assoc]
    rw [e]
    refine kp_split (fun a ha => ?_) (fun a ha => ?_)
    · exact (List.mem_append.1 ha).elim (lo a) (take_pos hsw)
    · exact (List.mem_append.1 ha).elim (drop_pos hsw) (fun ha => (ordO o).asym (hi a ha))
  cases r with
  | zero => exact ⟨⟨lu, pos_le _ _, hsp, gr⟩, by omega⟩
  | succ r =>
    obtain ⟨xs, ts⟩ := u
    have hl2 : ts.length = xs.length + 1 := lu.val.2.1
    have hlm : (ts.map (flatB r)).length = xs.length + 1 := by rw [List.length_map, hl2]
    have hsw' : Srt (ltO o) (weave xs (ts.map (flatB r))) := hsw
    cases hf : fnd (ltO o) (itemsB (r + 1) ((xs, ts) : BT KV (r + 1))) pv with
    | none => exact .inr ⟨rfl, rfl, ⟨lu, lo, hi, fn, gr, gd⟩, hf, rfl⟩
    | some y =>
      have hf : fnd (ltO o) xs pv = some y := hf
      have hd := drop_here (ordO o) hlm hsw' hf
      have hd : (flatB (r + 1) ((xs, ts) : BT KV (r + 1))).drop (pos (ltO o) (flatB (r + 1) ((xs, ts) : BT KV (r + 1))) pv) = post (xs.drop (pos (ltO o) xs pv)) ((ts.map (flatB r)).drop (pos (ltO o) xs pv + 1)) := hd
      have hdl := congrArg List.length hd
      rw [List.length_drop] at hdl
      refine .inl ⟨rfl, lu, (fnd_some_lt hf).1, ⟨(flatB (r + 1) ((xs, ts) : BT KV (r + 1))).take (pos (ltO o) (flatB (r + 1) ((xs, ts) : BT KV (r + 1))) pv), ?_, ?_⟩, ?_, gr, rt_found lu.val hsw hf gd⟩
      · show _ = _ ++ post (xs.drop (pos (ltO o) xs pv)) ((ts.map (flatB r)).drop (pos (ltO o) xs pv + 1))
        rw [← hd, List.take_append_drop]
      · show FL = _ ++ (post (xs.drop (pos (ltO o) xs pv)) ((ts.map (flatB r)).drop (pos (ltO o) xs pv + 1)) ++ z.rg).filter st
        rw [← hd]; exact hsp
      · show (post (xs.drop (pos (ltO o) xs pv)) ((ts.map (flatB r)).drop (pos (ltO o) xs pv + 1))).length + z.rg.length ≤ rnd + 1
        rw [← hdl]; omega
set_option maxHeartbeats 4000000 in
theorem w_findr {r : Nat} {z : Zp n r} {b : Nat} {u : BT KV r} (hn0 : Bes (RdC (n0, 0) (.pointer (some a0.val))) h0 G0) (h2a : Bes (RdC (n2, 0) (.int .i64 mk.1)) h0 G0) (h2b : Bes (RdC (n2, 1) (.int .i64 mk.2)) h0 G0) (hls : Lss ls oc o) (hoc : Bes oc h0 G0) (hst : Stp h0 G0 f st a0 ls) (hap : Apn oc K iso dg l la ext) (hrt : Rtn K Rf la n3) (hsm : Stm o st mk) (hC : Icl Cp) (hCl : ∀ X, Cp X → X <:+: l) (hl : Lim b0 dg rnd)
    (pw : Pw o st FL Cp b0 dg rnd z b u pv) (hsb : ∀ a ∈ z.all u, a ∈ l) (hcs : (z.stk b).length ≤ cs) (hn : n ≤ 4294967294)
    (S : St h0 G0 [K (z.all u), Ow a0 (mapC ls iso ctr (some (b0, 0)) (z.all u).length dg (2 * dg + 1) false false) 0, Ow (nv, 0) (L.cells pv) 0, HtC (some nh), Ow ps (LFr.flat (z.stk b)) ((cs - (z.stk b).length) * LFr.sz), ZsC iso z (flatB r u).length, ZrC iso z b, TrC L iso r b u] h)
    (hret : Rets h0 G0 Q ls o Rf FL dg iso a0)
    (hrs : Rs h0 G0 Q ls o K st f FL l Cp dg rnd nv iso a0 nh la ext) :
    wp Try.prog (.loop [.c (.ptr), .c (.sl)] [.c (.ptr (some (b, 0))), .c (.sl ((some ps)) ((z.stk b).length) (cs))] fun y48 => .bind (some 1) (.bind (some 1001) (.load (n0, 0) (.ptr) fun q49 => .load ((nv, 0) : PA) (.int .i64) fun i50 => .load (((nv, 0) : PA).fst, ((nv, 0) : PA).snd + 1) (.int .i64) fun i51 => .guard (InK IntKind.i64 ((↑y48.snd.fst.snd.fst : Int) - 1)) <| .call fn_tg_find [.c (.ptr (q49)), .c (.ptr (y48.fst)), .agg [.int .i64 (i50), .int .i64 (i51)], .c (.addr nh), .c (.int .i64 ((↑y48.snd.fst.snd.fst : Int) - 1))] true [.c (.int .i64), .c (.bool)] fun r52 => .done .normal [.c (.ptr (y48.fst)), .c (.sl (y48.snd.fst.fst) (y48.snd.fst.snd.fst) (y48.snd.fst.snd.snd)), .c (.bool (r52.snd.fst)), .c (.int .i64 (r52.fst))]) [.c (.ptr), .c (.sl), .c (.bool), .c (.int .i64)] fun x53 => .loop [.c (.ptr), .c (.sl), .c (.bool), .c (.int .i64)] [.c (.ptr (x53.fst)), .c (.sl (x53.snd.fst.fst) (x53.snd.fst.snd.fst) (x53.snd.fst.snd.snd)), .c (.bool (x53.snd.snd.fst)), .c (.int .i64 (x53.snd.snd.snd.fst))] fun y54 => .bind (some 1001) (.nonnil (y54.fst) fun p55 => .load (p55.fst, p55.snd + 3) (.ptr) fun q56 => .ite (!Option.isNone q56) (.bind none (.nonnil (y54.fst) fun p57 => .load (p57.fst, p57.snd + 2) (.sl) fun s58 => .guard (InK IntKind.i64 ((↑s58.snd.fst : Int) - 1)) <| .ite (decide (y54.snd.snd.snd.fst < (↑s58.snd.fst : Int) - 1)) (.nonnil (y54.fst) fun p59 => .load (p59.fst, p59.snd + 2) (.sl) fun s60 => .load (n0, 0) (.ptr) fun q61 => .nonnil (q61) fun p62 => .load (p62.fst, p62.snd + 10) (.int .i64) fun i63 => .ite (decide ((↑s60.snd.fst : Int) > i63)) (.load (n0, 0) (.ptr) fun q64 => .nonnil (q64) fun p65 => .load (p65.fst, p65.snd + 6) (.raw) fun v66 => .nonnil (y54.fst) fun p67 => .load (p67.fst, p67.snd + 2) (.sl) fun s68 => .guard (InK IntKind.i64 (y54.snd.snd.snd.fst + 1)) <| .nonnil (s68.fst) fun p69 => .guard (((0 : Int) ≤ y54.snd.snd.snd.fst + 1) ∧ ((y54.snd.snd.snd.fst + 1 : Int) < (↑s68.snd.fst : Int))) <| .load (p69.fst, p69.snd + mulN (y54.snd.snd.snd.fst + 1).toNat 2) (.int .i64) fun i70 => .load (p69.fst, p69.snd + mulN (y54.snd.snd.snd.fst + 1).toNat 2 + 1) (.int .i64) fun i71 => .load (n2, 0) (.int .i64) fun i72 => .load (n2, 1) (.int .i64) fun i73 => .callv (v66) [.agg [.int .i64 (i70), .int .i64 (i71)], .agg [.int .i64 (i72), .int .i64 (i73)]] false [.c (.bool)] fun r74 => .done .normal [.c (.bool (r74.fst))]) (.nonnil (y54.fst) fun p75 => .load (p75.fst, p75.snd + 2) (.sl) fun s76 => .ite (decide ((↑s76.snd.fst : Int) > 1)) (.ite ((↑y54.snd.fst.snd.fst : Int) == 1) (.load (n0, 0) (.ptr) fun q77 => .nonnil (q77) fun p78 => .load (p78.fst, p78.snd + 6) (.raw) fun v79 => .nonnil (y54.fst) fun p80 => .load (p80.fst, p80.snd + 2) (.sl) fun s81 => .guard (InK IntKind.i64 (y54.snd.snd.snd.fst + 1)) <| .nonnil (s81.fst) fun p82 => .guard (((0 : Int) ≤ y54.snd.snd.snd.fst + 1) ∧ ((y54.snd.snd.snd.fst + 1 : Int) < (↑s81.snd.fst : Int))) <| .load (p82.fst, p82.snd + mulN (y54.snd.snd.snd.fst + 1).toNat 2) (.int .i64) fun i83 => .load (p82.fst, p82.snd + mulN (y54.snd.snd.snd.fst + 1).toNat 2 + 1) (.int .i64) fun i84 => .load (n2, 0) (.int .i64) fun i85 => .load (n2, 1) (.int .i64) fun i86 => .callv (v79) [.agg [.int .i64 (i83), .int .i64 (i84)], .agg [.int .i64 (i85), .int .i64 (i86)]] false [.c (.bool)] fun r87 => .done .normal [.c (.bool (r87.fst))]) (.done .normal [.c (.ff)])) (.done .normal [.c (.ff)]))) (.done .normal [.c (.ff)])) [.c (.bool)] fun x88 => .ite (x88.fst) (.nonnil (y54.fst) fun p89 => .load (p89.fst, p89.snd + 2) (.sl) fun s90 => .nonnil (s90.fst) fun p91 => .guard (((0 : Int) ≤ y54.snd.snd.snd.fst) ∧ ((y54.snd.snd.snd.fst : Int) < (↑s90.snd.fst : Int))) <| .load (p91.fst, p91.snd + mulN (Int.toNat y54.snd.snd.snd.fst) 2) (.int .i64) fun i92 => .load (p91.fst, p91.snd + mulN (Int.toNat y54.snd.snd.snd.fst) 2 + 1) (.int .i64) fun i93 => .alloc ty_impl_Item [.int .i64 (0), .int .i64 (0)] fun n94 => .store (n94, 0) (.int .i64 (i92)) <| .store (n94, 1) (.int .i64 (i93)) <| .nonnil (y54.fst) fun p95 => .load (p95.fst, p95.snd + 2) (.sl) fun s96 => .guard (((0 : Int) ≤ y54.snd.snd.snd.fst) ∧ ((y54.snd.snd.snd.fst : Int) ≤ (↑s96.snd.fst : Int))) <| .nonnil (y54.fst) fun p97 => .load (p97.fst, p97.snd + 2) (.sl) fun s98 => .guard (InK IntKind.i64 (y54.snd.snd.snd.fst + 1)) <| .guard (((0 : Int) ≤ y54.snd.snd.snd.fst + 1) ∧ ((y54.snd.snd.snd.fst + 1 : Int) ≤ (↑s98.snd.fst : Int))) <| .copy 2 ((slBase s96.fst s96.snd.snd (Int.toNat y54.snd.snd.snd.fst) 2), s96.snd.fst - Int.toNat y54.snd.snd.snd.fst, s96.snd.snd - Int.toNat y54.snd.snd.snd.fst) ((slBase s98.fst s98.snd.snd (y54.snd.snd.snd.fst + 1).toNat 2), s98.snd.fst - (y54.snd.snd.snd.fst + 1).toNat, s98.snd.snd - (y54.snd.snd.snd.fst + 1).toNat) fun m99 => .nonnil (y54.fst) fun p100 => .load (p100.fst, p100.snd + 2) (.sl) fun s101 => .nonnil (y54.fst) fun p102 => .load (p102.fst, p102.snd + 2) (.sl) fun s103 => .guard (InK IntKind.i64 ((↑s103.snd.fst : Int) - 1)) <| .load (n0, 0) (.ptr) fun q104 => .nonnil (q104) fun p105 => .load (p105.fst, p105.snd + 7) (.int .i64) fun i106 => .load (p105.fst, p105.snd + 8) (.int .i64) fun i107 => .nonnil (s101.fst) fun p108 => .guard (((0 : Int) ≤ (↑s103.snd.fst : Int) - 1) ∧ (((↑s103.snd.fst : Int) - 1 : Int) < (↑s101.snd.fst : Int))) <| .store (p108.fst, p108.snd + mulN ((↑s103.snd.fst : Int) - 1).toNat 2) (.int .i64 (i106)) <| .store (p108.fst, p108.snd + mulN ((↑s103.snd.fst : Int) - 1).toNat 2 + 1) (.int .i64 (i107)) <| .nonnil (y54.fst) fun p109 => .load (p109.fst, p109.snd + 2) (.sl) fun s110 => .nonnil (y54.fst) fun p111 => .load (p111.fst, p111.snd + 2) (.sl) fun s112 => .guard (InK IntKind.i64 ((↑s112.snd.fst : Int) - 1)) <| .guard (((0 : Int) ≤ (↑s112.snd.fst : Int) - 1) ∧ (((↑s112.snd.fst : Int) - 1 : Int) ≤ (↑s110.snd.snd : Int))) <| .nonnil (y54.fst) fun p113 => .store (p113.fst, p113.snd + 2) (.sl (slBase s110.fst s110.snd.snd 0 2) (((↑s112.snd.fst : Int) - 1).toNat - 0) (s110.snd.snd - 0)) <| .nonnil (y54.fst) fun p114 => .load (p114.fst, p114.snd + 3) (.ptr) fun q115 => .nonnil (q115) fun p116 => .load p116 (.sl) fun s117 => .guard (InK IntKind.i64 (y54.snd.snd.snd.fst + 1)) <| .nonnil (s117.fst) fun p118 => .guard (((0 : Int) ≤ y54.snd.snd.snd.fst + 1) ∧ ((y54.snd.snd.snd.fst + 1 : Int) < (↑s117.snd.fst : Int))) <| .load (p118.fst, p118.snd + (y54.snd.snd.snd.fst + 1).toNat) (.ptr) fun q119 => .nonnil (y54.fst) fun p120 => .load (p120.fst, p120.snd + 3) (.ptr) fun q121 => .nonnil (q121) fun p122 => .load p122 (.sl) fun s123 => .guard (InK IntKind.i64 (y54.snd.snd.snd.fst + 1)) <| .guard (((0 : Int) ≤ y54.snd.snd.snd.fst + 1) ∧ ((y54.snd.snd.snd.fst + 1 : Int) ≤ (↑s123.snd.fst : Int))) <| .nonnil (y54.fst) fun p124 => .load (p124.fst, p124.snd + 3) (.ptr) fun q125 => .nonnil (q125) fun p126 => .load p126 (.sl) fun s127 => .guard (InK IntKind.i64 (y54.snd.snd.snd.fst + 2)) <| .guard (((0 : Int) ≤ y54.snd.snd.snd.fst + 2) ∧ ((y54.snd.snd.snd.fst + 2 : Int) ≤ (↑s127.snd.fst : Int))) <| .copy 1 ((slBase s123.fst s123.snd.snd (y54.snd.snd.snd.fst + 1).toNat 1), s123.snd.fst - (y54.snd.snd.snd.fst + 1).toNat, s123.snd.snd - (y54.snd.snd.snd.fst + 1).toNat) ((slBase s127.fst s127.snd.snd (y54.snd.snd.snd.fst + 2).toNat 1), s127.snd.fst - (y54.snd.snd.snd.fst + 2).toNat, s127.snd.snd - (y54.snd.snd.snd.fst + 2).toNat) fun m128 => .nonnil (y54.fst) fun p129 => .load (p129.fst, p129.snd + 3) (.ptr) fun q130 => .nonnil (q130) fun p131 => .load p131 (.sl) fun s132 => .nonnil (y54.fst) fun p133 => .load (p133.fst, p133.snd + 3) (.ptr) fun q134 => .nonnil (q134) fun p135 => .load p135 (.sl) fun s136 => .guard (InK IntKind.i64 ((↑s136.snd.fst : Int) - 1)) <| .nonnil (s132.fst) fun p137 => .guard (((0 : Int) ≤ (↑s136.snd.fst : Int) - 1) ∧ (((↑s136.snd.fst : Int) - 1 : Int) < (↑s132.snd.fst : Int))) <| .store (p137.fst, p137.snd + ((↑s136.snd.fst : Int) - 1).toNat) (.ptr none) <| .nonnil (y54.fst) fun p138 => .load (p138.fst, p138.snd + 3) (.ptr) fun q139 => .nonnil (y54.fst) fun p140 => .load (p140.fst, p140.snd + 3) (.ptr) fun q141 => .nonnil (q141) fun p142 => .load p142 (.sl) fun s143 => .nonnil (y54.fst) fun p144 => .load (p144.fst, p144.snd + 3) (.ptr) fun q145 => .nonnil (q145) fun p146 => .load p146 (.sl) fun s147 => .guard (InK IntKind.i64 ((↑s147.snd.fst : Int) - 1)) <| .guard (((0 : Int) ≤ (↑s147.snd.fst : Int) - 1) ∧ (((↑s147.snd.fst : Int) - 1 : Int) ≤ (↑s143.snd.snd : Int))) <| .nonnil (q139) fun p148 => .store p148 (.sl (slBase s143.fst s143.snd.snd 0 1) (((↑s147.snd.fst : Int) - 1).toNat - 0) (s143.snd.snd - 0)) <| .bind (some 2) (.loop [.c (.int .i64)] [.c (.int .i64 (0))] fun y149 => .ite (decide (y149.fst < (↑y54.snd.fst.snd.fst : Int))) (.nonnil (y54.snd.fst.fst) fun p150 => .guard (((0 : Int) ≤ y149.fst) ∧ ((y149.fst : Int) < (↑y54.snd.fst.snd.fst : Int))) <| .load (p150.fst, p150.snd + mulN (Int.toNat y149.fst) 2) (.ptr) fun q151 => .nonnil (q151) fun p152 => .load (p152.fst, p152.snd + 1) (.int .i64) fun i153 => .nonnil (q119) fun p154 => .load (p154.fst, p154.snd + 1) (.int .i64) fun i155 => .guard (InK IntKind.i64 (i155 + 1)) <| .guard (InK IntKind.i64 (i153 - (i155 + 1))) <| .nonnil (q151) fun p156 => .store (p156.fst, p156.snd + 1) (.int .i64 (i153 - (i155 + 1))) <| .guard (InK IntKind.i64 (y149.fst + 1)) <| .done .normal [.c (.int .i64 (y149.fst + 1))]) (.done (.exit 2) [])) [] fun x157 => .load (n0, 0) (.ptr) fun q158 => .nonnil (q158) fun p159 => .load (p159.fst, p159.snd + 3) (.int .i64) fun i160 => .nonnil (q119) fun p161 => .load (p161.fst, p161.snd + 1) (.int .i64) fun i162 => .guard (InK IntKind.i64 (i162 + 1)) <| .guard (InK IntKind.i64 (i160 - (i162 + 1))) <| .nonnil (q158) fun p163 => .store (p163.fst, p163.snd + 3) (.int .i64 (i160 - (i162 + 1))) <| .bind none (.ite (ext) (.load (n94, 0) (.int .i64) fun i164 => .load (n94, 1) (.int .i64) fun i165 => .call fn_lg_append [.c (.ptr ((some la))), .agg [.int .i64 (i164), .int .i64 (i165)], .c (.ptr (q119))] true [] fun r166 => .done .normal []) (.done .normal [])) [] fun x167 => .ite (y54.snd.snd.fst) (.done (.exit 1001) [.c (.ptr (y54.fst)), .c (.sl (y54.snd.fst.fst) (y54.snd.fst.snd.fst) (y54.snd.fst.snd.snd)), .c (.bool (y54.snd.snd.fst)), .c (.int .i64 (y54.snd.snd.snd.fst))]) (.done (.exit 1) [.c (.ptr (y54.fst)), .c (.sl (y54.snd.fst.fst) (y54.snd.fst.snd.fst) (y54.snd.fst.snd.snd))])) (.ite (y54.snd.snd.fst) (.nonnil (y54.fst) fun p168 => .load (p168.fst, p168.snd + 2) (.sl) fun s169 => .nonnil (s169.fst) fun p170 => .guard (((0 : Int) ≤ y54.snd.snd.snd.fst) ∧ ((y54.snd.snd.snd.fst : Int) < (↑s169.snd.fst : Int))) <| .load (p170.fst, p170.snd + mulN (Int.toNat y54.snd.snd.snd.fst) 2) (.int .i64) fun i171 => .load (p170.fst, p170.snd + mulN (Int.toNat y54.snd.snd.snd.fst) 2 + 1) (.int .i64) fun i172 => .callv (f) [.agg [.int .i64 (i171), .int .i64 (i172)]] false [.c (.bool)] fun r173 => .ite (r173.fst) (.nonnil ((some la)) fun p174 => .load p174 (.raw) fun v175 => .load (p174.fst, p174.snd + 1) (.int .i64) fun i176 => .load (p174.fst, p174.snd + 2) (.int .i64) fun i177 => .load (p174.fst, p174.snd + 3) (.sl) fun s178 => .store (n3, 0) (.raw (v175)) <| .store (n3, 1) (.int .i64 (i176)) <| .store (n3, 2) (.int .i64 (i177)) <| .store (n3, 3) (.sl (s178.fst) (s178.snd.fst) (s178.snd.snd)) <| .load (n3, 0) (.raw) fun v179 => .load (n3, 1) (.int .i64) fun i180 => .load (n3, 2) (.int .i64) fun i181 => .load (n3, 3) (.sl) fun s182 => .done .ret [.agg [.raw (v179), .int .i64 (i180), .int .i64 (i181), .sl (s182.fst) (s182.snd.fst) (s182.snd.snd)]]) (.nonnil (y54.fst) fun p183 => .load (p183.fst, p183.snd + 2) (.sl) fun s184 => .nonnil (s184.fst) fun p185 => .guard (((0 : Int) ≤ y54.snd.snd.snd.fst) ∧ ((y54.snd.snd.snd.fst : Int) < (↑s184.snd.fst : Int))) <| .load (p185.fst, p185.snd + mulN (Int.toNat y54.snd.snd.snd.fst) 2) (.int .i64) fun i186 => .load (p185.fst, p185.snd + mulN (Int.toNat y54.snd.snd.snd.fst) 2 + 1) (.int .i64) fun i187 => .store ((nv, 0) : PA) (.int .i64 (i186)) <| .store (((nv, 0) : PA).fst, ((nv, 0) : PA).snd + 1) (.int .i64 (i187)) <| .bind none (.ite (ext) (.nonnil (y54.fst) fun p188 => .load (p188.fst, p188.snd + 2) (.sl) fun s189 => .nonnil (s189.fst) fun p190 => .guard (((0 : Int) ≤ y54.snd.snd.snd.fst) ∧ ((y54.snd.snd.snd.fst : Int) < (↑s189.snd.fst : Int))) <| .load (p190.fst, p190.snd + mulN (Int.toNat y54.snd.snd.snd.fst) 2) (.int .i64) fun i191 => .load (p190.fst, p190.snd + mulN (Int.toNat y54.snd.snd.snd.fst) 2 + 1) (.int .i64) fun i192 => .call fn_lg_append [.c (.ptr ((some la))), .agg [.int .i64 (i191), .int .i64 (i192)], .c (.ptr none)] true [] fun r193 => .done .normal []) (.done .normal [])) [] fun x194 => .load (n0, 0) (.ptr) fun q195 => .nonnil (y54.fst) fun p196 => .load (p196.fst, p196.snd + 2) (.sl) fun s197 => .nonnil (s197.fst) fun p198 => .guard (((0 : Int) ≤ y54.snd.snd.snd.fst) ∧ ((y54.snd.snd.snd.fst : Int) < (↑s197.snd.fst : Int))) <| .load (p198.fst, p198.snd + mulN (Int.toNat y54.snd.snd.snd.fst) 2) (.int .i64) fun i199 => .load (p198.fst, p198.snd + mulN (Int.toNat y54.snd.snd.snd.fst) 2 + 1) (.int .i64) fun i200 => .call fn_tg_deleteHint [.c (.ptr (q195)), .agg [.int .i64 (i199), .int .i64 (i200)], .c (.addr nh)] true [.agg [.int .i64, .int .i64], .c (.bool)] fun r201 => .guard (((0 : Int) ≤ 0) ∧ ((0 : Int) ≤ (↑y54.snd.fst.snd.snd : Int))) <| .done (.exit 1000) [.c (.sl (slBase y54.snd.fst.fst y54.snd.fst.snd.snd 0 2) (0) (y54.snd.fst.snd.snd - 0)), .c (.addr ((nv, 0) : PA)), .c (.addr nh), .c (.raw (f)), .c (.ptr ((some la))), .c (.bool (ext))])) (.load (n0, 0) (.ptr) fun q202 => .nonnil (y54.fst) fun p203 => .load (p203.fst, p203.snd + 3) (.ptr) fun q204 => .nonnil (q204) fun p205 => .load p205 (.sl) fun s206 => .nonnil (s206.fst) fun p207 => .guard (((0 : Int) ≤ y54.snd.snd.snd.fst) ∧ ((y54.snd.snd.snd.fst : Int) < (↑s206.snd.fst : Int))) <| .call fn_tg_isoLoad [.c (.ptr (q202)), .c (.addr (p207.fst, p207.snd + Int.toNat y54.snd.snd.snd.fst)), .c (.tt)] false [.c (.ptr)] fun r208 => .alloc ty_btree_stackItem_pub_greenwood_impl_Item_110 [.ptr (r208.fst), .int .i64 (y54.snd.snd.snd.fst)] fun n209 => .append ty_btree_stackItem_pub_greenwood_impl_Item_110 2 16 [.ptr none, .int .i64 (0)] ((y54.snd.fst.fst), y54.snd.fst.snd.fst, y54.snd.fst.snd.snd) ((some (n209, 0)), 1, 1) fun s210 => .done (.exit 1) [.c (.ptr (r208.fst)), .c (.sl (s210.fst) (s210.snd.fst) (s210.snd.snd))]))) (.nonnil (y54.fst) fun p211 => .load (p211.fst, p211.snd + 2) (.sl) fun s212 => .guard (InK IntKind.i64 ((↑s212.snd.fst : Int) - y54.snd.snd.snd.fst)) <| .load (n0, 0) (.ptr) fun q213 => .nonnil (q213) fun p214 => .load (p214.fst, p214.snd + 10) (.int .i64) fun i215 => .guard (InK IntKind.i64 ((↑s212.snd.fst : Int) - y54.snd.snd.snd.fst - i215)) <| .bind none (.ite (decide ((↑s212.snd.fst : Int) - y54.snd.snd.snd.fst - i215 > 1)) (.bind (some 4) (.loop [.c (.int .i64), .c (.bool)] [.c (.int .i64 (0)), .c (.ff)] fun y216 => .ite (decide (y216.fst < (↑s212.snd.fst : Int) - y54.snd.snd.snd.fst - i215)) (.nonnil (y54.fst) fun p217 => .load (p217.fst, p217.snd + 2) (.sl) fun s218 => .guard (InK IntKind.i64 (y54.snd.snd.snd.fst + y216.fst)) <| .nonnil (s218.fst) fun p219 => .guard (((0 : Int) ≤ y54.snd.snd.snd.fst + y216.fst) ∧ ((y54.snd.snd.snd.fst + y216.fst : Int) < (↑s218.snd.fst : Int))) <| .load (p219.fst, p219.snd + mulN (y54.snd.snd.snd.fst + y216.fst).toNat 2) (.int .i64) fun i220 => .load (p219.fst, p219.snd + mulN (y54.snd.snd.snd.fst + y216.fst).toNat 2 + 1) (.int .i64) fun i221 => .callv (f) [.agg [.int .i64 (i220), .int .i64 (i221)]] false [.c (.bool)] fun r222 => .ite (r222.fst) (.done (.exit 4) [.c (.int .i64 (y216.fst)), .c (.bool (r222.fst))]) (.bind none (.ite (ext) (.nonnil (y54.fst) fun p223 => .load (p223.fst, p223.snd + 2) (.sl) fun s224 => .guard (InK IntKind.i64 (y54.snd.snd.snd.fst + y216.fst)) <| .nonnil (s224.fst) fun p225 => .guard (((0 : Int) ≤ y54.snd.snd.snd.fst + y216.fst) ∧ ((y54.snd.snd.snd.fst + y216.fst : Int) < (↑s224.snd.fst : Int))) <| .load (p225.fst, p225.snd + mulN (y54.snd.snd.snd.fst + y216.fst).toNat 2) (.int .i64) fun i226 => .load (p225.fst, p225.snd + mulN (y54.snd.snd.snd.fst + y216.fst).toNat 2 + 1) (.int .i64) fun i227 => .call fn_lg_append [.c (.ptr ((some la))), .agg [.int .i64 (i226), .int .i64 (i227)], .c (.ptr none)] true [] fun r228 => .done .normal []) (.done .normal [])) [] fun x229 => .guard (InK IntKind.i64 (y216.fst + 1)) <| .done .normal [.c (.int .i64 (y216.fst + 1)), .c (.bool (r222.fst))])) (.done (.exit 4) [.c (.int .i64 (y216.fst)), .c (.bool (y216.snd.fst))])) [.c (.int .i64), .c (.bool)] fun x230 => .nonnil (y54.fst) fun p231 => .load (p231.fst, p231.snd + 2) (.sl) fun s232 => .guard (((0 : Int) ≤ y54.snd.snd.snd.fst) ∧ ((y54.snd.snd.snd.fst : Int) ≤ (↑s232.snd.fst : Int))) <| .nonnil (y54.fst) fun p233 => .load (p233.fst, p233.snd + 2) (.sl) fun s234 => .guard (InK IntKind.i64 (y54.snd.snd.snd.fst + x230.fst)) <| .guard (((0 : Int) ≤ y54.snd.snd.snd.fst + x230.fst) ∧ ((y54.snd.snd.snd.fst + x230.fst : Int) ≤ (↑s234.snd.fst : Int))) <| .copy 2 ((slBase s232.fst s232.snd.snd (Int.toNat y54.snd.snd.snd.fst) 2), s232.snd.fst - Int.toNat y54.snd.snd.snd.fst, s232.snd.snd - Int.toNat y54.snd.snd.snd.fst) ((slBase s234.fst s234.snd.snd (y54.snd.snd.snd.fst + x230.fst).toNat 2), s234.snd.fst - (y54.snd.snd.snd.fst + x230.fst).toNat, s234.snd.snd - (y54.snd.snd.snd.fst + x230.fst).toNat) fun m235 => .nonnil (y54.fst) fun p236 => .load (p236.fst, p236.snd + 2) (.sl) fun s237 => .guard (InK IntKind.i64 ((↑s237.snd.fst : Int) - x230.fst)) <| .bind (some 6) (.loop [.c (.int .i64)] [.c (.int .i64 ((↑s237.snd.fst : Int) - x230.fst))] fun y238 => .nonnil (y54.fst) fun p239 => .load (p239.fst, p239.snd + 2) (.sl) fun s240 => .ite (decide (y238.fst < (↑s240.snd.fst : Int))) (.nonnil (y54.fst) fun p241 => .load (p241.fst, p241.snd + 2) (.sl) fun s242 => .load (n0, 0) (.ptr) fun q243 => .nonnil (q243) fun p244 => .load (p244.fst, p244.snd + 7) (.int .i64) fun i245 => .load (p244.fst, p244.snd + 8) (.int .i64) fun i246 => .nonnil (s242.fst) fun p247 => .guard (((0 : Int) ≤ y238.fst) ∧ ((y238.fst : Int) < (↑s242.snd.fst : Int))) <| .store (p247.fst, p247.snd + mulN (Int.toNat y238.fst) 2) (.int .i64 (i245)) <| .store (p247.fst, p247.snd + mulN (Int.toNat y238.fst) 2 + 1) (.int .i64 (i246)) <| .guard (InK IntKind.i64 (y238.fst + 1)) <| .done .normal [.c (.int .i64 (y238.fst + 1))]) (.done (.exit 6) [])) [] fun x248 => .nonnil (y54.fst) fun p249 => .load (p249.fst, p249.snd + 2) (.sl) fun s250 => .nonnil (y54.fst) fun p251 => .load (p251.fst, p251.snd + 2) (.sl) fun s252 => .guard (InK IntKind.i64 ((↑s252.snd.fst : Int) - x230.fst)) <| .guard (((0 : Int) ≤ (↑s252.snd.fst : Int) - x230.fst) ∧ (((↑s252.snd.fst : Int) - x230.fst : Int) ≤ (↑s250.snd.snd : Int))) <| .nonnil (y54.fst) fun p253 => .store (p253.fst, p253.snd + 2) (.sl (slBase s250.fst s250.snd.snd 0 2) (((↑s252.snd.fst : Int) - x230.fst).toNat - 0) (s250.snd.snd - 0)) <| .bind (some 8) (.loop [.c (.int .i64)] [.c (.int .i64 (0))] fun y254 => .ite (decide (y254.fst < (↑y54.snd.fst.snd.fst : Int))) (.nonnil (y54.snd.fst.fst) fun p255 => .guard (((0 : Int) ≤ y254.fst) ∧ ((y254.fst : Int) < (↑y54.snd.fst.snd.fst : Int))) <| .load (p255.fst, p255.snd + mulN (Int.toNat y254.fst) 2) (.ptr) fun q256 => .nonnil (q256) fun p257 => .load (p257.fst, p257.snd + 1) (.int .i64) fun i258 => .guard (InK IntKind.i64 (i258 - x230.fst)) <| .nonnil (q256) fun p259 => .store (p259.fst, p259.snd + 1) (.int .i64 (i258 - x230.fst)) <| .guard (InK IntKind.i64 (y254.fst + 1)) <| .done .normal [.c (.int .i64 (y254.fst + 1))]) (.done (.exit 8) [])) [] fun x260 => .load (n0, 0) (.ptr) fun q261 => .nonnil (q261) fun p262 => .load (p262.fst, p262.snd + 3) (.int .i64) fun i263 => .guard (InK IntKind.i64 (i263 - x230.fst)) <| .nonnil (q261) fun p264 => .store (p264.fst, p264.snd + 3) (.int .i64 (i263 - x230.fst)) <| .ite (x230.snd.fst) (.nonnil ((some la)) fun p265 => .load p265 (.raw) fun v266 => .load (p265.fst, p265.snd + 1) (.int .i64) fun i267 => .load (p265.fst, p265.snd + 2) (.int .i64) fun i268 => .load (p265.fst, p265.snd + 3) (.sl) fun s269 => .store (n3, 0) (.raw (v266)) <| .store (n3, 1) (.int .i64 (i267)) <| .store (n3, 2) (.int .i64 (i268)) <| .store (n3, 3) (.sl (s269.fst) (s269.snd.fst) (s269.snd.snd)) <| .load (n3, 0) (.raw) fun v270 => .load (n3, 1) (.int .i64) fun i271 => .load (n3, 2) (.int .i64) fun i272 => .load (n3, 3) (.sl) fun s273 => .done .ret [.agg [.raw (v270), .int .i64 (i271), .int .i64 (i272), .sl (s273.fst) (s273.snd.fst) (s273.snd.snd)]]) (.done .normal [])) (.done .normal [])) [] fun x274 => .bind (some 10) (.loop [.c (.sl), .c (.int .i64)] [.c (.sl (y54.snd.fst.fst) (y54.snd.fst.snd.fst) (y54.snd.fst.snd.snd)), .c (.int .i64 (y54.snd.snd.snd.fst))] fun y275 => .nonnil (y54.fst) fun p276 => .load (p276.fst, p276.snd + 2) (.sl) fun s277 => .ite (decide (y275.snd.fst < (↑s277.snd.fst : Int))) (.nonnil (y54.fst) fun p278 => .load (p278.fst, p278.snd + 2) (.sl) fun s279 => .nonnil (s279.fst) fun p280 => .guard (((0 : Int) ≤ y275.snd.fst) ∧ ((y275.snd.fst : Int) < (↑s279.snd.fst : Int))) <| .load (p280.fst, p280.snd + mulN (Int.toNat y275.snd.fst) 2) (.int .i64) fun i281 => .load (p280.fst, p280.snd + mulN (Int.toNat y275.snd.fst) 2 + 1) (.int .i64) fun i282 => .callv (f) [.agg [.int .i64 (i281), .int .i64 (i282)]] false [.c (.bool)] fun r283 => .ite (r283.fst) (.nonnil ((some la)) fun p284 => .load p284 (.raw) fun v285 => .load (p284.fst, p284.snd + 1) (.int .i64) fun i286 => .load (p284.fst, p284.snd + 2) (.int .i64) fun i287 => .load (p284.fst, p284.snd + 3) (.sl) fun s288 => .store (n3, 0) (.raw (v285)) <| .store (n3, 1) (.int .i64 (i286)) <| .store (n3, 2) (.int .i64 (i287)) <| .store (n3, 3) (.sl (s288.fst) (s288.snd.fst) (s288.snd.snd)) <| .load (n3, 0) (.raw) fun v289 => .load (n3, 1) (.int .i64) fun i290 => .load (n3, 2) (.int .i64) fun i291 => .load (n3, 3) (.sl) fun s292 => .done .ret [.agg [.raw (v289), .int .i64 (i290), .int .i64 (i291), .sl (s292.fst) (s292.snd.fst) (s292.snd.snd)]]) (.nonnil (y54.fst) fun p293 => .load (p293.fst, p293.snd + 2) (.sl) fun s294 => .load (n0, 0) (.ptr) fun q295 => .nonnil (q295) fun p296 => .load (p296.fst, p296.snd + 10) (.int .i64) fun i297 => .ite (decide ((↑s294.snd.fst : Int) > i297)) (.bind none (.ite (ext) (.nonnil (y54.fst) fun p298 => .load (p298.fst, p298.snd + 2) (.sl) fun s299 => .nonnil (s299.fst) fun p300 => .guard (((0 : Int) ≤ y275.snd.fst) ∧ ((y275.snd.fst : Int) < (↑s299.snd.fst : Int))) <| .load (p300.fst, p300.snd + mulN (Int.toNat y275.snd.fst) 2) (.int .i64) fun i301 => .load (p300.fst, p300.snd + mulN (Int.toNat y275.snd.fst) 2 + 1) (.int .i64) fun i302 => .call fn_lg_append [.c (.ptr ((some la))), .agg [.int .i64 (i301), .int .i64 (i302)], .c (.ptr none)] true [] fun r303 => .done .normal []) (.done .normal [])) [] fun x304 => .nonnil (y54.fst) fun p305 => .load (p305.fst, p305.snd + 2) (.sl) fun s306 => .guard (((0 : Int) ≤ y275.snd.fst) ∧ ((y275.snd.fst : Int) ≤ (↑s306.snd.fst : Int))) <| .nonnil (y54.fst) fun p307 => .load (p307.fst, p307.snd + 2) (.sl) fun s308 => .guard (InK IntKind.i64 (y275.snd.fst + 1)) <| .guard (((0 : Int) ≤ y275.snd.fst + 1) ∧ ((y275.snd.fst + 1 : Int) ≤ (↑s308.snd.fst : Int))) <| .copy 2 ((slBase s306.fst s306.snd.snd (Int.toNat y275.snd.fst) 2), s306.snd.fst - Int.toNat y275.snd.fst, s306.snd.snd - Int.toNat y275.snd.fst) ((slBase s308.fst s308.snd.snd (y275.snd.fst + 1).toNat 2), s308.snd.fst - (y275.snd.fst + 1).toNat, s308.snd.snd - (y275.snd.fst + 1).toNat) fun m309 => .nonnil (y54.fst) fun p310 => .load (p310.fst, p310.snd + 2) (.sl) fun s311 => .nonnil (y54.fst) fun p312 => .load (p312.fst, p312.snd + 2) (.sl) fun s313 => .guard (InK IntKind.i64 ((↑s313.snd.fst : Int) - 1)) <| .load (n0, 0) (.ptr) fun q314 => .nonnil (q314) fun p315 => .load (p315.fst, p315.snd + 7) (.int .i64) fun i316 => .load (p315.fst, p315.snd + 8) (.int .i64) fun i317 => .nonnil (s311.fst) fun p318 => .guard (((0 : Int) ≤ (↑s313.snd.fst : Int) - 1) ∧ (((↑s313.snd.fst : Int) - 1 : Int) < (↑s311.snd.fst : Int))) <| .store (p318.fst, p318.snd + mulN ((↑s313.snd.fst : Int) - 1).toNat 2) (.int .i64 (i316)) <| .store (p318.fst, p318.snd + mulN ((↑s313.snd.fst : Int) - 1).toNat 2 + 1) (.int .i64 (i317)) <| .nonnil (y54.fst) fun p319 => .load (p319.fst, p319.snd + 2) (.sl) fun s320 => .nonnil (y54.fst) fun p321 => .load (p321.fst, p321.snd + 2) (.sl) fun s322 => .guard (InK IntKind.i64 ((↑s322.snd.fst : Int) - 1)) <| .guard (((0 : Int) ≤ (↑s322.snd.fst : Int) - 1) ∧ (((↑s322.snd.fst : Int) - 1 : Int) ≤ (↑s320.snd.snd : Int))) <| .nonnil (y54.fst) fun p323 => .store (p323.fst, p323.snd + 2) (.sl (slBase s320.fst s320.snd.snd 0 2) (((↑s322.snd.fst : Int) - 1).toNat - 0) (s320.snd.snd - 0)) <| .bind (some 12) (.loop [.c (.int .i64)] [.c (.int .i64 (0))] fun y324 => .ite (decide (y324.fst < (↑y275.fst.snd.fst : Int))) (.nonnil (y275.fst.fst) fun p325 => .guard (((0 : Int) ≤ y324.fst) ∧ ((y324.fst : Int) < (↑y275.fst.snd.fst : Int))) <| .load (p325.fst, p325.snd + mulN (Int.toNat y324.fst) 2) (.ptr) fun q326 => .nonnil (q326) fun p327 => .load (p327.fst, p327.snd + 1) (.int .i64) fun i328 => .guard (InK IntKind.i64 (i328 - 1)) <| .nonnil (q326) fun p329 => .store (p329.fst, p329.snd + 1) (.int .i64 (i328 - 1)) <| .guard (InK IntKind.i64 (y324.fst + 1)) <| .done .normal [.c (.int .i64 (y324.fst + 1))]) (.done (.exit 12) [])) [] fun x330 => .load (n0, 0) (.ptr) fun q331 => .nonnil (q331) fun p332 => .load (p332.fst, p332.snd + 3) (.int .i64) fun i333 => .guard (InK IntKind.i64 (i333 - 1)) <| .nonnil (q331) fun p334 => .store (p334.fst, p334.snd + 3) (.int .i64 (i333 - 1)) <| .guard (InK IntKind.i64 (y275.snd.fst - 1)) <| .guard (InK IntKind.i64 (y275.snd.fst - 1 + 1)) <| .done .normal [.c (.sl (y275.fst.fst) (y275.fst.snd.fst) (y275.fst.snd.snd)), .c (.int .i64 (y275.snd.fst - 1 + 1))]) (.nonnil (y54.fst) fun p335 => .load (p335.fst, p335.snd + 2) (.sl) fun s336 => .nonnil (s336.fst) fun p337 => .guard (((0 : Int) ≤ y275.snd.fst) ∧ ((y275.snd.fst : Int) < (↑s336.snd.fst : Int))) <| .load (p337.fst, p337.snd + mulN (Int.toNat y275.snd.fst) 2) (.int .i64) fun i338 => .load (p337.fst, p337.snd + mulN (Int.toNat y275.snd.fst) 2 + 1) (.int .i64) fun i339 => .store ((nv, 0) : PA) (.int .i64 (i338)) <| .store (((nv, 0) : PA).fst, ((nv, 0) : PA).snd + 1) (.int .i64 (i339)) <| .bind none (.ite (ext) (.nonnil (y54.fst) fun p340 => .load (p340.fst, p340.snd + 2) (.sl) fun s341 => .nonnil (s341.fst) fun p342 => .guard (((0 : Int) ≤ y275.snd.fst) ∧ ((y275.snd.fst : Int) < (↑s341.snd.fst : Int))) <| .load (p342.fst, p342.snd + mulN (Int.toNat y275.snd.fst) 2) (.int .i64) fun i343 => .load (p342.fst, p342.snd + mulN (Int.toNat y275.snd.fst) 2 + 1) (.int .i64) fun i344 => .call fn_lg_append [.c (.ptr ((some la))), .agg [.int .i64 (i343), .int .i64 (i344)], .c (.ptr none)] true [] fun r345 => .done .normal []) (.done .normal [])) [] fun x346 => .load (n0, 0) (.ptr) fun q347 => .nonnil (y54.fst) fun p348 => .load (p348.fst, p348.snd + 2) (.sl) fun s349 => .nonnil (s349.fst) fun p350 => .guard (((0 : Int) ≤ y275.snd.fst) ∧ ((y275.snd.fst : Int) < (↑s349.snd.fst : Int))) <| .load (p350.fst, p350.snd + mulN (Int.toNat y275.snd.fst) 2) (.int .i64) fun i351 => .load (p350.fst, p350.snd + mulN (Int.toNat y275.snd.fst) 2 + 1) (.int .i64) fun i352 => .call fn_tg_deleteHint [.c (.ptr (q347)), .agg [.int .i64 (i351), .int .i64 (i352)], .c (.addr nh)] true [.agg [.int .i64, .int .i64], .c (.bool)] fun r353 => .guard (((0 : Int) ≤ 0) ∧ ((0 : Int) ≤ (↑y275.fst.snd.snd : Int))) <| .done (.exit 1000) [.c (.sl (slBase y275.fst.fst y275.fst.snd.snd 0 2) (0) (y275.fst.snd.snd - 0)), .c (.addr ((nv, 0) : PA)), .c (.addr nh), .c (.raw (f)), .c (.ptr ((some la))), .c (.bool (ext))]))) (.done (.exit 10) [.c (.sl (y275.fst.fst) (y275.fst.snd.fst) (y275.fst.snd.snd))])) [.c (.sl)] fun x354 => .loop [.c (.sl)] [.c (.sl (x354.fst.fst) (x354.fst.snd.fst) (x354.fst.snd.snd))] fun y355 => .guard (InK IntKind.i64 ((↑y355.fst.snd.fst : Int) - 1)) <| .nonnil (y355.fst.fst) fun p356 => .guard (((0 : Int) ≤ (↑y355.fst.snd.fst : Int) - 1) ∧ (((↑y355.fst.snd.fst : Int) - 1 : Int) < (↑y355.fst.snd.fst : Int))) <| .load (p356.fst, p356.snd + mulN ((↑y355.fst.snd.fst : Int) - 1).toNat 2 + 1) (.int .i64) fun i357 => .guard (InK IntKind.i64 ((↑y355.fst.snd.fst : Int) - 1)) <| .guard (((0 : Int) ≤ (↑y355.fst.snd.fst : Int) - 1) ∧ (((↑y355.fst.snd.fst : Int) - 1 : Int) ≤ (↑y355.fst.snd.snd : Int))) <| .ite ((↑(((↑y355.fst.snd.fst : Int) - 1).toNat - 0) : Int) == 0) (.nonnil ((some la)) fun p358 => .load p358 (.raw) fun v359 => .load (p358.fst, p358.snd + 1) (.int .i64) fun i360 => .load (p358.fst, p358.snd + 2) (.int .i64) fun i361 => .load (p358.fst, p358.snd + 3) (.sl) fun s362 => .store (n3, 0) (.raw (v359)) <| .store (n3, 1) (.int .i64 (i360)) <| .store (n3, 2) (.int .i64 (i361)) <| .store (n3, 3) (.sl (s362.fst) (s362.snd.fst) (s362.snd.snd)) <| .load (n3, 0) (.raw) fun v363 => .load (n3, 1) (.int .i64) fun i364 => .load (n3, 2) (.int .i64) fun i365 => .load (n3, 3) (.sl) fun s366 => .done .ret [.agg [.raw (v363), .int .i64 (i364), .int .i64 (i365), .sl (s366.fst) (s366.snd.fst) (s366.snd.snd)]]) (.guard (InK IntKind.i64 ((↑(((↑y355.fst.snd.fst : Int) - 1).toNat - 0) : Int) - 1)) <| .nonnil (slBase y355.fst.fst y355.fst.snd.snd 0 2) fun p367 => .guard (((0 : Int) ≤ (↑(((↑y355.fst.snd.fst : Int) - 1).toNat - 0) : Int) - 1) ∧ (((↑(((↑y355.fst.snd.fst : Int) - 1).toNat - 0) : Int) - 1 : Int) < (↑(((↑y355.fst.snd.fst : Int) - 1).toNat - 0) : Int))) <| .load (p367.fst, p367.snd + mulN ((↑(((↑y355.fst.snd.fst : Int) - 1).toNat - 0) : Int) - 1).toNat 2) (.ptr) fun q368 => .nonnil (q368) fun p369 => .load (p369.fst, p369.snd + 2) (.sl) fun s370 => .ite (decide (i357 < (↑s370.snd.fst : Int))) (.done (.exit 1001) [.c (.ptr (q368)), .c (.sl (slBase y355.fst.fst y355.fst.snd.snd 0 2) (((↑y355.fst.snd.fst : Int) - 1).toNat - 0) (y355.fst.snd.snd - 0)), .c (.tt), .c (.int .i64 (i357))]) (.done .normal [.c (.sl (slBase y355.fst.fst y355.fst.snd.snd 0 2) (((↑y355.fst.snd.fst : Int) - 1).toNat - 0) (y355.fst.snd.snd - 0))])))) [.c (.ptr), .c (.sl), .c (.bool), .c (.int .i64)] fun x371 => .done .normal [.c (.ptr (x371.fst)), .c (.sl (x371.snd.fst.fst) (x371.snd.fst.snd.fst) (x371.snd.fst.snd.snd)), .c (.bool (x371.snd.snd.fst)), .c (.int .i64 (x371.snd.snd.snd.fst))]) [.c (.ptr), .c (.sl)] fun x372 => .done .normal [.c (.ptr (x372.fst)), .c (.sl (x372.snd.fst.fst) (x372.snd.fst.snd.fst) (x372.snd.fst.snd.snd))]) Q h := by
  refine w_lp (fun k y h' => ∃ (r : Nat) (z : Zp n r) (b cs : Nat) (ps : PA) (u : BT KV r), y = (some (b, 0), (some ps, (z.stk b).length, cs), ()) ∧ r + (z.all u).length = k ∧ Pw o st FL Cp b0 dg rnd z b u pv ∧ (∀ a ∈ z.all u, a ∈ l) ∧ (z.stk b).length ≤ cs ∧
      St h0 G0 [K (z.all u), Ow a0 (mapC ls iso ctr (some (b0, 0)) (z.all u).length dg (2 * dg + 1) false false) 0, Ow (nv, 0) (L.cells pv) 0, HtC (some nh), Ow ps (LFr.flat (z.stk b)) ((cs - (z.stk b).length) * LFr.sz), ZsC iso z (flatB r u).length, ZrC iso z b, TrC L iso r b u] h') (r + (z.all u).length) rfl ⟨r, z, b, cs, ps, u, rfl, rfl, pw, hsb, hcs, S⟩ ?_
  clear S pw hcs hsb
  rintro k _ h1 ⟨r, z, b, cs, ps, u, rfl, rfl, pw, hsb, hcs, S⟩
  have lu := pw.lu
  have g1 := hl.one
  have hbig := hl.big
  have hsl := z.len b
  have hs0 : Srt (ltO o) (z.lf ++ (flatB r u ++ z.rg)) := lu.srt
  have hsi := srt_ti lu.val (srt_append.1 (srt_append.1 hs0).2.1).1
  have hil := Val.items lu.val
  have hi1 := lu.one
  have hs1 : 1 ≤ (z.stk b).length := by
    obtain ⟨c, gs, hc⟩ := z.last b
    rw [hc]; simp
  refine w_bnd (w_bnd (w_ptr (some a0) (hn0.now S).rd (ld_int S rfl (ld_int S rfl (w_guard (inK64 (by (first | omega | ((try dsimp only [Sh.T, Sh1.T]); omega))) (by (first | omega | ((try dsimp only [Sh.T, Sh1.T]); omega)))) ?_)))))
  obtain ⟨p, c, kp, hc, hkp, S⟩ := open_nd L iso (S.at (.tr b))
  have e : (((z.stk b).length : Int) - 1) = (((z.stk b).length - 1 : Nat) : Int) := by omega
  try dsimp only
  rw [e]
  refine st_callS S [.ck (HtC (some nh))] (fun G B hG hB hd hsub => HT.re (args' := [.c (.addr a0), .c (.addr (b, 0)), .agg [.int .i64 pv.1, .int .i64 pv.2], .c (.ptr (some nh)), .c (.int .i64 (((z.stk b).length - 1 : Nat) : Int))]) rfl <| c_find (.inr (hs_ok nh)) hls (a1 := (b, 0)) (x := pv) (xs := itemsB r u) (cap := c) (kp := kp) (bes hB hd rfl) (besR hB hd) (bes hB hd rfl) (bes hB hd rfl) (hoc.step S hsub) hsi hi1 (by omega) (by omega) hG) ?_
  rintro _ _ _ ⟨rfl, rfl⟩ S
  dsimp only [List.cons_append, List.nil_append] at S
  have S := shut_nd L iso (S.ats [.ow (b, 0), .ow p, .kd kp]) rfl rfl rfl rfl hc rfl
  have S := S.ats [.ck (K (z.all u)), .ow a0, .ow (nv, 0), .ck (HtC (some nh)), .ow ps, .kd none, .fo [], .tr b]
  refine bd_n rfl ?_
  refine w_nextr (k0 := rnd + 1) (r1 := r) (M := r + (z.all u).length) hn0 h2a h2b hls hoc hst hap hrt hsm hC hCl hl pw.nx (fun _ _ => rfl) hsb hcs hn S (fun h' v post hRf S => bd_r (ln_r (hret h' v post hRf S))) (fun h' cs ps cur x e1 e2 e3 S => bd_q (by decide) (ln_e (hrs h' cs ps cur x e1 e2 e3 S))) (fun h' r z b u cs ps hr pw hsb hcs S => bd_e rfl ?_)
  exact ln_n rfl (r + (z.all u).length) ⟨r, z, b, cs, ps, u, rfl, rfl, pw, hsb, hcs, S⟩ hr
end
end Go.Proofs.Ytegnpimlfphncaa.TG
set_option linter.unusedVariables false
set_option linter.unusedSimpArgs false
set_option linter.unusedSectionVars false
set_option maxRecDepth 100000
namespace Go.Proofs.Ytegnpimlfphncaa.TG
open Go Go.Proofs.Ytegnpimlfphncaa
def OpH (h : H) (G : PA → Prop) (op : Option PA) (ext mi : Bool) : Prop :=
  (op = none ∧ ext = true ∧ mi = false) ∨ ∃ (p : PA) (nr : Bool), op = some p ∧ ext = (!nr) ∧ Bes (RdC p (.bool nr)) h G ∧ Bes (RdC (p.1, p.2 + 1) (.bool mi)) h G
def lftO (o : List Int) (mi : Bool) (l : List KV) (x mk : KV) : List KV := l.filter (kp o (stopO o mi mk) x)
section
variable {h : H} {ls : Value} {oc : Ck} {o : List Int} {iso : Int} {dg : Nat} {a0 la : PA} {ext mi : Bool}
theorem stm_o {mk : KV} : Stm o (stopO o mi mk) mk := ⟨fun _ _ h1 h2 => stop_mono h1 h2, fun _ h => stop_no h⟩
theorem icl_in (l : List KV) : Icl (fun X => X <:+: l) := fun X Y h1 h2 => h2.trans h1
set_option maxHeartbeats 8000000 in
theorem c_DeleteRangeReuse {l : List KV} {x mk : KV} {op : Option PA} (hls : Lss ls oc o) (hll : l.length ≤ 4294967295) {G : PA → Prop} (hop : OpH h G op ext mi) (hoc : Bes oc h G) (hG : Star [MpC ls o iso dg a0 l, Ow la (listC Value.nilFunc 0 0 (none, 0, 0)) 0] h G) :
    HT Try.prog fn_tg_DeleteRangeReuse [.c (.addr a0), .agg [.int .i64 x.1, .int .i64 x.2], .agg [.int .i64 mk.1, .int .i64 mk.2], .c (.ptr op), .c (.addr la)] false [.agg [.raw, .int .i64, .int .i64, .sl]] h
      fun r h' => ∃ post, (∃ (t : SlT) (q : List El), r = (((if ext then ls else Value.nilFunc), cntQ q, 0, (t.1, t.2.1, t.2.2), ()), ()) ∧ OwC t q ∧ Qv o dg ext l (lftO o mi l x mk) q ∧ post = [MpC ls o iso dg a0 (lftO o mi l x mk), Ow la (listC (if ext then ls else Value.nilFunc) (cntQ q) 0 t) 0, SlC t LE.sz (LE.flat q), StC (tsL iso q)]) ∧ St h G post h' := by
  apply hc_tg_DeleteRangeReuse
  unfold M_tg_DeleteRangeReuse
  refine st_alloc (St.start hG) fun n0 _ S => ?_
  refine st_alloc S fun n1 _ S => ?_
  refine st_alloc S fun n2 _ S => ?_
  refine st_alloc S fun n3 _ S => ?_
  have S := S.ats [.mp a0, .ow la, .ow (n0, 0), .ow (n1, 0), .ow (n2, 0), .ow (n3, 0)]
  have S : St h G [MpC ls o iso dg a0 l, Ow la (listC Value.nilFunc 0 0 (none, 0, 0)) 0, Ow (n0, 0) [.pointer (some a0.val)] 0, Ow (n1, 0) (L.cells x) 0, Ow (n2, 0) (L.cells mk) 0, Ow (n3, 0) (listC Value.nilFunc 0 0 (none, 0, 0)) 0] _ := S
  refine w_mid' (some 1000) (fun (y : SV [.c .sl, .c .addr, .c .addr, .c .raw, .c .ptr, .c .bool]) h' => ∃ (nm nv nh : Nat), y = ((none, 0, 0), (nv, 0), (nh, 0), msF nm n0 n2, some la, ext, ()) ∧
    St h G [MpC ls o iso dg a0 l, Ow la (listC (if ext then ls else Value.nilFunc) 0 0 (none, 0, 0)) 0, Ow (nv, 0) (L.cells x) 0, HtC (some (nh, 0)), Ow (n3, 0) (listC Value.nilFunc 0 0 (none, 0, 0)) 0, Ow (n0, 0) [.pointer (some a0.val)] 0, Ow (n2, 0) (L.cells mk) 0, Ow (nm, 0) [.bool mi] 0] h') ?_ ?_
  · refine w_ptr (some a0) (S.rd rfl) ?_
    (refine w_callT c_lock ?_; rintro _ hk ⟨rfl, rfl⟩; refine w_bnd (w_false rfl (bd_n rfl ?_)))
    refine w_mid' none (fun y h' => y = (ext, ()) ∧ St h G [MpC ls o iso dg a0 l, Ow la (listC Value.nilFunc 0 0 (none, 0, 0)) 0, Ow (n0, 0) [.pointer (some a0.val)] 0, Ow (n1, 0) (L.cells x) 0, Ow (n2, 0) (L.cells mk) 0, Ow (n3, 0) (listC Value.nilFunc 0 0 (none, 0, 0)) 0] h') ?_ ?_
    · rcases hop with ⟨rfl, rfl, rfl⟩ | ⟨p, nr, rfl, rfl, b1, b2⟩
      · exact w_true rfl (md_n rfl ⟨rfl, S⟩)
      · exact w_false rfl (w_nonnil (w_bool nr (b1.now S).rd (md_n rfl ⟨rfl, S⟩)))
    clear S
    rintro _ _ ⟨rfl, S⟩
    refine w_mid' none (fun (y : SV [.c .addr]) h' => ∃ nm : Nat, y = ((nm, 0), ()) ∧ St h G [MpC ls o iso dg a0 l, Ow la (listC Value.nilFunc 0 0 (none, 0, 0)) 0, Ow (n0, 0) [.pointer (some a0.val)] 0, Ow (n1, 0) (L.cells x) 0, Ow (n2, 0) (L.cells mk) 0, Ow (n3, 0) (listC Value.nilFunc 0 0 (none, 0, 0)) 0, Ow (nm, 0) [.bool mi] 0] h') ?_ ?_
    · rcases hop with ⟨rfl, rfl, rfl⟩ | ⟨p, nr, rfl, rfl, b1, b2⟩
      · refine w_false rfl (st_alloc S fun nm _ S => st_store S (lt_ble rfl) fun _ S => md_n rfl ⟨nm, rfl, ?_⟩)
        exact S.ats [.mp a0, .ow la, .ow (n0, 0), .ow (n1, 0), .ow (n2, 0), .ow (n3, 0)]
      · refine w_true rfl (w_nonnil (w_bool mi (b2.now S).rd (st_alloc S fun nm _ S => st_store S (lt_ble rfl) fun _ S => md_n rfl ⟨nm, rfl, ?_⟩)))
        exact S.ats [.mp a0, .ow la, .ow (n0, 0), .ow (n1, 0), .ow (n2, 0), .ow (n3, 0)]
    clear S
    rintro _ _ ⟨nm, rfl, S⟩
    refine w_bnd (w_false rfl (bd_n rfl ?_))
    refine st_callT S [.ow la] (fun G hG => HT.re (args' := [.c (.addr la)]) rfl (c_Clear hG)) ?_
    rintro _ _ _ rfl S
    dsimp only [List.cons_append, List.nil_append] at S
    refine w_mid' none (fun _ h' => St h G [MpC ls o iso dg a0 l, Ow la (listC (if ext then ls else Value.nilFunc) 0 0 (none, 0, 0)) 0, Ow (n0, 0) [.pointer (some a0.val)] 0, Ow (n1, 0) (L.cells x) 0, Ow (n2, 0) (L.cells mk) 0, Ow (n3, 0) (listC Value.nilFunc 0 0 (none, 0, 0)) 0, Ow (nm, 0) [.bool mi] 0] h') ?_ ?_
    · have S := S.ats [.mp a0, .ow la, .ow (n0, 0), .ow (n1, 0), .ow (n2, 0), .ow (n3, 0)]
      cases hext : ext with
      | false => exact w_false rfl (md_n rfl S)
      | true =>
        refine w_true rfl (w_ptr (some a0) (S.rd rfl) (w_nonnil ?_))
        rcases open_map (S.at (.mp a0)) with ⟨ctr, mn, mx, rfl, hg, S⟩ | ⟨ctr, n, b, t, rfl, hsr, hv, hi, hg, S⟩
        · refine w_less hls (S.rd rfl) (w_nonnil (st_store S (lt_ble rfl) fun _ S => md_n rfl ?_))
          have S := shut_map0 (o := o) (S.at (.ow a0)) hg
          have S := (S.at (.ow la)).re la (listC ls 0 0 (none, 0, 0)) 0 rfl (by rw [hls.1]; rfl) rfl
          exact S.ats [.mp a0, .ow la, .ow (n0, 0), .ow (n1, 0), .ow (n2, 0), .ow (n3, 0)]
        · refine w_less hls (S.rd rfl) (w_nonnil (st_store S (lt_ble rfl) fun _ S => md_n rfl ?_))
          have S := shut_map (S.ats [.ow a0, .tr b]) rfl rfl hsr hv hi hg
          have S := (S.at (.ow la)).re la (listC ls 0 0 (none, 0, 0)) 0 rfl (by rw [hls.1]; rfl) rfl
          exact S.ats [.mp a0, .ow la, .ow (n0, 0), .ow (n1, 0), .ow (n2, 0), .ow (n3, 0)]
    clear S
    rintro _ _ S
    refine st_alloc S fun nh _ S => ?_
    have S : St h G (HtC (some (nh, 0)) :: _) _ := St.ex_in (List.replicate 8 false, List.replicate 8 0) ⟨rfl, rfl, by simp⟩ S
    refine ld_int S rfl (ld_int S rfl (st_alloc S fun nv _ S => ?_))
    refine st_store S (lt_ble rfl) fun _ S => ?_
    refine st_store S (lt_ble rfl) fun _ S => ?_
    have S := (S.at (.ow (nv, 0))).re (nv, 0) (L.cells x) 0 rfl rfl rfl
    refine md_n rfl ⟨nm, nv, nh, rfl, ?_⟩
    exact S.only [.mp a0, .ow la, .ow (nv, 0), .ck (HtC (some (nh, 0))), .ow (n3, 0), .ow (n0, 0), .ow (n2, 0), .ow (nm, 0)]
  clear S hop
  rintro _ h1 ⟨nm, nv, nh, rfl, S⟩
  obtain ⟨FL, hFL⟩ : ∃ FL, FL = lftO o mi l x mk := ⟨_, rfl⟩
  rw [← hFL]
  have hCl : ∀ X : List KV, (fun X : List KV => X <:+: l) X → X <:+: l := fun X h => h
  have S := mp_mq (Pt := fun n t => Gd (fun X : List KV => X <:+: l) (fun a => ltO o a x = false) n t) (fun n t hf hv => gd_all (icl_in l) hv (by rw [hf]; exact List.infix_refl l)) S
  have S := sl_nil LFr S
  have S := S.ats [.ow la, .ow (n3, 0), .mp a0, .ow (nv, 0), .ck (HtC (some (nh, 0))), .sl (none, 0, 0)]
  have S := (sl_nil LE (St.st_in (m := []) S)).pull2
  have S := shut_qu (iso := iso) (ext := ext) (l := l) (cur := l) (dg := dg) (o := o) (t := (none, 0, 0)) (q := []) S ⟨⟨rfl, Nat.le_refl _, .inl rfl⟩, by decide⟩ ⟨fun j a b _ h => (by simp at h), fun _ => (by simp), fun e he => (by cases he), fun e he => (by cases he), fun _ => rfl⟩
  have S := St.st_in (m := [_, _]) S
  obtain ⟨G1, hG1, hB, hsub, hback⟩ := St.cutB (A := [Kq ls o iso dg ext la l n3 l, MqC ls o iso dg a0 l (fun n t => Gd (fun X : List KV => X <:+: l) (fun a => ltO o a x = false) n t), Ow (nv, 0) (L.cells x) 0, HtC (some (nh, 0)), SlC (none, 0, 0) LFr.sz (LFr.flat [])]) (B := [Ow (n0, 0) [.pointer (some a0.val)] 0, Ow (n2, 0) (L.cells mk) 0, Ow (nm, 0) [.bool mi] 0]) S
  have hoc1 := hoc.step S hsub
  have c0 : Bes (RdC (n0, 0) (.pointer (some a0.val))) h1 G1 := (hB (Ow (n0, 0) [.pointer (some a0.val)] 0) (by simp)).cell (j := 0) rfl
  have h2a : Bes (RdC (n2, 0) (.int .i64 mk.1)) h1 G1 := (hB (Ow (n2, 0) (L.cells mk) 0) (by simp)).cell (j := 0) rfl
  have h2b : Bes (RdC (n2, 1) (.int .i64 mk.2)) h1 G1 := (hB (Ow (n2, 0) (L.cells mk) 0) (by simp)).cell (j := 1) rfl
  have hm : Bes (RdC (nm, 0) (.bool mi)) h1 G1 := (hB (Ow (nm, 0) [.bool mi] 0) (by simp)).cell (j := 0) rfl
  have hst : Stp h1 G1 (msF nm n0 n2) (stopO o mi mk) a0 ls := fun Q h l x k S hr hw => st_stop S hls (hm.now S).rd (c0.now S).rd hr (h2a.now S).rd (h2b.now S).rd (hoc1.now S).ex hw
  have hap : Apn oc (Kq ls o iso dg ext la l n3) iso dg l la ext := apn_q hls hll
  have hrt : Rtn (Kq ls o iso dg ext la l n3) (Rq ls o iso dg ext la l) la n3 := rtn_q hls
  have fin : ∀ (h' : H) (a b c : Ck), St h1 G1 [StC [a, b, c], MpC ls o iso dg a0 FL] h' → St h G [MpC ls o iso dg a0 FL, a, b, c] h' := fun h' a b c S => by
    have S := S.st_out
    have S : St h1 G1 [a, b, c, MpC ls o iso dg a0 FL] h' := S
    exact ((hback _ _ S.pull3).perm (List.perm_append_comm (l₁ := [_, _, _, _]) (l₂ := [_, _, _]))).drop.drop.drop
  refine w_lp (fun k y h' => ∃ (cur : List KV) (pv : KV) (s : SlT), y = (s, (nv, 0), (nh, 0), msF nm n0 n2, some la, ext, ()) ∧ cur.length = k ∧ k ≤ l.length ∧ FL = cur.filter (kp o (stopO o mi mk) pv) ∧ (∀ a ∈ cur, a ∈ l) ∧ OwnL LFr s [] ∧
    St h1 G1 [Kq ls o iso dg ext la l n3 cur, MqC ls o iso dg a0 cur (fun n t => Gd (fun X : List KV => X <:+: l) (fun a => ltO o a pv = false) n t), Ow (nv, 0) (L.cells pv) 0, HtC (some (nh, 0)), SlC s LFr.sz (LFr.flat [])] h') l.length rfl
    ⟨l, x, (none, 0, 0), rfl, rfl, Nat.le_refl _, hFL, fun a ha => ha, ⟨rfl, Nat.le_refl _, .inl rfl⟩, St.start hG1⟩ ?_
  clear S hG hG1
  rintro k _ h2 ⟨cur, pv, s, rfl, rfl, hk, hfn, hsb, hs, S⟩
  refine w_bnd (w_ptr (some a0) (c0.now S).rd (w_nonnil ?_))
  rcases open_mq (S.at (.mp a0)) with ⟨ctr, mn, mx, rfl, hg, S⟩ | ⟨ctr, n, b, t, rfl, hsr, hv, hi, hg, hP, S⟩
  · have hfn : FL = [] := hfn
    refine ld_nil S rfl (w_true rfl ?_)
    refine hrt _ _ _ _ _ _ (S.at (.ck (Kq ls o iso dg ext la l n3 []))) fun h' v post ⟨t, q, hv, g1, g2, hp⟩ S => ?_
    subst hv hp
    have S := shut_map0 (o := o) (S.at (.ow a0)) hg
    have S := S.only [.ck (StC [Ow la (listC (if ext then ls else Value.nilFunc) (cntQ q) 0 t) 0, SlC t LE.sz (LE.flat q), StC (tsL iso q)]), .mp a0]
    exact bd_r (ln_r (rt_1 rfl ⟨_, ⟨t, q, rfl, g1, by rw [hfn]; exact g2, rfl⟩, fin _ _ _ _ (by rw [hfn]; exact S)⟩))
  · obtain ⟨hmx, hmn, hmb⟩ := hg
    have hnl := ht_le hmn n t hv hi
    refine ld_some S rfl (w_false rfl (w_ptr (some a0) (c0.now S).rd (w_ptr (some a0) (c0.now S).rd (w_nonnil ?_))))
    refine w_callT (c_isoLoad (b := b) (iso := iso) (S.rd rfl) (S.iso b) (S.rd rfl)) ?_
    rintro _ _ ⟨rfl, rfl⟩
    refine st_alloc S fun n8 _ S => ?_
    refine st_apo (L := LFr) (xs := []) (y := (b, (0 : Int))) S hs rfl rfl (S.rsl (LFr.flat [(b, (0 : Int))]) 1 1 2 (fun i v h => by rw [Nat.zero_add]; exact h) rfl) ⟨by simp, by simp⟩ fun s' _ hs' S => ?_
    obtain ⟨ps, m, cs, rfl, hmc, _, S⟩ := S.open_sl (hs'.2.2.resolve_left (by simp))
    obtain rfl : m = 1 := hs'.1
    have S := St.st_in (m := []) S
    have S := St.st_in (m := []) S
    have S : St h1 G1 (ZsC iso (.top (n := n)) (flatB n t).length :: ZrC iso (.top (n := n)) b :: _) _ := S
    have S := S.only [.ck (Kq ls o iso dg ext la l n3 (flatB n t)), .ow a0, .ow (nv, 0), .ck (HtC (some (nh, 0))), .ow ps, .kd none, .fo [], .tr b]
    have hall : (Zp.top (n := n)).all t = flatB n t := by show [] ++ (flatB n t ++ []) = _; simp
    have lu : Lu o b dg (flatB n t).length (.top (n := n)) b t := ⟨rfl, hv, fun h => (by cases h), hi, by rw [hall]; exact hsr, by rw [hall]; exact Nat.le_refl _⟩
    have hlf : (Zp.top (n := n)).lf = [] := rfl
    have hrg : (Zp.top (n := n)).rg = [] := rfl
    have pw : Pw o (stopO o mi mk) FL (fun X : List KV => X <:+: l) b dg (flatB n t).length (.top (n := n)) b t pv := ⟨lu, fun a ha => (by rw [hlf] at ha; cases ha), fun a ha => (by rw [hrg] at ha; cases ha), by rw [hall]; exact hfn, trivial, hP⟩
    have htl : (Zp.stk (.top (n := n)) b).length = 1 := rfl
    refine w_findr (z := .top (n := n)) (b := b) (u := t) (ps := ps) c0 h2a h2b hls hoc1 hst hap hrt stm_o (icl_in l) hCl ⟨hmn, hmb, by omega⟩ pw (by rw [hall]; exact hsb) hmc (by omega) (by rw [hall]; exact S) (fun h' v post ⟨t, q, hv, g1, g2, hp⟩ S => ?_) (fun h' cs ps cur' x' e1 e2 e3 S => bd_e rfl (ln_n rfl cur'.length ⟨cur', x', (some ps, 0, cs), rfl, rfl, by omega, e1, e3, ⟨rfl, Nat.zero_le _, .inl rfl⟩, S⟩ e2))
    subst hv hp
    exact bd_r (ln_r (rt_1 rfl ⟨_, ⟨t, q, rfl, g1, g2, rfl⟩, fin _ _ _ _ S⟩))
set_option maxHeartbeats 2000000 in
theorem c_DeleteRange {l : List KV} {x mk : KV} {op : Option PA} (hls : Lss ls oc o) (hll : l.length ≤ 4294967295) {G : PA → Prop} (hop : OpH h G op ext mi) (hoc : Bes oc h G) (hG : Star [MpC ls o iso dg a0 l] h G) :
    HT Try.prog fn_tg_DeleteRange [.c (.addr a0), .agg [.int .i64 x.1, .int .i64 x.2], .agg [.int .i64 mk.1, .int .i64 mk.2], .c (.ptr op)] false [.agg [.raw, .int .i64, .int .i64, .sl]] h
      fun r h' => ∃ post, (∃ (t : SlT) (q : List El), r = (((if ext then ls else Value.nilFunc), cntQ q, 0, (t.1, t.2.1, t.2.2), ()), ()) ∧ OwC t q ∧ Qv o dg ext l (lftO o mi l x mk) q ∧ post = [MpC ls o iso dg a0 (lftO o mi l x mk), SlC t LE.sz (LE.flat q), StC (tsL iso q)]) ∧ St h G post h' := by
  apply hc_tg_DeleteRange
  unfold M_tg_DeleteRange
  refine st_alloc (St.start hG) fun n0 _ S => ?_
  refine st_alloc S fun n1 _ S => ?_
  refine st_alloc S fun n2 _ S => ?_
  refine ld_int S rfl (ld_int S rfl (ld_int S rfl (ld_int S rfl ?_)))
  have hop' : ∀ G', (∀ y, G' y → G y ∨ h.size ≤ y.1) → OpH _ G' op ext mi := fun G' hsub => by
    rcases hop with hq | ⟨p, nr, e1, e2, b1, b2⟩
    · exact .inl hq
    · exact .inr ⟨p, nr, e1, e2, b1.step S hsub, b2.step S hsub⟩
  refine st_callF S [.mp a0, .ow (n2, 0)] (fun G' hG' hsub => HT.re (args' := [.c (.addr a0), .agg [.int .i64 x.1, .int .i64 x.2], .agg [.int .i64 mk.1, .int .i64 mk.2], .c (.ptr op), .c (.addr (n2, 0))]) rfl <| c_DeleteRangeReuse (ext := ext) (mi := mi) hls hll (hop' G' hsub) (hoc.step S hsub) hG') ?_
  rintro _ _ h3 ⟨t, q, rfl, g1, g2, rfl⟩ S
  have hraw : (Cell.raw (if ext then ls else Value.nilFunc)).val = (if ext then ls else Value.nilFunc) := by
    cases ext with
    | true => exact hls.1
    | false => rfl
  obtain ⟨V, hV⟩ : ∃ V, V = (if ext then ls else Value.nilFunc) := ⟨_, rfl⟩
  rw [← hV] at hraw S ⊢
  dsimp only [List.cons_append, List.nil_append] at S
  obtain ⟨t1, t2, t3⟩ := t
  refine st_store S (lt_ble rfl) fun _ S => ?_
  refine st_store S (lt_ble rfl) fun _ S => ?_
  refine st_store S (lt_ble rfl) fun _ S => ?_
  refine st_store S (lt_ble rfl) fun _ S => ?_
  refine w_raw V (S.rd rfl) (ld_int S rfl (ld_int S rfl (ld_sl S t1 t2 t3 rfl ?_)))
  have S := (S.at (.ow (n2, 0))).drop
  refine rt_1 rfl ⟨_, ⟨(t1, t2, t3), q, rfl, g1, g2, rfl⟩, ?_⟩
  exact (S.perm (List.perm_append_comm (l₁ := [_, _, _]) (l₂ := [_, _]))).drop.drop
end
end Go.Proofs.Ytegnpimlfphncaa.TG
