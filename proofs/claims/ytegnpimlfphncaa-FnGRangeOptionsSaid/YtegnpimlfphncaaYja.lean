/-
  The map of numbers: all values. Conditions: none.
-/
import Derived.Test.YtegnpimlfphncaaPgR
import Derived.Test.YtegnpimlfphncaaYnc
import Derived.Test.YtegnpimlfphncaaVa
import Derived.Test.YtegnpimlfphncaaBe
set_option linter.unusedVariables false
set_option linter.unusedSimpArgs false
set_option linter.unusedSectionVars false
set_option maxRecDepth 100000
namespace Go.Proofs.Ytegnpimlfphncaa.TG
open Go Go.Proofs.Ytegnpimlfphncaa
section
variable {P : Program} {Q : Ex → List AV → H → Prop} {h h0 : H} {G0 : PA → Prop} {l : List Ck}
theorem st_apl {I : Type} {L : Lay I} (s : St h0 G0 l h) {d : SlT} {xs ys : List I} {r : List Ck} [Pk (.sl d) l (SlC d L.sz (L.flat xs)) r] (hd : OwnL L d xs) {e : TypeId} {byt sz : Nat} {z : List Cell} {src : SlT} {m : SlT → M}
    (hsz : sz = L.sz) (hz : z.length = L.sz) (hy : src.2.1 = ys.length) (hs : RSl h src L.sz (L.flat ys)) (hg : growOk (xs.length + ys.length) byt)
    (hw : ∀ d' h', OwnL L d' (xs ++ ys) → St h0 G0 (SlC d' L.sz (L.flat (xs ++ ys)) :: r) h' → wp P (m d') Q h') : wp P (.append e sz byt z d src m) Q h := by
  subst hsz
  refine st_append (s.at (.sl d)) hz hs (L.flat_one ys) (by rw [hd.1, hy]; exact hg) fun d' h' S hlen hsome => ?_
  rw [← L.flat_append] at S
  obtain ⟨F, ⟨_, h2, _⟩, _⟩ := S.fact
  refine hw d' h' ⟨by rw [hlen, hd.1, hy]; simp, h2, ?_⟩ S
  by_cases h0 : 0 < xs.length + ys.length
  · exact .inr (hsome (.inl (by rw [hd.1, hy]; exact h0)))
  · left
    have : (xs ++ ys).length = 0 := by rw [List.length_append]; omega
    exact List.length_eq_zero_iff.1 this
end
section
variable {ls : Value} {oc : Ck} {o : List Int} {hp : Option PA} {h : H}
set_option maxHeartbeats 1000000 in
theorem c_nodeItems {a0 : PA} {iso : Int} {m : Bool} {mn mx : Nat} : ∀ (n : Nat) {b : Nat} {t : BT KV n} {a1 : PA} {h : H} {G : PA → Prop} {s : SlT} {xs : List KV},
    Bes (TrC L iso n b t) h G → Bes (RdC (a0.1, a0.2) (.int .u64 iso)) h G → rd h a1 = some (kptr b) → OwnL LT s xs → Val mn mx n t → mx ≤ 2147483647 → xs.length + (flatB n t).length ≤ 4294967296 → Star [SlC s LT.sz (LT.flat xs)] h G →
    HT Try.prog fn_tg_nodeItems [.c (.addr a0), .c (.addr a1), .c (.sl s.1 s.2.1 s.2.2), .c (.bool m)] false [.c .sl] h fun r h' =>
      ∃ post, (∃ s' : SlT, r = (s', ()) ∧ OwnL LT s' (xs ++ (flatB n t)) ∧ post = [SlC s' LT.sz (LT.flat (xs ++ (flatB n t)))]) ∧ St h G post h'
  | 0, b, t, a1, h, G, s, xs, hT, hA, h1, hs, hv, hmx, hlen, hG => by
    apply hc_tg_nodeItems
    unfold M_tg_nodeItems
    have S := St.start hG
    obtain ⟨hi0, p, c, e2, e3, er⟩ := hT.leaf
    refine w_callT (c_isoLoad h1 hi0 hA.rd) ?_
    rintro _ _ ⟨rfl, rfl⟩
    rename_i h
    refine w_callT (c_leafp (kp := none) e3) ?_
    rintro _ _ ⟨rfl, rfl⟩
    rename_i h
    refine w_true rfl ?_
    have hil : (itemsB 0 t).length ≤ mx := hv
    have hfl : flatB 0 t = itemsB 0 t := rfl
    obtain ⟨s1, s2, s3⟩ := s
    refine w_nonnil (w_sl (some p, (itemsB 0 t).length, c) e2 ?_)
    refine st_apl (L := LT) (xs := xs) (ys := itemsB 0 t) S hs rfl rfl rfl ⟨LT.flat_length _, .inr ⟨p, rfl, er⟩⟩ ⟨by rw [hfl] at hlen; omega, by rw [hfl] at hlen; omega⟩ fun s' _ hs' S => ?_
    exact rt_1 rfl ⟨_, ⟨s', rfl, hs', rfl⟩, S⟩
  | n + 1, b, t, a1, h, G, s, xs, hT, hA, h1, hs, hv, hmx, hlen, hG => by
    apply hc_tg_nodeItems
    unfold M_tg_nodeItems
    have S := St.start hG
    obtain ⟨hi0, p, c, q, d, hb, ks, e2, e3, er, e4, ekl, hk⟩ := hT.node
    obtain ⟨is, ts⟩ := t
    have hl2 : ts.length = is.length + 1 := hv.2.1
    have hil : is.length ≤ mx := hv.1
    refine w_callT (c_isoLoad h1 hi0 hA.rd) ?_
    rintro _ _ ⟨rfl, rfl⟩
    rename_i h
    refine w_callT (c_leafp (kp := some _) e3) ?_
    rintro _ _ ⟨rfl, rfl⟩
    rename_i h
    refine w_false rfl ?_
    refine w_bnd (w_lp (fun r y h' => ∃ (i : Nat) (s' : SlT), y = ((i : Int), s', ()) ∧ i + r = is.length ∧ OwnL LT s' (xs ++ (ahead is ts i)) ∧ St h G [SlC s' LT.sz (LT.flat (xs ++ (ahead is ts i)))] h') is.length rfl
      ⟨0, s, rfl, by omega, by simpa [ah_zero] using hs, by simpa [ah_zero] using S⟩ ?_)
    rintro r _ h2 ⟨i, s', rfl, hi, hs', S⟩
    obtain ⟨s1, s2, s3⟩ := s'
    have hile : i ≤ is.length := by omega
    obtain ⟨u, hu⟩ : ∃ u, ts[i]? = some u := ⟨_, List.getElem?_eq_getElem (by omega)⟩
    have hmem : u ∈ ts := List.mem_of_getElem? hu
    have hal := ah_len hl2 hu
    obtain ⟨hi0, p, c, q, d, hb, ks, e2, e3, er, e4, ekl, hk⟩ := (hT.all S).node
    dsimp only at e2 er ekl hk
    obtain ⟨kid, k2, k3⟩ := hk i u hu
    have hx1 : (xs ++ (ahead is ts i)).length = xs.length + (ahead is ts i).length := by rw [List.length_append]
    by_cases hlt : i < is.length
    · have hxi := List.getElem?_eq_getElem hlt
      have hsuc := ah_succ hl2 hxi hu
      simp only [Int.toNat_natCast, toNat_succ, toNat_succ2, toNat_pred]
      refine w_nonnil (w_sl (some p, is.length, c) e2 ?_)
      refine w_true (lt_t (by (first | omega | ((try dsimp only [Sh.T, Sh1.T]); omega)))) ?_
      repeat (first | refine w_nonnil ?_ | refine st_allocK S fun _ _ S hold => ?_ | refine w_guard (by (first | exact inK64 (by omega) (by omega) | omega | (constructor <;> omega) | ((try dsimp only [Sh.T, Sh1.T]); first | exact inK64 (by omega) (by omega) | omega | exact ⟨by decide, inK64 (by omega) (by omega)⟩ | trivial))) ?_ | refine bd_e rfl ?_ | refine ln_e ?_ | refine w_true (b := true) rfl ?_ | refine w_false (b := false) rfl ?_ | refine w_guard (show noMeths _ _ by show _ = _; kernel_rfl) ?_ | (refine w_callT (c_leafp (kp := none) (S.rd rfl)) ?_; rintro _ _ ⟨rfl, rfl⟩) | (refine w_callT (c_leafp (kp := some _) (S.rd rfl)) ?_; rintro _ _ ⟨rfl, rfl⟩) | (refine w_callT (c_leafp (S.rd rfl)) ?_; rintro _ _ ⟨rfl, rfl⟩) | refine w_it (by assumption) (by assumption) ?_ | refine w_sl (some _, _, _) (by assumption) ?_ | refine w_ptr (some _) (by assumption) ?_ | refine w_ptr none (by assumption) ?_ | (refine w_callT (c_leafp (kp := none) (by assumption)) ?_; rintro _ _ ⟨rfl, rfl⟩) | (refine w_callT (c_leafp (kp := some _) (by assumption)) ?_; rintro _ _ ⟨rfl, rfl⟩) )
      refine st_callF S [.sl (s1, s2, s3)] (fun G' hG' hsub => c_nodeItems n (s := (s1, s2, s3)) (k3.sub hsub) ((hA.all S).sub hsub) k2 hs' (hv.2.2 u hmem).1 hmx (by omega) hG') ?_
      rintro _ _ h3 ⟨s', rfl, hs', rfl⟩ S
      dsimp only [List.cons_append, List.nil_append] at S
      obtain ⟨hi0, p, c, q, d, hb, ks, e2, e3, er, e4, ekl, hk⟩ := (hT.all S).node
      dsimp only at e2 er ekl hk
      have hx2 : (xs ++ (ahead is ts i) ++ (flatB n u)).length = xs.length + (ahead is ts i).length + (flatB n u).length := by rw [List.length_append, hx1]
      obtain ⟨s1, s2, s3⟩ := s'
      repeat (first | refine w_nonnil ?_ | refine st_allocK S fun _ _ S hold => ?_ | refine w_guard (by (first | exact inK64 (by omega) (by omega) | omega | (constructor <;> omega) | ((try dsimp only [Sh.T, Sh1.T]); first | exact inK64 (by omega) (by omega) | omega | exact ⟨by decide, inK64 (by omega) (by omega)⟩ | trivial))) ?_ | refine bd_e rfl ?_ | refine ln_e ?_ | refine w_true (b := true) rfl ?_ | refine w_false (b := false) rfl ?_ | refine w_guard (show noMeths _ _ by show _ = _; kernel_rfl) ?_ | (refine w_callT (c_leafp (kp := none) (S.rd rfl)) ?_; rintro _ _ ⟨rfl, rfl⟩) | (refine w_callT (c_leafp (kp := some _) (S.rd rfl)) ?_; rintro _ _ ⟨rfl, rfl⟩) | (refine w_callT (c_leafp (S.rd rfl)) ?_; rintro _ _ ⟨rfl, rfl⟩) | refine w_it (by assumption) (by assumption) ?_ | refine w_sl (some _, _, _) (by assumption) ?_ | refine w_ptr (some _) (by assumption) ?_ | refine w_ptr none (by assumption) ?_ | (refine w_callT (c_leafp (kp := none) (by assumption)) ?_; rintro _ _ ⟨rfl, rfl⟩) | (refine w_callT (c_leafp (kp := some _) (by assumption)) ?_; rintro _ _ ⟨rfl, rfl⟩) )
      refine st_apo (L := LT) (y := is[i]) S hs' rfl rfl (S.rsl (LT.flat [is[i]]) 1 1 2 (fun i v h => by rw [Nat.zero_add]; exact h) rfl) ⟨by omega, by omega⟩ fun s' _ hs' S => ?_
      have e : xs ++ (ahead is ts i) ++ (flatB n u) ++ [is[i]] = xs ++ (ahead is ts (i + 1)) := by rw [hsuc]; simp
      rw [e] at S hs'
      repeat (first | refine w_nonnil ?_ | refine st_allocK S fun _ _ S hold => ?_ | refine w_guard (by (first | exact inK64 (by omega) (by omega) | omega | (constructor <;> omega) | ((try dsimp only [Sh.T, Sh1.T]); first | exact inK64 (by omega) (by omega) | omega | exact ⟨by decide, inK64 (by omega) (by omega)⟩ | trivial))) ?_ | refine bd_e rfl ?_ | refine ln_e ?_ | refine w_true (b := true) rfl ?_ | refine w_false (b := false) rfl ?_ | refine w_guard (show noMeths _ _ by show _ = _; kernel_rfl) ?_ | (refine w_callT (c_leafp (kp := none) (S.rd rfl)) ?_; rintro _ _ ⟨rfl, rfl⟩) | (refine w_callT (c_leafp (kp := some _) (S.rd rfl)) ?_; rintro _ _ ⟨rfl, rfl⟩) | (refine w_callT (c_leafp (S.rd rfl)) ?_; rintro _ _ ⟨rfl, rfl⟩) | refine w_it (by assumption) (by assumption) ?_ | refine w_sl (some _, _, _) (by assumption) ?_ | refine w_ptr (some _) (by assumption) ?_ | refine w_ptr none (by assumption) ?_ | (refine w_callT (c_leafp (kp := none) (by assumption)) ?_; rintro _ _ ⟨rfl, rfl⟩) | (refine w_callT (c_leafp (kp := some _) (by assumption)) ?_; rintro _ _ ⟨rfl, rfl⟩) )
      exact ln_n rfl (r - 1) ⟨i + 1, s', rfl, by omega, hs', S.only [.sl s']⟩ (by omega)
    · have hie : i = is.length := by omega
      subst hie
      simp only [Int.toNat_natCast, toNat_succ, toNat_succ2, toNat_pred]
      refine w_nonnil (w_sl (some p, is.length, c) e2 ?_)
      refine w_false (lt_f (by (first | omega | ((try dsimp only [Sh.T, Sh1.T]); omega)))) (ln_e (bd_e rfl ?_))
      have hkq : rd h2 (q.1, q.2 + (ks - 1)) = some (kptr kid) := by rw [show ks - 1 = is.length by omega]; exact k2
      repeat (first | refine w_nonnil ?_ | refine st_allocK S fun _ _ S hold => ?_ | refine w_guard (by (first | exact inK64 (by omega) (by omega) | omega | (constructor <;> omega) | ((try dsimp only [Sh.T, Sh1.T]); first | exact inK64 (by omega) (by omega) | omega | exact ⟨by decide, inK64 (by omega) (by omega)⟩ | trivial))) ?_ | refine bd_e rfl ?_ | refine ln_e ?_ | refine w_true (b := true) rfl ?_ | refine w_false (b := false) rfl ?_ | refine w_guard (show noMeths _ _ by show _ = _; kernel_rfl) ?_ | (refine w_callT (c_leafp (kp := none) (S.rd rfl)) ?_; rintro _ _ ⟨rfl, rfl⟩) | (refine w_callT (c_leafp (kp := some _) (S.rd rfl)) ?_; rintro _ _ ⟨rfl, rfl⟩) | (refine w_callT (c_leafp (S.rd rfl)) ?_; rintro _ _ ⟨rfl, rfl⟩) | refine w_it (by assumption) (by assumption) ?_ | refine w_sl (some _, _, _) (by assumption) ?_ | refine w_ptr (some _) (by assumption) ?_ | refine w_ptr none (by assumption) ?_ | (refine w_callT (c_leafp (kp := none) (by assumption)) ?_; rintro _ _ ⟨rfl, rfl⟩) | (refine w_callT (c_leafp (kp := some _) (by assumption)) ?_; rintro _ _ ⟨rfl, rfl⟩) )
      refine st_callF S [.sl (s1, s2, s3)] (fun G' hG' hsub => c_nodeItems n (s := (s1, s2, s3)) (k3.sub hsub) ((hA.all S).sub hsub) hkq hs' (hv.2.2 u hmem).1 hmx (by omega) hG') ?_
      rintro _ _ h3 ⟨s', rfl, hs', rfl⟩ S
      dsimp only [List.cons_append, List.nil_append] at S
      have e : xs ++ (ahead is ts is.length) ++ (flatB n u) = xs ++ (flatB (n + 1) ((is, ts) : BT KV (n + 1))) := by rw [ah_last hl2 hu]; simp
      rw [e] at S hs'
      exact rt_1 rfl ⟨_, ⟨s', rfl, hs', rfl⟩, S.only [.sl s']⟩
theorem c_LenF {a0 : PA} {n : Int} (hr : rd h (a0.1, a0.2 + 3) = some (.int .i64 n)) : HT Try.prog fn_tg_Len [.c (.addr a0)] false [.c (.int .i64)] h fun x h' => x = (n, ()) ∧ h' = h :=
  hc_tg_Len _ (w_int n hr (rt_1 rfl ⟨rfl, rfl⟩))
theorem c_items {a0 : PA} {iso : Int} {dg : Nat} {l : List KV} {m : Bool} (hl : l.length ≤ 4294967296) {G : PA → Prop} (hG : Star [MpC ls o iso dg a0 l] h G) :
    HT Try.prog fn_tg_items [.c (.addr a0), .c (.bool m)] false [.c .sl] h fun x h' => ∃ post, (∃ s : SlT, x = (s, ()) ∧ OwnL LT s (l) ∧ post = [SlC s LT.sz (LT.flat (l)), MpC ls o iso dg a0 l]) ∧ St h G post h' := by
  apply hc_tg_items
  unfold M_tg_items
  have S := St.start hG
  (refine w_callT c_lock ?_; rintro _ hk ⟨rfl, rfl⟩; refine w_bnd (w_false rfl (bd_n rfl ?_)))
  rcases open_map S with ⟨ctr, mn, mx, rfl, hg, S⟩ | ⟨ctr, n, b, t, rfl, hs, hv, hi, hg, S⟩
  · refine w_callT (c_LenF (S.rd rfl)) ?_
    rintro _ _ ⟨rfl, rfl⟩
    refine st_make S rfl (by decide) (by decide) (by decide) (by decide) fun p _ S => ?_
    have e0 : (madeCells (List.map Cell.val [Cell.int IntKind.i64 0, Cell.int IntKind.i64 0]).toArray (Int.toNat 0 * 2)).toList = LT.flat [] := by simp [madeCells, Lay.flat]
    rw [e0] at S
    repeat (first | refine ld_some S rfl ?_ | refine ld_ptr S _ rfl ?_ | refine w_bnd ?_ | refine bd_n rfl ?_ | refine w_true (b := true) rfl ?_ | refine w_false (b := false) rfl ?_ )
    have S := shut_map0 (o := o) (S.pull1) hg
    exact rt_1 rfl ⟨_, ⟨_, rfl, ⟨rfl, Nat.le_refl _, .inr rfl⟩, rfl⟩, S.pull1⟩
  · refine w_callT (c_LenF (S.rd rfl)) ?_
    rintro _ _ ⟨rfl, rfl⟩
    rename_i h
    refine st_make S rfl (by decide) (by omega) (by omega) (by omega) fun p _ S => ?_
    have e0 : (madeCells (List.map Cell.val [Cell.int IntKind.i64 0, Cell.int IntKind.i64 0]).toArray (Int.toNat 0 * 2)).toList = LT.flat [] := by simp [madeCells, Lay.flat]
    rw [e0] at S
    repeat (first | refine ld_some S rfl ?_ | refine ld_ptr S _ rfl ?_ | refine w_bnd ?_ | refine bd_n rfl ?_ | refine w_true (b := true) rfl ?_ | refine w_false (b := false) rfl ?_ )
    obtain ⟨_, hmn, hmb⟩ := hg
    refine st_callB S [.sl (some (p, 0), Int.toNat 0, ((flatB n t).length : Int).toNat)] (fun G' hG' hb => c_nodeItems n (s := (some (p, 0), 0, ((flatB n t).length : Int).toNat)) (xs := []) (hb _ (.tail _ (.head _))) (Bes.cell (j := 0) (hb _ (.head _)) rfl) (S.rd rfl) ⟨rfl, Nat.zero_le _, .inr rfl⟩ hv (by omega) (by simpa using hl) hG') ?_
    rintro _ _ h3 ⟨s', rfl, hs', rfl⟩ S
    dsimp only [List.cons_append, List.nil_append] at S
    exact bd_n rfl (rt_1 rfl ⟨_, ⟨_, rfl, hs', rfl⟩, (shut_map (S.ats [.ow a0, .tr b]) rfl rfl hs hv hi ⟨rfl, hmn, hmb⟩).ats [.sl s', .mp a0]⟩)
end
end Go.Proofs.Ytegnpimlfphncaa.TG
