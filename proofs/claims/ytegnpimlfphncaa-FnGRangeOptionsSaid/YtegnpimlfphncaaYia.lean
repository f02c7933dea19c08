/-
  The tree of items: its layout, its items in cells, an item sought in a node. Conditions: none.
-/
import Derived.Test.YtegnpimlfphncaaPgA
import Derived.Test.YtegnpimlfphncaaNd
import Derived.Test.YtegnpimlfphncaaNm
import Derived.Test.YtegnpimlfphncaaYb
set_option linter.unusedVariables false
set_option linter.unusedSimpArgs false
set_option linter.unusedSectionVars false
set_option maxRecDepth 100000
namespace Go.Proofs.Ytegnpimlfphncaa.TG
open Go Go.Proofs.Ytegnpimlfphncaa
abbrev KV := IV
abbrev z0 : KV := (0, 0)
abbrev L : Lay KV := LT
section
variable {h h0 : H} {G0 : PA → Prop} {l : List Ck} {Q : Ex → List AV → H → Prop}
theorem key_at {p : PA} {xs : List KV} (hx : rds h p (L.flat xs)) {i : Nat} {a : KV} (ha : xs[i]? = some a) : rd h (p.1, p.2 + i * 2) = some (.int .i64 a.1) := by
  have := hx (i * 2 + 0) _ (L.flat_get (j := 0) ha rfl)
  simpa [Nat.add_assoc] using this
theorem val_at {p : PA} {xs : List KV} (hx : rds h p (L.flat xs)) {i : Nat} {a : KV} (ha : xs[i]? = some a) : rd h (p.1, p.2 + i * 2 + 1) = some (.int .i64 a.2) := by
  have := hx (i * 2 + 1) _ (L.flat_get (j := 1) ha rfl)
  simpa [Nat.add_assoc] using this
theorem flat_set2 : ∀ (xs : List KV) (i : Nat) (a : KV), i < xs.length → ((L.flat xs).set (i * 2) (.int .i64 a.1)).set (i * 2 + 1) (.int .i64 a.2) = L.flat (xs.set i a)
  | [], _, _, h => by simp at h
  | x :: xs, 0, a, _ => rfl
  | x :: xs, i + 1, a, h => by
    have ih := flat_set2 xs i a (by simpa using h)
    show ((.int .i64 x.1 :: .int .i64 x.2 :: L.flat xs : List Value).set ((i + 1) * 2) _).set ((i + 1) * 2 + 1) _ = .int .i64 x.1 :: .int .i64 x.2 :: L.flat (xs.set i a)
    rw [← ih, show (i + 1) * 2 = i * 2 + 2 by omega]
    rfl
theorem ld_it (s : St h0 G0 l h) {p : PA} {xs : List KV} {k : Nat} {l' : List Value → List Ck} [Fi l p (L.flat xs) 0 k l'] {i : Nat} {x : KV} (hx : xs[i]? = some x) {m : Int → Int → M}
    (hw : wp Try.prog (m x.1 x.2) Q h) : wp Try.prog (.load (p.1, p.2 + mulN i 2) (.int .i64) fun v => .load (p.1, p.2 + mulN i 2 + 1) (.int .i64) fun k => m v k) Q h := by
  have hr := s.rds (a := p) (vs := L.flat xs) (j := 0) (L.flat xs) (fun i v h => by rw [Nat.zero_add]; exact h)
  refine w_int x.1 ?_ (w_int x.2 ?_ hw)
  · rw [mulN_eq]; exact key_at hr hx
  · rw [mulN_eq]; exact val_at hr hx
theorem ld_it0 (s : St h0 G0 l h) {p : PA} {xs : List KV} {k : Nat} {l' : List Value → List Ck} [Fi l p (L.flat xs) 0 k l'] {x : KV} (hx : xs[0]? = some x) {m : Int → Int → M}
    (hw : wp Try.prog (m x.1 x.2) Q h) : wp Try.prog (.load (p.1, p.2) (.int .i64) fun v => .load (p.1, p.2 + 1) (.int .i64) fun k => m v k) Q h := by
  have hr := s.rds (a := p) (vs := L.flat xs) (j := 0) (L.flat xs) (fun i v h => by rw [Nat.zero_add]; exact h)
  refine w_int x.1 ?_ (w_int x.2 ?_ hw)
  · simpa using key_at hr hx
  · simpa using val_at hr hx
theorem w_it {p : PA} {xs : List KV} (hr : rds h p (L.flat xs)) {i : Nat} {x : KV} (hx : xs[i]? = some x) {m : Int → Int → M}
    (hw : wp Try.prog (m x.1 x.2) Q h) : wp Try.prog (.load (p.1, p.2 + mulN i 2) (.int .i64) fun v => .load (p.1, p.2 + mulN i 2 + 1) (.int .i64) fun k => m v k) Q h := by
  refine w_int x.1 ?_ (w_int x.2 ?_ hw)
  · rw [mulN_eq]; exact key_at hr hx
  · rw [mulN_eq]; exact val_at hr hx
theorem st_it (s : St h0 G0 l h) {p : PA} {xs : List KV} {k : Nat} {l' : List Value → List Ck} [Fi l p (L.flat xs) 0 k l'] {i : Nat} (hi : i < xs.length) {a b : Int} {m : M}
    (hw : ∀ h', St h0 G0 (l' (L.flat (xs.set i (a, b)))) h' → wp Try.prog m Q h') : wp Try.prog (.store (p.1, p.2 + mulN i 2) (.int .i64 a) (.store (p.1, p.2 + mulN i 2 + 1) (.int .i64 b) m)) Q h := by
  have hk : oks h p (L.flat xs).length := by
    obtain ⟨⟨G, h1, h2⟩, h3⟩ := s
    obtain ⟨c, F, B, e, o, _⟩ := Fi.ok (self := ‹Fi l p (L.flat xs) 0 k l'›) h G h1
    intro j hj
    have := o.ok j (by omega)
    rw [e]; simpa using this
  rw [L.flat_length] at hk
  have hk : oks h p (xs.length * 2) := hk
  have k0 : wok h (p.1, p.2 + mulN i 2) := by rw [mulN_eq]; exact hk (i * 2) (by omega)
  have k1 : wok h (p.1, p.2 + mulN i 2 + 1) := by rw [mulN_eq, Nat.add_assoc]; exact hk (i * 2 + 1) (by omega)
  refine w_store k0 (w_store (wok_wr k1) (hw _ ?_))
  refine s.change (a := p) (ws := L.flat (xs.set i (a, b))) (by rw [L.flat_length, L.flat_length, List.length_set]) fun c e o => ?_
  have e' : c = p := by rw [e]; rfl
  subst e'
  have hl : (L.flat xs).length = xs.length * 2 := L.flat_length xs
  have o1 := o.one (i * 2) (.int .i64 a) (by rw [hl]; omega)
  have o2 := o1.one (i * 2 + 1) (.int .i64 b) (by rw [List.length_set, hl]; omega)
  rw [flat_set2 xs i (a, b) hi] at o2
  rw [mulN_eq, Nat.add_assoc]
  exact ⟨o2, (Fr.wr _ ⟨rfl, by simp, by simp; omega⟩).trans (Fr.wr _ ⟨rfl, by simp, by simp; omega⟩)⟩
theorem st_it0 (s : St h0 G0 l h) {p : PA} {xs : List KV} {k : Nat} {l' : List Value → List Ck} [Fi l p (L.flat xs) 0 k l'] (hi : 0 < xs.length) {a b : Int} {m : M}
    (hw : ∀ h', St h0 G0 (l' (L.flat (xs.set 0 (a, b)))) h' → wp Try.prog m Q h') : wp Try.prog (.store (p.1, p.2) (.int .i64 a) (.store (p.1, p.2 + 1) (.int .i64 b) m)) Q h := by
  have := st_it s (p := p) (i := 0) hi (a := a) (b := b) (m := m) hw
  rw [mulN_eq] at this
  simpa using this
theorem c_leaf {a : PA} {kp : Option PA} (hr : rd h (a.1, a.2 + 3) = some (.pointer (kp.map PA.val))) :
    HT Try.prog fn_ng_leaf [.c (.addr a)] false [.c .bool] h fun x h' => x = (kp.isNone, ()) ∧ h' = h :=
  hc_ng_leaf a (w_ptr kp hr (rt_1 rfl ⟨rfl, rfl⟩))
theorem c_leafp {a : PA} {kp : Option PA} (hr : rd h (a.1, a.2 + 3) = some (.pointer (kp.map PA.val))) :
    HT Try.prog fn_ng_leaf [.c (.ptr (some a))] false [.c .bool] h fun x h' => x = (kp.isNone, ()) ∧ h' = h := c_leaf hr
theorem c_lock {a : PA} {b : Bool} : HT Try.prog fn_tg_lock [.c (.addr a), .c (.bool b)] false [.c .bool] h fun x h' => x = (false, ()) ∧ h' = h :=
  hc_tg_lock a b (rt_1 rfl ⟨rfl, rfl⟩)
theorem inU64 {n : Int} (h1 : 0 ≤ n) (h2 : n ≤ 9223372036854775807) : InK .u64 n := by
  show IntKind.u64.wrap n = n
  rw [IntKind.wrap_u64]; omega
set_option maxHeartbeats 1000000 in
theorem c_bsearch {c : Ck} {ls : Value} {o : List Int} (hls : Lss ls c o) {a0 a1 p : PA} {x : KV} {xs : List KV} {cap : Nat} {G : PA → Prop} (hr : Bes (RdC (a1.1, a1.2 + 2) (.slice (some p.val) xs.length cap)) h G) (hx : Bes (RsC p (L.flat xs)) h G) (hl : Bes (RdC (a0.1, a0.2 + 6) ls) h G) (hc : Bes c h G)
    (hs : Srt (ltO o) xs) (hn : xs.length ≤ 4294967296) (hG : Star l h G) :
    HT Try.prog fn_tg_bsearch [.c (.addr a0), .c (.addr a1), .agg [.int .i64 x.1, .int .i64 x.2]] true [.c (.int .i64), .c .bool] h fun r h' => ∃ post, (r = ((pos (ltO o) xs x : Int), (fnd (ltO o) xs x).isSome, ()) ∧ post = l) ∧ St h G post h' := by
  apply hc_tg_bsearch
  unfold M_tg_bsearch
  have hu := up_le (ordO o) xs x
  refine st_alloc (St.start hG) fun n0 _ S => ?_
  refine w_sl (some p, xs.length, cap) (hr.now S).rd ?_
  refine w_mid' (some 0) (fun (y : SV [.c (.int .i64)]) h' => y = ((up (ltO o) xs x : Int), ()) ∧ St h G (Ow (n0, 0) (LT.cells x) 0 :: l) h') ?_ ?_
  · refine w_lp (fun r y h' => ∃ lo hi : Nat, y = ((hi : Int), (lo : Int), ()) ∧ hi - lo = r ∧ lo ≤ up (ltO o) xs x ∧ up (ltO o) xs x ≤ hi ∧ hi ≤ xs.length ∧ St h G (Ow (n0, 0) (LT.cells x) 0 :: l) h') xs.length rfl ⟨0, xs.length, rfl, rfl, Nat.zero_le _, hu, Nat.le_refl _, S⟩ ?_
    clear S
    rintro r _ h1 ⟨lo, hi, rfl, hrr, g1, g2, g3, S⟩
    by_cases hlt : lo < hi
    · have hm : ((lo : Int) + hi).fdiv (2 ^ 1) = (((lo + hi) / 2 : Nat) : Int) := by rw [Int.fdiv_eq_ediv_of_nonneg _ (by decide)]; omega
      have hml : (lo + hi) / 2 < xs.length := by omega
      refine w_true (decide_eq_true (by (first | omega | ((try dsimp only [Sh.T, Sh1.T]); omega)))) ?_
      dsimp only
      rw [hm]
      refine w_guard (inK64 (by omega) (by omega)) (w_guard (inU64 (by omega) (by omega)) (w_guard ⟨by decide, by decide⟩ (w_guard (inK64 (by omega) (by omega)) ?_)))
      refine w_less hls (hl.now S).rd ?_
      refine ld_int S rfl (ld_int S rfl ?_)
      refine w_sl (some p, xs.length, cap) (hr.now S).rd (w_nonnil (w_guard ⟨by omega, by dsimp only; omega⟩ ?_))
      rw [Int.toNat_natCast]
      refine w_it (hx.now S).rds (List.getElem?_eq_getElem hml) ?_
      have hsp := up_spec (ordO o) hs (x := x) (List.getElem?_eq_getElem hml)
      refine st_less S hls (hc.now S).ex x xs[(lo + hi) / 2] fun h2 S => ?_
      refine w_bnd ?_
      cases hb : ltO o x xs[(lo + hi) / 2] with
      | false =>
        have : (lo + hi) / 2 < up (ltO o) xs x := hsp.1 hb
        refine w_true rfl (w_guard (inK64 (by omega) (by omega)) (bd_n rfl ?_))
        exact ln_n rfl (hi - ((lo + hi) / 2 + 1)) ⟨(lo + hi) / 2 + 1, hi, rfl, rfl, by omega, by omega, by omega, S⟩ (by omega)
      | true =>
        have : ¬ (lo + hi) / 2 < up (ltO o) xs x := fun hh => by have := hsp.2 hh; rw [hb] at this; cases this
        refine w_false rfl (bd_n rfl ?_)
        exact ln_n rfl ((lo + hi) / 2 - lo) ⟨lo, (lo + hi) / 2, rfl, rfl, by omega, by omega, by omega, S⟩ (by omega)
    · refine w_false (decide_eq_false (by (first | omega | ((try dsimp only [Sh.T, Sh1.T]); omega)))) (ln_e (md_e rfl ⟨?_, S⟩))
      rw [show up (ltO o) xs x = lo by omega]
  · rintro _ h1 ⟨rfl, S⟩
    refine w_mid' none (fun (y : SV [.c .bool]) h' => y = ((fnd (ltO o) xs x).isSome, ()) ∧ St h G (Ow (n0, 0) (LT.cells x) 0 :: l) h') ?_ ?_
    · by_cases hpos : 0 < up (ltO o) xs x
      · have hll : up (ltO o) xs x - 1 < xs.length := by omega
        refine w_true (decide_eq_true (by (first | omega | ((try dsimp only [Sh.T, Sh1.T]); omega)))) ?_
        refine w_less hls (hl.now S).rd (w_sl (some p, xs.length, cap) (hr.now S).rd ?_)
        refine w_guard (inK64 (by (first | omega | ((try dsimp only [Sh.T, Sh1.T]); omega))) (by (first | omega | ((try dsimp only [Sh.T, Sh1.T]); omega)))) (w_nonnil (w_guard ⟨by (first | omega | ((try dsimp only [Sh.T, Sh1.T]); omega)), by (first | omega | ((try dsimp only [Sh.T, Sh1.T]); omega))⟩ ?_))
        dsimp only
        rw [toNat_pred]
        refine w_it (hx.now S).rds (List.getElem?_eq_getElem hll) (ld_int S rfl (ld_int S rfl ?_))
        refine st_less S hls (hc.now S).ex xs[up (ltO o) xs x - 1] x fun h2 S => md_n rfl ⟨?_, S⟩
        have hsp := pos_spec (ordO o) hs x _ _ (List.getElem?_eq_getElem hll)
        cases hf : fnd (ltO o) xs x with
        | none =>
          have : up (ltO o) xs x = pos (ltO o) xs x := by simp [up, hf]
          rw [hsp.1 (by omega)]; rfl
        | some b =>
          have : up (ltO o) xs x = pos (ltO o) xs x + 1 := by simp [up, hf]
          have : ¬ ltO o xs[up (ltO o) xs x - 1] x = true := fun hh => by have := hsp.2 hh; omega
          rw [Bool.not_eq_true] at this
          rw [this]; rfl
      · refine w_false (decide_eq_false (by (first | omega | ((try dsimp only [Sh.T, Sh1.T]); omega)))) (md_n rfl ⟨?_, S⟩)
        cases hf : fnd (ltO o) xs x with
        | none => rfl
        | some b => simp [up, hf] at hpos
    · rintro _ h2 ⟨rfl, S⟩
      cases hb : (fnd (ltO o) xs x).isSome with
      | true =>
        have hup : up (ltO o) xs x = pos (ltO o) xs x + 1 := by simp [up, hb]
        refine w_true rfl (w_guard (inK64 (by (first | omega | ((try dsimp only [Sh.T, Sh1.T]); omega))) (by (first | omega | ((try dsimp only [Sh.T, Sh1.T]); omega)))) (rt_n (x := (((up (ltO o) xs x : Int) - 1), true, ())) rfl rfl ⟨_, ⟨?_, rfl⟩, S.drop⟩))
        rw [hup]; simp
      | false =>
        have hup : up (ltO o) xs x = pos (ltO o) xs x := by simp [up, hb]
        refine w_false rfl (rt_n (x := ((up (ltO o) xs x : Int), false, ())) rfl rfl ⟨_, ⟨by rw [hup], rfl⟩, S.drop⟩)
end
end Go.Proofs.Ytegnpimlfphncaa.TG
