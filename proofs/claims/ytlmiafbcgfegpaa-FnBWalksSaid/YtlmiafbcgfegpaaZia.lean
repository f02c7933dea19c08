/-
  The tree of interfaces: its layout, its items in cells, an item sought in a node. Conditions: none.
-/
import Derived.Test.YtlmiafbcgfegpaaPgA
import Derived.Test.YtlmiafbcgfegpaaNd
import Derived.Test.YtlmiafbcgfegpaaNm
import Derived.Test.YtlmiafbcgfegpaaYb
set_option linter.unusedVariables false
set_option linter.unusedSimpArgs false
set_option linter.unusedSectionVars false
set_option maxRecDepth 100000
namespace Go.Proofs.Ytlmiafbcgfegpaa
open Go
def anyV (x : IV) : Value := .iface ty_impl_Item (.agg #[.int .i64 x.1, .int .i64 x.2])
def valO : Option IV → Value
  | some x => anyV x
  | none => .nilIface
end Go.Proofs.Ytlmiafbcgfegpaa
namespace Go.Proofs.Ytlmiafbcgfegpaa.TB
open Go Go.Proofs.Ytlmiafbcgfegpaa
abbrev KV := IV
abbrev z0 : KV := (0, 0)
def L : Lay KV where
  sz := 1
  cells x := [anyV x]
  len _ := rfl
  one _ v hv := by simp only [List.mem_cons, List.not_mem_nil, or_false] at hv; subst hv; rfl
  pos := by decide
def LO : Lay (Option KV) where
  sz := 1
  cells x := [valO x]
  len _ := rfl
  one x v hv := by simp only [List.mem_cons, List.not_mem_nil, or_false] at hv; subst hv; cases x <;> rfl
  pos := by decide
theorem LO_flat : ∀ (xs : List KV), LO.flat (xs.map some) = L.flat xs
  | [] => rfl
  | x :: xs => by rw [List.map_cons, Lay.flat_cons, Lay.flat_cons, LO_flat xs]; rfl
section
variable {h h0 : H} {G0 : PA → Prop} {l : List Ck} {Q : Ex → List AV → H → Prop}
theorem raw_any (x : KV) : (Cell.raw (anyV x)).val = anyV x := rfl
theorem w_any {a : PA} {x : KV} {m : Value → M} (hr : rd h a = some (anyV x)) (hw : wp Try.prog (m (anyV x)) Q h) : wp Try.prog (.load a .raw m) Q h := ⟨anyV x, hr, hw⟩
theorem ld_any (s : St h0 G0 l h) {a : PA} {vs : List Value} {j k : Nat} {l' : List Value → List Ck} [Fi l a vs j k l'] {x : KV} {m : Value → M} (hv : vs[j]? = some (anyV x)) (hw : wp Try.prog (m (anyV x)) Q h) : wp Try.prog (.load a .raw m) Q h := ⟨anyV x, s.rd hv, hw⟩
theorem ld_nilI (s : St h0 G0 l h) {a : PA} {vs : List Value} {j k : Nat} {l' : List Value → List Ck} [Fi l a vs j k l'] {m : Value → M} (hv : vs[j]? = some .nilIface) (hw : wp Try.prog (m .nilIface) Q h) : wp Try.prog (.load a .raw m) Q h := ⟨.nilIface, s.rd hv, hw⟩
theorem it_at {p : PA} {xs : List KV} (hx : rds h p (L.flat xs)) {i : Nat} {a : KV} (ha : xs[i]? = some a) : rd h (p.1, p.2 + i) = some (anyV a) := by
  have := hx (i * 1 + 0) _ (L.flat_get (j := 0) ha rfl)
  simpa using this
theorem flat_set1 : ∀ (xs : List KV) (i : Nat) (a : KV), i < xs.length → (L.flat xs).set i (anyV a) = L.flat (xs.set i a)
  | [], _, _, h => by simp at h
  | x :: xs, 0, a, _ => rfl
  | x :: xs, i + 1, a, h => by
    have ih := flat_set1 xs i a (by simpa using h)
    show (anyV x :: L.flat xs : List Value).set (i + 1) _ = anyV x :: L.flat (xs.set i a)
    rw [← ih]; rfl
theorem flat_setN : ∀ (xs : List KV) (i : Nat) (v : Value), i < xs.length → (L.flat xs).set i v = L.flat (xs.take i) ++ ([v] ++ L.flat (xs.drop (i + 1)))
  | [], _, _, h => by simp at h
  | x :: xs, 0, v, _ => rfl
  | x :: xs, i + 1, v, h => by
    have ih := flat_setN xs i v (by simpa using h)
    show (anyV x :: L.flat xs : List Value).set (i + 1) _ = anyV x :: L.flat (xs.take i) ++ _
    rw [List.set_cons_succ, ih]; rfl
theorem ld_it (s : St h0 G0 l h) {p : PA} {xs : List KV} {k : Nat} {l' : List Value → List Ck} [Fi l p (L.flat xs) 0 k l'] {i : Nat} {x : KV} (hx : xs[i]? = some x) {m : Value → M}
    (hw : wp Try.prog (m (anyV x)) Q h) : wp Try.prog (.load (p.1, p.2 + i) .raw m) Q h := by
  have hr := s.rds (a := p) (vs := L.flat xs) (j := 0) (L.flat xs) (fun i v h => by rw [Nat.zero_add]; exact h)
  exact w_any (it_at hr hx) hw
theorem ld_it0 (s : St h0 G0 l h) {p : PA} {xs : List KV} {k : Nat} {l' : List Value → List Ck} [Fi l p (L.flat xs) 0 k l'] {x : KV} (hx : xs[0]? = some x) {m : Value → M}
    (hw : wp Try.prog (m (anyV x)) Q h) : wp Try.prog (.load (p.1, p.2) .raw m) Q h := by
  have := ld_it s (p := p) hx (m := m) hw
  simpa using this
theorem w_it {p : PA} {xs : List KV} (hr : rds h p (L.flat xs)) {i : Nat} {x : KV} (hx : xs[i]? = some x) {m : Value → M}
    (hw : wp Try.prog (m (anyV x)) Q h) : wp Try.prog (.load (p.1, p.2 + i) .raw m) Q h := w_any (it_at hr hx) hw
theorem w_it0 {p : PA} {xs : List KV} (hr : rds h p (L.flat xs)) {x : KV} (hx : xs[0]? = some x) {m : Value → M}
    (hw : wp Try.prog (m (anyV x)) Q h) : wp Try.prog (.load (p.1, p.2) .raw m) Q h := by
  have := w_it hr hx (m := m) hw
  simpa using this
theorem h_it {h' : H} {p : PA} {xs : List KV} (hold : ∀ a v, rd h a = some v → rd h' a = some v) (hr : rds h p (L.flat xs)) {i : Nat} {x : KV} (hx : xs[i]? = some x) {m : M} (hw : wp Try.prog m Q h') : wp Try.prog (.held (p.1, p.2 + i) (.raw (anyV x)) m) Q h' :=
  w_held (hold _ _ (it_at hr hx)) hw
theorem st_it (s : St h0 G0 l h) {p : PA} {xs : List KV} {k : Nat} {l' : List Value → List Ck} [Fi l p (L.flat xs) 0 k l'] {i : Nat} (hi : i < xs.length) {a : KV} {m : M}
    (hw : ∀ h', St h0 G0 (l' (L.flat (xs.set i a))) h' → wp Try.prog m Q h') : wp Try.prog (.store (p.1, p.2 + i) (.raw (anyV a)) m) Q h := by
  haveI := fi_shift (l := l) (a := p) (vs := L.flat xs) (k := k) (l' := l') i
  refine st_store s (a := (p.1, p.2 + i)) (j := i) (by rw [L.flat_length]; show i < xs.length * 1; omega) fun h' S => hw h' ?_
  rw [raw_any, flat_set1 _ _ _ hi] at S
  exact S
theorem st_itN (s : St h0 G0 l h) {p : PA} {xs : List KV} {k : Nat} {l' : List Value → List Ck} [Fi l p (L.flat xs) 0 k l'] {i : Nat} (hi : i < xs.length) {m : M}
    (hw : ∀ h', St h0 G0 (l' (L.flat (xs.take i) ++ ([.nilIface] ++ L.flat (xs.drop (i + 1))))) h' → wp Try.prog m Q h') : wp Try.prog (.store (p.1, p.2 + i) (.raw .nilIface) m) Q h := by
  haveI := fi_shift (l := l) (a := p) (vs := L.flat xs) (k := k) (l' := l') i
  refine st_store s (a := (p.1, p.2 + i)) (j := i) (by rw [L.flat_length]; show i < xs.length * 1; omega) fun h' S => hw h' ?_
  rw [show (Cell.raw Value.nilIface).val = Value.nilIface from rfl, flat_setN _ _ _ hi] at S
  exact S
theorem st_itO (s : St h0 G0 l h) {p : PA} {xs : List (Option KV)} {k : Nat} {l' : List Value → List Ck} [Fi l p (LO.flat xs) 0 k l'] {i : Nat} (hi : i < xs.length) {a : KV} {m : M}
    (hw : ∀ h', St h0 G0 (l' (LO.flat (xs.set i (some a)))) h' → wp Try.prog m Q h') : wp Try.prog (.store (p.1, p.2 + i) (.raw (anyV a)) m) Q h := by
  haveI := fi_shift (l := l) (a := p) (vs := LO.flat xs) (k := k) (l' := l') i
  refine st_store s (a := (p.1, p.2 + i)) (j := i) (by rw [LO.flat_length]; show i < xs.length * 1; omega) fun h' S => hw h' ?_
  have e : ∀ (xs : List (Option KV)) (i : Nat), i < xs.length → (LO.flat xs).set i (anyV a) = LO.flat (xs.set i (some a)) := by
    intro xs
    induction xs with
    | nil => intro i h; simp at h
    | cons x xs ih =>
      intro i h
      cases i with
      | zero => rfl
      | succ i =>
        show (valO x :: LO.flat xs : List Value).set (i + 1) _ = valO x :: LO.flat (xs.set i (some a))
        rw [List.set_cons_succ, ih i (by simpa using h)]
  rw [raw_any, e _ _ hi] at S
  exact S
def Lss (ls : Value) (c : Ck) (o : List Int) : Prop :=
  (Cell.raw ls).val = ls ∧ ∀ (h : H) (F : PA → Prop) (a b : IV), c.p h F → callOf Try.prog ls (List.map AV.val [.c (.raw (anyV a)), .c (.raw (anyV b))]).toArray h (TR false [.c .bool] fun r h' => r = (ltO o a b, ()) ∧ ∀ G, Star [] h G → St h G [] h')
theorem st_less (s : St h0 G0 l h) {ls : Value} {c : Ck} {o : List Int} (hls : Lss ls c o) (hc : ∃ F, c.p h F) (a b : IV) {k : SV [.c .bool] → M}
    (hw : ∀ h', St h0 G0 l h' → wp Try.prog (k (ltO o a b, ())) Q h') : wp Try.prog (.callv ls [.c (.raw (anyV a)), .c (.raw (anyV b))] false [.c .bool] k) Q h := by
  obtain ⟨F, hF⟩ := hc
  refine w_callOf (hls.2 h F a b hF) fun v h' ⟨x, e, hx, hS⟩ => ⟨x, e, ?_⟩
  subst hx
  exact hw h' (St.then (l := []) (l' := []) (m := l) s hS)
theorem w_less {ls : Value} {c : Ck} {o : List Int} (hls : Lss ls c o) {a : PA} {m : Value → M} (hr : Go.Proofs.Ytlmiafbcgfegpaa.rd h a = some ls) (hw : wp Try.prog (m ls) Q h) : wp Try.prog (.load a .raw m) Q h :=
  w_raw ls (by rw [hls.1]; exact hr) hw
theorem c_leaf {a : PA} {kp : Option PA} (hr : rd h (a.1, a.2 + 3) = some (.pointer (kp.map PA.val))) :
    HT Try.prog fn_nb_leaf [.c (.addr a)] false [.c .bool] h fun x h' => x = (kp.isNone, ()) ∧ h' = h :=
  hc_nb_leaf a (w_ptr kp hr (rt_1 rfl ⟨rfl, rfl⟩))
theorem c_leafp {a : PA} {kp : Option PA} (hr : rd h (a.1, a.2 + 3) = some (.pointer (kp.map PA.val))) :
    HT Try.prog fn_nb_leaf [.c (.ptr (some a))] false [.c .bool] h fun x h' => x = (kp.isNone, ()) ∧ h' = h := c_leaf hr
theorem c_lock {a : PA} {b : Bool} : HT Try.prog fn_tb_lock [.c (.addr a), .c (.bool b)] false [.c .bool] h fun x h' => x = (false, ()) ∧ h' = h :=
  hc_tb_lock a b (rt_1 rfl ⟨rfl, rfl⟩)
theorem inU64 {n : Int} (h1 : 0 ≤ n) (h2 : n ≤ 9223372036854775807) : InK .u64 n := by
  show IntKind.u64.wrap n = n
  rw [IntKind.wrap_u64]; omega
set_option maxHeartbeats 1000000 in
theorem c_bsearch {c : Ck} {ls : Value} {o : List Int} (hls : Lss ls c o) {a0 a1 p : PA} {x : KV} {xs : List KV} {cap : Nat} {G : PA → Prop} (hr : Bes (RdC (a1.1, a1.2 + 2) (.slice (some p.val) xs.length cap)) h G) (hx : Bes (RsC p (L.flat xs)) h G) (hl : Bes (RdC (a0.1, a0.2 + 6) ls) h G) (hc : Bes c h G)
    (hs : Srt (ltO o) xs) (hn : xs.length ≤ 4294967296) (hG : Star l h G) :
    HT Try.prog fn_tb_bsearch [.c (.addr a0), .c (.addr a1), .c (.raw (anyV x))] true [.c (.int .i64), .c .bool] h fun r h' => ∃ post, (r = ((pos (ltO o) xs x : Int), (fnd (ltO o) xs x).isSome, ()) ∧ post = l) ∧ St h G post h' := by
  apply hc_tb_bsearch
  unfold M_tb_bsearch
  have hu := up_le (ordO o) xs x
  have S := St.start hG
  refine w_sl (some p, xs.length, cap) (hr.now S).rd ?_
  refine w_mid' (some 0) (fun (y : SV [.c (.int .i64)]) h' => y = ((up (ltO o) xs x : Int), ()) ∧ St h G l h') ?_ ?_
  · refine w_lp (fun r y h' => ∃ lo hi : Nat, y = ((hi : Int), (lo : Int), ()) ∧ hi - lo = r ∧ lo ≤ up (ltO o) xs x ∧ up (ltO o) xs x ≤ hi ∧ hi ≤ xs.length ∧ St h G l h') xs.length rfl ⟨0, xs.length, rfl, rfl, Nat.zero_le _, hu, Nat.le_refl _, S⟩ ?_
    clear S
    rintro r _ h1 ⟨lo, hi, rfl, hrr, g1, g2, g3, S⟩
    by_cases hlt : lo < hi
    · have hm : ((lo : Int) + hi).fdiv (2 ^ 1) = (((lo + hi) / 2 : Nat) : Int) := by rw [Int.fdiv_eq_ediv_of_nonneg _ (by decide)]; omega
      have hml : (lo + hi) / 2 < xs.length := by omega
      refine w_true (decide_eq_true (by (first | omega | ((try dsimp only [Sh.T, Sh1.T]); omega)))) ?_
      dsimp only
      rw [hm]
      refine w_guard (inK64 (by omega) (by omega)) (w_guard (inU64 (by omega) (by omega)) (w_guard ⟨by decide, by decide⟩ (w_guard (inK64 (by omega) (by omega)) ?_)))
      refine w_less hls (hl.now S).rd ?_
      refine w_sl (some p, xs.length, cap) (hr.now S).rd (w_nonnil (w_guard ⟨by omega, by dsimp only; omega⟩ ?_))
      rw [Int.toNat_natCast]
      refine w_it (hx.now S).rds (List.getElem?_eq_getElem hml) ?_
      have hsp := up_spec (ordO o) hs (x := x) (List.getElem?_eq_getElem hml)
      refine st_less S hls (hc.now S).ex x xs[(lo + hi) / 2] fun h2 S => ?_
      refine w_bnd ?_
      cases hb : ltO o x xs[(lo + hi) / 2] with
      | false =>
        have : (lo + hi) / 2 < up (ltO o) xs x := hsp.1 hb
        refine w_true rfl (w_guard (inK64 (by omega) (by omega)) (bd_n rfl ?_))
        exact ln_n rfl (hi - ((lo + hi) / 2 + 1)) ⟨(lo + hi) / 2 + 1, hi, rfl, rfl, by omega, by omega, by omega, S⟩ (by omega)
      | true =>
        have : ¬ (lo + hi) / 2 < up (ltO o) xs x := fun hh => by have := hsp.2 hh; rw [hb] at this; cases this
        refine w_false rfl (bd_n rfl ?_)
        exact ln_n rfl ((lo + hi) / 2 - lo) ⟨lo, (lo + hi) / 2, rfl, rfl, by omega, by omega, by omega, S⟩ (by omega)
    · refine w_false (decide_eq_false (by (first | omega | ((try dsimp only [Sh.T, Sh1.T]); omega)))) (ln_e (md_e rfl ⟨?_, S⟩))
      rw [show up (ltO o) xs x = lo by omega]
  · rintro _ h1 ⟨rfl, S⟩
    refine w_mid' none (fun (y : SV [.c .bool]) h' => y = ((fnd (ltO o) xs x).isSome, ()) ∧ St h G l h') ?_ ?_
    · by_cases hpos : 0 < up (ltO o) xs x
      · have hll : up (ltO o) xs x - 1 < xs.length := by omega
        refine w_true (decide_eq_true (by (first | omega | ((try dsimp only [Sh.T, Sh1.T]); omega)))) ?_
        refine w_less hls (hl.now S).rd (w_sl (some p, xs.length, cap) (hr.now S).rd ?_)
        refine w_guard (inK64 (by (first | omega | ((try dsimp only [Sh.T, Sh1.T]); omega))) (by (first | omega | ((try dsimp only [Sh.T, Sh1.T]); omega)))) (w_nonnil (w_guard ⟨by (first | omega | ((try dsimp only [Sh.T, Sh1.T]); omega)), by (first | omega | ((try dsimp only [Sh.T, Sh1.T]); omega))⟩ ?_))
        dsimp only
        rw [toNat_pred]
        refine w_it (hx.now S).rds (List.getElem?_eq_getElem hll) ?_
        refine st_less S hls (hc.now S).ex xs[up (ltO o) xs x - 1] x fun h2 S => md_n rfl ⟨?_, S⟩
        have hsp := pos_spec (ordO o) hs x _ _ (List.getElem?_eq_getElem hll)
        cases hf : fnd (ltO o) xs x with
        | none =>
          have : up (ltO o) xs x = pos (ltO o) xs x := by simp [up, hf]
          rw [hsp.1 (by omega)]; rfl
        | some b =>
          have : up (ltO o) xs x = pos (ltO o) xs x + 1 := by simp [up, hf]
          have : ¬ ltO o xs[up (ltO o) xs x - 1] x = true := fun hh => by have := hsp.2 hh; omega
          rw [Bool.not_eq_true] at this
          rw [this]; rfl
      · refine w_false (decide_eq_false (by (first | omega | ((try dsimp only [Sh.T, Sh1.T]); omega)))) (md_n rfl ⟨?_, S⟩)
        cases hf : fnd (ltO o) xs x with
        | none => rfl
        | some b => simp [up, hf] at hpos
    · rintro _ h2 ⟨rfl, S⟩
      cases hb : (fnd (ltO o) xs x).isSome with
      | true =>
        have hup : up (ltO o) xs x = pos (ltO o) xs x + 1 := by simp [up, hb]
        refine w_true rfl (w_guard (inK64 (by (first | omega | ((try dsimp only [Sh.T, Sh1.T]); omega))) (by (first | omega | ((try dsimp only [Sh.T, Sh1.T]); omega)))) (rt_n (x := (((up (ltO o) xs x : Int) - 1), true, ())) rfl rfl ⟨_, ⟨?_, rfl⟩, S⟩))
        rw [hup]; simp
      | false =>
        have hup : up (ltO o) xs x = pos (ltO o) xs x := by simp [up, hb]
        refine w_false rfl (rt_n (x := ((up (ltO o) xs x : Int), false, ())) rfl rfl ⟨_, ⟨by rw [hup], rfl⟩, S⟩)
end
end Go.Proofs.Ytlmiafbcgfegpaa.TB
