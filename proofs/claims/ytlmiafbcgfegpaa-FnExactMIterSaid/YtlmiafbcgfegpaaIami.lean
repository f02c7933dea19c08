/-
  The map mi: its layout, its items in cells. Conditions: none.
-/
import Derived.Test.YtlmiafbcgfegpaaPgA
import Derived.Test.YtlmiafbcgfegpaaNd
import Derived.Test.YtlmiafbcgfegpaaNm
set_option linter.unusedVariables false
set_option linter.unusedSimpArgs false
set_option linter.unusedSectionVars false
set_option maxRecDepth 100000
namespace Go.Proofs.Ytlmiafbcgfegpaa.MI
open Go Go.Proofs.Ytlmiafbcgfegpaa
abbrev KV := Int × Int
def lt (a b : KV) : Bool := decide (a.1 < b.1)
theorem ord : Ord lt := ⟨fun a => by simp [lt], fun a b c => by simp only [lt, decide_eq_true_eq]; omega, fun a b c => by simp only [lt, decide_eq_false_iff_not]; omega⟩
abbrev z0 : KV := (0, 0)
def L : Lay KV where
  sz := 2
  cells x := [.int .i64 x.2, .int .i64 x.1]
  len _ := rfl
  one _ _ hv := by simp at hv; rcases hv with rfl | rfl <;> rfl
  pos := by decide
section
variable {h h0 : H} {G0 : PA → Prop} {l : List Ck} {Q : Ex → List AV → H → Prop}
theorem key_at {p : PA} {xs : List KV} (hx : rds h p (L.flat xs)) {i : Nat} {a : KV} (ha : xs[i]? = some a) : rd h (p.1, p.2 + i * 2 + 1) = some (.int .i64 a.1) := by
  have := hx (i * 2 + 1) _ (L.flat_get (j := 1) ha rfl)
  simpa [Nat.add_assoc] using this
theorem val_at {p : PA} {xs : List KV} (hx : rds h p (L.flat xs)) {i : Nat} {a : KV} (ha : xs[i]? = some a) : rd h (p.1, p.2 + i * 2) = some (.int .i64 a.2) := by
  have := hx (i * 2 + 0) _ (L.flat_get (j := 0) ha rfl)
  simpa [Nat.add_assoc] using this
theorem flat_set2 : ∀ (xs : List KV) (i : Nat) (a : KV), i < xs.length → ((L.flat xs).set (i * 2) (.int .i64 a.2)).set (i * 2 + 1) (.int .i64 a.1) = L.flat (xs.set i a)
  | [], _, _, h => by simp at h
  | x :: xs, 0, a, _ => rfl
  | x :: xs, i + 1, a, h => by
    have ih := flat_set2 xs i a (by simpa using h)
    show ((.int .i64 x.2 :: .int .i64 x.1 :: L.flat xs : List Value).set ((i + 1) * 2) _).set ((i + 1) * 2 + 1) _ = .int .i64 x.2 :: .int .i64 x.1 :: L.flat (xs.set i a)
    rw [← ih, show (i + 1) * 2 = i * 2 + 2 by omega]
    rfl
theorem ld_it (s : St h0 G0 l h) {p : PA} {xs : List KV} {k : Nat} {l' : List Value → List Ck} [Fi l p (L.flat xs) 0 k l'] {i : Nat} {x : KV} (hx : xs[i]? = some x) {m : Int → Int → M}
    (hw : wp Try.prog (m x.2 x.1) Q h) : wp Try.prog (.load (p.1, p.2 + mulN i 2) (.int .i64) fun v => .load (p.1, p.2 + mulN i 2 + 1) (.int .i64) fun k => m v k) Q h := by
  have hr := s.rds (a := p) (vs := L.flat xs) (j := 0) (L.flat xs) (fun i v h => by rw [Nat.zero_add]; exact h)
  refine w_int x.2 ?_ (w_int x.1 ?_ hw)
  · rw [mulN_eq]; exact val_at hr hx
  · rw [mulN_eq]; exact key_at hr hx
theorem ld_it0 (s : St h0 G0 l h) {p : PA} {xs : List KV} {k : Nat} {l' : List Value → List Ck} [Fi l p (L.flat xs) 0 k l'] {x : KV} (hx : xs[0]? = some x) {m : Int → Int → M}
    (hw : wp Try.prog (m x.2 x.1) Q h) : wp Try.prog (.load (p.1, p.2) (.int .i64) fun v => .load (p.1, p.2 + 1) (.int .i64) fun k => m v k) Q h := by
  have hr := s.rds (a := p) (vs := L.flat xs) (j := 0) (L.flat xs) (fun i v h => by rw [Nat.zero_add]; exact h)
  refine w_int x.2 ?_ (w_int x.1 ?_ hw)
  · simpa using val_at hr hx
  · simpa using key_at hr hx
theorem ld_val (s : St h0 G0 l h) {p : PA} {xs : List KV} {k : Nat} {l' : List Value → List Ck} [Fi l p (L.flat xs) 0 k l'] {i : Nat} {x : KV} (hx : xs[i]? = some x) {m : Int → M}
    (hw : wp Try.prog (m x.2) Q h) : wp Try.prog (.load (p.1, p.2 + mulN i 2) (.int .i64) m) Q h := by
  have hr := s.rds (a := p) (vs := L.flat xs) (j := 0) (L.flat xs) (fun i v h => by rw [Nat.zero_add]; exact h)
  exact w_int x.2 (by rw [mulN_eq]; exact val_at hr hx) hw
theorem ld_key (s : St h0 G0 l h) {p : PA} {xs : List KV} {k : Nat} {l' : List Value → List Ck} [Fi l p (L.flat xs) 0 k l'] {i : Nat} {x : KV} (hx : xs[i]? = some x) {m : Int → M}
    (hw : wp Try.prog (m x.1) Q h) : wp Try.prog (.load (p.1, p.2 + mulN i 2 + 1) (.int .i64) m) Q h := by
  have hr := s.rds (a := p) (vs := L.flat xs) (j := 0) (L.flat xs) (fun i v h => by rw [Nat.zero_add]; exact h)
  exact w_int x.1 (by rw [mulN_eq]; exact key_at hr hx) hw
theorem w_it {p : PA} {xs : List KV} (hr : rds h p (L.flat xs)) {i : Nat} {x : KV} (hx : xs[i]? = some x) {m : Int → Int → M}
    (hw : wp Try.prog (m x.2 x.1) Q h) : wp Try.prog (.load (p.1, p.2 + mulN i 2) (.int .i64) fun v => .load (p.1, p.2 + mulN i 2 + 1) (.int .i64) fun k => m v k) Q h := by
  refine w_int x.2 ?_ (w_int x.1 ?_ hw)
  · rw [mulN_eq]; exact val_at hr hx
  · rw [mulN_eq]; exact key_at hr hx
theorem w_itV {p : PA} {xs : List KV} (hr : rds h p (L.flat xs)) {i : Nat} {x : KV} (hx : xs[i]? = some x) {m : Int → M} (hw : wp Try.prog (m x.2) Q h) : wp Try.prog (.load (p.1, p.2 + mulN i 2) (.int .i64) m) Q h :=
  w_int x.2 (by rw [mulN_eq]; exact val_at hr hx) hw
theorem w_itK {p : PA} {xs : List KV} (hr : rds h p (L.flat xs)) {i : Nat} {x : KV} (hx : xs[i]? = some x) {m : Int → M} (hw : wp Try.prog (m x.1) Q h) : wp Try.prog (.load (p.1, p.2 + mulN i 2 + 1) (.int .i64) m) Q h :=
  w_int x.1 (by rw [mulN_eq]; exact key_at hr hx) hw
theorem h_itV {h' : H} {p : PA} {xs : List KV} (hold : ∀ a v, rd h a = some v → rd h' a = some v) (hr : rds h p (L.flat xs)) {i : Nat} {x : KV} (hx : xs[i]? = some x) {m : M} (hw : wp Try.prog m Q h') : wp Try.prog (.held (p.1, p.2 + mulN i 2) (.int .i64 x.2) m) Q h' :=
  w_held (hold _ _ (by rw [mulN_eq]; exact val_at hr hx)) hw
theorem h_itK {h' : H} {p : PA} {xs : List KV} (hold : ∀ a v, rd h a = some v → rd h' a = some v) (hr : rds h p (L.flat xs)) {i : Nat} {x : KV} (hx : xs[i]? = some x) {m : M} (hw : wp Try.prog m Q h') : wp Try.prog (.held (p.1, p.2 + mulN i 2 + 1) (.int .i64 x.1) m) Q h' :=
  w_held (hold _ _ (by rw [mulN_eq]; exact key_at hr hx)) hw
theorem st_it (s : St h0 G0 l h) {p : PA} {xs : List KV} {k : Nat} {l' : List Value → List Ck} [Fi l p (L.flat xs) 0 k l'] {i : Nat} (hi : i < xs.length) {a b : Int} {m : M}
    (hw : ∀ h', St h0 G0 (l' (L.flat (xs.set i (b, a)))) h' → wp Try.prog m Q h') : wp Try.prog (.store (p.1, p.2 + mulN i 2) (.int .i64 a) (.store (p.1, p.2 + mulN i 2 + 1) (.int .i64 b) m)) Q h := by
  have hk : oks h p (L.flat xs).length := by
    obtain ⟨⟨G, h1, h2⟩, h3⟩ := s
    obtain ⟨c, F, B, e, o, _⟩ := Fi.ok (self := ‹Fi l p (L.flat xs) 0 k l'›) h G h1
    intro j hj
    have := o.ok j (by omega)
    rw [e]; simpa using this
  rw [L.flat_length] at hk
  have hk : oks h p (xs.length * 2) := hk
  have k0 : wok h (p.1, p.2 + mulN i 2) := by rw [mulN_eq]; exact hk (i * 2) (by omega)
  have k1 : wok h (p.1, p.2 + mulN i 2 + 1) := by rw [mulN_eq, Nat.add_assoc]; exact hk (i * 2 + 1) (by omega)
  refine w_store k0 (w_store (wok_wr k1) (hw _ ?_))
  refine s.change (a := p) (ws := L.flat (xs.set i (b, a))) (by rw [L.flat_length, L.flat_length, List.length_set]) fun c e o => ?_
  have e' : c = p := by rw [e]; rfl
  subst e'
  have hl : (L.flat xs).length = xs.length * 2 := L.flat_length xs
  have o1 := o.one (i * 2) (.int .i64 a) (by rw [hl]; omega)
  have o2 := o1.one (i * 2 + 1) (.int .i64 b) (by rw [List.length_set, hl]; omega)
  rw [flat_set2 xs i (b, a) hi] at o2
  rw [mulN_eq, Nat.add_assoc]
  exact ⟨o2, (Fr.wr _ ⟨rfl, by simp, by simp; omega⟩).trans (Fr.wr _ ⟨rfl, by simp, by simp; omega⟩)⟩
theorem st_it0 (s : St h0 G0 l h) {p : PA} {xs : List KV} {k : Nat} {l' : List Value → List Ck} [Fi l p (L.flat xs) 0 k l'] (hi : 0 < xs.length) {a b : Int} {m : M}
    (hw : ∀ h', St h0 G0 (l' (L.flat (xs.set 0 (b, a)))) h' → wp Try.prog m Q h') : wp Try.prog (.store (p.1, p.2) (.int .i64 a) (.store (p.1, p.2 + 1) (.int .i64 b) m)) Q h := by
  have := st_it s (p := p) (i := 0) hi (a := a) (b := b) (m := m) hw
  rw [mulN_eq] at this
  simpa using this
theorem c_leaf {a : PA} {kp : Option PA} (hr : rd h (a.1, a.2 + 3) = some (.pointer (kp.map PA.val))) :
    HT Try.prog fn_ni_leaf [.c (.addr a)] false [.c .bool] h fun x h' => x = (kp.isNone, ()) ∧ h' = h :=
  hc_ni_leaf a (w_ptr kp hr (rt_1 rfl ⟨rfl, rfl⟩))
theorem c_leafp {a : PA} {kp : Option PA} (hr : rd h (a.1, a.2 + 3) = some (.pointer (kp.map PA.val))) :
    HT Try.prog fn_ni_leaf [.c (.ptr (some a))] false [.c .bool] h fun x h' => x = (kp.isNone, ()) ∧ h' = h := c_leaf hr
theorem c_search0 {a0 a1 p : PA} {k : Int} {xs : List KV} {c : Nat} (hr : rd h (a1.1, a1.2 + 2) = some (.slice (some p.val) xs.length c)) (hx : rds h p (L.flat xs)) (hs : Srt lt xs) (hn : xs.length ≤ 4294967296) :
    HC Try.prog fn_mi_search (List.map AV.val [.c (.addr a0), .c (.addr a1), .c (.int .i64 k)]).toArray h
      fun v h' => v = .tuple #[.int .i64 (pos lt xs (k, 0)), .bool (fnd lt xs (k, 0)).isSome] ∧ h' = h := by
  refine hc_mi_search _ _ _ ?_
  unfold M_mi_search
  have hu := up_le ord xs (k, 0)
  refine w_sl (some p, xs.length, c) hr ?_
  refine w_bind (fun vs h' => vs = [.c (.int .i64 (up lt xs (k, 0)))] ∧ h' = h) ?_ ?_
  · refine w_loop (fun y h' => h' = h ∧ ∃ lo hi : Nat, y = ((hi : Int), (lo : Int), ()) ∧ lo ≤ up lt xs (k, 0) ∧ up lt xs (k, 0) ≤ hi ∧ hi ≤ xs.length) (fun y _ => (y.1 - y.2.1).toNat) ((xs.length : Int), (0 : Int), ()) rfl
      ⟨rfl, 0, xs.length, rfl, Nat.zero_le _, hu, Nat.le_refl _⟩ ?_
    rintro _ h1 ⟨rfl, lo, hi, rfl, g1, g2, g3⟩
    refine w_ite (fun hb => ?_) (fun hb => ?_)
    · have hlt : lo < hi := by simpa using hb
      have hm : ((lo : Int) + hi).tdiv 2 = (((lo + hi) / 2 : Nat) : Int) := by rw [Int.tdiv_eq_ediv_of_nonneg (by omega)]; omega
      have hml : (lo + hi) / 2 < xs.length := by omega
      refine w_guard (inK64 (by dsimp only; omega) (by dsimp only; omega)) ?_
      dsimp only
      rw [hm]
      refine w_guard ⟨by decide, inK64 (by omega) (by omega)⟩ ?_
      refine w_sl (some p, xs.length, c) hr ?_
      refine w_nonnil (w_guard ⟨by omega, by dsimp only; omega⟩ ?_)
      refine w_int xs[(lo + hi) / 2].1 (by rw [mulN_eq]; exact key_at hx (List.getElem?_eq_getElem hml)) ?_
      have hsp := up_spec ord hs (x := (k, 0)) (List.getElem?_eq_getElem hml)
      refine w_bind (fun vs h' => ∃ lo' hi' : Nat, vs = [.c (.int .i64 (hi' : Int)), .c (.int .i64 (lo' : Int))] ∧ h' = h1 ∧ lo' ≤ up lt xs (k, 0) ∧ up lt xs (k, 0) ≤ hi' ∧ hi' ≤ xs.length ∧ hi' - lo' < hi - lo) ?_ ?_
      · refine w_ite (fun hb => ?_) (fun hb => ?_)
        · have : (lo + hi) / 2 < up lt xs (k, 0) := hsp.1 (by simpa [lt] using hb)
          exact w_guard (inK64 (by omega) (by omega)) ⟨(lo + hi) / 2 + 1, hi, rfl, rfl, by omega, by omega, by omega, by omega⟩
        · have : ¬ (lo + hi) / 2 < up lt xs (k, 0) := fun hh => by have := hsp.2 hh; simp [lt] at this hb; omega
          exact ⟨lo, (lo + hi) / 2, rfl, rfl, by omega, by omega, by omega, by omega⟩
      · rintro _ _ ⟨lo', hi', rfl, rfl, g4, g5, g6, g7⟩
        refine ⟨((hi' : Int), (lo' : Int), ()), rfl, ((hi' : Int), (lo' : Int), ()), rfl, ⟨rfl, lo', hi', rfl, g4, g5, g6⟩, ?_⟩
        dsimp only
        omega
    · have hge : ¬ lo < hi := by simpa using hb
      refine .inl ⟨0, rfl, rfl, ?_, rfl⟩
      dsimp only
      rw [show lo = up lt xs (k, 0) by omega]
  · rintro _ h2 ⟨rfl, rfl⟩
    refine ⟨((up lt xs (k, 0) : Int), ()), rfl, ?_⟩
    refine w_bind (fun vs h1 => vs.map AV.val = [.bool (fnd lt xs (k, 0)).isSome] ∧ h1 = h2) ?_ ?_
    · refine w_ite (fun hb => ?_) (fun hb => ?_)
      · have hpos : 0 < up lt xs (k, 0) := by simpa using hb
        have hl : up lt xs (k, 0) - 1 < xs.length := by omega
        refine w_sl (some p, xs.length, c) hr ?_
        refine w_guard (inK64 (by dsimp only; omega) (by dsimp only; omega)) ?_
        refine w_nonnil (w_guard ⟨show (0 : Int) ≤ (up lt xs (k, 0) : Int) - 1 by omega, show (up lt xs (k, 0) : Int) - 1 < (xs.length : Int) by omega⟩ ?_)
        refine w_int xs[up lt xs (k, 0) - 1].1 (by rw [mulN_eq]; dsimp only; rw [show ((up lt xs (k, 0) : Int) - 1).toNat = up lt xs (k, 0) - 1 by omega]; exact key_at hx (List.getElem?_eq_getElem hl)) ?_
        refine w_done ⟨?_, rfl⟩
        have hsp := pos_spec ord hs (k, 0) _ _ (List.getElem?_eq_getElem hl)
        simp only [List.map, AV.val, Cell.val]
        congr 2
        cases hf : fnd lt xs (k, 0) with
        | none =>
          have : up lt xs (k, 0) = pos lt xs (k, 0) := by simp [up, hf]
          have := hsp.1 (by omega)
          simpa [lt] using this
        | some b =>
          have : up lt xs (k, 0) = pos lt xs (k, 0) + 1 := by simp [up, hf]
          have : ¬ lt xs[up lt xs (k, 0) - 1] (k, 0) = true := fun hh => by have := hsp.2 hh; omega
          simpa [lt] using this
      · refine ⟨?_, rfl⟩
        have h0 : up lt xs (k, 0) = 0 := by simpa using hb
        simp only [List.map, AV.val, Cell.val]
        congr 2
        cases hf : fnd lt xs (k, 0) with
        | none => rfl
        | some b => simp [up, hf] at h0
    · rintro vs h1 ⟨e, rfl⟩
      refine ⟨((fnd lt xs (k, 0)).isSome, ()), e.symm, ?_⟩
      refine w_ite (fun hb => ?_) (fun hb => ?_)
      · have hb : (fnd lt xs (k, 0)).isSome = true := hb
        have hup : up lt xs (k, 0) = pos lt xs (k, 0) + 1 := by simp [up, hb]
        refine w_guard (inK64 (by dsimp only; omega) (by dsimp only; omega)) ⟨?_, rfl⟩
        simp only [retV, List.map, AV.val, Cell.val, hb, hup]
        simp
      · have hb : (fnd lt xs (k, 0)).isSome = false := hb
        have hup : up lt xs (k, 0) = pos lt xs (k, 0) := by simp [up, hb]
        refine ⟨?_, rfl⟩
        simp only [retV, List.map, AV.val, Cell.val, hb, hup]
theorem c_search {a0 a1 p : PA} {k : Int} {xs : List KV} {c : Nat} (hr : rd h (a1.1, a1.2 + 2) = some (.slice (some p.val) xs.length c)) (hx : rds h p (L.flat xs)) (hs : Srt lt xs) (hn : xs.length ≤ 4294967296) :
    HT Try.prog fn_mi_search [.c (.addr a0), .c (.addr a1), .c (.int .i64 k)] true [.c (.int .i64), .c .bool] h fun x h' => x = ((pos lt xs (k, 0) : Int), (fnd lt xs (k, 0)).isSome, ()) ∧ h' = h :=
  HC.mono (c_search0 hr hx hs hn) fun v h' ⟨e, e2⟩ => ⟨((pos lt xs (k, 0) : Int), (fnd lt xs (k, 0)).isSome, ()), e, rfl, e2⟩
theorem c_searchV (v : Int) {a0 a1 p : PA} {k : Int} {xs : List KV} {c : Nat} (hr : rd h (a1.1, a1.2 + 2) = some (.slice (some p.val) xs.length c)) (hx : rds h p (L.flat xs)) (hs : Srt lt xs) (hn : xs.length ≤ 4294967296) :
    HT Try.prog fn_mi_search [.c (.addr a0), .c (.addr a1), .c (.int .i64 k)] true [.c (.int .i64), .c .bool] h fun x h' => x = ((pos lt xs (k, v) : Int), (fnd lt xs (k, v)).isSome, ()) ∧ h' = h := c_search hr hx hs hn
end
end Go.Proofs.Ytlmiafbcgfegpaa.MI
