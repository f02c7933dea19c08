/-
  The map ms: its layout, its items in cells. Conditions: none.
-/
import Derived.Test.YtpbmahnieepmiaaPgA
import Derived.Test.YtpbmahnieepmiaaNd
import Derived.Test.YtpbmahnieepmiaaNm
set_option linter.unusedVariables false
set_option linter.unusedSimpArgs false
set_option linter.unusedSectionVars false
set_option maxRecDepth 100000
namespace Go.Proofs.Ytpbmahnieepmiaa.MS
open Go Go.Proofs.Ytpbmahnieepmiaa
abbrev KV := Int × Unit
def lt (a b : KV) : Bool := decide (a.1 < b.1)
theorem ord : Ord lt := ⟨fun a => by simp [lt], fun a b c => by simp only [lt, decide_eq_true_eq]; omega, fun a b c => by simp only [lt, decide_eq_false_iff_not]; omega⟩
abbrev z0 : KV := (0, ())
def L : Lay KV where
  sz := 1
  cells x := [.int .i64 x.1]
  len _ := rfl
  one _ _ hv := by simp at hv; subst hv; rfl
  pos := by decide
section
variable {h h0 : H} {G0 : PA → Prop} {l : List Ck} {Q : Ex → List AV → H → Prop}
theorem key_at {p : PA} {xs : List KV} (hx : rds h p (L.flat xs)) {i : Nat} {a : KV} (ha : xs[i]? = some a) : rd h (p.1, p.2 + i) = some (.int .i64 a.1) := by
  have := hx (i * 1 + 0) _ (L.flat_get (j := 0) ha rfl)
  simpa using this
theorem flat_set1 : ∀ (xs : List KV) (i : Nat) (a : KV), i < xs.length → (L.flat xs).set i (.int .i64 a.1) = L.flat (xs.set i a)
  | [], _, _, h => by simp at h
  | x :: xs, 0, a, _ => rfl
  | x :: xs, i + 1, a, h => by
    have ih := flat_set1 xs i a (by simpa using h)
    show (.int .i64 x.1 :: L.flat xs : List Value).set (i + 1) _ = .int .i64 x.1 :: L.flat (xs.set i a)
    rw [← ih]; rfl
theorem ld_it (s : St h0 G0 l h) {p : PA} {xs : List KV} {k : Nat} {l' : List Value → List Ck} [Fi l p (L.flat xs) 0 k l'] {i : Nat} {x : KV} (hx : xs[i]? = some x) {m : Int → M}
    (hw : wp Try.prog (m x.1) Q h) : wp Try.prog (.load (p.1, p.2 + i) (.int .i64) m) Q h := by
  have hr := s.rds (a := p) (vs := L.flat xs) (j := 0) (L.flat xs) (fun i v h => by rw [Nat.zero_add]; exact h)
  exact w_int x.1 (key_at hr hx) hw
theorem ld_it0 (s : St h0 G0 l h) {p : PA} {xs : List KV} {k : Nat} {l' : List Value → List Ck} [Fi l p (L.flat xs) 0 k l'] {x : KV} (hx : xs[0]? = some x) {m : Int → M}
    (hw : wp Try.prog (m x.1) Q h) : wp Try.prog (.load (p.1, p.2) (.int .i64) m) Q h := by
  have := ld_it s (p := p) hx (m := m) hw
  simpa using this
theorem w_it {p : PA} {xs : List KV} (hr : rds h p (L.flat xs)) {i : Nat} {x : KV} (hx : xs[i]? = some x) {m : Int → M}
    (hw : wp Try.prog (m x.1) Q h) : wp Try.prog (.load (p.1, p.2 + i) (.int .i64) m) Q h := w_int x.1 (key_at hr hx) hw
theorem h_itK {h' : H} {p : PA} {xs : List KV} (hold : ∀ a v, rd h a = some v → rd h' a = some v) (hr : rds h p (L.flat xs)) {i : Nat} {x : KV} (hx : xs[i]? = some x) {m : M} (hw : wp Try.prog m Q h') : wp Try.prog (.held (p.1, p.2 + i) (.int .i64 x.1) m) Q h' :=
  w_held (hold _ _ (key_at hr hx)) hw
theorem th_it (s : St h0 G0 l h) {p : PA} {xs : List KV} {k : Nat} {l' : List Value → List Ck} [Fi l p (L.flat xs) 0 k l'] {i : Nat} (hi : i < xs.length) {m : M}
    (hw : wp Try.prog m Q h) : wp Try.prog (.there (p.1, p.2 + i) m) Q h := by
  obtain ⟨h1, h2, _⟩ := st_there (P' := Try.prog) (fun _ h => h) s (a := p) (vs := L.flat xs) (j := 0) (m := m) (Q := Q) (by rw [L.flat_length]; show 0 < xs.length * 1; omega) hw
  exact ⟨h1, h2, hw⟩
theorem w_there {p : PA} (ho : okp h p) {i : Nat} {m : M} (hw : wp Try.prog m Q h) : wp Try.prog (.there (p.1, p.2 + i) m) Q h := ⟨fun _ h => h, ho, hw⟩
theorem st_it (s : St h0 G0 l h) {p : PA} {xs : List KV} {k : Nat} {l' : List Value → List Ck} [Fi l p (L.flat xs) 0 k l'] {i : Nat} (hi : i < xs.length) {a : Int} {m : M}
    (hw : ∀ h', St h0 G0 (l' (L.flat (xs.set i (a, ())))) h' → wp Try.prog m Q h') : wp Try.prog (.store (p.1, p.2 + i) (.int .i64 a) m) Q h := by
  haveI := fi_shift (l := l) (a := p) (vs := L.flat xs) (k := k) (l' := l') i
  refine st_store s (a := (p.1, p.2 + i)) (j := i) (by rw [L.flat_length]; show i < xs.length * 1; omega) fun h' S => hw h' ?_
  rw [show (Cell.int .i64 a).val = Value.int .i64 (a, ()).1 from rfl, flat_set1 _ _ (a, ()) hi] at S
  exact S
theorem st_it0 (s : St h0 G0 l h) {p : PA} {xs : List KV} {k : Nat} {l' : List Value → List Ck} [Fi l p (L.flat xs) 0 k l'] (hi : 0 < xs.length) {a : Int} {m : M}
    (hw : ∀ h', St h0 G0 (l' (L.flat (xs.set 0 (a, ())))) h' → wp Try.prog m Q h') : wp Try.prog (.store (p.1, p.2) (.int .i64 a) m) Q h := by
  have := st_it s (p := p) (i := 0) hi (a := a) (m := m) hw
  simpa using this
theorem c_leaf {a : PA} {kp : Option PA} (hr : rd h (a.1, a.2 + 3) = some (.pointer (kp.map PA.val))) :
    HT Try.prog fn_ns_leaf [.c (.addr a)] false [.c .bool] h fun x h' => x = (kp.isNone, ()) ∧ h' = h :=
  hc_ns_leaf a (w_ptr kp hr (rt_1 rfl ⟨rfl, rfl⟩))
theorem c_leafp {a : PA} {kp : Option PA} (hr : rd h (a.1, a.2 + 3) = some (.pointer (kp.map PA.val))) :
    HT Try.prog fn_ns_leaf [.c (.ptr (some a))] false [.c .bool] h fun x h' => x = (kp.isNone, ()) ∧ h' = h := c_leaf hr
theorem c_search0 {a0 a1 p : PA} {k : Int} {xs : List KV} {c : Nat} (hr : rd h (a1.1, a1.2 + 2) = some (.slice (some p.val) xs.length c)) (hx : rds h p (L.flat xs)) (hs : Srt lt xs) (hn : xs.length ≤ 4294967296) :
    HC Try.prog fn_ms_search (List.map AV.val [.c (.addr a0), .c (.addr a1), .c (.int .i64 k)]).toArray h
      fun v h' => v = .tuple #[.int .i64 (pos lt xs (k, ())), .bool (fnd lt xs (k, ())).isSome] ∧ h' = h := by
  refine hc_ms_search _ _ _ ?_
  unfold M_ms_search
  have hu := up_le ord xs (k, ())
  refine w_sl (some p, xs.length, c) hr ?_
  refine w_bind (fun vs h' => vs = [.c (.int .i64 (up lt xs (k, ())))] ∧ h' = h) ?_ ?_
  · refine w_loop (fun y h' => h' = h ∧ ∃ lo hi : Nat, y = ((hi : Int), (lo : Int), ()) ∧ lo ≤ up lt xs (k, ()) ∧ up lt xs (k, ()) ≤ hi ∧ hi ≤ xs.length) (fun y _ => (y.1 - y.2.1).toNat) ((xs.length : Int), (0 : Int), ()) rfl
      ⟨rfl, 0, xs.length, rfl, Nat.zero_le _, hu, Nat.le_refl _⟩ ?_
    rintro _ h1 ⟨rfl, lo, hi, rfl, g1, g2, g3⟩
    refine w_ite (fun hb => ?_) (fun hb => ?_)
    · have hlt : lo < hi := by simpa using hb
      have hm : ((lo : Int) + hi).tdiv 2 = (((lo + hi) / 2 : Nat) : Int) := by rw [Int.tdiv_eq_ediv_of_nonneg (by omega)]; omega
      have hml : (lo + hi) / 2 < xs.length := by omega
      refine w_guard (inK64 (by dsimp only; omega) (by dsimp only; omega)) ?_
      dsimp only
      rw [hm]
      refine w_guard ⟨by decide, inK64 (by omega) (by omega)⟩ ?_
      refine w_sl (some p, xs.length, c) hr ?_
      refine w_nonnil (w_guard ⟨by omega, by dsimp only; omega⟩ ?_)
      refine w_int xs[(lo + hi) / 2].1 (key_at hx (List.getElem?_eq_getElem hml)) ?_
      have hsp := up_spec ord hs (x := (k, ())) (List.getElem?_eq_getElem hml)
      refine w_bind (fun vs h' => ∃ lo' hi' : Nat, vs = [.c (.int .i64 (hi' : Int)), .c (.int .i64 (lo' : Int))] ∧ h' = h1 ∧ lo' ≤ up lt xs (k, ()) ∧ up lt xs (k, ()) ≤ hi' ∧ hi' ≤ xs.length ∧ hi' - lo' < hi - lo) ?_ ?_
      · refine w_ite (fun hb => ?_) (fun hb => ?_)
        · have : (lo + hi) / 2 < up lt xs (k, ()) := hsp.1 (by simpa [lt] using hb)
          exact w_guard (inK64 (by omega) (by omega)) ⟨(lo + hi) / 2 + 1, hi, rfl, rfl, by omega, by omega, by omega, by omega⟩
        · have : ¬ (lo + hi) / 2 < up lt xs (k, ()) := fun hh => by have := hsp.2 hh; simp [lt] at this hb; omega
          exact ⟨lo, (lo + hi) / 2, rfl, rfl, by omega, by omega, by omega, by omega⟩
      · rintro _ _ ⟨lo', hi', rfl, rfl, g4, g5, g6, g7⟩
        refine ⟨((hi' : Int), (lo' : Int), ()), rfl, ((hi' : Int), (lo' : Int), ()), rfl, ⟨rfl, lo', hi', rfl, g4, g5, g6⟩, ?_⟩
        dsimp only
        omega
    · have hge : ¬ lo < hi := by simpa using hb
      refine .inl ⟨0, rfl, rfl, ?_, rfl⟩
      dsimp only
      rw [show lo = up lt xs (k, ()) by omega]
  · rintro _ h2 ⟨rfl, rfl⟩
    refine ⟨((up lt xs (k, ()) : Int), ()), rfl, ?_⟩
    refine w_bind (fun vs h1 => vs.map AV.val = [.bool (fnd lt xs (k, ())).isSome] ∧ h1 = h2) ?_ ?_
    · refine w_ite (fun hb => ?_) (fun hb => ?_)
      · have hpos : 0 < up lt xs (k, ()) := by simpa using hb
        have hl : up lt xs (k, ()) - 1 < xs.length := by omega
        refine w_sl (some p, xs.length, c) hr ?_
        refine w_guard (inK64 (by dsimp only; omega) (by dsimp only; omega)) ?_
        refine w_nonnil (w_guard ⟨show (0 : Int) ≤ (up lt xs (k, ()) : Int) - 1 by omega, show (up lt xs (k, ()) : Int) - 1 < (xs.length : Int) by omega⟩ ?_)
        refine w_int xs[up lt xs (k, ()) - 1].1 (by dsimp only; rw [show ((up lt xs (k, ()) : Int) - 1).toNat = up lt xs (k, ()) - 1 by omega]; exact key_at hx (List.getElem?_eq_getElem hl)) ?_
        refine w_done ⟨?_, rfl⟩
        have hsp := pos_spec ord hs (k, ()) _ _ (List.getElem?_eq_getElem hl)
        simp only [List.map, AV.val, Cell.val]
        congr 2
        cases hf : fnd lt xs (k, ()) with
        | none =>
          have : up lt xs (k, ()) = pos lt xs (k, ()) := by simp [up, hf]
          have := hsp.1 (by omega)
          simpa [lt] using this
        | some b =>
          have : up lt xs (k, ()) = pos lt xs (k, ()) + 1 := by simp [up, hf]
          have : ¬ lt xs[up lt xs (k, ()) - 1] (k, ()) = true := fun hh => by have := hsp.2 hh; omega
          simpa [lt] using this
      · refine ⟨?_, rfl⟩
        have h0 : up lt xs (k, ()) = 0 := by simpa using hb
        simp only [List.map, AV.val, Cell.val]
        congr 2
        cases hf : fnd lt xs (k, ()) with
        | none => rfl
        | some b => simp [up, hf] at h0
    · rintro vs h1 ⟨e, rfl⟩
      refine ⟨((fnd lt xs (k, ())).isSome, ()), e.symm, ?_⟩
      refine w_ite (fun hb => ?_) (fun hb => ?_)
      · have hb : (fnd lt xs (k, ())).isSome = true := hb
        have hup : up lt xs (k, ()) = pos lt xs (k, ()) + 1 := by simp [up, hb]
        refine w_guard (inK64 (by dsimp only; omega) (by dsimp only; omega)) ⟨?_, rfl⟩
        simp only [retV, List.map, AV.val, Cell.val, hb, hup]
        simp
      · have hb : (fnd lt xs (k, ())).isSome = false := hb
        have hup : up lt xs (k, ()) = pos lt xs (k, ()) := by simp [up, hb]
        refine ⟨?_, rfl⟩
        simp only [retV, List.map, AV.val, Cell.val, hb, hup]
theorem c_search {a0 a1 p : PA} {k : Int} {xs : List KV} {c : Nat} (hr : rd h (a1.1, a1.2 + 2) = some (.slice (some p.val) xs.length c)) (hx : rds h p (L.flat xs)) (hs : Srt lt xs) (hn : xs.length ≤ 4294967296) :
    HT Try.prog fn_ms_search [.c (.addr a0), .c (.addr a1), .c (.int .i64 k)] true [.c (.int .i64), .c .bool] h fun x h' => x = ((pos lt xs (k, ()) : Int), (fnd lt xs (k, ())).isSome, ()) ∧ h' = h :=
  HC.mono (c_search0 hr hx hs hn) fun v h' ⟨e, e2⟩ => ⟨((pos lt xs (k, ()) : Int), (fnd lt xs (k, ())).isSome, ()), e, rfl, e2⟩
theorem c_searchV (v : Unit) {a0 a1 p : PA} {k : Int} {xs : List KV} {c : Nat} (hr : rd h (a1.1, a1.2 + 2) = some (.slice (some p.val) xs.length c)) (hx : rds h p (L.flat xs)) (hs : Srt lt xs) (hn : xs.length ≤ 4294967296) :
    HT Try.prog fn_ms_search [.c (.addr a0), .c (.addr a1), .c (.int .i64 k)] true [.c (.int .i64), .c .bool] h fun x h' => x = ((pos lt xs (k, v) : Int), (fnd lt xs (k, v)).isSome, ()) ∧ h' = h := c_search hr hx hs hn
end
end Go.Proofs.Ytpbmahnieepmiaa.MS
