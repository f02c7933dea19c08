/-
  A node of any height: its items in sight, its children as one piece. Conditions: none.
-/
import Derived.Test.YtkhpbcckaenmcaaRn
set_option linter.unusedVariables false
set_option linter.unusedSimpArgs false
set_option linter.unusedSectionVars false
namespace Go.Proofs.Ytkhpbcckaenmcaa
open Go

/-! ### Pointers in a row -/
def LK : Lay (Option Nat) where
  sz := 1
  cells x := match x with | some k => [kptr k] | none => [.pointer none]
  len x := by cases x <;> rfl
  one x v hv := by cases x <;> (simp at hv; subst hv; rfl)
  pos := by decide
theorem LK_flat (ks : List Nat) : LK.flat (ks.map some) = ks.map kptr := by
  induction ks with
  | nil => rfl
  | cons k ks ih => simp only [List.map_cons, LK.flat_cons, ih]; rfl
def kcell : Option Nat → Value
  | some k => kptr k
  | none => .pointer none
theorem LK_get : ∀ {ys : List (Option Nat)} {i : Nat} {y : Option Nat}, ys[i]? = some y → (LK.flat ys)[i]? = some (kcell y)
  | [], _, _, h => by simp at h
  | y :: ys, 0, z, h => by simp at h; subst h; cases y <;> rfl
  | y :: ys, i + 1, z, h => by
    have ih := LK_get (ys := ys) (i := i) (y := z) (by simpa using h)
    cases y <;> exact ih
theorem LK_set : ∀ (ys : List (Option Nat)) (i : Nat) (y : Option Nat), (LK.flat ys).set i (kcell y) = LK.flat (ys.set i y)
  | [], _, _ => rfl
  | y :: ys, 0, z => by cases y <;> cases z <;> rfl
  | y :: ys, i + 1, z => by
    have ih := LK_set ys i z
    cases y with
    | none => rw [List.set_cons_succ, LK.flat_cons, LK.flat_cons, ← ih]; rfl
    | some y => rw [List.set_cons_succ, LK.flat_cons, LK.flat_cons, ← ih]; rfl

section
variable {P : Program} {Q : Ex → List AV → H → Prop} {h h0 : H} {G0 : PA → Prop} {l : List Ck}
theorem ld_kid (s : St h0 G0 l h) {p : PA} {ys : List (Option Nat)} {k : Nat} {l' : List Value → List Ck} [Fi l p (LK.flat ys) 0 k l'] {i b : Nat} (hx : ys[i]? = some (some b)) {m : Option PA → M}
    (hw : wp P (m (some (b, 0))) Q h) : wp P (.load (p.1, p.2 + i) .ptr m) Q h := by
  have hr := s.rds (a := p) (vs := LK.flat ys) (j := 0) (LK.flat ys) (fun i v h => by rw [Nat.zero_add]; exact h)
  exact w_ptr (some (b, 0)) (hr i _ (LK_get hx)) hw
theorem ld_kid0 (s : St h0 G0 l h) {p : PA} {ys : List (Option Nat)} {k : Nat} {l' : List Value → List Ck} [Fi l p (LK.flat ys) 0 k l'] {b : Nat} (hx : ys[0]? = some (some b)) {m : Option PA → M}
    (hw : wp P (m (some (b, 0))) Q h) : wp P (.load (p.1, p.2) .ptr m) Q h := by
  have := ld_kid (P := P) (Q := Q) s (p := p) hx (m := m) hw
  simpa using this
theorem st_kid (s : St h0 G0 l h) {p : PA} {ys : List (Option Nat)} {k : Nat} {l' : List Value → List Ck} [Fi l p (LK.flat ys) 0 k l'] {i : Nat} (hi : i < ys.length) (y : Option Nat) {c : Cell} (hy : c.val = kcell y) {m : M}
    (hw : ∀ h', St h0 G0 (l' (LK.flat (ys.set i y))) h' → wp P m Q h') : wp P (.store (p.1, p.2 + i) c m) Q h := by
  haveI := fi_shift (l := l) (a := p) (vs := LK.flat ys) (k := k) (l' := l') i
  refine st_store s (a := (p.1, p.2 + i)) (j := i) (by rw [LK.flat_length]; show i < ys.length * 1; omega) fun h' S => hw h' ?_
  rw [hy, LK_set] at S
  exact S
theorem st_kid0 (s : St h0 G0 l h) {p : PA} {ys : List (Option Nat)} {k : Nat} {l' : List Value → List Ck} [Fi l p (LK.flat ys) 0 k l'] (hi : 0 < ys.length) (y : Option Nat) {c : Cell} (hy : c.val = kcell y) {m : M}
    (hw : ∀ h', St h0 G0 (l' (LK.flat (ys.set 0 y))) h' → wp P m Q h') : wp P (.store (p.1, p.2) c m) Q h := by
  have := st_kid (P := P) (Q := Q) s (p := p) (i := 0) hi y hy (m := m) hw
  simpa using this
/-- copy within one slice, from its start, and to its start. -/
theorem st_copyS {I : Type} {L : Lay I} (s : St h0 G0 l h) {p : PA} {ys : List I} {k : Nat} {l' : List Value → List Ck} [Fi l p (L.flat ys) 0 k l'] {n c a sz : Nat} {m : Nat → M} (hsz : sz = L.sz) (hn : ys.length = n) (ha : a ≤ n) (hc : n ≤ c)
    (hw : ∀ h', St h0 G0 (l' (L.flat (ys.take a ++ (ys.take (n - a) ++ ys.drop (a + (n - a)))))) h' → wp P (m (n - a)) Q h') :
    wp P (.copy sz (slBase (some p) c a sz, n - a, c - a) (some p, n, c) m) Q h := by
  have := st_copyI (P := P) (Q := Q) (L := L) s (p := p) (ys := ys) (n := n) (c := c) (a := a) (b := 0) (sz := sz) (m := m) hsz hn ha (Nat.zero_le _) hc (fun h' mm hmm S => by
    obtain rfl : mm = n - a := by rw [hmm]; show min _ _ = _; omega
    rw [List.drop_zero] at S
    exact hw h' S)
  rw [slBase_zero, Nat.sub_zero, Nat.sub_zero] at this
  exact this
theorem st_copyD {I : Type} {L : Lay I} (s : St h0 G0 l h) {p : PA} {ys : List I} {k : Nat} {l' : List Value → List Ck} [Fi l p (L.flat ys) 0 k l'] {n c b sz : Nat} {m : Nat → M} (hsz : sz = L.sz) (hn : ys.length = n) (hb : b ≤ n) (hc : n ≤ c)
    (hw : ∀ h', St h0 G0 (l' (L.flat (ys.take 0 ++ ((ys.drop b).take (n - b) ++ ys.drop (0 + (n - b)))))) h' → wp P (m (n - b)) Q h') :
    wp P (.copy sz (some p, n, c) (slBase (some p) c b sz, n - b, c - b) m) Q h := by
  have := st_copyI (P := P) (Q := Q) (L := L) s (p := p) (ys := ys) (n := n) (c := c) (a := 0) (b := b) (sz := sz) (m := m) hsz hn (Nat.zero_le _) hb hc (fun h' mm hmm S => by
    obtain rfl : mm = n - b := by rw [hmm]; show min _ _ = _; omega
    exact hw h' S)
  rw [slBase_zero, Nat.sub_zero, Nat.sub_zero] at this
  exact this
theorem st_copyB {I : Type} {L : Lay I} (s : St h0 G0 l h) {p : PA} {ys : List I} {k : Nat} {l' : List Value → List Ck} [Fi l p (L.flat ys) 0 k l'] {n c a b sz : Nat} {m : Nat → M} (hsz : sz = L.sz) (hn : ys.length = n) (hab : a ≤ b) (hb : b ≤ n) (hc : n ≤ c)
    (hw : ∀ h', St h0 G0 (l' (L.flat (ys.take a ++ ((ys.drop b).take (n - b) ++ ys.drop (a + (n - b)))))) h' → wp P (m (n - b)) Q h') :
    wp P (.copy sz (slBase (some p) c a sz, n - a, c - a) (slBase (some p) c b sz, n - b, c - b) m) Q h :=
  st_copyI (P := P) (Q := Q) (L := L) s (p := p) (ys := ys) (n := n) (c := c) (a := a) (b := b) (sz := sz) (m := m) hsz hn (by omega) hb hc (fun h' mm hmm S => by
    obtain rfl : mm = n - b := by rw [hmm]; show min _ _ = _; omega
    exact hw h' S)
theorem st_copyA {I : Type} {L : Lay I} (s : St h0 G0 l h) {p : PA} {ys : List I} {k : Nat} {l' : List Value → List Ck} [Fi l p (L.flat ys) 0 k l'] {n c a b sz : Nat} {m : Nat → M} (hsz : sz = L.sz) (hn : ys.length = n) (hab : b ≤ a) (ha : a ≤ n) (hc : n ≤ c)
    (hw : ∀ h', St h0 G0 (l' (L.flat (ys.take a ++ ((ys.drop b).take (n - a) ++ ys.drop (a + (n - a)))))) h' → wp P (m (n - a)) Q h') :
    wp P (.copy sz (slBase (some p) c a sz, n - a, c - a) (slBase (some p) c b sz, n - b, c - b) m) Q h :=
  st_copyI (P := P) (Q := Q) (L := L) s (p := p) (ys := ys) (n := n) (c := c) (a := a) (b := b) (sz := sz) (m := m) hsz hn ha (by omega) hc (fun h' mm hmm S => by
    obtain rfl : mm = n - a := by rw [hmm]; show min _ _ = _; omega
    exact hw h' S)
end

/-! ### Lists behind copies -/
section
variable {I : Type}
theorem del_list {xs : List I} {i : Nat} {z : I} (hi : i < xs.length) :
    (xs.take i ++ ((xs.drop (i + 1)).take (xs.length - (i + 1)) ++ xs.drop (i + (xs.length - (i + 1))))).set (xs.length - 1) z = xs.eraseIdx i ++ [z] := by
  have e1 : (xs.drop (i + 1)).take (xs.length - (i + 1)) = xs.drop (i + 1) := List.take_of_length_le (by simp)
  have e2 : i + (xs.length - (i + 1)) = xs.length - 1 := by omega
  rw [e1, e2, ← List.append_assoc, ← List.eraseIdx_eq_take_drop_succ, List.set_append_right _ _ (by rw [List.length_eraseIdx_of_lt hi]; omega), List.length_eraseIdx_of_lt hi, Nat.sub_self]
  have hl : (xs.drop (xs.length - 1)).length = 1 := by simp; omega
  match hd : xs.drop (xs.length - 1), hl with
  | [w], _ => rfl
theorem erase_last {xs : List I} : xs.eraseIdx (xs.length - 1) = xs.dropLast := by
  rw [List.dropLast_eq_take]
  rcases Nat.eq_zero_or_pos xs.length with h | h
  · have : xs = [] := List.length_eq_zero_iff.1 h
    subst this; rfl
  · rw [List.eraseIdx_eq_take_drop_succ, show xs.length - 1 + 1 = xs.length by omega]; simp
theorem del_at {xs : List I} {i n : Nat} {z : I} (hn : xs.length = n) (hi : i < n) : (xs.take i ++ ((xs.drop (i + 1)).take (n - (i + 1)) ++ xs.drop (i + (n - (i + 1))))).set (n - 1) z = xs.eraseIdx i ++ [z] := by
  subst hn; exact del_list hi
theorem cp_len {xs : List I} {a b n k : Nat} (hn : xs.length = n) (hb : b + k ≤ n) (ha : a + k ≤ n) : (xs.take a ++ ((xs.drop b).take k ++ xs.drop (a + k))).length = n := by simp; omega
/-- Room made at the start. -/
theorem ins_first {xs : List I} {z x : I} : (((xs ++ [z]).take 1 ++ ((xs ++ [z]).take xs.length ++ (xs ++ [z]).drop (1 + xs.length)))).set 0 x = x :: xs := by
  have e1 : (xs ++ [z]).drop (1 + xs.length) = [] := List.drop_of_length_le (by simp; omega)
  have e2 : (xs ++ [z]).take xs.length = xs := by rw [List.take_append_of_le_length (Nat.le_refl _), List.take_length]
  rw [e1, e2, List.append_nil]
  cases xs <;> rfl
theorem set_last {xs : List I} {z : I} (h : 0 < xs.length) : xs.set (xs.length - 1) z = xs.dropLast ++ [z] := by
  rw [List.set_eq_take_append_cons_drop, if_pos (by omega), List.dropLast_eq_take, show xs.length - 1 + 1 = xs.length by omega, List.drop_length]
theorem ins_list {xs : List I} {i : Nat} {z x : I} (hi : i ≤ xs.length) :
    (((xs ++ [z]).take (i + 1) ++ (((xs ++ [z]).drop i).take (xs.length + 1 - (i + 1)) ++ (xs ++ [z]).drop (i + 1 + (xs.length + 1 - (i + 1)))))).set i x = xs.take i ++ x :: xs.drop i := by
  have e1 : (xs ++ [z]).drop (i + 1 + (xs.length + 1 - (i + 1))) = [] := List.drop_of_length_le (by simp; omega)
  have e2 : ((xs ++ [z]).drop i).take (xs.length + 1 - (i + 1)) = xs.drop i := by
    rw [List.drop_append_of_le_length hi, List.take_append_of_le_length (by simp), List.take_of_length_le (by simp)]
  have hlt : i < (xs ++ [z]).length := by simp; omega
  rw [e1, e2, List.append_nil, List.take_succ_eq_append_getElem hlt, List.append_assoc, List.set_append_right _ _ (by simp; omega)]
  have e3 : (xs ++ [z]).take i = xs.take i := List.take_append_of_le_length hi
  rw [e3, List.length_take, Nat.min_eq_left hi, Nat.sub_self]
  rfl
theorem ins_list2 {xs : List I} {i : Nat} {z x : I} (hi : i < xs.length) :
    (((xs ++ [z]).take (i + 1) ++ (((xs ++ [z]).drop i).take (xs.length + 1 - (i + 1)) ++ (xs ++ [z]).drop (i + 1 + (xs.length + 1 - (i + 1)))))).set (i + 1) x = xs.take (i + 1) ++ x :: xs.drop (i + 1) := by
  have e1 : (xs ++ [z]).drop (i + 1 + (xs.length + 1 - (i + 1))) = [] := List.drop_of_length_le (by simp; omega)
  have e2 : ((xs ++ [z]).drop i).take (xs.length + 1 - (i + 1)) = xs[i] :: xs.drop (i + 1) := by
    rw [List.drop_append_of_le_length (by omega), List.take_append_of_le_length (by simp), List.take_of_length_le (by simp), ← List.drop_eq_getElem_cons hi]
  have e3 : (xs ++ [z]).take (i + 1) = xs.take (i + 1) := List.take_append_of_le_length (by omega)
  rw [e1, e2, e3, List.append_nil, List.set_append_right _ _ (by simp; omega), List.length_take, Nat.min_eq_left (by omega), Nat.sub_self]
  rfl
end

theorem erase_mid {I : Type} {A C : List I} {x : I} {j : Nat} (h : A.length = j) : (A ++ x :: C).eraseIdx j = A ++ C := by
  subst h; rw [List.eraseIdx_append_of_length_le (Nat.le_refl _), Nat.sub_self]; rfl
theorem set_mid {I : Type} {A C : List I} {x y : I} {j : Nat} (h : A.length = j) : (A ++ x :: C).set j y = A ++ y :: C := by
  subst h; rw [List.set_append_right _ _ (Nat.le_refl _), Nat.sub_self]; rfl
theorem get_mid {I : Type} {A C : List I} {x : I} {j : Nat} (h : A.length = j) : (A ++ x :: C)[j]? = some x := by
  subst h; rw [List.getElem?_append_right (Nat.le_refl _), Nat.sub_self]; rfl
theorem get_mid1 {I : Type} {A C : List I} {x y : I} {j : Nat} (h : A.length = j) : (A ++ x :: y :: C)[j + 1]? = some y := by
  subst h; rw [List.getElem?_append_right (by omega), show A.length + 1 - A.length = 1 by omega]; rfl
theorem erase_mid1 {I : Type} {A C : List I} {x y : I} {j : Nat} (h : A.length = j) : (A ++ x :: y :: C).eraseIdx (j + 1) = A ++ x :: C := by
  subst h; rw [List.eraseIdx_append_of_length_le (by omega), show A.length + 1 - A.length = 1 by omega]; rfl
theorem split_at {I : Type} {xs : List I} {j : Nat} (h : j < xs.length) : ∃ A x C, xs = A ++ x :: C ∧ A.length = j :=
  ⟨xs.take j, xs[j], xs.drop (j + 1), by rw [← List.drop_eq_getElem_cons h, List.take_append_drop], by simp; omega⟩
theorem split_at2 {I : Type} {xs : List I} {j : Nat} (h : j + 1 < xs.length) : ∃ A x y C, xs = A ++ x :: y :: C ∧ A.length = j :=
  ⟨xs.take j, xs[j], xs[j + 1], xs.drop (j + 2), by rw [← List.drop_eq_getElem_cons h, ← List.drop_eq_getElem_cons (by omega), List.take_append_drop], by simp; omega⟩

section
variable {P : Program} {Q : Ex → List AV → H → Prop} {h h0 : H} {G0 : PA → Prop} {l : List Ck} {I : Type} {L : Lay I}
/-- copy(ys[i:], ys[i+1:]): what follows i moves down. -/
theorem st_cpdel (s : St h0 G0 l h) {p : PA} {ys : List I} {k : Nat} {l' : List Value → List Ck} [Fi l p (L.flat ys) 0 k l'] {n c i sz : Nat} {m : Nat → M} (hsz : sz = L.sz) (hn : ys.length = n) (hi : i < n) (hc : n ≤ c)
    (hw : ∀ h' zs, zs.length = n → (∀ z, zs.set (n - 1) z = ys.eraseIdx i ++ [z]) → St h0 G0 (l' (L.flat zs)) h' → wp P (m (n - (i + 1))) Q h') :
    wp P (.copy sz (slBase (some p) c i sz, n - i, c - i) (slBase (some p) c (i + 1) sz, n - (i + 1), c - (i + 1)) m) Q h :=
  st_copyB s hsz hn (by omega) (by omega) hc fun h' S => hw h' _ (cp_len hn (by omega) (by omega)) (fun z => del_at hn hi) S
/-- copy(ys, ys[1:]). -/
theorem st_cpdel0 (s : St h0 G0 l h) {p : PA} {ys : List I} {k : Nat} {l' : List Value → List Ck} [Fi l p (L.flat ys) 0 k l'] {n c sz : Nat} {m : Nat → M} (hsz : sz = L.sz) (hn : ys.length = n) (hi : 0 < n) (hc : n ≤ c)
    (hw : ∀ h' zs, zs.length = n → (∀ z, zs.set (n - 1) z = ys.tail ++ [z]) → St h0 G0 (l' (L.flat zs)) h' → wp P (m (n - 1)) Q h') :
    wp P (.copy sz (some p, n, c) (slBase (some p) c 1 sz, n - 1, c - 1) m) Q h :=
  st_copyD s hsz hn (by omega) hc fun h' S => hw h' _ (cp_len hn (by omega) (by omega)) (fun z => by rw [del_at (i := 0) hn hi]; cases ys <;> rfl) S
/-- copy(ys[i+1:], ys[i:]): room at i. -/
theorem st_cpins (s : St h0 G0 l h) {p : PA} {xs : List I} {w : I} {k : Nat} {l' : List Value → List Ck} [Fi l p (L.flat (xs ++ [w])) 0 k l'] {n c i sz : Nat} {m : Nat → M} (hsz : sz = L.sz) (hn : xs.length + 1 = n) (hi : i < n) (hc : n ≤ c)
    (hw : ∀ h' zs, zs.length = n → (∀ x, zs.set i x = xs.take i ++ x :: xs.drop i) → (i + 1 < n → ∀ x, zs.set (i + 1) x = xs.take (i + 1) ++ x :: xs.drop (i + 1)) → St h0 G0 (l' (L.flat zs)) h' → wp P (m (n - (i + 1))) Q h') :
    wp P (.copy sz (slBase (some p) c (i + 1) sz, n - (i + 1), c - (i + 1)) (slBase (some p) c i sz, n - i, c - i) m) Q h := by
  subst hn
  exact st_copyA s hsz (by simp) (by omega) (by omega) hc fun h' S => hw h' _ (cp_len (by simp) (by omega) (by omega)) (fun x => ins_list (by omega)) (fun h x => ins_list2 (by omega)) S
/-- copy(ys[1:], ys). -/
theorem st_cpins0 (s : St h0 G0 l h) {p : PA} {xs : List I} {w : I} {k : Nat} {l' : List Value → List Ck} [Fi l p (L.flat (xs ++ [w])) 0 k l'] {n c sz : Nat} {m : Nat → M} (hsz : sz = L.sz) (hn : xs.length + 1 = n) (hc : n ≤ c)
    (hw : ∀ h' zs, zs.length = n → (∀ x, zs.set 0 x = x :: xs) → St h0 G0 (l' (L.flat zs)) h' → wp P (m (n - 1)) Q h') :
    wp P (.copy sz (slBase (some p) c 1 sz, n - 1, c - 1) (some p, n, c) m) Q h := by
  subst hn
  exact st_copyS s hsz (by simp) (by omega) hc fun h' S => hw h' _ (cp_len (b := 0) (by simp) (by omega) (by omega)) (fun x => ins_first) S
end
/-! ### Pieces made of others -/
def EmC : Ck where
  p _ F := ∀ x, ¬ F x
  out := fun h _ _ => h
  lt := fun h x hx => (h x hx).elim
def StC (l : List Ck) : Ck where
  p h F := Star l h F
  out := fun h f d => h.out f d
  lt := fun h x hx => h.lt x hx
def ExC {α : Type} (φ : α → Prop) (f : α → Ck) : Ck where
  p h F := ∃ a, φ a ∧ (f a).p h F
  out := fun ⟨a, ha, hp⟩ f d => ⟨a, ha, Ck.out _ hp f d⟩
  lt := fun ⟨a, ha, hp⟩ x hx => Ck.lt _ hp x hx

section
variable {h h0 : H} {G0 : PA → Prop} {l : List Ck}
theorem St.ex_out {α : Type} {φ : α → Prop} {f : α → Ck} (s : St h0 G0 (ExC φ f :: l) h) : ∃ a, φ a ∧ St h0 G0 (f a :: l) h := by
  obtain ⟨a, ha, h2⟩ := St.turnE (l := [_]) (l' := fun a => [f a]) (φ := φ) s fun F hF => by
    obtain ⟨F1, F2, ⟨a, ha, hp⟩, h2⟩ := hF
    exact ⟨a, ha, F1, F2, hp, h2⟩
  exact ⟨a, ha, h2⟩
theorem St.ex_in {α : Type} {φ : α → Prop} {f : α → Ck} (a : α) (ha : φ a) (s : St h0 G0 (f a :: l) h) : St h0 G0 (ExC φ f :: l) h :=
  s.turn (l := [_]) (l' := [_]) fun F ⟨F1, F2, hp, h2⟩ => ⟨F1, F2, ⟨a, ha, hp⟩, h2⟩
theorem St.st_out {m : List Ck} (s : St h0 G0 (StC m :: l) h) : St h0 G0 (m ++ l) h :=
  s.turn (l := [_]) (l' := m) fun F ⟨F1, F2, hp, h2, h3, h4⟩ => hp.iff fun x => by rw [h4]; exact ⟨.inl, fun hx => hx.elim id fun hn => (h2 x hn).elim⟩
theorem St.st_in {m : List Ck} (s : St h0 G0 (m ++ l) h) : St h0 G0 (StC m :: l) h :=
  s.turn (l := m) (l' := [_]) fun F hF => star_one (c := StC m) hF
theorem St.em_in (s : St h0 G0 l h) : St h0 G0 (EmC :: l) h :=
  s.turn (l := []) (l' := [_]) fun F hF => star_one (c := EmC) hF
end

/-- A joint behind which some pieces are others. -/
theorem w_jnt {P : Program} {Q : Ex → List AV → H → Prop} {h h0 : H} {G0 : PA → Prop} {l : List Ck} (s : St h0 G0 l h) (qs : List Kq) {cs r m : List Ck} [Pks qs l cs r m] (cs' : List Ck) {x : M} {k : SV [] → M}
    (hm : wp P x (Jo none (fun vs h' => vs = [] ∧ St h0 G0 (cs' ++ r) h') Q) h) (hk : ∀ h', St h0 G0 (cs' ++ r) h' → wp P (k ()) Q h') : wp P (.bind none x [] k) Q h := by
  refine w_bind _ hm ?_
  rintro vs h' ⟨rfl, S⟩
  exact ⟨(), rfl, hk h' S⟩
theorem jo_n {P : Program} {Q : Ex → List AV → H → Prop} {h : H} {l : Option Nat} {R : List AV → H → Prop} {vs : List AV} (hR : R vs h) : wp P (.done .normal vs) (Jo l R Q) h := hR
theorem St.iso {I : Type} {L : Lay I} {iso : Int} {n : Nat} {t : BT I n} {h h0 : H} {G0 : PA → Prop} {l r : List Ck} (s : St h0 G0 l h) (b : Nat) [Pk (.tr b) l (TrC L iso n b t) r] : Go.Proofs.Ytkhpbcckaenmcaa.rd h (b, 0) = some (.int .u64 iso) := by
  obtain ⟨F, hF⟩ := s.fct (.tr b)
  exact tr_iso hF

theorem St.cnt {I : Type} {L : Lay I} {iso : Int} {n : Nat} {t : BT I n} {h h0 : H} {G0 : PA → Prop} {l r : List Ck} (s : St h0 G0 l h) (b : Nat) [Pk (.tr b) l (TrC L iso n b t) r] : Go.Proofs.Ytkhpbcckaenmcaa.rd h (b, 1) = some (.int .i64 (flatB n t).length) := by
  obtain ⟨F, hF⟩ := s.fct (.tr b)
  exact tr_count hF
theorem St.itm {I : Type} {L : Lay I} {iso : Int} {n : Nat} {t : BT I n} {h h0 : H} {G0 : PA → Prop} {l r : List Ck} (s : St h0 G0 l h) (b : Nat) [Pk (.tr b) l (TrC L iso n b t) r] : ∃ p c, Go.Proofs.Ytkhpbcckaenmcaa.rd h (b, 2) = some (.slice (some (PA.val p)) (itemsB n t).length c) := by
  obtain ⟨F, hF⟩ := s.fct (.tr b)
  cases n with
  | zero => obtain ⟨p, c, h1, _⟩ := tr_leaf L iso hF; exact ⟨p, c, h1⟩
  | succ n => obtain ⟨p, c, q, d, hb, ks, FK, h1, _⟩ := tr_node L iso hF; exact ⟨p, c, h1⟩
/-! ### A node -/
section
variable {I : Type} (L : Lay I) (iso : Int)
/-- The children of a node: none of a leaf. -/
def KdC : (n : Nat) → Option PA → BT I n → Ck
  | 0, kp, _ => ExC (α := Unit) (fun _ => kp = none) fun _ => EmC
  | n + 1, kp, t => ExC (α := Nat × PA × Nat × List Nat) (fun x => kp = some (x.1, 0) ∧ x.2.2.2.length ≤ x.2.2.1 ∧ x.2.2.2.length = t.2.length) fun x =>
      StC [Ow (x.1, 0) (hdC (some x.2.1, x.2.2.2.length, x.2.2.1)) 0, Ow x.2.1 (LK.flat (x.2.2.2.map some)) ((x.2.2.1 - x.2.2.2.length) * LK.sz), FoC L iso n x.2.2.2 t.2]
variable {h h0 : H} {G0 : PA → Prop} {l : List Ck}
theorem kids_leaf {kp : Option PA} {t : BT I 0} (s : St h0 G0 (KdC L iso 0 kp t :: l) h) : kp = none := s.ex_out.choose_spec.1
theorem open_kids {n : Nat} {kp : Option PA} {t : BT I (n + 1)} (s : St h0 G0 (KdC L iso (n + 1) kp t :: l) h) : ∃ hb q d ks, kp = some (hb, 0) ∧ ks.length ≤ d ∧ ks.length = t.2.length ∧
    St h0 G0 (Ow (hb, 0) (hdC (some q, ks.length, d)) 0 :: Ow q (LK.flat (ks.map some)) ((d - ks.length) * LK.sz) :: FoC L iso n ks t.2 :: l) h := by
  obtain ⟨x, ⟨h1, h2, h3⟩, s⟩ := s.ex_out
  exact ⟨x.1, x.2.1, x.2.2.1, x.2.2.2, h1, h2, h3, s.st_out⟩
theorem shut_kids {n hb m d k : Nat} {q : PA} {ks : List Nat} {ys : List (Option Nat)} {ws : List Value} {t : BT I (n + 1)} (s : St h0 G0 (Ow (hb, 0) ws 0 :: Ow q (LK.flat ys) k :: FoC L iso n ks t.2 :: l) h)
    (hw : ws = hdC (some q, m, d)) (hy : ys = ks.map some) (hm : m = ks.length) (hd : m ≤ d) (hk : k = (d - m) * LK.sz) (hl : ks.length = t.2.length) : St h0 G0 (KdC L iso (n + 1) (some (hb, 0)) t :: l) h := by
  subst hw hy hm hk
  exact St.ex_in (α := Nat × PA × Nat × List Nat) (hb, q, d, ks) ⟨rfl, hd, hl⟩ (St.st_in s)
theorem shut_kidsE {n hb m d k : Nat} {q : PA} {ks : List Nat} {ys : List (Option Nat)} {ws : List Value} {t : BT I (n + 1)} {ts : List (BT I n)} (s : St h0 G0 (Ow (hb, 0) ws 0 :: Ow q (LK.flat ys) k :: FoC L iso n ks ts :: l) h)
    (he : ts = t.2) (hw : ws = hdC (some q, m, d)) (hy : ys = ks.map some) (hm : m = ks.length) (hd : m ≤ d) (hk : k = (d - m) * LK.sz) (hl : ks.length = t.2.length) : St h0 G0 (KdC L iso (n + 1) (some (hb, 0)) t :: l) h := by
  subst he; exact shut_kids L iso s hw hy hm hd hk hl
theorem kids_re {n : Nat} {kp : Option PA} {t u : BT I (n + 1)} (s : St h0 G0 (KdC L iso (n + 1) kp t :: l) h) (he : t.2 = u.2) : St h0 G0 (KdC L iso (n + 1) kp u :: l) h := by
  obtain ⟨hb, q, d, ks, rfl, h1, h2, s⟩ := open_kids L iso s
  rw [he] at s h2
  exact shut_kids L iso s rfl rfl rfl h1 rfl h2
theorem shut_nokids {t : BT I 0} (s : St h0 G0 l h) : St h0 G0 (KdC L iso 0 none t :: l) h := St.ex_in (α := Unit) () rfl s.em_in
/-- A node opened, of whatever height. -/
theorem open_nd {n b : Nat} {t : BT I n} (s : St h0 G0 (TrC L iso n b t :: l) h) : ∃ p c kp, (itemsB n t).length ≤ c ∧ kp.isNone = Nat.beq n 0 ∧
    St h0 G0 (Ow (b, 0) (nodeC iso (flatB n t).length (some p, (itemsB n t).length, c) kp) 0 :: Ow p (L.flat (itemsB n t)) ((c - (itemsB n t).length) * L.sz) :: KdC L iso n kp t :: l) h := by
  cases n with
  | zero =>
    obtain ⟨p, c, hc, s⟩ := open_leaf L iso s
    exact ⟨p, c, none, hc, rfl, (shut_nokids L iso s).ats [.ow (b, 0), .ow p]⟩
  | succ n =>
    obtain ⟨p, c, q, d, hb, ks, hc, hd, hl, s⟩ := open_node L iso s
    have s := s.ats [.ow (hb, 0), .ow q, .fo ks]
    rw [← LK_flat] at s
    have s := shut_kids L iso (t := t) s rfl rfl rfl hd rfl hl
    exact ⟨p, c, some (hb, 0), hc, rfl, s.ats [.ow (b, 0), .ow p]⟩
theorem shut_nd {n b : Nat} {t : BT I n} {cnt m c k : Nat} {p : PA} {kp : Option PA} {ws vs : List Value} (s : St h0 G0 (Ow (b, 0) ws 0 :: Ow p vs k :: KdC L iso n kp t :: l) h)
    (hw : ws = nodeC iso cnt (some p, m, c) kp) (hv : vs = L.flat (itemsB n t)) (hm : m = (itemsB n t).length) (hcnt : cnt = (flatB n t).length) (hc : m ≤ c) (hk : k = (c - m) * L.sz) : St h0 G0 (TrC L iso n b t :: l) h := by
  cases n with
  | zero =>
    have s := s.pull2
    obtain rfl := kids_leaf L iso s
    exact shut_leaf L iso (xs := t) s.drop hw hv hm (by rw [hcnt, hm]; rfl) hc hk
  | succ n =>
    have s := s.pull2
    obtain ⟨hb, q, d, ks, rfl, h1, h2, s⟩ := open_kids L iso s
    rw [LK_flat] at s
    exact shut_node L iso (xs := t.1) (ts := t.2) (s.ats [.ow (b, 0), .ow p, .ow (hb, 0), .ow q]) hw hv rfl rfl hm rfl hcnt hc hk h1 (Nat.mul_one _)
theorem fo_re {n : Nat} {ks ks' : List Nat} {ts ts' : List (BT I n)} (s : St h0 G0 (FoC L iso n ks ts :: l) h) (hk : ks = ks') (ht : ts = ts') : St h0 G0 (FoC L iso n ks' ts' :: l) h := by
  subst hk ht; exact s
instance pk_kd {n : Nat} {kp : Option PA} {t : BT I n} {l : List Ck} : Pk (.kd kp) (KdC L iso n kp t :: l) (KdC L iso n kp t) l := ⟨.refl _⟩
end
end Go.Proofs.Ytkhpbcckaenmcaa
