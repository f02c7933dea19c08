/-
  Trees in which an item and the subtree to its right lie side by side in a list, from an item on; without a program. Conditions: none.
-/
import Derived.Test.YtegnpimlfphncaaNd
set_option linter.unusedVariables false
set_option linter.unusedSimpArgs false
set_option linter.unusedSectionVars false
set_option maxRecDepth 100000
namespace Go.Proofs.Ytegnpimlfphncaa
open Go
section
variable {I : Type} {C : List I → Prop} {Ob Ob' : I → Prop} {mn mx n : Nat}
def Icl (C : List I → Prop) : Prop := ∀ X Y, C X → Y <:+: X → C Y
def Gd (C : List I → Prop) (Ob : I → Prop) : (n : Nat) → BT I n → Prop
  | 0, _ => True
  | n + 1, t => (∀ (j : Nat) (a : I) (u : BT I n), t.1[j]? = some a → t.2[j + 1]? = some u → Ob a → C (a :: flatB n u)) ∧ ∀ u ∈ t.2, Gd C Ob n u
theorem kid_in {xs : List I} {ts : List (BT I n)} (hl : ts.length = xs.length + 1) {i : Nat} {u : BT I n} (hu : ts[i]? = some u) : ∃ A B, flatB (n + 1) ((xs, ts) : BT I (n + 1)) = A ++ (flatB n u ++ B) := by
  have hi := (List.getElem?_eq_some_iff.1 hu).1
  exact ⟨_, _, weave_at (xs := xs) (ts := ts.map (flatB n)) (i := i) (by omega) (m := flatB n u) (by rw [List.getElem?_map, hu]; rfl)⟩
theorem pair_in {xs : List I} {ts : List (BT I n)} (hl : ts.length = xs.length + 1) {i : Nat} {a : I} {u : BT I n} (ha : xs[i]? = some a) (hu : ts[i + 1]? = some u) : ∃ A B, flatB (n + 1) ((xs, ts) : BT I (n + 1)) = A ++ (a :: flatB n u ++ B) := by
  have hi := (List.getElem?_eq_some_iff.1 ha).1
  obtain ⟨v, hv⟩ : ∃ v, ts[i]? = some v := ⟨_, List.getElem?_eq_getElem (by omega)⟩
  have e := weave_at (xs := xs) (ts := ts.map (flatB n)) (i := i) (by omega) (m := flatB n v) (by rw [List.getElem?_map, hv]; rfl)
  rw [post_cons ha (by rw [List.getElem?_map, hu]; rfl : (ts.map (flatB n))[i + 1]? = some (flatB n u))] at e
  refine ⟨pre ((ts.map (flatB n)).take i) (xs.take i) ++ flatB n v, post (xs.drop (i + 1)) ((ts.map (flatB n)).drop (i + 1 + 1)), ?_⟩
  show weave xs (ts.map (flatB n)) = _
  rw [e]; simp
theorem itm_in {xs : List I} {ts : List (BT I n)} (hl : ts.length = xs.length + 1) {a : I} (ha : a ∈ xs) : a ∈ flatB (n + 1) ((xs, ts) : BT I (n + 1)) :=
  (xs_sub xs (ts.map (flatB n)) (by rw [List.length_map]; exact hl)).subset ha
theorem kid_mem {xs : List I} {ts : List (BT I n)} (hl : ts.length = xs.length + 1) {u : BT I n} (hu : u ∈ ts) {a : I} (ha : a ∈ flatB n u) : a ∈ flatB (n + 1) ((xs, ts) : BT I (n + 1)) := by
  obtain ⟨i, hi⟩ := List.mem_iff_getElem?.1 hu
  obtain ⟨A, B, e⟩ := kid_in hl hi
  rw [e]; simp [ha]
theorem gd_mono : ∀ {n : Nat} {t : BT I n}, Val mn mx n t → (∀ a ∈ flatB n t, Ob' a → Ob a) → Gd C Ob n t → Gd C Ob' n t
  | 0, _, _, _, _ => trivial
  | n + 1, (xs, ts), hv, hm, ⟨h1, h2⟩ => ⟨fun j a u ha hu ho => h1 j a u ha hu (hm a (itm_in hv.2.1 (List.mem_of_getElem? ha)) ho), fun u hu => gd_mono (hv.2.2 u hu).1 (fun a ha => hm a (kid_mem hv.2.1 hu ha)) (h2 u hu)⟩
theorem gd_no : ∀ {n : Nat} {t : BT I n}, Val mn mx n t → (∀ a ∈ flatB n t, ¬ Ob a) → Gd C Ob n t
  | 0, _, _, _ => trivial
  | n + 1, (xs, ts), hv, hm => ⟨fun j a u ha hu ho => absurd ho (hm a (itm_in hv.2.1 (List.mem_of_getElem? ha))), fun u hu => gd_no (hv.2.2 u hu).1 fun a ha => hm a (kid_mem hv.2.1 hu ha)⟩
theorem gd_all (hC : Icl C) : ∀ {n : Nat} {t : BT I n}, Val mn mx n t → C (flatB n t) → Gd C Ob n t
  | 0, _, _, _ => trivial
  | n + 1, (xs, ts), hv, hc => ⟨fun j a u ha hu _ => by
      obtain ⟨A, B, e⟩ := pair_in hv.2.1 ha hu
      exact hC _ _ hc ⟨A, B, by rw [e]; simp⟩, fun u hu => by
      obtain ⟨i, hi⟩ := List.mem_iff_getElem?.1 hu
      obtain ⟨A, B, e⟩ := kid_in hv.2.1 hi
      exact gd_all hC (hv.2.2 u hu).1 (hC _ _ hc ⟨A, B, by rw [e]; simp⟩)⟩
section
variable {A D xs : List I} {B E : List (BT I n)} {tl tr l' r' J : BT I n} {x y : I}
theorem gd_two (hBA : B.length = A.length) (h : Gd C Ob (n + 1) ((A ++ x :: D, B ++ tl :: tr :: E) : BT I (n + 1))) (hA : ∀ a ∈ A, ¬ Ob a) (hl : Gd C Ob n l') (hr : Gd C Ob n r') (hy : Ob y → C (y :: flatB n r')) :
    Gd C Ob (n + 1) ((A ++ y :: D, B ++ l' :: r' :: E) : BT I (n + 1)) := by
  obtain ⟨h1, h2⟩ := h
  refine ⟨fun j a u ha hu ho => ?_, fun u hu => ?_⟩
  · dsimp only at ha hu
    rcases Nat.lt_trichotomy j A.length with hj | hj | hj
    · rw [List.getElem?_append_left hj] at ha
      exact absurd ho (hA a (List.mem_of_getElem? ha))
    · subst hj
      rw [get_mid rfl] at ha
      rw [← hBA, get_mid1 rfl] at hu
      cases ha; cases hu
      exact hy ho
    · obtain ⟨k, rfl⟩ : ∃ k, j = A.length + (k + 1) := ⟨j - A.length - 1, by omega⟩
      refine h1 (A.length + (k + 1)) a u ?_ ?_ ho
      · dsimp only
        rw [List.getElem?_append_right (by omega), Nat.add_sub_cancel_left, List.getElem?_cons_succ] at ha ⊢
        exact ha
      · dsimp only
        rw [List.getElem?_append_right (by omega), show A.length + (k + 1) + 1 - B.length = k + 1 + 1 by omega, List.getElem?_cons_succ, List.getElem?_cons_succ] at hu ⊢
        exact hu
  · dsimp only at hu
    rcases List.mem_append.1 hu with hu | hu
    · exact h2 u (List.mem_append.2 (.inl hu))
    · rcases List.mem_cons.1 hu with rfl | hu
      · exact hl
      · rcases List.mem_cons.1 hu with rfl | hu
        · exact hr
        · exact h2 u (List.mem_append.2 (.inr (List.mem_cons_of_mem _ (List.mem_cons_of_mem _ hu))))
theorem gd_one (hBA : B.length = A.length) (h : Gd C Ob (n + 1) ((A ++ x :: D, B ++ tl :: tr :: E) : BT I (n + 1))) (hA : ∀ a ∈ A, ¬ Ob a) (hJ : Gd C Ob n J) : Gd C Ob (n + 1) ((A ++ D, B ++ J :: E) : BT I (n + 1)) := by
  obtain ⟨h1, h2⟩ := h
  refine ⟨fun j a u ha hu ho => ?_, fun u hu => ?_⟩
  · dsimp only at ha hu
    rcases Nat.lt_or_ge j A.length with hj | hj
    · rw [List.getElem?_append_left hj] at ha
      exact absurd ho (hA a (List.mem_of_getElem? ha))
    · obtain ⟨k, rfl⟩ : ∃ k, j = A.length + k := ⟨j - A.length, by omega⟩
      refine h1 (A.length + k + 1) a u ?_ ?_ ho
      · dsimp only
        rw [List.getElem?_append_right (by omega), Nat.add_sub_cancel_left] at ha
        rw [List.getElem?_append_right (by omega), show A.length + k + 1 - A.length = k + 1 by omega, List.getElem?_cons_succ]
        exact ha
      · dsimp only
        rw [List.getElem?_append_right (by omega), show A.length + k + 1 - B.length = k + 1 by omega, List.getElem?_cons_succ] at hu
        rw [List.getElem?_append_right (by omega), show A.length + k + 1 + 1 - B.length = k + 1 + 1 by omega, List.getElem?_cons_succ, List.getElem?_cons_succ]
        exact hu
  · dsimp only at hu
    rcases List.mem_append.1 hu with hu | hu
    · exact h2 u (List.mem_append.2 (.inl hu))
    · rcases List.mem_cons.1 hu with rfl | hu
      · exact hJ
      · exact h2 u (List.mem_append.2 (.inr (List.mem_cons_of_mem _ (List.mem_cons_of_mem _ hu))))
theorem gd_right (hBA : B.length = A.length) (h : Gd C Ob (n + 1) ((A ++ x :: D, B ++ tl :: tr :: E) : BT I (n + 1))) : Gd C Ob n tl ∧ Gd C Ob n tr ∧ (Ob x → C (x :: flatB n tr)) := by
  obtain ⟨h1, h2⟩ := h
  exact ⟨h2 tl (by simp), h2 tr (by simp), h1 A.length x tr (get_mid rfl) (by dsimp only; rw [← hBA]; exact get_mid1 rfl)⟩
end
theorem gd_join (hC : Icl C) {x : I} : ∀ {n : Nat} {l r : BT I n}, Val mn mx n l → Val mn mx n r → Gd C Ob n l → Gd C Ob n r → (Ob x → C (x :: flatB n r)) → Gd C Ob n (joinB n l x r)
  | 0, _, _, _, _, _, _, _ => trivial
  | n + 1, (lx, lk), (rx, rk), hl, hr, ⟨l1, l2⟩, ⟨r1, r2⟩, hx => by
    have hll : lk.length = lx.length + 1 := hl.2.1
    have hrl : rk.length = rx.length + 1 := hr.2.1
    refine ⟨fun j a u ha hu ho => ?_, fun u hu => ?_⟩
    · have ha : (lx ++ x :: rx)[j]? = some a := ha
      have hu : (lk ++ rk)[j + 1]? = some u := hu
      rcases Nat.lt_trichotomy j lx.length with hj | hj | hj
      · rw [List.getElem?_append_left hj] at ha
        rw [List.getElem?_append_left (by omega)] at hu
        exact l1 j a u ha hu ho
      · subst hj
        rw [get_mid rfl] at ha
        cases ha
        rw [List.getElem?_append_right (by omega), show lx.length + 1 - lk.length = 0 by omega] at hu
        obtain ⟨A, B, e⟩ := kid_in (xs := rx) hrl hu
        have h0 : A = [] ∨ True := .inr trivial
        have e2 : flatB (n + 1) ((rx, rk) : BT I (n + 1)) = flatB n u ++ post rx ((rk.map (flatB n)).drop 1) := by
          have := weave_at (xs := rx) (ts := rk.map (flatB n)) (i := 0) (by omega) (m := flatB n u) (by rw [List.getElem?_map, hu]; rfl)
          simpa [pre, flatB] using this
        have hc := hx ho
        rw [e2] at hc
        exact hC _ _ hc ⟨[], _, rfl⟩
      · obtain ⟨k, rfl⟩ : ∃ k, j = lx.length + (k + 1) := ⟨j - lx.length - 1, by omega⟩
        rw [List.getElem?_append_right (by omega), Nat.add_sub_cancel_left, List.getElem?_cons_succ] at ha
        rw [List.getElem?_append_right (by omega), show lx.length + (k + 1) + 1 - lk.length = k + 1 by omega] at hu
        exact r1 k a u ha hu ho
    · have hu : u ∈ lk ++ rk := hu
      exact (List.mem_append.1 hu).elim (l2 u) (r2 u)
theorem gd_pop : ∀ {n : Nat} {l : BT I n}, Gd C Ob n l → Gd C Ob n (popB n l)
  | 0, _, _ => trivial
  | n + 1, (lx, lk), ⟨l1, l2⟩ => by
    refine ⟨fun j a u ha hu ho => ?_, fun u hu => l2 u ((List.dropLast_sublist lk).subset hu)⟩
    have ha : lx.dropLast[j]? = some a := ha
    have hu : lk.dropLast[j + 1]? = some u := hu
    rw [List.dropLast_eq_take, List.getElem?_take] at ha hu
    split at ha
    · split at hu
      · exact l1 j a u ha hu ho
      · cases hu
    · cases ha
theorem gd_tail : ∀ {n : Nat} {r : BT I n}, Gd C Ob n r → Gd C Ob n (tailB n r)
  | 0, _, _ => trivial
  | n + 1, (rx, rk), ⟨r1, r2⟩ => by
    refine ⟨fun j a u ha hu ho => ?_, fun u hu => r2 u (List.mem_of_mem_tail hu)⟩
    have ha : rx.tail[j]? = some a := ha
    have hu : rk.tail[j + 1]? = some u := hu
    rw [List.getElem?_tail] at ha hu
    exact r1 (j + 1) a u ha hu ho
theorem gd_push {x : I} : ∀ {n : Nat} {l r : BT I n}, Val mn mx n l → Gd C Ob n l → Gd C Ob n r → ¬ Ob x → Gd C Ob n (pushB n l x r)
  | 0, _, _, _, _, _, _ => trivial
  | n + 1, (lx, lk), (rx, rk), hl, ⟨l1, l2⟩, ⟨r1, r2⟩, hx => by
    have hll : lk.length = lx.length + 1 := hl.2.1
    cases hg : lk.getLast? with
    | none =>
      rw [List.getLast?_eq_none_iff.1 hg] at hll
      simp at hll
    | some c =>
      have e : pushB (n + 1) ((lx, lk) : BT I (n + 1)) x ((rx, rk) : BT I (n + 1)) = ((x :: rx, c :: rk) : BT I (n + 1)) := by simp [pushB, hg]
      rw [e]
      refine ⟨fun j a u ha hu ho => ?_, fun u hu => ?_⟩
      · have ha : (x :: rx)[j]? = some a := ha
        have hu : (c :: rk)[j + 1]? = some u := hu
        cases j with
        | zero => cases ha; exact absurd ho hx
        | succ j =>
          rw [List.getElem?_cons_succ] at ha hu
          exact r1 j a u ha hu ho
      · have hu : u ∈ c :: rk := hu
        rcases List.mem_cons.1 hu with rfl | hu
        · exact l2 u (List.mem_of_getLast? hg)
        · exact r2 u hu
theorem its_mem : ∀ {n : Nat} {t : BT I n}, Val mn mx n t → ∀ a ∈ itemsB n t, a ∈ flatB n t
  | 0, _, _, a, ha => ha
  | n + 1, (xs, ts), hv, a, ha => itm_in hv.2.1 ha
theorem tail_in {y : I} : ∀ {n : Nat} {r : BT I n}, Val mn mx n r → (itemsB n r)[0]? = some y → ∃ A, flatB n r = A ++ y :: flatB n (tailB n r)
  | 0, r, _, hy => by
    have hy : (show List I from r)[0]? = some y := hy
    match r, hy with
    | z :: r, hy =>
      obtain rfl : z = y := by simpa using hy
      exact ⟨[], rfl⟩
  | n + 1, (rx, rk), hr, hy => by
    have hrl : rk.length = rx.length + 1 := hr.2.1
    have hy : rx[0]? = some y := hy
    match rx, rk, hy, hrl with
    | z :: rx, c :: u :: rk, hy, _ =>
      obtain rfl : z = y := by simpa using hy
      exact ⟨flatB n c, rfl⟩
theorem gd_snoc (hC : Icl C) {x : I} : ∀ {n : Nat} {l r : BT I n}, Val mn mx n l → Val mn mx n r → Gd C Ob n l → Gd C Ob n r → (Ob x → C (x :: flatB n r)) → Gd C Ob n (snocB n l x r)
  | 0, _, _, _, _, _, _, _ => trivial
  | n + 1, (lx, lk), (rx, rk), hl, hr, ⟨l1, l2⟩, ⟨r1, r2⟩, hx => by
    have hll : lk.length = lx.length + 1 := hl.2.1
    have hrl : rk.length = rx.length + 1 := hr.2.1
    obtain ⟨c, rk', rfl⟩ : ∃ c rk', rk = c :: rk' := by
      cases rk with
      | nil => simp at hrl
      | cons c rk' => exact ⟨c, rk', rfl⟩
    refine ⟨fun j a u ha hu ho => ?_, fun u hu => ?_⟩
    · have ha : (lx ++ [x])[j]? = some a := ha
      have hu : (lk ++ [c])[j + 1]? = some u := hu
      rcases Nat.lt_or_ge j lx.length with hj | hj
      · rw [List.getElem?_append_left hj] at ha
        rw [List.getElem?_append_left (by omega)] at hu
        exact l1 j a u ha hu ho
      · have hlt := (List.getElem?_eq_some_iff.1 ha).1
        have hj : j = lx.length := by simp at hlt; omega
        subst hj
        rw [get_mid rfl] at ha
        rw [show lx.length + 1 = lk.length by omega, get_mid rfl] at hu
        cases ha; cases hu
        have e2 : flatB (n + 1) ((rx, c :: rk') : BT I (n + 1)) = flatB n c ++ post rx (rk'.map (flatB n)) := rfl
        have hc := hx ho
        rw [e2] at hc
        exact hC _ _ hc ⟨[], _, rfl⟩
    · have hu : u ∈ lk ++ [c] := hu
      rcases List.mem_append.1 hu with hu | hu
      · exact l2 u hu
      · obtain rfl := List.mem_singleton.1 hu
        exact r2 u (by simp)
end
end Go.Proofs.Ytegnpimlfphncaa
