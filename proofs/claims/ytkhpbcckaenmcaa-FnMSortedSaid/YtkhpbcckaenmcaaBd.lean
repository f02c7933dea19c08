/-
  Trees of one height: two neighbours made one, or an item handed over; deleting. Conditions: an order (Ord).
-/
import Derived.Test.YtkhpbcckaenmcaaBt
namespace Go.Proofs.Ytkhpbcckaenmcaa

section
variable {I : Type} {lt : I → I → Bool}
theorem weave_app {x : I} : ∀ {l1 : List I} {l2 : List (List I)} {r1 : List I} {r2 : List (List I)}, l2.length = l1.length + 1 → 0 < r2.length → weave (l1 ++ x :: r1) (l2 ++ r2) = weave l1 l2 ++ x :: weave r1 r2
  | [], [t], r1, u :: r2, _, _ => by simp [weave, post]
  | [], [], _, _, h, _ => by simp at h
  | [], _ :: _ :: _, _, _, h, _ => by simp at h
  | _, _, _, [], _, h => by simp at h
  | a :: l1, [], _, _ :: _, h, _ => by simp at h
  | a :: l1, [t], _, _ :: _, h, _ => by simp at h
  | a :: l1, t :: u :: l2, r1, v :: r2, h, hr => by
    have ih := weave_app (x := x) (l1 := l1) (l2 := u :: l2) (r1 := r1) (r2 := v :: r2) (by simpa using h) hr
    simp only [List.cons_append, weave_cons] at ih ⊢
    rw [ih]; simp
theorem weave_mid {A C : List I} {x : I} {B D : List (List I)} {tl tr : List I} (h : B.length = A.length) : weave (A ++ x :: C) (B ++ tl :: tr :: D) = pre B A ++ (tl ++ x :: (tr ++ post C D)) := by
  rw [weave_split _ _ _ _ _ h]; rfl
theorem weave_one {A C : List I} {B D : List (List I)} {t : List I} (h : B.length = A.length) : weave (A ++ C) (B ++ t :: D) = pre B A ++ (t ++ post C D) := weave_split _ _ _ _ _ h

/-- Two neighbours made one. -/
def joinB : (n : Nat) → BT I n → I → BT I n → BT I n
  | 0, l, x, r => (l ++ x :: r : List I)
  | _ + 1, l, x, r => (l.1 ++ x :: r.1, l.2 ++ r.2)
theorem joinB_items : ∀ (n : Nat) (l : BT I n) (x : I) (r : BT I n), itemsB n (joinB n l x r) = itemsB n l ++ x :: itemsB n r
  | 0, _, _, _ => rfl
  | _ + 1, _, _, _ => rfl
theorem joinB_flat {mn mx : Nat} : ∀ {n : Nat} {l : BT I n} {x : I} {r : BT I n}, Val mn mx n l → Val mn mx n r → flatB n (joinB n l x r) = flatB n l ++ x :: flatB n r
  | 0, _, _, _, _, _ => rfl
  | n + 1, l, x, r, hl, hr => by
    simp only [joinB, flatB, List.map_append]
    exact weave_app (by simpa using hl.2.1) (by have := hr.2.1; simp; omega)
theorem joinB_val {mn mx : Nat} : ∀ {n : Nat} {l : BT I n} {x : I} {r : BT I n}, Val mn mx n l → Val mn mx n r → (itemsB n l).length + (itemsB n r).length < mx → Val mn mx n (joinB n l x r)
  | 0, l, x, r, _, _, h => by
    simp only [Val, joinB, itemsB] at *
    simp; omega
  | n + 1, l, x, r, hl, hr, h => by
    simp only [Val, joinB, itemsB] at *
    refine ⟨by simp; omega, by simp; omega, fun k hk => ?_⟩
    rcases List.mem_append.1 hk with hk | hk
    · exact hl.2.2 k hk
    · exact hr.2.2 k hk
theorem weave_len : ∀ {xs : List I} {ts : List (List I)}, ts.length = xs.length + 1 → (weave xs ts).length = xs.length + (ts.map List.length).sum
  | [], [t], _ => by simp [weave, post]
  | [], _ :: _ :: _, h => by simp at h
  | _, [], h => by simp at h
  | x :: xs, [t], h => by simp at h
  | x :: xs, t :: u :: ts, h => by
    rw [weave_cons, List.length_append, List.length_cons, weave_len (xs := xs) (ts := u :: ts) (by simpa using h)]
    simp only [List.map_cons, List.sum_cons, List.length_cons]
    omega
theorem flatB_len {n : Nat} {t : BT I (n + 1)} (hl : t.2.length = t.1.length + 1) : (flatB (n + 1) t).length = t.1.length + (t.2.map (fun u => (flatB n u).length)).sum := by
  simp only [flatB]
  rw [weave_len (by simpa using hl), List.map_map]; rfl
/-- The last item (and child) taken off, one laid ahead of the first. -/
def popB : (n : Nat) → BT I n → BT I n
  | 0, l => (List.dropLast l : List I)
  | _ + 1, l => (l.1.dropLast, l.2.dropLast)
def pushB : (n : Nat) → BT I n → I → BT I n → BT I n
  | 0, _, x, r => (x :: r : List I)
  | _ + 1, l, x, r => (x :: r.1, (match l.2.getLast? with | some c => c :: r.2 | none => r.2))
theorem snoc_of {α : Type} {l : List α} (h : 0 < l.length) : ∃ a y, l = a ++ [y] := by
  obtain ⟨a, y, e⟩ := List.eq_nil_or_concat l |>.resolve_left (fun e => by subst e; simp at h)
  exact ⟨a, y, by simpa using e⟩
theorem popB_items : ∀ (n : Nat) (l : BT I n), itemsB n (popB n l) = (itemsB n l).dropLast
  | 0, _ => rfl
  | _ + 1, _ => rfl
theorem pushB_items : ∀ (n : Nat) (l : BT I n) (x : I) (r : BT I n), itemsB n (pushB n l x r) = x :: itemsB n r
  | 0, _, _, _ => rfl
  | _ + 1, _, _, _ => rfl
theorem popB_flat {mn mx : Nat} : ∀ {n : Nat} {l : BT I n} {x y : I} {r : BT I n}, Val mn mx n l → Val mn mx n r → (itemsB n l).getLast? = some y →
    flatB n (popB n l) ++ y :: flatB n (pushB n l x r) = flatB n l ++ x :: flatB n r ∧ Val mn mx n (popB n l) ∧ ((itemsB n r).length < mx → Val mn mx n (pushB n l x r)) ∧
      (itemsB n (popB n l)).length + 1 = (itemsB n l).length ∧ (itemsB n (pushB n l x r)).length = (itemsB n r).length + 1
  | 0, l, x, y, r, hl, hr, hy => by
    have hy' : (show List I from l).getLast? = some y := hy
    obtain ⟨a, z, e⟩ := snoc_of (l := (show List I from l)) (by cases hq : (show List I from l) with | nil => rw [hq] at hy'; simp at hy' | cons => simp)
    have e' : l = a ++ [z] := e
    subst e'
    simp at hy'; subst hy'
    simp only [Val, popB, pushB, itemsB, flatB] at *
    refine ⟨by simp, by simp at hl ⊢; omega, fun h => by simp; omega, by simp, by simp⟩
  | n + 1, (lx, lk), x, y, (rx, rk), hl, hr, hy => by
    have hy' : lx.getLast? = some y := hy
    have hlk : lk.length = lx.length + 1 := hl.2.1
    have hrk : rk.length = rx.length + 1 := hr.2.1
    obtain ⟨a, z, rfl⟩ := snoc_of (l := lx) (by cases lx with | nil => simp at hy' | cons => simp)
    obtain ⟨b, c, rfl⟩ := snoc_of (l := lk) (by omega)
    simp at hy'; subst hy'
    have hbl : b.length = a.length + 1 := by simp at hlk; omega
    obtain ⟨hl1, hl2, hl3⟩ := hl
    obtain ⟨hr1, hr2, hr3⟩ := hr
    have hlast : ((b ++ [c]) : List (BT I n)).getLast? = some c := by simp
    simp only [popB, pushB, itemsB, flatB, hlast, List.map_append, List.map_cons, List.map_nil, List.dropLast_concat]
    refine ⟨?_, ⟨by simp at hl1; simp; omega, by simp; omega, fun k hk => hl3 k (by simp at hk ⊢; exact .inl hk)⟩, fun h => ⟨by simp at h ⊢; omega, by simp; omega, fun k hk => ?_⟩, by simp, by simp⟩
    · rw [weave_app (by simp; omega) (by simp)]
      match rk, hrk with
      | u :: rk, _ => simp [weave, post]
    · rcases List.mem_cons.1 hk with rfl | hk
      · exact hl3 _ (by simp)
      · exact hr3 k hk
/-- The first item (and child) taken off, one laid behind the last. -/
def tailB : (n : Nat) → BT I n → BT I n
  | 0, r => (List.tail r : List I)
  | _ + 1, r => (r.1.tail, r.2.tail)
def snocB : (n : Nat) → BT I n → I → BT I n → BT I n
  | 0, l, x, _ => (l ++ [x] : List I)
  | _ + 1, l, x, r => (l.1 ++ [x], (match r.2.head? with | some c => l.2 ++ [c] | none => l.2))
theorem tailB_items : ∀ (n : Nat) (l : BT I n), itemsB n (tailB n l) = (itemsB n l).tail
  | 0, _ => rfl
  | _ + 1, _ => rfl
theorem snocB_items : ∀ (n : Nat) (l : BT I n) (x : I) (r : BT I n), itemsB n (snocB n l x r) = itemsB n l ++ [x]
  | 0, _, _, _ => rfl
  | _ + 1, _, _, _ => rfl
theorem tailB_flat {mn mx : Nat} : ∀ {n : Nat} {l : BT I n} {x y : I} {r : BT I n}, Val mn mx n l → Val mn mx n r → (itemsB n r)[0]? = some y →
    flatB n (snocB n l x r) ++ y :: flatB n (tailB n r) = flatB n l ++ x :: flatB n r ∧ Val mn mx n (tailB n r) ∧ ((itemsB n l).length < mx → Val mn mx n (snocB n l x r)) ∧
      (itemsB n (tailB n r)).length + 1 = (itemsB n r).length ∧ (itemsB n (snocB n l x r)).length = (itemsB n l).length + 1
  | 0, l, x, y, r, hl, hr, hy => by
    match r, hy with
    | z :: r, hy =>
      have hy' : z = y := by simpa [itemsB] using hy
      subst hy'
      simp only [Val, tailB, snocB, itemsB, flatB] at *
      refine ⟨by simp, by simp at hr ⊢; omega, fun h => by simp; omega, by simp, by simp⟩
  | n + 1, (lx, lk), x, y, (rx, rk), hl, hr, hy => by
    have hlk : lk.length = lx.length + 1 := hl.2.1
    have hrk : rk.length = rx.length + 1 := hr.2.1
    match rx, rk, hy, hrk with
    | z :: rx, c :: u :: rk, hy, hrk =>
      have hy' : z = y := by simpa [itemsB] using hy
      subst hy'
      obtain ⟨hl1, hl2, hl3⟩ := hl
      obtain ⟨hr1, hr2, hr3⟩ := hr
      simp only [tailB, snocB, itemsB, flatB, List.head?_cons, List.map_append, List.map_cons, List.map_nil, List.tail_cons]
      refine ⟨?_, ⟨by have : rx.length + 1 ≤ mx := hr1; show rx.length ≤ mx; omega, by have : rk.length + 1 + 1 = rx.length + 1 + 1 := hrk; show rk.length + 1 = rx.length + 1; omega, fun k hk => hr3 k (by simp at hk ⊢; exact .inr hk)⟩, fun h => ⟨by simp at h ⊢; omega, by simp; omega, fun k hk => ?_⟩, by simp, by simp⟩
      · rw [weave_app (by simp; omega) (by simp), weave_cons]; simp [weave, post]
      · rcases List.mem_append.1 hk with hk | hk
        · exact hl3 k hk
        · simp at hk; subst hk; exact hr3 _ (by simp)
/-- x is the item at its place: the greatest one of the child before it comes there. -/
theorem del_here (o : Ord lt) {A C : List I} {B D : List (List I)} {m u : List I} {x y z : I} (hl : B.length = A.length) (hs : Srt lt (weave (A ++ y :: C) (B ++ m :: u :: D))) (hxy : lt x y = false) (hyx : lt y x = false) (hz : m.getLast? = some z) :
    del lt (weave (A ++ y :: C) (B ++ m :: u :: D)) x = weave (A ++ z :: C) (B ++ m.dropLast :: u :: D) ∧ fnd lt (weave (A ++ y :: C) (B ++ m :: u :: D)) x = some y := by
  rw [weave_mid hl, weave_mid hl]
  rw [weave_mid hl] at hs
  have e1 : pre B A ++ (m ++ y :: (u ++ post C D)) = (pre B A ++ m) ++ ([y] ++ (u ++ post C D)) := by simp
  rw [e1] at hs ⊢
  obtain ⟨h1, h2, h3⟩ := srt_append.1 hs
  have g1 : ∀ a ∈ pre B A ++ m, lt a x = true := fun a ha => o.lt_of_lt_of_le (h3 a ha y (by simp)) hxy
  have g2 : ∀ a ∈ u ++ post C D, lt x a = true := fun a ha => o.lt_of_le_of_lt hyx ((srt_append.1 h2).2.2 y (by simp) a ha)
  have hp : pos lt [y] x = 0 := by simp [pos, hyx]
  have hf : fnd lt [y] x = some y := by simp [fnd, hp, hxy]
  refine ⟨?_, by rw [fnd_mid o g1 g2]; exact hf⟩
  rw [del_mid o g1 g2]
  have hd : del lt [y] x = [] := by simp [del, hf, hp]
  rw [hd]
  obtain ⟨a, w, rfl⟩ := snoc_of (l := m) (by cases m with | nil => simp at hz | cons => simp)
  simp at hz; subst hz
  simp
theorem weave_last {xs : List I} {B : List (List I)} {l : List I} (h : B.length = xs.length) : weave xs (B ++ [l]) = pre B xs ++ l := by
  have := weave_split B xs [] l [] h
  simp only [List.append_nil, post] at this
  exact this
theorem items_le {mn mx : Nat} : ∀ {n : Nat} {t : BT I n}, Val mn mx n t → (itemsB n t).length ≤ (flatB n t).length
  | 0, _, _ => Nat.le_refl _
  | n + 1, t, hv => by
    rw [flatB_len hv.2.1]
    show t.1.length ≤ _
    omega
theorem kids_put {mn mx n i : Nat} {B D : List (BT I n)} {u u' : BT I n} (hk : ∀ w ∈ B ++ u :: D, Val mn mx n w ∧ mn ≤ (itemsB n w).length) (hu : Val mn mx n u') (hl : mn ≤ (itemsB n u').length + 1) (hB : B.length = i) :
    ∀ j w, (B ++ u' :: D)[j]? = some w → Val mn mx n w ∧ (if j = i then mn ≤ (itemsB n w).length + 1 else mn ≤ (itemsB n w).length) := by
  intro j w hw
  by_cases hj : j = i
  · subst hj; subst hB
    rw [List.getElem?_append_right (Nat.le_refl _), Nat.sub_self] at hw
    obtain rfl : u' = w := by simpa using hw
    rw [if_pos rfl]; exact ⟨hu, hl⟩
  · rw [if_neg hj]
    refine hk w ?_
    rcases Nat.lt_or_ge j B.length with h | h
    · rw [List.getElem?_append_left h] at hw
      exact List.mem_append.2 (.inl (List.mem_iff_getElem?.2 ⟨j, hw⟩))
    · rw [List.getElem?_append_right h, show j - B.length = (j - B.length - 1) + 1 by omega, List.getElem?_cons_succ] at hw
      exact List.mem_append.2 (.inr (List.mem_cons_of_mem _ (List.mem_iff_getElem?.2 ⟨_, hw⟩)))
end
end Go.Proofs.Ytkhpbcckaenmcaa
