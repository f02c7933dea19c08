/-
  Trees of one height as lists, without a program. Conditions: an order (Ord).
-/
import Derived.Test.YtkhpbcckaenmcaaPure
namespace Go.Proofs.Ytkhpbcckaenmcaa

@[reducible] def BT (I : Type) : Nat → Type
  | 0 => List I
  | n + 1 => List I × List (BT I n)

section
variable {I : Type} {lt : I → I → Bool}

def itemsB : (n : Nat) → BT I n → List I
  | 0, xs => xs
  | _ + 1, t => t.1
def post : List I → List (List I) → List I
  | x :: xs, t :: ts => x :: (t ++ post xs ts)
  | _, _ => []
def pre : List (List I) → List I → List I
  | t :: ts, x :: xs => t ++ x :: pre ts xs
  | _, _ => []
def weave (xs : List I) : List (List I) → List I
  | [] => []
  | t :: ts => t ++ post xs ts
def flatB : (n : Nat) → BT I n → List I
  | 0, xs => xs
  | n + 1, t => weave t.1 (t.2.map (flatB n))

theorem weave_cons (x : I) (xs : List I) (t u : List I) (ts : List (List I)) : weave (x :: xs) (t :: u :: ts) = t ++ x :: weave xs (u :: ts) := rfl

theorem weave_split : ∀ (A : List (List I)) (C D : List I) (m : List I) (B : List (List I)), A.length = C.length → weave (C ++ D) (A ++ m :: B) = pre A C ++ (m ++ post D B)
  | [], [], D, m, B, _ => rfl
  | a :: A, c :: C, D, m, B, h => by
    have ih := weave_split A C D m B (by simpa using h)
    cases A with
    | nil =>
      cases C with
      | nil => simp [weave, pre, post]
      | cons c' C => simp at h
    | cons a' A =>
      simp only [List.cons_append, weave_cons, pre, List.append_assoc]
      simp only [List.cons_append] at ih
      rw [ih]
theorem weave_at {xs : List I} {ts : List (List I)} {i : Nat} {m : List I} (hi : i ≤ xs.length) (hm : ts[i]? = some m) :
    weave xs ts = pre (ts.take i) (xs.take i) ++ (m ++ post (xs.drop i) (ts.drop (i + 1))) := by
  obtain ⟨hlt, he⟩ := List.getElem?_eq_some_iff.1 hm
  conv => lhs; rw [← List.take_append_drop i xs, ← List.take_append_drop i ts, List.drop_eq_getElem_cons hlt, he]
  exact weave_split _ _ _ _ _ (by simp; omega)
theorem post_cons {xs : List I} {ts : List (List I)} {x : I} {t : List I} {i j : Nat} (hx : xs[i]? = some x) (ht : ts[j]? = some t) :
    post (xs.drop i) (ts.drop j) = x :: (t ++ post (xs.drop (i + 1)) (ts.drop (j + 1))) := by
  obtain ⟨h1, e1⟩ := List.getElem?_eq_some_iff.1 hx
  obtain ⟨h2, e2⟩ := List.getElem?_eq_some_iff.1 ht
  rw [List.drop_eq_getElem_cons h1, List.drop_eq_getElem_cons h2, e1, e2]
  rfl
theorem pre_snoc : ∀ (A : List (List I)) (C : List I) (a : List I) (c : I), A.length = C.length → pre (A ++ [a]) (C ++ [c]) = pre A C ++ (a ++ [c])
  | [], [], a, c, _ => rfl
  | _ :: A, _ :: C, a, c, h => by simp [pre, pre_snoc A C a c (by simpa using h)]
theorem pre_mem {l : List I} (hs : Srt lt l) : ∀ {A : List (List I)} {C : List I}, l = pre A C → ∀ a ∈ l, ∃ c ∈ C, a = c ∨ lt a c = true := by
  intro A
  induction A generalizing l with
  | nil => intro C h a ha; subst h; simp [pre] at ha
  | cons t A ih =>
    intro C h a ha
    cases C with
    | nil => subst h; simp [pre] at ha
    | cons c C =>
      subst h
      simp only [pre] at ha hs
      obtain ⟨h1, h2, h3⟩ := srt_append.1 hs
      rcases List.mem_append.1 ha with ha | ha
      · exact ⟨c, by simp, .inr (h3 a ha c (by simp))⟩
      · rcases List.mem_cons.1 ha with rfl | ha
        · exact ⟨a, by simp, .inl rfl⟩
        · obtain ⟨c', hc, hh⟩ := ih (List.pairwise_cons.1 h2).2 rfl a ha
          exact ⟨c', by simp [hc], hh⟩
theorem post_mem {l : List I} (hs : Srt lt l) : ∀ {D : List I} {B : List (List I)}, l = post D B → ∀ a ∈ l, ∃ d ∈ D, a = d ∨ lt d a = true := by
  intro D
  induction D generalizing l with
  | nil => intro B h a ha; subst h; simp [post] at ha
  | cons d D ih =>
    intro B h a ha
    cases B with
    | nil => subst h; simp [post] at ha
    | cons b B =>
      subst h
      simp only [post] at ha hs
      obtain ⟨h0, hs⟩ := List.pairwise_cons.1 hs
      rcases List.mem_cons.1 ha with rfl | ha
      · exact ⟨a, by simp, .inl rfl⟩
      · rcases List.mem_append.1 ha with hb | hb
        · exact ⟨d, by simp, .inr (h0 a (by simp [hb]))⟩
        · obtain ⟨d', hd, hh⟩ := ih (srt_append.1 hs).2.1 rfl a hb
          exact ⟨d', by simp [hd], hh⟩
theorem xs_sub : ∀ (xs : List I) (ts : List (List I)), ts.length = xs.length + 1 → xs.Sublist (weave xs ts)
  | [], _, _ => List.nil_sublist _
  | x :: xs, [], h => by simp at h
  | x :: xs, [t], h => by simp at h
  | x :: xs, t :: u :: ts, h => by
    rw [weave_cons]
    exact (List.Sublist.cons_cons x (xs_sub xs (u :: ts) (by simpa using h))).trans (List.sublist_append_right _ _)
theorem srt_items {xs : List I} {ts : List (List I)} (hl : ts.length = xs.length + 1) (hs : Srt lt (weave xs ts)) : Srt lt xs := hs.sublist (xs_sub xs ts hl)

/-- What stands left and right of the child to which x belongs. -/
theorem around (o : Ord lt) {xs : List I} {ts : List (List I)} (hl : ts.length = xs.length + 1) (hs : Srt lt (weave xs ts)) {x : I} {m : List I} (hm : ts[pos lt xs x]? = some m) (hf : fnd lt xs x = none) :
    (∀ a ∈ pre (ts.take (pos lt xs x)) (xs.take (pos lt xs x)), lt a x = true) ∧ (∀ a ∈ post (xs.drop (pos lt xs x)) (ts.drop (pos lt xs x + 1)), lt x a = true) := by
  have hw := weave_at (pos_le xs x) hm
  rw [hw] at hs
  obtain ⟨h1, h2, _⟩ := srt_append.1 hs
  have h3 := (srt_append.1 h2).2.1
  refine ⟨fun a ha => ?_, fun a ha => ?_⟩
  · obtain ⟨c, hc, rfl | hh⟩ := pre_mem h1 rfl a ha
    · exact take_pos_lt a hc
    · exact o.tr _ _ _ hh (take_pos_lt c hc)
  · have hsx := srt_items hl (hw ▸ hs)
    have hd : ∀ d ∈ xs.drop (pos lt xs x), lt x d = true := by
      have := drop_fnd_gt o hsx (x := x)
      rw [hf] at this
      simpa using this
    obtain ⟨c, hc, rfl | hh⟩ := post_mem h3 rfl a ha
    · exact hd a hc
    · exact o.tr _ _ _ (hd c hc) hh

/-- x lies in the child. -/
theorem put_child (o : Ord lt) {xs : List I} {ts : List (List I)} (hl : ts.length = xs.length + 1) (hs : Srt lt (weave xs ts)) {x : I} {m : List I} (hm : ts[pos lt xs x]? = some m) (hf : fnd lt xs x = none) :
    put lt (weave xs ts) x = weave xs (ts.set (pos lt xs x) (put lt m x)) ∧ fnd lt (weave xs ts) x = fnd lt m x ∧ pos lt (weave xs ts) x = (pre (ts.take (pos lt xs x)) (xs.take (pos lt xs x))).length + pos lt m x ∧
      del lt (weave xs ts) x = weave xs (ts.set (pos lt xs x) (del lt m x)) := by
  obtain ⟨h1, h2⟩ := around o hl hs hm hf
  have hlt := (List.getElem?_eq_some_iff.1 hm).1
  have key : ∀ m', weave xs (ts.set (pos lt xs x) m') = pre (ts.take (pos lt xs x)) (xs.take (pos lt xs x)) ++ (m' ++ post (xs.drop (pos lt xs x)) (ts.drop (pos lt xs x + 1))) := by
    intro m'
    rw [weave_at (pos_le xs x) (m := m') (by rw [List.getElem?_set_self hlt])]
    rw [List.take_set_of_le (Nat.le_refl _), List.drop_set_of_lt (by omega)]
  rw [key, key, weave_at (pos_le xs x) hm]
  exact ⟨put_mid o h1 h2, fnd_mid o h1 h2, pos_mid o h1 h2, del_mid o h1 h2⟩

/-- x is the item at its place. -/
theorem put_here (o : Ord lt) {xs : List I} {ts : List (List I)} (hl : ts.length = xs.length + 1) (hs : Srt lt (weave xs ts)) {x y : I} (hf : fnd lt xs x = some y) :
    put lt (weave xs ts) x = weave (xs.set (pos lt xs x) x) ts ∧ fnd lt (weave xs ts) x = some y := by
  obtain ⟨hlt, hy, hxy⟩ := fnd_some_lt hf
  obtain ⟨m, hm⟩ : ∃ m, ts[pos lt xs x]? = some m := ⟨_, List.getElem?_eq_getElem (by omega)⟩
  obtain ⟨u, hu⟩ : ∃ u, ts[pos lt xs x + 1]? = some u := ⟨_, List.getElem?_eq_getElem (by omega)⟩
  have hyx : lt y x = false := by
    have := pos_spec o (srt_items hl hs) x _ y hy
    cases hq : lt y x with
    | false => rfl
    | true => have := this.2 hq; omega
  have e1 : weave xs ts = (pre (ts.take (pos lt xs x)) (xs.take (pos lt xs x)) ++ m) ++ ([y] ++ (u ++ post (xs.drop (pos lt xs x + 1)) (ts.drop (pos lt xs x + 2)))) := by
    rw [weave_at (pos_le xs x) hm, post_cons hy hu]; simp
  have e2 : weave (xs.set (pos lt xs x) x) ts = (pre (ts.take (pos lt xs x)) (xs.take (pos lt xs x)) ++ m) ++ ([x] ++ (u ++ post (xs.drop (pos lt xs x + 1)) (ts.drop (pos lt xs x + 2)))) := by
    rw [weave_at (xs := xs.set _ x) (by simpa using pos_le xs x) hm, post_cons (x := x) (by rw [List.getElem?_set_self hlt]) hu, List.take_set_of_le (Nat.le_refl _), List.drop_set_of_lt (by omega)]; simp
  rw [e1] at hs
  obtain ⟨g1, g2, g3⟩ := srt_append.1 hs
  have ha : ∀ a ∈ pre (ts.take (pos lt xs x)) (xs.take (pos lt xs x)) ++ m, lt a x = true := fun a hh => o.lt_of_lt_of_le (g3 a hh y (by simp)) hxy
  have hb : ∀ a ∈ u ++ post (xs.drop (pos lt xs x + 1)) (ts.drop (pos lt xs x + 2)), lt x a = true := fun a hh =>
    o.lt_of_le_of_lt hyx ((List.pairwise_cons.1 (show List.Pairwise _ (y :: (u ++ _)) from g2)).1 a hh)
  have hp1 : pos lt [y] x = 0 := by simp [pos, hyx]
  have hf1 : fnd lt [y] x = some y := by simp [fnd, hp1, hxy]
  rw [e2, e1]
  refine ⟨?_, ?_⟩
  · rw [put_mid o ha hb]
    congr 1
    simp [put, hp1, hf1]
  · rw [fnd_mid o ha hb]; exact hf1

/-- A child cut in two around an item. -/
theorem weave_cut {xs : List I} {ts : List (List I)} {i : Nat} {l r : List I} {m : I} (hi : i ≤ xs.length) (hm : ts[i]? = some (l ++ m :: r)) :
    weave (xs.take i ++ m :: xs.drop i) (ts.take i ++ l :: r :: ts.drop (i + 1)) = weave xs ts := by
  have hlt := (List.getElem?_eq_some_iff.1 hm).1
  rw [weave_at hi hm, weave_split _ _ _ _ _ (by simp; omega)]
  simp [post]
/-- A node cut in two around an item of its own. -/
theorem weave_two {xs : List I} {ts : List (List I)} {j : Nat} {m : I} (hl : ts.length = xs.length + 1) (hm : xs[j]? = some m) :
    weave xs ts = weave (xs.take j) (ts.take (j + 1)) ++ m :: weave (xs.drop (j + 1)) (ts.drop (j + 1)) := by
  have hj := (List.getElem?_eq_some_iff.1 hm).1
  obtain ⟨t, ht⟩ : ∃ t, ts[j]? = some t := ⟨_, List.getElem?_eq_getElem (by omega)⟩
  obtain ⟨u, hu⟩ : ∃ u, ts[j + 1]? = some u := ⟨_, List.getElem?_eq_getElem (by omega)⟩
  have htt : (ts.take (j + 1))[j]? = some t := by rw [List.getElem?_take, if_pos (by omega)]; exact ht
  have hud : ts.drop (j + 1) = u :: ts.drop (j + 2) := by
    obtain ⟨h1, h2⟩ := List.getElem?_eq_some_iff.1 hu
    rw [List.drop_eq_getElem_cons h1, h2]
  rw [weave_at (by omega) ht, post_cons hm hu, weave_at (xs := xs.take j) (by simp; omega) htt]
  have e1 : (ts.take (j + 1)).take j = ts.take j := by rw [List.take_take]; congr 1; omega
  have e2 : (xs.take j).take j = xs.take j := by rw [List.take_take]; congr 1; omega
  have e3 : (xs.take j).drop j = [] := by simp
  rw [e1, e2, e3, hud]
  simp [weave, post]

/-! ### Sizes -/
/-- How many items a node may hold, and its children's number. -/
def Val (mn mx : Nat) : (n : Nat) → BT I n → Prop
  | 0, xs => xs.length ≤ mx
  | n + 1, t => t.1.length ≤ mx ∧ t.2.length = t.1.length + 1 ∧ ∀ k ∈ t.2, Val mn mx n k ∧ mn ≤ (itemsB n k).length
theorem Val.items {mn mx : Nat} : ∀ {n : Nat} {t : BT I n}, Val mn mx n t → (itemsB n t).length ≤ mx
  | 0, _, h => h
  | _ + 1, _, h => h.1

/-- A node cut in two around its item j. -/
def cutL : (n : Nat) → BT I n → Nat → BT I n
  | 0, xs, j => xs.take j
  | _ + 1, t, j => (t.1.take j, t.2.take (j + 1))
def cutR : (n : Nat) → BT I n → Nat → BT I n
  | 0, xs, j => xs.drop (j + 1)
  | _ + 1, t, j => (t.1.drop (j + 1), t.2.drop (j + 1))
theorem cut_flat {mn mx : Nat} {m : I} : ∀ {n : Nat} {t : BT I n} {j : Nat}, Val mn mx n t → (itemsB n t)[j]? = some m → flatB n t = flatB n (cutL n t j) ++ m :: flatB n (cutR n t j)
  | 0, t, j, _, hm => by
    have hm' : (show List I from t)[j]? = some m := hm
    obtain ⟨h1, h2⟩ := List.getElem?_eq_some_iff.1 hm'
    show (show List I from t) = List.take j t ++ m :: List.drop (j + 1) t
    rw [← h2, ← List.drop_eq_getElem_cons h1, List.take_append_drop]
  | n + 1, t, j, hv, hm => by
    have hm' : t.1[j]? = some m := hm
    simp only [flatB, cutL, cutR]
    rw [weave_two (by simpa using hv.2.1) hm', List.map_take, List.map_drop]
theorem cut_val {mn mx : Nat} : ∀ {n : Nat} {t : BT I n} {j : Nat}, Val mn mx n t → j < (itemsB n t).length → Val mn mx n (cutL n t j) ∧ Val mn mx n (cutR n t j) ∧
    (itemsB n (cutL n t j)).length = j ∧ (itemsB n (cutR n t j)).length = (itemsB n t).length - (j + 1)
  | 0, t, j, hv, hj => by
    simp only [Val, cutL, cutR, itemsB] at *
    simp
    omega
  | n + 1, t, j, hv, hj => by
    obtain ⟨h1, h2, h3⟩ := hv
    simp only [Val, cutL, cutR, itemsB] at *
    refine ⟨⟨by simp; omega, by simp; omega, fun k hk => h3 k (List.mem_of_mem_take hk)⟩, ⟨by simp; omega, by simp; omega, fun k hk => h3 k (List.mem_of_mem_drop hk)⟩, by simp; omega, by simp⟩
end
end Go.Proofs.Ytkhpbcckaenmcaa
