/-
  Sorted lists and trees without a program; the heap; pieces of memory side by side; typed contracts; nodes. Conditions: none.
-/
import Derived.Test.YtegnpimlfphncaaDec
import Derived.KernelRfl
namespace Go.Proofs.Ytegnpimlfphncaa
structure Ord {I : Type} (lt : I → I → Bool) : Prop where
  irr : ∀ a, lt a a = false
  tr : ∀ a b c, lt a b = true → lt b c = true → lt a c = true
  neg : ∀ a b c, lt a b = false → lt b c = false → lt a c = false
section
variable {I : Type} {lt : I → I → Bool}
theorem Ord.asym (o : Ord lt) {a b : I} (h : lt a b = true) : lt b a = false := by
  cases hq : lt b a with
  | false => rfl
  | true => have := o.tr a b a h hq; rw [o.irr] at this; cases this
theorem Ord.lt_of_lt_of_le (o : Ord lt) {a b c : I} (h : lt a b = true) (g : lt c b = false) : lt a c = true := by
  cases hq : lt a c with
  | true => rfl
  | false => have := o.neg a c b hq g; rw [h] at this; cases this
theorem Ord.lt_of_le_of_lt (o : Ord lt) {a b c : I} (h : lt b a = false) (g : lt b c = true) : lt a c = true := by
  cases hq : lt a c with
  | true => rfl
  | false => have := o.neg b a c h hq; rw [g] at this; cases this
def Srt (lt : I → I → Bool) (l : List I) : Prop := l.Pairwise fun a b => lt a b = true
def pos (lt : I → I → Bool) (l : List I) (x : I) : Nat := (l.takeWhile fun a => lt a x).length
def fnd (lt : I → I → Bool) (l : List I) (x : I) : Option I := match l[pos lt l x]? with
  | some a => if lt x a then none else some a
  | none => none
def put (lt : I → I → Bool) (l : List I) (x : I) : List I := l.take (pos lt l x) ++ x :: l.drop (pos lt l x + if (fnd lt l x).isSome then 1 else 0)
def del (lt : I → I → Bool) (l : List I) (x : I) : List I := l.take (pos lt l x) ++ l.drop (pos lt l x + if (fnd lt l x).isSome then 1 else 0)
theorem pos_le (l : List I) (x : I) : pos lt l x ≤ l.length := by
  unfold pos; exact (List.takeWhile_sublist _).length_le
theorem takeWhile_append' {p : I → Bool} {l m : List I} (h : ∀ a ∈ l, p a = true) : (l ++ m).takeWhile p = l ++ m.takeWhile p := by
  induction l with
  | nil => rfl
  | cons a l ih => simp [h a (by simp), ih (fun b hb => h b (by simp [hb]))]
theorem pos_append {l m : List I} {x : I} (h : ∀ a ∈ l, lt a x = true) : pos lt (l ++ m) x = l.length + pos lt m x := by
  unfold pos; rw [takeWhile_append' h, List.length_append]
theorem pos_mid (o : Ord lt) {l m r : List I} {x : I} (h : ∀ a ∈ l, lt a x = true) (g : ∀ a ∈ r, lt x a = true) : pos lt (l ++ (m ++ r)) x = l.length + pos lt m x := by
  rw [pos_append h]
  congr 1
  unfold pos
  congr 1
  induction m with
  | nil =>
    cases r with
    | nil => rfl
    | cons b r => simp [o.asym (g b (by simp))]
  | cons a m ih =>
    simp only [List.cons_append, List.takeWhile_cons]
    split
    · rw [ih]
    · rfl
theorem fnd_mid (o : Ord lt) {l m r : List I} {x : I} (h : ∀ a ∈ l, lt a x = true) (g : ∀ a ∈ r, lt x a = true) : fnd lt (l ++ (m ++ r)) x = fnd lt m x := by
  unfold fnd
  rw [pos_mid o h g, List.getElem?_append_right (by omega), Nat.add_sub_cancel_left]
  rcases Nat.lt_or_ge (pos lt m x) m.length with hl | hl
  · rw [List.getElem?_append_left hl]
  · rw [List.getElem?_append_right hl, List.getElem?_eq_none hl]
    have : pos lt m x - m.length = 0 := by have := pos_le (lt := lt) m x; omega
    rw [this]
    cases r with
    | nil => rfl
    | cons b r => simp [g b (by simp)]
theorem fnd_some_lt {l : List I} {x a : I} (h : fnd lt l x = some a) : pos lt l x < l.length ∧ l[pos lt l x]? = some a ∧ lt x a = false := by
  unfold fnd at h
  split at h
  · rename_i b hb
    split at h
    · cases h
    · rename_i hlt
      have := Option.some.inj h; subst this
      exact ⟨(List.getElem?_eq_some_iff.1 hb).1, hb, by simpa using hlt⟩
  · cases h
theorem put_mid (o : Ord lt) {l m r : List I} {x : I} (h : ∀ a ∈ l, lt a x = true) (g : ∀ a ∈ r, lt x a = true) : put lt (l ++ (m ++ r)) x = l ++ (put lt m x ++ r) := by
  unfold put
  rw [pos_mid o h g, fnd_mid o h g]
  have hp := pos_le (lt := lt) m x
  have hp2 : pos lt m x + (if (fnd lt m x).isSome then 1 else 0) ≤ m.length := by
    cases hf : fnd lt m x with
    | none => simpa using hp
    | some a => have := (fnd_some_lt hf).1; simp; omega
  rw [List.take_length_add_append, Nat.add_assoc, List.drop_length_add_append, List.take_append_of_le_length hp, List.drop_append_of_le_length hp2]
  simp
theorem del_mid (o : Ord lt) {l m r : List I} {x : I} (h : ∀ a ∈ l, lt a x = true) (g : ∀ a ∈ r, lt x a = true) : del lt (l ++ (m ++ r)) x = l ++ (del lt m x ++ r) := by
  unfold del
  rw [pos_mid o h g, fnd_mid o h g]
  have hp := pos_le (lt := lt) m x
  have hp2 : pos lt m x + (if (fnd lt m x).isSome then 1 else 0) ≤ m.length := by
    cases hf : fnd lt m x with
    | none => simpa using hp
    | some a => have := (fnd_some_lt hf).1; simp; omega
  rw [List.take_length_add_append, Nat.add_assoc, List.drop_length_add_append, List.take_append_of_le_length hp, List.drop_append_of_le_length hp2]
  simp
theorem pos_spec (o : Ord lt) {l : List I} (hs : Srt lt l) (x : I) (i : Nat) (a : I) (ha : l[i]? = some a) : (i < pos lt l x ↔ lt a x = true) := by
  induction l generalizing i with
  | nil => simp at ha
  | cons b l ih =>
    have hs' := List.pairwise_cons.1 hs
    unfold pos
    simp only [List.takeWhile_cons]
    cases hb : lt b x with
    | false =>
      simp only [Bool.false_eq_true, if_false, List.length_nil, Nat.not_lt_zero, false_iff, Bool.not_eq_true]
      cases i with
      | zero => simp at ha; subst ha; exact hb
      | succ i =>
        have hm : a ∈ l := List.mem_of_getElem? (by simpa using ha)
        have h1 := hs'.1 a hm
        cases hq : lt a x with
        | false => rfl
        | true => have := o.tr b a x h1 hq; rw [hb] at this; cases this
    | true =>
      cases i with
      | zero => simp at ha; subst ha; simp [hb]
      | succ i =>
        have := ih hs'.2 i (by simpa using ha)
        simp only [if_true, List.length_cons, Nat.add_lt_add_iff_right]
        exact this
theorem srt_append {l m : List I} : Srt lt (l ++ m) ↔ Srt lt l ∧ Srt lt m ∧ ∀ a ∈ l, ∀ b ∈ m, lt a b = true := List.pairwise_append
theorem srt_take {l : List I} (hs : Srt lt l) (i : Nat) : Srt lt (l.take i) := hs.sublist (List.take_sublist i l)
theorem srt_drop {l : List I} (hs : Srt lt l) (i : Nat) : Srt lt (l.drop i) := hs.sublist (List.drop_sublist i l)
theorem take_takeWhile (p : I → Bool) (l : List I) : l.take (l.takeWhile p).length = l.takeWhile p := by
  induction l with
  | nil => rfl
  | cons b l ih => simp only [List.takeWhile_cons]; split <;> simp [ih]
theorem of_mem_takeWhile {p : I → Bool} {l : List I} {a : I} (h : a ∈ l.takeWhile p) : p a = true := by
  induction l with
  | nil => simp at h
  | cons b l ih =>
    simp only [List.takeWhile_cons] at h
    split at h
    · rcases List.mem_cons.1 h with rfl | h
      · assumption
      · exact ih h
    · simp at h
theorem take_pos_lt {l : List I} {x : I} : ∀ a ∈ l.take (pos lt l x), lt a x = true := by
  intro a ha
  unfold pos at ha
  rw [take_takeWhile] at ha
  exact of_mem_takeWhile (p := fun a => lt a x) ha
theorem drop_fnd_gt (o : Ord lt) {l : List I} (hs : Srt lt l) {x : I} : ∀ a ∈ l.drop (pos lt l x + if (fnd lt l x).isSome then 1 else 0), lt x a = true := by
  intro a ha
  obtain ⟨i, hi⟩ := List.mem_iff_getElem?.1 ha
  rw [List.getElem?_drop] at hi
  cases hf : fnd lt l x with
  | none =>
    simp only [hf, Option.isSome_none, Bool.false_eq_true, if_false, Nat.add_zero] at hi
    have hlen : pos lt l x < l.length := by have := (List.getElem?_eq_some_iff.1 hi).1; omega
    have hb := List.getElem?_eq_getElem hlen
    have hxb : lt x l[pos lt l x] = true := by
      unfold fnd at hf; rw [hb] at hf
      simp only at hf
      split at hf
      · assumption
      · cases hf
    cases i with
    | zero => rw [Nat.add_zero, hb] at hi; rw [← Option.some.inj hi]; exact hxb
    | succ i =>
      have hp := List.pairwise_iff_getElem.1 hs (pos lt l x) (pos lt l x + (i + 1)) hlen (List.getElem?_eq_some_iff.1 hi).1 (by omega)
      rw [(List.getElem?_eq_some_iff.1 hi).2] at hp
      exact o.tr _ _ _ hxb hp
  | some b =>
    simp only [hf, Option.isSome_some, if_true] at hi
    obtain ⟨hlen, hb, hxb⟩ := fnd_some_lt hf
    have hp := List.pairwise_iff_getElem.1 hs (pos lt l x) (pos lt l x + 1 + i) hlen (List.getElem?_eq_some_iff.1 hi).1 (by omega)
    rw [(List.getElem?_eq_some_iff.1 hi).2, (List.getElem?_eq_some_iff.1 hb).2] at hp
    have hbx : lt b x = false := by
      have := pos_spec o hs x _ b hb
      cases hq : lt b x with
      | false => rfl
      | true => have := this.2 hq; omega
    exact o.lt_of_le_of_lt hbx hp
theorem put_srt (o : Ord lt) {l : List I} (hs : Srt lt l) (x : I) : Srt lt (put lt l x) := by
  unfold put
  refine srt_append.2 ⟨srt_take hs _, List.pairwise_cons.2 ⟨drop_fnd_gt o hs, srt_drop hs _⟩, fun a ha b hb => ?_⟩
  have h1 := take_pos_lt a ha
  rcases List.mem_cons.1 hb with rfl | hb
  · exact h1
  · exact o.tr _ _ _ h1 (drop_fnd_gt o hs b hb)
theorem del_srt {l : List I} (hs : Srt lt l) (x : I) : Srt lt (del lt l x) := by
  refine List.Pairwise.sublist ?_ hs
  unfold del
  conv => rhs; rw [← List.take_append_drop (pos lt l x) l]
  refine List.Sublist.append (List.Sublist.refl _) ?_
  rw [show l.drop (pos lt l x + if (fnd lt l x).isSome then 1 else 0) = (l.drop (pos lt l x)).drop (if (fnd lt l x).isSome then 1 else 0) by rw [List.drop_drop]]
  exact List.drop_sublist _ _
end
end Go.Proofs.Ytegnpimlfphncaa
namespace Go.Proofs.Ytegnpimlfphncaa
@[reducible] def BT (I : Type) : Nat → Type
  | 0 => List I
  | n + 1 => List I × List (BT I n)
section
variable {I : Type} {lt : I → I → Bool}
def itemsB : (n : Nat) → BT I n → List I
  | 0, xs => xs
  | _ + 1, t => t.1
def post : List I → List (List I) → List I
  | x :: xs, t :: ts => x :: (t ++ post xs ts)
  | _, _ => []
def pre : List (List I) → List I → List I
  | t :: ts, x :: xs => t ++ x :: pre ts xs
  | _, _ => []
def weave (xs : List I) : List (List I) → List I
  | [] => []
  | t :: ts => t ++ post xs ts
def flatB : (n : Nat) → BT I n → List I
  | 0, xs => xs
  | n + 1, t => weave t.1 (t.2.map (flatB n))
theorem weave_cons (x : I) (xs : List I) (t u : List I) (ts : List (List I)) : weave (x :: xs) (t :: u :: ts) = t ++ x :: weave xs (u :: ts) := rfl
theorem weave_split : ∀ (A : List (List I)) (C D : List I) (m : List I) (B : List (List I)), A.length = C.length → weave (C ++ D) (A ++ m :: B) = pre A C ++ (m ++ post D B)
  | [], [], D, m, B, _ => rfl
  | a :: A, c :: C, D, m, B, h => by
    have ih := weave_split A C D m B (by simpa using h)
    cases A with
    | nil =>
      cases C with
      | nil => simp [weave, pre, post]
      | cons c' C => simp at h
    | cons a' A =>
      simp only [List.cons_append, weave_cons, pre, List.append_assoc]
      simp only [List.cons_append] at ih
      rw [ih]
theorem weave_at {xs : List I} {ts : List (List I)} {i : Nat} {m : List I} (hi : i ≤ xs.length) (hm : ts[i]? = some m) :
    weave xs ts = pre (ts.take i) (xs.take i) ++ (m ++ post (xs.drop i) (ts.drop (i + 1))) := by
  obtain ⟨hlt, he⟩ := List.getElem?_eq_some_iff.1 hm
  conv => lhs; rw [← List.take_append_drop i xs, ← List.take_append_drop i ts, List.drop_eq_getElem_cons hlt, he]
  exact weave_split _ _ _ _ _ (by simp; omega)
theorem post_cons {xs : List I} {ts : List (List I)} {x : I} {t : List I} {i j : Nat} (hx : xs[i]? = some x) (ht : ts[j]? = some t) :
    post (xs.drop i) (ts.drop j) = x :: (t ++ post (xs.drop (i + 1)) (ts.drop (j + 1))) := by
  obtain ⟨h1, e1⟩ := List.getElem?_eq_some_iff.1 hx
  obtain ⟨h2, e2⟩ := List.getElem?_eq_some_iff.1 ht
  rw [List.drop_eq_getElem_cons h1, List.drop_eq_getElem_cons h2, e1, e2]
  rfl
theorem pre_mem {l : List I} (hs : Srt lt l) : ∀ {A : List (List I)} {C : List I}, l = pre A C → ∀ a ∈ l, ∃ c ∈ C, a = c ∨ lt a c = true := by
  intro A
  induction A generalizing l with
  | nil => intro C h a ha; subst h; simp [pre] at ha
  | cons t A ih =>
    intro C h a ha
    cases C with
    | nil => subst h; simp [pre] at ha
    | cons c C =>
      subst h
      simp only [pre] at ha hs
      obtain ⟨h1, h2, h3⟩ := srt_append.1 hs
      rcases List.mem_append.1 ha with ha | ha
      · exact ⟨c, by simp, .inr (h3 a ha c (by simp))⟩
      · rcases List.mem_cons.1 ha with rfl | ha
        · exact ⟨a, by simp, .inl rfl⟩
        · obtain ⟨c', hc, hh⟩ := ih (List.pairwise_cons.1 h2).2 rfl a ha
          exact ⟨c', by simp [hc], hh⟩
theorem post_mem {l : List I} (hs : Srt lt l) : ∀ {D : List I} {B : List (List I)}, l = post D B → ∀ a ∈ l, ∃ d ∈ D, a = d ∨ lt d a = true := by
  intro D
  induction D generalizing l with
  | nil => intro B h a ha; subst h; simp [post] at ha
  | cons d D ih =>
    intro B h a ha
    cases B with
    | nil => subst h; simp [post] at ha
    | cons b B =>
      subst h
      simp only [post] at ha hs
      obtain ⟨h0, hs⟩ := List.pairwise_cons.1 hs
      rcases List.mem_cons.1 ha with rfl | ha
      · exact ⟨a, by simp, .inl rfl⟩
      · rcases List.mem_append.1 ha with hb | hb
        · exact ⟨d, by simp, .inr (h0 a (by simp [hb]))⟩
        · obtain ⟨d', hd, hh⟩ := ih (srt_append.1 hs).2.1 rfl a hb
          exact ⟨d', by simp [hd], hh⟩
theorem xs_sub : ∀ (xs : List I) (ts : List (List I)), ts.length = xs.length + 1 → xs.Sublist (weave xs ts)
  | [], _, _ => List.nil_sublist _
  | x :: xs, [], h => by simp at h
  | x :: xs, [t], h => by simp at h
  | x :: xs, t :: u :: ts, h => by
    rw [weave_cons]
    exact (List.Sublist.cons_cons x (xs_sub xs (u :: ts) (by simpa using h))).trans (List.sublist_append_right _ _)
theorem srt_items {xs : List I} {ts : List (List I)} (hl : ts.length = xs.length + 1) (hs : Srt lt (weave xs ts)) : Srt lt xs := hs.sublist (xs_sub xs ts hl)
theorem around (o : Ord lt) {xs : List I} {ts : List (List I)} (hl : ts.length = xs.length + 1) (hs : Srt lt (weave xs ts)) {x : I} {m : List I} (hm : ts[pos lt xs x]? = some m) (hf : fnd lt xs x = none) :
    (∀ a ∈ pre (ts.take (pos lt xs x)) (xs.take (pos lt xs x)), lt a x = true) ∧ (∀ a ∈ post (xs.drop (pos lt xs x)) (ts.drop (pos lt xs x + 1)), lt x a = true) := by
  have hw := weave_at (pos_le xs x) hm
  rw [hw] at hs
  obtain ⟨h1, h2, _⟩ := srt_append.1 hs
  have h3 := (srt_append.1 h2).2.1
  refine ⟨fun a ha => ?_, fun a ha => ?_⟩
  · obtain ⟨c, hc, rfl | hh⟩ := pre_mem h1 rfl a ha
    · exact take_pos_lt a hc
    · exact o.tr _ _ _ hh (take_pos_lt c hc)
  · have hsx := srt_items hl (hw ▸ hs)
    have hd : ∀ d ∈ xs.drop (pos lt xs x), lt x d = true := by
      have := drop_fnd_gt o hsx (x := x)
      rw [hf] at this
      simpa using this
    obtain ⟨c, hc, rfl | hh⟩ := post_mem h3 rfl a ha
    · exact hd a hc
    · exact o.tr _ _ _ (hd c hc) hh
theorem put_child (o : Ord lt) {xs : List I} {ts : List (List I)} (hl : ts.length = xs.length + 1) (hs : Srt lt (weave xs ts)) {x : I} {m : List I} (hm : ts[pos lt xs x]? = some m) (hf : fnd lt xs x = none) :
    put lt (weave xs ts) x = weave xs (ts.set (pos lt xs x) (put lt m x)) ∧ fnd lt (weave xs ts) x = fnd lt m x ∧ pos lt (weave xs ts) x = (pre (ts.take (pos lt xs x)) (xs.take (pos lt xs x))).length + pos lt m x ∧
      del lt (weave xs ts) x = weave xs (ts.set (pos lt xs x) (del lt m x)) := by
  obtain ⟨h1, h2⟩ := around o hl hs hm hf
  have hlt := (List.getElem?_eq_some_iff.1 hm).1
  have key : ∀ m', weave xs (ts.set (pos lt xs x) m') = pre (ts.take (pos lt xs x)) (xs.take (pos lt xs x)) ++ (m' ++ post (xs.drop (pos lt xs x)) (ts.drop (pos lt xs x + 1))) := by
    intro m'
    rw [weave_at (pos_le xs x) (m := m') (by rw [List.getElem?_set_self hlt])]
    rw [List.take_set_of_le (Nat.le_refl _), List.drop_set_of_lt (by omega)]
  rw [key, key, weave_at (pos_le xs x) hm]
  exact ⟨put_mid o h1 h2, fnd_mid o h1 h2, pos_mid o h1 h2, del_mid o h1 h2⟩
theorem put_here (o : Ord lt) {xs : List I} {ts : List (List I)} (hl : ts.length = xs.length + 1) (hs : Srt lt (weave xs ts)) {x y : I} (hf : fnd lt xs x = some y) :
    put lt (weave xs ts) x = weave (xs.set (pos lt xs x) x) ts ∧ fnd lt (weave xs ts) x = some y := by
  obtain ⟨hlt, hy, hxy⟩ := fnd_some_lt hf
  obtain ⟨m, hm⟩ : ∃ m, ts[pos lt xs x]? = some m := ⟨_, List.getElem?_eq_getElem (by omega)⟩
  obtain ⟨u, hu⟩ : ∃ u, ts[pos lt xs x + 1]? = some u := ⟨_, List.getElem?_eq_getElem (by omega)⟩
  have hyx : lt y x = false := by
    have := pos_spec o (srt_items hl hs) x _ y hy
    cases hq : lt y x with
    | false => rfl
    | true => have := this.2 hq; omega
  have e1 : weave xs ts = (pre (ts.take (pos lt xs x)) (xs.take (pos lt xs x)) ++ m) ++ ([y] ++ (u ++ post (xs.drop (pos lt xs x + 1)) (ts.drop (pos lt xs x + 2)))) := by
    rw [weave_at (pos_le xs x) hm, post_cons hy hu]; simp
  have e2 : weave (xs.set (pos lt xs x) x) ts = (pre (ts.take (pos lt xs x)) (xs.take (pos lt xs x)) ++ m) ++ ([x] ++ (u ++ post (xs.drop (pos lt xs x + 1)) (ts.drop (pos lt xs x + 2)))) := by
    rw [weave_at (xs := xs.set _ x) (by simpa using pos_le xs x) hm, post_cons (x := x) (by rw [List.getElem?_set_self hlt]) hu, List.take_set_of_le (Nat.le_refl _), List.drop_set_of_lt (by omega)]; simp
  rw [e1] at hs
  obtain ⟨g1, g2, g3⟩ := srt_append.1 hs
  have ha : ∀ a ∈ pre (ts.take (pos lt xs x)) (xs.take (pos lt xs x)) ++ m, lt a x = true := fun a hh => o.lt_of_lt_of_le (g3 a hh y (by simp)) hxy
  have hb : ∀ a ∈ u ++ post (xs.drop (pos lt xs x + 1)) (ts.drop (pos lt xs x + 2)), lt x a = true := fun a hh =>
    o.lt_of_le_of_lt hyx ((List.pairwise_cons.1 (show List.Pairwise _ (y :: (u ++ _)) from g2)).1 a hh)
  have hp1 : pos lt [y] x = 0 := by simp [pos, hyx]
  have hf1 : fnd lt [y] x = some y := by simp [fnd, hp1, hxy]
  rw [e2, e1]
  refine ⟨?_, ?_⟩
  · rw [put_mid o ha hb]
    congr 1
    simp [put, hp1, hf1]
  · rw [fnd_mid o ha hb]; exact hf1
theorem weave_two {xs : List I} {ts : List (List I)} {j : Nat} {m : I} (hl : ts.length = xs.length + 1) (hm : xs[j]? = some m) :
    weave xs ts = weave (xs.take j) (ts.take (j + 1)) ++ m :: weave (xs.drop (j + 1)) (ts.drop (j + 1)) := by
  have hj := (List.getElem?_eq_some_iff.1 hm).1
  obtain ⟨t, ht⟩ : ∃ t, ts[j]? = some t := ⟨_, List.getElem?_eq_getElem (by omega)⟩
  obtain ⟨u, hu⟩ : ∃ u, ts[j + 1]? = some u := ⟨_, List.getElem?_eq_getElem (by omega)⟩
  have htt : (ts.take (j + 1))[j]? = some t := by rw [List.getElem?_take, if_pos (by omega)]; exact ht
  have hud : ts.drop (j + 1) = u :: ts.drop (j + 2) := by
    obtain ⟨h1, h2⟩ := List.getElem?_eq_some_iff.1 hu
    rw [List.drop_eq_getElem_cons h1, h2]
  rw [weave_at (by omega) ht, post_cons hm hu, weave_at (xs := xs.take j) (by simp; omega) htt]
  have e1 : (ts.take (j + 1)).take j = ts.take j := by rw [List.take_take]; congr 1; omega
  have e2 : (xs.take j).take j = xs.take j := by rw [List.take_take]; congr 1; omega
  have e3 : (xs.take j).drop j = [] := by simp
  rw [e1, e2, e3, hud]
  simp [weave, post]
def Val (mn mx : Nat) : (n : Nat) → BT I n → Prop
  | 0, xs => xs.length ≤ mx
  | n + 1, t => t.1.length ≤ mx ∧ t.2.length = t.1.length + 1 ∧ ∀ k ∈ t.2, Val mn mx n k ∧ mn ≤ (itemsB n k).length
theorem Val.items {mn mx : Nat} : ∀ {n : Nat} {t : BT I n}, Val mn mx n t → (itemsB n t).length ≤ mx
  | 0, _, h => h
  | _ + 1, _, h => h.1
def cutL : (n : Nat) → BT I n → Nat → BT I n
  | 0, xs, j => xs.take j
  | _ + 1, t, j => (t.1.take j, t.2.take (j + 1))
def cutR : (n : Nat) → BT I n → Nat → BT I n
  | 0, xs, j => xs.drop (j + 1)
  | _ + 1, t, j => (t.1.drop (j + 1), t.2.drop (j + 1))
theorem cut_flat {mn mx : Nat} {m : I} : ∀ {n : Nat} {t : BT I n} {j : Nat}, Val mn mx n t → (itemsB n t)[j]? = some m → flatB n t = flatB n (cutL n t j) ++ m :: flatB n (cutR n t j)
  | 0, t, j, _, hm => by
    have hm' : (show List I from t)[j]? = some m := hm
    obtain ⟨h1, h2⟩ := List.getElem?_eq_some_iff.1 hm'
    show (show List I from t) = List.take j t ++ m :: List.drop (j + 1) t
    rw [← h2, ← List.drop_eq_getElem_cons h1, List.take_append_drop]
  | n + 1, t, j, hv, hm => by
    have hm' : t.1[j]? = some m := hm
    simp only [flatB, cutL, cutR]
    rw [weave_two (by simpa using hv.2.1) hm', List.map_take, List.map_drop]
theorem cut_val {mn mx : Nat} : ∀ {n : Nat} {t : BT I n} {j : Nat}, Val mn mx n t → j < (itemsB n t).length → Val mn mx n (cutL n t j) ∧ Val mn mx n (cutR n t j) ∧
    (itemsB n (cutL n t j)).length = j ∧ (itemsB n (cutR n t j)).length = (itemsB n t).length - (j + 1)
  | 0, t, j, hv, hj => by
    simp only [Val, cutL, cutR, itemsB] at *
    simp
    omega
  | n + 1, t, j, hv, hj => by
    obtain ⟨h1, h2, h3⟩ := hv
    simp only [Val, cutL, cutR, itemsB] at *
    refine ⟨⟨by simp; omega, by simp; omega, fun k hk => h3 k (List.mem_of_mem_take hk)⟩, ⟨by simp; omega, by simp; omega, fun k hk => h3 k (List.mem_of_mem_drop hk)⟩, by simp; omega, by simp⟩
end
end Go.Proofs.Ytegnpimlfphncaa
namespace Go.Proofs.Ytegnpimlfphncaa
section
variable {I : Type} {lt : I → I → Bool}
theorem weave_app {x : I} : ∀ {l1 : List I} {l2 : List (List I)} {r1 : List I} {r2 : List (List I)}, l2.length = l1.length + 1 → 0 < r2.length → weave (l1 ++ x :: r1) (l2 ++ r2) = weave l1 l2 ++ x :: weave r1 r2
  | [], [t], r1, u :: r2, _, _ => by simp [weave, post]
  | [], [], _, _, h, _ => by simp at h
  | [], _ :: _ :: _, _, _, h, _ => by simp at h
  | _, _, _, [], _, h => by simp at h
  | a :: l1, [], _, _ :: _, h, _ => by simp at h
  | a :: l1, [t], _, _ :: _, h, _ => by simp at h
  | a :: l1, t :: u :: l2, r1, v :: r2, h, hr => by
    have ih := weave_app (x := x) (l1 := l1) (l2 := u :: l2) (r1 := r1) (r2 := v :: r2) (by simpa using h) hr
    simp only [List.cons_append, weave_cons] at ih ⊢
    rw [ih]; simp
theorem weave_mid {A C : List I} {x : I} {B D : List (List I)} {tl tr : List I} (h : B.length = A.length) : weave (A ++ x :: C) (B ++ tl :: tr :: D) = pre B A ++ (tl ++ x :: (tr ++ post C D)) := by
  rw [weave_split _ _ _ _ _ h]; rfl
theorem weave_one {A C : List I} {B D : List (List I)} {t : List I} (h : B.length = A.length) : weave (A ++ C) (B ++ t :: D) = pre B A ++ (t ++ post C D) := weave_split _ _ _ _ _ h
def joinB : (n : Nat) → BT I n → I → BT I n → BT I n
  | 0, l, x, r => (l ++ x :: r : List I)
  | _ + 1, l, x, r => (l.1 ++ x :: r.1, l.2 ++ r.2)
theorem joinB_items : ∀ (n : Nat) (l : BT I n) (x : I) (r : BT I n), itemsB n (joinB n l x r) = itemsB n l ++ x :: itemsB n r
  | 0, _, _, _ => rfl
  | _ + 1, _, _, _ => rfl
theorem joinB_flat {mn mx : Nat} : ∀ {n : Nat} {l : BT I n} {x : I} {r : BT I n}, Val mn mx n l → Val mn mx n r → flatB n (joinB n l x r) = flatB n l ++ x :: flatB n r
  | 0, _, _, _, _, _ => rfl
  | n + 1, l, x, r, hl, hr => by
    simp only [joinB, flatB, List.map_append]
    exact weave_app (by simpa using hl.2.1) (by have := hr.2.1; simp; omega)
theorem joinB_val {mn mx : Nat} : ∀ {n : Nat} {l : BT I n} {x : I} {r : BT I n}, Val mn mx n l → Val mn mx n r → (itemsB n l).length + (itemsB n r).length < mx → Val mn mx n (joinB n l x r)
  | 0, l, x, r, _, _, h => by
    simp only [Val, joinB, itemsB] at *
    simp; omega
  | n + 1, l, x, r, hl, hr, h => by
    simp only [Val, joinB, itemsB] at *
    refine ⟨by simp; omega, by simp; omega, fun k hk => ?_⟩
    rcases List.mem_append.1 hk with hk | hk
    · exact hl.2.2 k hk
    · exact hr.2.2 k hk
theorem weave_len : ∀ {xs : List I} {ts : List (List I)}, ts.length = xs.length + 1 → (weave xs ts).length = xs.length + (ts.map List.length).sum
  | [], [t], _ => by simp [weave, post]
  | [], _ :: _ :: _, h => by simp at h
  | _, [], h => by simp at h
  | x :: xs, [t], h => by simp at h
  | x :: xs, t :: u :: ts, h => by
    rw [weave_cons, List.length_append, List.length_cons, weave_len (xs := xs) (ts := u :: ts) (by simpa using h)]
    simp only [List.map_cons, List.sum_cons, List.length_cons]
    omega
theorem flatB_len {n : Nat} {t : BT I (n + 1)} (hl : t.2.length = t.1.length + 1) : (flatB (n + 1) t).length = t.1.length + (t.2.map (fun u => (flatB n u).length)).sum := by
  simp only [flatB]
  rw [weave_len (by simpa using hl), List.map_map]; rfl
def popB : (n : Nat) → BT I n → BT I n
  | 0, l => (List.dropLast l : List I)
  | _ + 1, l => (l.1.dropLast, l.2.dropLast)
def pushB : (n : Nat) → BT I n → I → BT I n → BT I n
  | 0, _, x, r => (x :: r : List I)
  | _ + 1, l, x, r => (x :: r.1, (match l.2.getLast? with | some c => c :: r.2 | none => r.2))
theorem snoc_of {α : Type} {l : List α} (h : 0 < l.length) : ∃ a y, l = a ++ [y] := by
  obtain ⟨a, y, e⟩ := List.eq_nil_or_concat l |>.resolve_left (fun e => by subst e; simp at h)
  exact ⟨a, y, by simpa using e⟩
theorem popB_items : ∀ (n : Nat) (l : BT I n), itemsB n (popB n l) = (itemsB n l).dropLast
  | 0, _ => rfl
  | _ + 1, _ => rfl
theorem pushB_items : ∀ (n : Nat) (l : BT I n) (x : I) (r : BT I n), itemsB n (pushB n l x r) = x :: itemsB n r
  | 0, _, _, _ => rfl
  | _ + 1, _, _, _ => rfl
theorem popB_flat {mn mx : Nat} : ∀ {n : Nat} {l : BT I n} {x y : I} {r : BT I n}, Val mn mx n l → Val mn mx n r → (itemsB n l).getLast? = some y →
    flatB n (popB n l) ++ y :: flatB n (pushB n l x r) = flatB n l ++ x :: flatB n r ∧ Val mn mx n (popB n l) ∧ ((itemsB n r).length < mx → Val mn mx n (pushB n l x r)) ∧
      (itemsB n (popB n l)).length + 1 = (itemsB n l).length ∧ (itemsB n (pushB n l x r)).length = (itemsB n r).length + 1
  | 0, l, x, y, r, hl, hr, hy => by
    have hy' : (show List I from l).getLast? = some y := hy
    obtain ⟨a, z, e⟩ := snoc_of (l := (show List I from l)) (by cases hq : (show List I from l) with | nil => rw [hq] at hy'; simp at hy' | cons => simp)
    have e' : l = a ++ [z] := e
    subst e'
    simp at hy'; subst hy'
    simp only [Val, popB, pushB, itemsB, flatB] at *
    refine ⟨by simp, by simp at hl ⊢; omega, fun h => by simp; omega, by simp, by simp⟩
  | n + 1, (lx, lk), x, y, (rx, rk), hl, hr, hy => by
    have hy' : lx.getLast? = some y := hy
    have hlk : lk.length = lx.length + 1 := hl.2.1
    have hrk : rk.length = rx.length + 1 := hr.2.1
    obtain ⟨a, z, rfl⟩ := snoc_of (l := lx) (by cases lx with | nil => simp at hy' | cons => simp)
    obtain ⟨b, c, rfl⟩ := snoc_of (l := lk) (by omega)
    simp at hy'; subst hy'
    have hbl : b.length = a.length + 1 := by simp at hlk; omega
    obtain ⟨hl1, hl2, hl3⟩ := hl
    obtain ⟨hr1, hr2, hr3⟩ := hr
    have hlast : ((b ++ [c]) : List (BT I n)).getLast? = some c := by simp
    simp only [popB, pushB, itemsB, flatB, hlast, List.map_append, List.map_cons, List.map_nil, List.dropLast_concat]
    refine ⟨?_, ⟨by simp at hl1; simp; omega, by simp; omega, fun k hk => hl3 k (by simp at hk ⊢; exact .inl hk)⟩, fun h => ⟨by simp at h ⊢; omega, by simp; omega, fun k hk => ?_⟩, by simp, by simp⟩
    · rw [weave_app (by simp; omega) (by simp)]
      match rk, hrk with
      | u :: rk, _ => simp [weave, post]
    · rcases List.mem_cons.1 hk with rfl | hk
      · exact hl3 _ (by simp)
      · exact hr3 k hk
def tailB : (n : Nat) → BT I n → BT I n
  | 0, r => (List.tail r : List I)
  | _ + 1, r => (r.1.tail, r.2.tail)
def snocB : (n : Nat) → BT I n → I → BT I n → BT I n
  | 0, l, x, _ => (l ++ [x] : List I)
  | _ + 1, l, x, r => (l.1 ++ [x], (match r.2.head? with | some c => l.2 ++ [c] | none => l.2))
theorem tailB_items : ∀ (n : Nat) (l : BT I n), itemsB n (tailB n l) = (itemsB n l).tail
  | 0, _ => rfl
  | _ + 1, _ => rfl
theorem snocB_items : ∀ (n : Nat) (l : BT I n) (x : I) (r : BT I n), itemsB n (snocB n l x r) = itemsB n l ++ [x]
  | 0, _, _, _ => rfl
  | _ + 1, _, _, _ => rfl
theorem tailB_flat {mn mx : Nat} : ∀ {n : Nat} {l : BT I n} {x y : I} {r : BT I n}, Val mn mx n l → Val mn mx n r → (itemsB n r)[0]? = some y →
    flatB n (snocB n l x r) ++ y :: flatB n (tailB n r) = flatB n l ++ x :: flatB n r ∧ Val mn mx n (tailB n r) ∧ ((itemsB n l).length < mx → Val mn mx n (snocB n l x r)) ∧
      (itemsB n (tailB n r)).length + 1 = (itemsB n r).length ∧ (itemsB n (snocB n l x r)).length = (itemsB n l).length + 1
  | 0, l, x, y, r, hl, hr, hy => by
    match r, hy with
    | z :: r, hy =>
      have hy' : z = y := by simpa [itemsB] using hy
      subst hy'
      simp only [Val, tailB, snocB, itemsB, flatB] at *
      refine ⟨by simp, by simp at hr ⊢; omega, fun h => by simp; omega, by simp, by simp⟩
  | n + 1, (lx, lk), x, y, (rx, rk), hl, hr, hy => by
    have hlk : lk.length = lx.length + 1 := hl.2.1
    have hrk : rk.length = rx.length + 1 := hr.2.1
    match rx, rk, hy, hrk with
    | z :: rx, c :: u :: rk, hy, hrk =>
      have hy' : z = y := by simpa [itemsB] using hy
      subst hy'
      obtain ⟨hl1, hl2, hl3⟩ := hl
      obtain ⟨hr1, hr2, hr3⟩ := hr
      simp only [tailB, snocB, itemsB, flatB, List.head?_cons, List.map_append, List.map_cons, List.map_nil, List.tail_cons]
      refine ⟨?_, ⟨by have : rx.length + 1 ≤ mx := hr1; show rx.length ≤ mx; omega, by have : rk.length + 1 + 1 = rx.length + 1 + 1 := hrk; show rk.length + 1 = rx.length + 1; omega, fun k hk => hr3 k (by simp at hk ⊢; exact .inr hk)⟩, fun h => ⟨by simp at h ⊢; omega, by simp; omega, fun k hk => ?_⟩, by simp, by simp⟩
      · rw [weave_app (by simp; omega) (by simp), weave_cons]; simp [weave, post]
      · rcases List.mem_append.1 hk with hk | hk
        · exact hl3 k hk
        · simp at hk; subst hk; exact hr3 _ (by simp)
theorem del_here (o : Ord lt) {A C : List I} {B D : List (List I)} {m u : List I} {x y z : I} (hl : B.length = A.length) (hs : Srt lt (weave (A ++ y :: C) (B ++ m :: u :: D))) (hxy : lt x y = false) (hyx : lt y x = false) (hz : m.getLast? = some z) :
    del lt (weave (A ++ y :: C) (B ++ m :: u :: D)) x = weave (A ++ z :: C) (B ++ m.dropLast :: u :: D) ∧ fnd lt (weave (A ++ y :: C) (B ++ m :: u :: D)) x = some y := by
  rw [weave_mid hl, weave_mid hl]
  rw [weave_mid hl] at hs
  have e1 : pre B A ++ (m ++ y :: (u ++ post C D)) = (pre B A ++ m) ++ ([y] ++ (u ++ post C D)) := by simp
  rw [e1] at hs ⊢
  obtain ⟨h1, h2, h3⟩ := srt_append.1 hs
  have g1 : ∀ a ∈ pre B A ++ m, lt a x = true := fun a ha => o.lt_of_lt_of_le (h3 a ha y (by simp)) hxy
  have g2 : ∀ a ∈ u ++ post C D, lt x a = true := fun a ha => o.lt_of_le_of_lt hyx ((srt_append.1 h2).2.2 y (by simp) a ha)
  have hp : pos lt [y] x = 0 := by simp [pos, hyx]
  have hf : fnd lt [y] x = some y := by simp [fnd, hp, hxy]
  refine ⟨?_, by rw [fnd_mid o g1 g2]; exact hf⟩
  rw [del_mid o g1 g2]
  have hd : del lt [y] x = [] := by simp [del, hf, hp]
  rw [hd]
  obtain ⟨a, w, rfl⟩ := snoc_of (l := m) (by cases m with | nil => simp at hz | cons => simp)
  simp at hz; subst hz
  simp
theorem weave_last {xs : List I} {B : List (List I)} {l : List I} (h : B.length = xs.length) : weave xs (B ++ [l]) = pre B xs ++ l := by
  have := weave_split B xs [] l [] h
  simp only [List.append_nil, post] at this
  exact this
theorem items_le {mn mx : Nat} : ∀ {n : Nat} {t : BT I n}, Val mn mx n t → (itemsB n t).length ≤ (flatB n t).length
  | 0, _, _ => Nat.le_refl _
  | n + 1, t, hv => by
    rw [flatB_len hv.2.1]
    show t.1.length ≤ _
    omega
theorem kids_put {mn mx n i : Nat} {B D : List (BT I n)} {u u' : BT I n} (hk : ∀ w ∈ B ++ u :: D, Val mn mx n w ∧ mn ≤ (itemsB n w).length) (hu : Val mn mx n u') (hl : mn ≤ (itemsB n u').length + 1) (hB : B.length = i) :
    ∀ j w, (B ++ u' :: D)[j]? = some w → Val mn mx n w ∧ (if j = i then mn ≤ (itemsB n w).length + 1 else mn ≤ (itemsB n w).length) := by
  intro j w hw
  by_cases hj : j = i
  · subst hj; subst hB
    rw [List.getElem?_append_right (Nat.le_refl _), Nat.sub_self] at hw
    obtain rfl : u' = w := by simpa using hw
    rw [if_pos rfl]; exact ⟨hu, hl⟩
  · rw [if_neg hj]
    refine hk w ?_
    rcases Nat.lt_or_ge j B.length with h | h
    · rw [List.getElem?_append_left h] at hw
      exact List.mem_append.2 (.inl (List.mem_iff_getElem?.2 ⟨j, hw⟩))
    · rw [List.getElem?_append_right h, show j - B.length = (j - B.length - 1) + 1 by omega, List.getElem?_cons_succ] at hw
      exact List.mem_append.2 (.inr (List.mem_cons_of_mem _ (List.mem_iff_getElem?.2 ⟨_, hw⟩)))
end
end Go.Proofs.Ytegnpimlfphncaa
namespace Go.Proofs.Ytegnpimlfphncaa
open Go
theorem rd_lt {h : H} {a : PA} {v : Value} (hr : rd h a = some v) : a.1 < h.size := by
  unfold rd at hr
  split at hr
  · rename_i c e f hb
    exact (Array.getElem?_eq_some_iff.1 hb).1
  · cases hr
theorem size_wr (h : H) (a : PA) (v : Value) : (wr h a v).size = h.size := by simp [wr]
theorem rd_wr_self {h : H} {a : PA} (v : Value) (hs : (rd h a).isSome = true) : rd (wr h a v) a = some v := by
  unfold rd at hs
  unfold rd wr
  simp only [Array.getElem?_modify, if_true]
  split at hs
  · rename_i c e f hb
    simp only [hb, Option.map_some]
    have : a.2 < c.size := by
      rcases Nat.lt_or_ge a.2 c.size with h1 | h1
      · exact h1
      · simp [Array.getElem?_eq_none h1] at hs
    rw [Array.getElem?_setIfInBounds_self_of_lt this]
  · cases hs
theorem rd_wr_ne {h : H} {a b : PA} (v : Value) (hne : b ≠ a) : rd (wr h a v) b = rd h b := by
  unfold rd wr
  by_cases hb : b.1 = a.1
  · have h2 : a.2 ≠ b.2 := fun h2 => hne (by ext <;> simp_all)
    rw [hb]
    simp only [Array.getElem?_modify, if_true]
    cases hq : h[a.1]? with
    | none => rfl
    | some ob => cases ob <;> simp; rw [Array.getElem?_setIfInBounds_ne h2]
  · simp only [Array.getElem?_modify, if_neg (Ne.symm hb)]
theorem fz_wr (h : H) (a b : PA) (v : Value) : fz (wr h a v) b = fz h b := by
  unfold fz wr
  by_cases hb : b.1 = a.1
  · rw [hb]
    simp only [Array.getElem?_modify, if_true]
    cases hq : h[a.1]? with
    | none => rfl
    | some ob => cases ob <;> simp
  · simp only [Array.getElem?_modify, if_neg (Ne.symm hb)]
theorem blk_wr {h : H} {a : PA} {b : Nat} (v : Value) (hne : b ≠ a.1) : (wr h a v)[b]? = h[b]? := by
  unfold wr
  simp only [Array.getElem?_modify, if_neg (Ne.symm hne)]
theorem size_new (h : H) (t : TypeId) (vs : List Value) : (newCells h t vs).size = h.size + 1 := by simp [newCells]
theorem rd_new_old {h : H} {a : PA} (t : TypeId) (vs : List Value) (ha : a.1 < h.size) : rd (newCells h t vs) a = rd h a := by
  unfold rd newCells
  rw [Array.getElem?_push_lt ha, Array.getElem?_eq_getElem ha]
theorem rd_new_self (h : H) (t : TypeId) (vs : List Value) (i : Nat) : rd (newCells h t vs) (h.size, i) = vs[i]? := by
  unfold rd newCells
  simp
theorem fz_new_old {h : H} {a : PA} (t : TypeId) (vs : List Value) (ha : a.1 < h.size) : fz (newCells h t vs) a = fz h a := by
  unfold fz newCells
  rw [Array.getElem?_push_lt ha, Array.getElem?_eq_getElem ha]
theorem fz_new_self {t : TypeId} (hg : gd t = true) (h : H) (vs : List Value) (i : Nat) : fz (newCells h t vs) (h.size, i) = false := by
  unfold fz newCells
  simp [hg]
theorem blk_new {h : H} {b : Nat} (t : TypeId) (vs : List Value) (hb : b < h.size) : (newCells h t vs)[b]? = h[b]? := by
  unfold newCells
  rw [Array.getElem?_push_lt hb, Array.getElem?_eq_getElem hb]
theorem wok_wr {h : H} {a b : PA} {v : Value} (hk : wok h b) : wok (wr h a v) b := by
  refine ⟨?_, by rw [fz_wr]; exact hk.2⟩
  by_cases hb : b = a
  · subst hb; rw [rd_wr_self v hk.1]; rfl
  · rw [rd_wr_ne v hb]; exact hk.1
structure Fr (F : PA → Prop) (h h' : H) : Prop where
  size : h.size ≤ h'.size
  rd : ∀ a, a.1 < h.size → ¬ F a → rd h' a = rd h a
  fz : ∀ a, a.1 < h.size → fz h' a = fz h a
  some : ∀ a, a.1 < h.size → (Go.Proofs.Ytegnpimlfphncaa.rd h a).isSome = true → (Go.Proofs.Ytegnpimlfphncaa.rd h' a).isSome = true
  blk : ∀ b, b < h.size → (∀ o, ¬ F (b, o)) → h'[b]? = h[b]?
theorem Fr.refl (F : PA → Prop) (h : H) : Fr F h h := ⟨Nat.le_refl _, fun _ _ _ => rfl, fun _ _ => rfl, fun _ _ h => h, fun _ _ _ => rfl⟩
theorem Fr.trans {F : PA → Prop} {a b c : H} (h : Fr F a b) (g : Fr F b c) : Fr F a c :=
  ⟨Nat.le_trans h.size g.size, fun x hx hn => (g.rd x (Nat.lt_of_lt_of_le hx h.size) hn).trans (h.rd x hx hn),
   fun x hx => (g.fz x (Nat.lt_of_lt_of_le hx h.size)).trans (h.fz x hx), fun x hx hs => g.some x (Nat.lt_of_lt_of_le hx h.size) (h.some x hx hs),
   fun x hx hn => (g.blk x (Nat.lt_of_lt_of_le hx h.size) hn).trans (h.blk x hx hn)⟩
theorem Fr.mono {F G : PA → Prop} {h h' : H} (f : Fr F h h') (hs : ∀ a, a.1 < h.size → F a → G a) : Fr G h h' :=
  ⟨f.size, fun a ha hn => f.rd a ha (fun hf => hn (hs a ha hf)), f.fz, f.some, fun b hb hn => f.blk b hb (fun o hf => hn o (hs (b, o) hb hf))⟩
theorem Fr.then {F G : PA → Prop} {a b c : H} (h : Fr F a b) (g : Fr G b c) (hs : ∀ x, x.1 < a.size → G x → F x) : Fr F a c :=
  ⟨Nat.le_trans h.size g.size, fun x hx hn => (g.rd x (Nat.lt_of_lt_of_le hx h.size) (fun hg => hn (hs x hx hg))).trans (h.rd x hx hn),
   fun x hx => (g.fz x (Nat.lt_of_lt_of_le hx h.size)).trans (h.fz x hx), fun x hx hs => g.some x (Nat.lt_of_lt_of_le hx h.size) (h.some x hx hs),
   fun x hx hn => (g.blk x (Nat.lt_of_lt_of_le hx h.size) (fun o hg => hn o (hs (x, o) hx hg))).trans (h.blk x hx hn)⟩
theorem Fr.wr {F : PA → Prop} {h : H} {a : PA} (v : Value) (ha : F a) : Fr F h (wr h a v) :=
  ⟨by rw [size_wr]; exact Nat.le_refl _, fun b _ hn => rd_wr_ne v (fun e => hn (e ▸ ha)), fun b _ => fz_wr h a b v,
   fun b _ hs => by
    by_cases hb : b = a
    · subst hb; rw [rd_wr_self v hs]; rfl
    · rw [rd_wr_ne v hb]; exact hs,
   fun b _ hn => blk_wr v (fun e => hn a.2 (e ▸ ha))⟩
theorem Fr.new {F : PA → Prop} (h : H) (t : TypeId) (vs : List Value) : Fr F h (newCells h t vs) :=
  ⟨by rw [size_new]; omega, fun a ha _ => rd_new_old t vs ha, fun a ha => fz_new_old t vs ha, fun a ha hs => by rw [rd_new_old t vs ha]; exact hs, fun b hb _ => blk_new t vs hb⟩
theorem Fr.wok {F : PA → Prop} {h h' : H} (f : Fr F h h') {a : PA} (ha : wok h a) : wok h' a := by
  have hl : a.1 < h.size := by
    obtain ⟨v, hv⟩ := Option.isSome_iff_exists.1 ha.1
    exact rd_lt hv
  exact ⟨f.some a hl ha.1, (f.fz a hl).trans ha.2⟩
theorem wok_lt {h : H} {a : PA} (ha : wok h a) : a.1 < h.size := by
  obtain ⟨v, hv⟩ := Option.isSome_iff_exists.1 ha.1
  exact rd_lt hv
def rng (a : PA) (m : Nat) : PA → Prop := fun x => x.1 = a.1 ∧ a.2 ≤ x.2 ∧ x.2 < a.2 + m
def none' : PA → Prop := fun _ => False
def un (F G : PA → Prop) : PA → Prop := fun x => F x ∨ G x
def dj (F G : PA → Prop) : Prop := ∀ x, F x → G x → False
theorem Fr.wrs {F : PA → Prop} : ∀ (vs : List Value) (h : H) (a : PA), (∀ x, rng a vs.length x → F x) → Fr F h (wrs h a vs)
  | [], h, _, _ => Fr.refl _ h
  | v :: vs, h, a, hF => by
    refine (Fr.wr v (hF a ⟨rfl, Nat.le_refl _, by simp⟩)).trans (Fr.wrs vs _ _ (fun x hx => hF x ?_))
    obtain ⟨h1, h2, h3⟩ := hx
    exact ⟨h1, by simp at h2; omega, by simp at h3 ⊢; omega⟩
theorem rd_wrs_out : ∀ (vs : List Value) (h : H) (a b : PA), ¬ rng a vs.length b → rd (wrs h a vs) b = rd h b
  | [], _, _, _, _ => rfl
  | v :: vs, h, a, b, hb => by
    show rd (wrs (wr h a v) (a.1, a.2 + 1) vs) b = _
    rw [rd_wrs_out vs _ _ b (fun hx => hb ?_), rd_wr_ne v (fun e => hb ?_)]
    · subst e; exact ⟨rfl, Nat.le_refl _, by simp⟩
    · obtain ⟨h1, h2, h3⟩ := hx
      exact ⟨h1, by simp at h2; omega, by simp at h3 ⊢; omega⟩
theorem rd_wrs_in : ∀ (vs : List Value) (h : H) (a : PA), (∀ j, j < vs.length → (rd h (a.1, a.2 + j)).isSome = true) → ∀ (j : Nat) (v : Value), vs[j]? = some v → rd (wrs h a vs) (a.1, a.2 + j) = some v
  | [], _, _, _, j, v, hj => by simp at hj
  | u :: vs, h, a, hs, j, v, hj => by
    show rd (wrs (wr h a u) (a.1, a.2 + 1) vs) (a.1, a.2 + j) = some v
    cases j with
    | zero =>
      simp at hj; subst hj
      rw [rd_wrs_out vs _ _ _ (fun hx => by have := hx.2.1; simp only at this; omega)]
      exact rd_wr_self u (hs 0 (by simp))
    | succ j =>
      have := rd_wrs_in vs (wr h a u) (a.1, a.2 + 1) (fun i hi => ?_) j v (by simpa using hj)
      · simp only [Nat.add_assoc, Nat.add_comm 1] at this
        exact this
      · rw [rd_wr_ne u (fun e => by have := congrArg Prod.snd e; simp at this; omega)]
        have := hs (i + 1) (by simp; omega)
        simp only [Nat.add_assoc, Nat.add_comm 1]
        exact this
section
variable {P : Program} {Q : Ex → List AV → H → Prop} {h : H}
theorem w_guard {p : Prop} {k : M} (hp : p) (hw : wp P k Q h) : wp P (.guard p k) Q h := ⟨hp, hw⟩
theorem w_nonnil {a : PA} {k : PA → M} (hw : wp P (k a) Q h) : wp P (.nonnil (some a) k) Q h := ⟨a, rfl, hw⟩
theorem w_int {a : PA} {kd : IntKind} {k : Int → M} (x : Int) (hr : rd h a = some (.int kd x)) (hw : wp P (k x) Q h) : wp P (.load a (.int kd) k) Q h := ⟨x, hr, hw⟩
theorem w_bool {a : PA} {k : Bool → M} (x : Bool) (hr : rd h a = some (.bool x)) (hw : wp P (k x) Q h) : wp P (.load a .bool k) Q h := ⟨x, hr, hw⟩
theorem w_ptr {a : PA} {k : Option PA → M} (x : Option PA) (hr : rd h a = some (.pointer (x.map PA.val))) (hw : wp P (k x) Q h) : wp P (.load a .ptr k) Q h := ⟨x, hr, hw⟩
theorem w_sl {a : PA} {k : SlT → M} (x : SlT) (hr : rd h a = some (.slice (x.1.map PA.val) x.2.1 x.2.2)) (hw : wp P (k x) Q h) : wp P (.load a .sl k) Q h := ⟨x, hr, hw⟩
theorem w_raw {a : PA} {k : Value → M} (x : Value) (hr : rd h a = some (Cell.raw x).val) (hw : wp P (k x) Q h) : wp P (.load a .raw k) Q h := ⟨x, hr, hw⟩
theorem w_held {a : PA} {c : Cell} {k : M} (hr : rd h a = some c.val) (hw : wp P k Q h) : wp P (.held a c k) Q h := ⟨hr, hw⟩
theorem w_store {a : PA} {c : Cell} {k : M} (hk : wok h a) (hw : wp P k Q (wr h a c.val)) : wp P (.store a c k) Q h := ⟨hk, hw⟩
theorem w_alloc {t : TypeId} {cs : List Cell} {k : Nat → M} (hw : gd t = true → wp P (k h.size) Q (newCells h t (cs.map Cell.val))) : wp P (.alloc t cs k) Q h := hw
theorem w_ite {b : Bool} {x y : M} (h1 : b = true → wp P x Q h) (h2 : b = false → wp P y Q h) : wp P (.ite b x y) Q h := ⟨h1, h2⟩
theorem w_both {x y : M} (h1 : wp P x Q h) (h2 : wp P y Q h) : wp P (.both x y) Q h := ⟨h1, h2⟩
theorem w_true {b : Bool} {x y : M} (hb : b = true) (h1 : wp P x Q h) : wp P (.ite b x y) Q h := ⟨fun _ => h1, fun e => (by rw [hb] at e; cases e)⟩
theorem w_false {b : Bool} {x y : M} (hb : b = false) (h1 : wp P y Q h) : wp P (.ite b x y) Q h := ⟨fun e => (by rw [hb] at e; cases e), fun _ => h1⟩
end
section
variable {P : Program} {Q : Ex → List AV → H → Prop} {h : H}
def Jo (l : Option Nat) (R : List AV → H → Prop) (Q : Ex → List AV → H → Prop) : Ex → List AV → H → Prop
  | .normal, vs, h => R vs h
  | .exit i, vs, h => (∃ j, l = some j ∧ i = j ∧ R vs h) ∨ (l ≠ some i ∧ Q (.exit i) vs h)
  | e, vs, h => Q e vs h
theorem w_bind {l : Option Nat} {m : M} {ss : List Sh} {k : SV ss → M} (R : List AV → H → Prop) (hm : wp P m (Jo l R Q) h)
    (hk : ∀ vs h', R vs h' → ∃ x : SV ss, (SV.list ss x).map AV.val = vs.map AV.val ∧ wp P (k x) Q h') : wp P (.bind l m ss k) Q h := by
  simp only [wp]
  refine wp_mono hm fun e vs h' hh => ?_
  cases e with
  | normal => exact hk vs h' hh
  | exit i =>
    rcases hh with ⟨j, rfl, rfl, hR⟩ | ⟨hne, hq⟩
    · dsimp only; rw [if_pos rfl]; exact hk vs h' hR
    · cases l with
      | none => exact hq
      | some j =>
        dsimp only
        rw [if_neg (fun e => hne (by rw [e]))]
        exact hq
  | goto i => exact hh
  | ret => exact hh
theorem w_loop {ss : List Sh} {init : List AV} {body : SV ss → M} (I : SV ss → H → Prop) (μ : SV ss → H → Nat) (x0 : SV ss) (h0 : (SV.list ss x0).map AV.val = init.map AV.val) (hI : I x0 h)
    (hr : ∀ x h1, I x h1 → wp P (body x) (fun e vs h' => match e with
        | .normal => ∃ y, (SV.list ss y).map AV.val = vs.map AV.val ∧ I y h' ∧ μ y h' < μ x h1
        | _ => Q e vs h') h1) : wp P (.loop ss init body) Q h := ⟨I, μ, ⟨x0, h0, hI⟩, hr⟩
theorem w_callOf {fv : Value} {args : List AV} {tup : Bool} {ss : List Sh} {k : SV ss → M} {R : Value → H → Prop}
    (hc : callOf P fv (args.map AV.val).toArray h R)
    (hw : ∀ v h', R v h' → ∃ x : SV ss, v = retVal tup ss x ∧ wp P (k x) Q h') : wp P (.callv fv args tup ss k) Q h := callOf_mono hc hw
theorem w_make {e : TypeId} {sz byt : Nat} {z : List Cell} {len cap : Int} {k : SlT → M} (h0 : 0 ≤ len) (h1 : len ≤ cap) (h2 : (byt : Int) * cap ≤ 281474976710656) (h3 : cap ≤ 9223372036854775807)
    (hw : gd e = true → wp P (k (some (h.size, 0), len.toNat, cap.toNat)) Q (newCells h e (madeCells (z.map Cell.val).toArray (cap.toNat * sz)).toList)) : wp P (.make e sz byt z len cap k) Q h := ⟨h0, h1, h2, h3, hw⟩
end
theorem inK64 {n : Int} (h1 : -9223372036854775808 ≤ n) (h2 : n ≤ 9223372036854775807) : InK .i64 n := by
  show IntKind.i64.wrap n = n
  rw [IntKind.wrap_i64]; omega
structure Own (h : H) (a : PA) (vs : List Value) (k : Nat) : Prop where
  rd : rds h a vs
  ok : oks h a (vs.length + k)
theorem Own.fr {h h' : H} {a : PA} {vs : List Value} {k : Nat} {F : PA → Prop} (o : Own h a vs k) (f : Fr F h h') (hd : ∀ x, rng a (vs.length + k) x → ¬ F x) : Own h' a vs k := by
  refine ⟨fun j v hj => ?_, fun j hj => f.wok (o.ok j hj)⟩
  have hl : j < vs.length := (List.getElem?_eq_some_iff.1 hj).1
  have := o.rd j v hj
  rw [f.rd _ (rd_lt this) (hd _ ⟨rfl, Nat.le_add_right _ _, by simp; omega⟩)]
  exact this
theorem Own.lt {h : H} {a : PA} {vs : List Value} {k : Nat} (o : Own h a vs k) {x : PA} (hx : rng a (vs.length + k) x) : x.1 < h.size := by
  obtain ⟨h1, h2, h3⟩ := hx
  have := wok_lt (o.ok (x.2 - a.2) (by omega))
  rw [h1]; exact this
theorem Own.new (h : H) {t : TypeId} (hg : gd t = true) (vs us : List Value) : Own (newCells h t (vs ++ us)) (h.size, 0) vs us.length := by
  refine ⟨fun j v hj => ?_, fun j hj => ⟨?_, fz_new_self hg _ _ _⟩⟩
  · rw [Nat.zero_add, rd_new_self]
    rw [List.getElem?_append_left (List.getElem?_eq_some_iff.1 hj).1]; exact hj
  · rw [Nat.zero_add, rd_new_self]
    simp [List.length_append, hj]
theorem Own.out {h h' : H} {a : PA} {vs : List Value} {k : Nat} {F : PA → Prop} (o : Own h a vs k) (f : Fr F h h') (hd : dj (rng a (vs.length + k)) F) : Own h' a vs k :=
  o.fr f fun x hx hF => hd x hx hF
def splice (vs : List Value) (i : Nat) (us : List Value) : List Value := vs.take i ++ us ++ vs.drop (i + us.length)
theorem splice_length {vs us : List Value} {i : Nat} (hi : i + us.length ≤ vs.length) : (splice vs i us).length = vs.length := by
  simp [splice]; omega
theorem splice_get {vs us : List Value} {i : Nat} (hi : i + us.length ≤ vs.length) (j : Nat) : (splice vs i us)[j]? = if i ≤ j ∧ j < i + us.length then us[j - i]? else vs[j]? := by
  simp only [splice]
  by_cases h1 : j < i
  · rw [List.append_assoc, List.getElem?_append_left (by simp; omega), List.getElem?_take, if_pos h1, if_neg (by omega)]
  · by_cases h2 : j < i + us.length
    · rw [if_pos ⟨by omega, h2⟩, List.getElem?_append_left (by simp; omega), List.getElem?_append_right (by simp; omega)]
      congr 1; simp; omega
    · rw [if_neg (by omega), List.getElem?_append_right (by simp; omega), List.getElem?_drop]
      congr 1; simp; omega
theorem Own.splice {h : H} {a : PA} {vs : List Value} {k : Nat} (o : Own h a vs k) (i : Nat) (us : List Value) (hi : i + us.length ≤ vs.length) :
    Own (wrs h (a.1, a.2 + i) us) a (splice vs i us) k := by
  have hf : Fr (rng (a.1, a.2 + i) us.length) h (wrs h (a.1, a.2 + i) us) := Fr.wrs us h _ (fun _ hx => hx)
  refine ⟨fun j v hj => ?_, fun j hj => ?_⟩
  · rw [splice_get hi] at hj
    split at hj
    · rename_i hc
      have := rd_wrs_in us h (a.1, a.2 + i) (fun j hj => by
        have := (o.ok (i + j) (by omega)).1
        simpa [Nat.add_assoc] using this) (j - i) v hj
      simp only [Nat.add_assoc] at this
      rw [show i + (j - i) = j by omega] at this
      exact this
    · rename_i hc
      rw [rd_wrs_out us h _ _ (fun hx => hc (by obtain ⟨_, h2, h3⟩ := hx; simp at h2 h3; omega))]
      exact o.rd j v hj
  · rw [splice_length hi] at hj
    exact hf.wok (o.ok j hj)
theorem Own.one {h : H} {a : PA} {vs : List Value} {k : Nat} (o : Own h a vs k) (i : Nat) (v : Value) (hi : i < vs.length) : Own (wr h (a.1, a.2 + i) v) a (vs.set i v) k := by
  have := o.splice i [v] (by simp; omega)
  have e : Go.Proofs.Ytegnpimlfphncaa.splice vs i [v] = vs.set i v := by
    apply List.ext_getElem?
    intro j
    rw [splice_get (by simp; omega), List.getElem?_set]
    by_cases hj : i = j
    · subst hj; simp [hi]
    · rw [if_neg hj, if_neg (by simp; omega)]
  rw [e] at this
  exact this
theorem Own.shrink {h : H} {a : PA} {vs ws : List Value} {k : Nat} (o : Own h a (vs ++ ws) k) : Own h a vs (ws.length + k) :=
  ⟨fun j v hj => o.rd j v (by rw [List.getElem?_append_left (List.getElem?_eq_some_iff.1 hj).1]; exact hj), fun j hj => o.ok j (by simp; omega)⟩
theorem Own.left {h : H} {a : PA} {vs ws : List Value} {k : Nat} (o : Own h a (vs ++ ws) k) : Own h a vs 0 :=
  ⟨fun j v hj => o.rd j v (by rw [List.getElem?_append_left (List.getElem?_eq_some_iff.1 hj).1]; exact hj), fun j hj => o.ok j (by simp; omega)⟩
theorem Own.right {h : H} {a : PA} {vs ws : List Value} {k : Nat} (o : Own h a (vs ++ ws) k) : Own h (a.1, a.2 + vs.length) ws k := by
  refine ⟨fun j v hj => ?_, fun j hj => ?_⟩
  · have := o.rd (vs.length + j) v (by rw [List.getElem?_append_right (by omega)]; simpa using hj)
    simp only [Nat.add_assoc]; exact this
  · have := o.ok (vs.length + j) (by simp; omega)
    simp only [Nat.add_assoc]; exact this
def RSl (h : H) (s : SlT) (sz : Nat) (vs : List Value) : Prop := vs.length = s.2.1 * sz ∧ (vs = [] ∨ ∃ p, s.1 = some p ∧ rds h p vs)
def Sl (h : H) (s : SlT) (sz : Nat) (vs : List Value) : Prop :=
  vs.length = s.2.1 * sz ∧ s.2.1 ≤ s.2.2 ∧ ((s.1 = none ∧ s.2.2 = 0) ∨ ∃ p, s.1 = some p ∧ Own h p vs ((s.2.2 - s.2.1) * sz))
def sfoot (s : SlT) (sz : Nat) : PA → Prop := match s.1 with
  | some p => rng p (s.2.2 * sz)
  | none => none'
theorem Sl.nil (h : H) (sz : Nat) : Sl h (none, 0, 0) sz [] := ⟨by simp, Nat.le_refl _, .inl ⟨rfl, rfl⟩⟩
theorem Sl.foot_lt {h : H} {s : SlT} {sz : Nat} {vs : List Value} (o : Sl h s sz vs) {x : PA} (hx : sfoot s sz x) : x.1 < h.size := by
  obtain ⟨h1, h2, h3⟩ := o
  rcases h3 with ⟨hn, _⟩ | ⟨p, hp, ho⟩
  · simp [sfoot, hn, none'] at hx
  · simp only [sfoot, hp] at hx
    refine ho.lt ?_
    have : vs.length + (s.2.2 - s.2.1) * sz = s.2.2 * sz := by rw [h1, ← Nat.add_mul]; congr 1; omega
    rw [this]; exact hx
theorem Sl.out {h h' : H} {s : SlT} {sz : Nat} {vs : List Value} {F : PA → Prop} (o : Sl h s sz vs) (f : Fr F h h') (hd : dj (sfoot s sz) F) : Sl h' s sz vs := by
  obtain ⟨h1, h2, h3⟩ := o
  refine ⟨h1, h2, ?_⟩
  rcases h3 with hn | ⟨p, hp, ho⟩
  · exact .inl hn
  · refine .inr ⟨p, hp, ho.out f (fun x hx => hd x ?_)⟩
    have : vs.length + (s.2.2 - s.2.1) * sz = s.2.2 * sz := by rw [h1, ← Nat.add_mul]; congr 1; omega
    rw [this] at hx
    simpa [sfoot, hp] using hx
section
variable {P : Program} {Q : Ex → List AV → H → Prop} {h : H}
theorem zeros_length (z : List Cell) (n : Nat) : (zeros z n).length = n * z.length := by
  simp [zeros, Builtin.zeroCells]
theorem w_append {e : TypeId} {sz byt : Nat} {z : List Cell} {d s : SlT} {k : SlT → M} {vs news : List Value} (hz : z.length = sz) (hd : Sl h d sz vs) (hs : RSl h s sz news)
    (h1 : ∀ v ∈ news, v.oneCell' = true) (hg : growOk (d.2.1 + s.2.1) byt)
    (hk : ∀ d' h', Sl h' d' sz (vs ++ news) → d'.2.1 = d.2.1 + s.2.1 → Fr (sfoot d sz) h h' → (∀ x, sfoot d' sz x → sfoot d sz x ∨ h.size ≤ x.1) → (∀ p, d'.1 = some p → d.1 = some p ∨ p = (h.size, 0)) → (0 < d.2.1 + s.2.1 ∨ d.1.isSome = true → d'.1.isSome = true) →
      wp P (k d') Q h') : wp P (.append e sz byt z d s k) Q h := by
  obtain ⟨hl, hle, hd3⟩ := hd
  obtain ⟨hsl, hs2⟩ := hs
  refine ⟨news, hsl, ?_, h1, ?_⟩
  · rcases hs2 with rfl | ⟨q, hq, hr⟩
    · exact .inl (by simpa using hsl.symm)
    · exact .inr ⟨q, hq, hr⟩
  have hcat : (vs ++ news).length = (d.2.1 + s.2.1) * sz := by rw [List.length_append, hl, hsl, Nat.add_mul]
  split
  · rename_i hroom
    rcases hd3 with ⟨hn, hc⟩ | ⟨p, hp, ho⟩
    · left
      have h0 : s.2.1 = 0 := by omega
      have h00 : d.2.1 = 0 := by omega
      obtain rfl : news = [] := List.eq_nil_of_length_eq_zero (by rw [hsl, h0]; simp)
      refine ⟨by rw [h0]; simp, hk _ h ?_ rfl (Fr.refl _ h) (fun x hx => .inl hx) (fun p hp => .inl hp) (fun hh => hh.elim (fun h' => by omega) (fun h' => h'))⟩
      exact ⟨hcat, by simpa using hroom, .inl ⟨hn, hc⟩⟩
    · right
      have hk1 : d.2.1 * sz + s.2.1 * sz + (d.2.2 - (d.2.1 + s.2.1)) * sz = d.2.1 * sz + (d.2.2 - d.2.1) * sz := by
        rw [Nat.add_assoc, ← Nat.add_mul]; congr 2; omega
      refine ⟨p, hp, fun j hj => ?_, hk _ _ ⟨hcat, by simpa using hroom, .inr ⟨p, hp, ?_⟩⟩ rfl ?_ (fun x hx => .inl (by simpa [sfoot, hp] using hx)) (fun q hq => .inl hq) (fun _ => by simp [hp])⟩
      · have := ho.ok (d.2.1 * sz + j) (by rw [hl]; omega)
        simpa [Nat.add_assoc] using this
      · have hw := rd_wrs_in news h (p.1, p.2 + d.2.1 * sz) (fun j hj => by
          have := (ho.ok (d.2.1 * sz + j) (by rw [hl]; omega)).1
          simpa [Nat.add_assoc] using this)
        refine ⟨fun j v hj => ?_, fun j hj => ?_⟩
        · by_cases hlt : j < vs.length
          · rw [List.getElem?_append_left hlt] at hj
            rw [rd_wrs_out news h _ _ (fun hx => by obtain ⟨_, h2, _⟩ := hx; simp at h2; omega)]
            exact ho.rd j v hj
          · rw [List.getElem?_append_right (by omega)] at hj
            have := hw (j - vs.length) v hj
            simp only [Nat.add_assoc] at this
            rw [show d.2.1 * sz + (j - vs.length) = j by omega] at this
            exact this
        · refine (Fr.wrs news h _ (fun _ hx => hx)).wok (ho.ok j ?_)
          rw [hcat, Nat.add_mul] at hj
          dsimp only at hj
          rw [hl]; omega
      · refine Fr.wrs news h _ (fun x hx => ?_)
        obtain ⟨g1, g2, g3⟩ := hx
        simp only [sfoot, hp]
        have : d.2.2 * sz = d.2.1 * sz + (d.2.2 - d.2.1) * sz := by rw [← Nat.add_mul]; congr 1; omega
        exact ⟨g1, by simp at g2; omega, by simp at g3; omega⟩
  · rename_i hroom
    refine ⟨vs, hl, ?_, hg, fun nc h2 h3 hgd => ?_⟩
    · rcases hd3 with ⟨hn, hc⟩ | ⟨p, hp, ho⟩
      · exact .inl (by rw [show d.2.1 = 0 by omega]; simp)
      · exact .inr ⟨p, hp, ho.rd⟩
    · have hzl : (zeros z (nc - (d.2.1 + s.2.1))).length = (nc - (d.2.1 + s.2.1)) * sz := by rw [zeros_length, hz]
      have ho := Own.new h hgd (vs ++ news) (zeros z (nc - (d.2.1 + s.2.1)))
      rw [hzl] at ho
      exact hk _ _ ⟨hcat, h2, .inr ⟨_, rfl, ho⟩⟩ rfl (Fr.new h e _) (fun x hx => .inr (by obtain ⟨g1, _⟩ := hx; simp at g1; omega)) (fun p hp => .inr (Option.some.inj hp).symm) (fun _ => rfl)
end
end Go.Proofs.Ytegnpimlfphncaa
namespace Go.Proofs.Ytegnpimlfphncaa
open Go
structure Lay (I : Type) where
  sz : Nat
  cells : I → List Value
  len : ∀ x, (cells x).length = sz
  one : ∀ x, ∀ v ∈ cells x, v.oneCell' = true
  pos : 0 < sz
def Lay.flat {I : Type} (L : Lay I) (xs : List I) : List Value := xs.flatMap L.cells
section
variable {I : Type} (L : Lay I)
theorem Lay.flat_length (xs : List I) : (L.flat xs).length = xs.length * L.sz := by
  induction xs with
  | nil => simp [Lay.flat]
  | cons x xs ih =>
    have : L.flat (x :: xs) = L.cells x ++ L.flat xs := rfl
    rw [this, List.length_append, ih, L.len, List.length_cons, Nat.add_mul]; omega
theorem Lay.flat_append (xs ys : List I) : L.flat (xs ++ ys) = L.flat xs ++ L.flat ys := by simp [Lay.flat]
theorem Lay.flat_cons (x : I) (xs : List I) : L.flat (x :: xs) = L.cells x ++ L.flat xs := rfl
theorem Lay.flat_one (xs : List I) : ∀ v ∈ L.flat xs, v.oneCell' = true := by
  intro v hv
  obtain ⟨x, _, hx⟩ := List.mem_flatMap.1 hv
  exact L.one x v hx
theorem Lay.flat_get {xs : List I} {i j : Nat} {x : I} {v : Value} (hx : xs[i]? = some x) (hv : (L.cells x)[j]? = some v) : (L.flat xs)[i * L.sz + j]? = some v := by
  obtain ⟨h1, h2⟩ := List.getElem?_eq_some_iff.1 hx
  have hj : j < L.sz := by rw [← L.len x]; exact (List.getElem?_eq_some_iff.1 hv).1
  have e : xs = xs.take i ++ x :: xs.drop (i + 1) := by rw [← h2, ← List.drop_eq_getElem_cons h1, List.take_append_drop]
  rw [e, L.flat_append, List.getElem?_append_right (by rw [L.flat_length, List.length_take, Nat.min_eq_left (by omega)]; omega), L.flat_length, L.flat_cons]
  have : i * L.sz + j - (xs.take i).length * L.sz = j := by
    rw [List.length_take, Nat.min_eq_left (by omega)]; omega
  rw [this, List.getElem?_append_left (by rw [L.len]; exact hj)]
  exact hv
theorem Lay.flat_take (xs : List I) (i : Nat) : (L.flat xs).take (i * L.sz) = L.flat (xs.take i) := by
  rcases Nat.lt_or_ge xs.length i with h | h
  · rw [List.take_of_length_le (by rw [L.flat_length]; exact Nat.mul_le_mul_right _ (by omega)), List.take_of_length_le (by omega)]
  · conv => lhs; rw [← List.take_append_drop i xs, L.flat_append]
    rw [List.take_append_of_le_length (by rw [L.flat_length]; simp; rw [Nat.min_eq_left h]; omega), List.take_of_length_le (by rw [L.flat_length]; simp; rw [Nat.min_eq_left h]; omega)]
theorem Lay.flat_drop (xs : List I) (i : Nat) : (L.flat xs).drop (i * L.sz) = L.flat (xs.drop i) := by
  have h1 := List.take_append_drop (i * L.sz) (L.flat xs)
  rw [L.flat_take] at h1
  have h2 : L.flat (xs.take i) ++ L.flat (xs.drop i) = L.flat xs := by rw [← L.flat_append, List.take_append_drop]
  exact List.append_cancel_left (h1.trans h2.symm)
end
def Parts (l : List (PA → Prop)) (F : PA → Prop) : Prop := l.Pairwise dj ∧ ∀ x, F x ↔ ∃ A ∈ l, A x
theorem dj.symm {F G : PA → Prop} (h : dj F G) : dj G F := fun x hg hf => h x hf hg
theorem dj.sub {F G F' G' : PA → Prop} (h : dj F G) (h1 : ∀ x, F' x → F x) (h2 : ∀ x, G' x → G x) : dj F' G' := fun x hf hg => h x (h1 x hf) (h2 x hg)
def Forest {α : Type} (T : H → Nat → α → (PA → Prop) → Prop) (h : H) : List Nat → List α → (PA → Prop) → Prop
  | [], [], F => ∀ x, ¬ F x
  | k :: ks, t :: ts, F => ∃ F1 F2, T h k t F1 ∧ Forest T h ks ts F2 ∧ dj F1 F2 ∧ ∀ x, F x ↔ F1 x ∨ F2 x
  | _, _, _ => False
section
variable {α : Type} {T : H → Nat → α → (PA → Prop) → Prop} {h : H}
theorem Forest.len : ∀ {ks : List Nat} {ts : List α} {F : PA → Prop}, Forest T h ks ts F → ks.length = ts.length
  | [], [], _, _ => rfl
  | _ :: _, _ :: _, _, ⟨_, _, _, h2, _⟩ => by simp [h2.len]
  | [], _ :: _, _, hf => hf.elim
  | _ :: _, [], _, hf => hf.elim
theorem Forest.out {h' : H} {G : PA → Prop} (hT : ∀ k t F, T h k t F → dj F G → T h' k t F) : ∀ {ks : List Nat} {ts : List α} {F : PA → Prop}, Forest T h ks ts F → dj F G → Forest T h' ks ts F
  | [], [], _, hf, _ => hf
  | _ :: _, _ :: _, _, ⟨F1, F2, h1, h2, h3, h4⟩, hd =>
    ⟨F1, F2, hT _ _ _ h1 (hd.sub (fun x hx => (h4 x).2 (.inl hx)) (fun _ hx => hx)), Forest.out hT h2 (hd.sub (fun x hx => (h4 x).2 (.inr hx)) (fun _ hx => hx)), h3, h4⟩
  | [], _ :: _, _, hf, _ => hf.elim
  | _ :: _, [], _, hf, _ => hf.elim
theorem Forest.lt (hT : ∀ k t F, T h k t F → ∀ x, F x → x.1 < h.size) : ∀ {ks : List Nat} {ts : List α} {F : PA → Prop}, Forest T h ks ts F → ∀ x, F x → x.1 < h.size
  | [], [], _, hf, x, hx => (hf x hx).elim
  | _ :: _, _ :: _, _, ⟨_, _, h1, h2, _, h4⟩, x, hx => ((h4 x).1 hx).elim (hT _ _ _ h1 x) (Forest.lt hT h2 x)
  | [], _ :: _, _, hf, _, _ => hf.elim
  | _ :: _, [], _, hf, _, _ => hf.elim
theorem Forest.iff {F G : PA → Prop} (hfg : ∀ x, F x ↔ G x) : ∀ {ks : List Nat} {ts : List α}, Forest T h ks ts F → Forest T h ks ts G
  | [], [], hf => fun x hx => hf x ((hfg x).2 hx)
  | _ :: _, _ :: _, ⟨F1, F2, h1, h2, h3, h4⟩ => ⟨F1, F2, h1, h2, h3, fun x => (hfg x).symm.trans (h4 x)⟩
  | [], _ :: _, hf => hf.elim
  | _ :: _, [], hf => hf.elim
theorem Forest.append : ∀ {ks ls : List Nat} {ts us : List α} {F1 F2 : PA → Prop}, Forest T h ks ts F1 → Forest T h ls us F2 → dj F1 F2 → Forest T h (ks ++ ls) (ts ++ us) (un F1 F2)
  | [], ls, [], us, F1, F2, h1, h2, _ => h2.iff (fun x => ⟨fun hx => .inr hx, fun hx => hx.elim (fun h => (h1 x h).elim) id⟩)
  | k :: ks, ls, t :: ts, us, F1, F2, ⟨A, B, a1, a2, a3, a4⟩, h2, hd => by
    refine ⟨A, un B F2, a1, Forest.append a2 h2 (hd.sub (fun x hx => (a4 x).2 (.inr hx)) (fun _ hx => hx)), fun x hA hB => hB.elim (a3 x hA) (fun hF => hd x ((a4 x).2 (.inl hA)) hF), fun x => ?_⟩
    simp only [un, a4]
    exact or_assoc
  | [], _, _ :: _, _, _, _, hf, _, _ => hf.elim
  | _ :: _, _, [], _, _, _, hf, _, _ => hf.elim
theorem Forest.split : ∀ {ks ls : List Nat} {ts us : List α} {F : PA → Prop}, ks.length = ts.length → Forest T h (ks ++ ls) (ts ++ us) F →
    ∃ F1 F2, Forest T h ks ts F1 ∧ Forest T h ls us F2 ∧ dj F1 F2 ∧ ∀ x, F x ↔ F1 x ∨ F2 x
  | [], ls, [], us, F, _, hf => ⟨none', F, fun x hx => hx, hf, fun _ hx => hx.elim, fun x => ⟨fun hx => .inr hx, fun hx => hx.elim (fun h => h.elim) id⟩⟩
  | k :: ks, ls, t :: ts, us, F, hl, ⟨A, B, a1, a2, a3, a4⟩ => by
    obtain ⟨F1, F2, b1, b2, b3, b4⟩ := Forest.split (by simpa using hl) a2
    refine ⟨un A F1, F2, ⟨A, F1, a1, b1, fun x hA hF => a3 x hA ((b4 x).2 (.inl hF)), fun _ => Iff.rfl⟩, b2, fun x hx hF => hx.elim (fun hA => a3 x hA ((b4 x).2 (.inr hF))) (fun h1 => b3 x h1 hF), fun x => ?_⟩
    rw [a4, b4]
    exact or_assoc.symm
theorem Forest.at {ks : List Nat} {ts : List α} {F : PA → Prop} {i : Nat} {t : α} (hf : Forest T h ks ts F) (ht : ts[i]? = some t) :
    ∃ k FL FI FR, ks[i]? = some k ∧ Forest T h (ks.take i) (ts.take i) FL ∧ T h k t FI ∧ Forest T h (ks.drop (i + 1)) (ts.drop (i + 1)) FR ∧ [FL, FI, FR].Pairwise dj ∧ ∀ x, F x ↔ FL x ∨ FI x ∨ FR x := by
  obtain ⟨h1, h2⟩ := List.getElem?_eq_some_iff.1 ht
  have hl := hf.len
  have hk : i < ks.length := by omega
  have e1 : ks = ks.take i ++ ks[i] :: ks.drop (i + 1) := by rw [← List.drop_eq_getElem_cons hk, List.take_append_drop]
  have e2 : ts = ts.take i ++ t :: ts.drop (i + 1) := by rw [← h2, ← List.drop_eq_getElem_cons h1, List.take_append_drop]
  rw [e1, e2] at hf
  obtain ⟨F1, F2, a1, ⟨A, B, b1, b2, b3, b4⟩, a3, a4⟩ := Forest.split (by simp; omega) hf
  refine ⟨ks[i], F1, A, B, List.getElem?_eq_getElem hk, a1, b1, b2, ?_, fun x => ?_⟩
  · simp only [List.pairwise_cons, List.mem_cons, List.not_mem_nil, or_false, forall_eq_or_imp, forall_eq, false_implies, implies_true, List.Pairwise.nil, and_true]
    exact ⟨⟨a3.sub (fun _ hx => hx) (fun x hx => (b4 x).2 (.inl hx)), a3.sub (fun _ hx => hx) (fun x hx => (b4 x).2 (.inr hx))⟩, b3⟩
  · rw [a4, b4]
theorem Forest.put {h' : H} {ks : List Nat} {ts : List α} {i k : Nat} {t : α} {FL FI FR : PA → Prop} (hi : i < ks.length) (hi2 : i < ts.length) (hL : Forest T h' (ks.take i) (ts.take i) FL) (hI : T h' k t FI)
    (hR : Forest T h' (ks.drop (i + 1)) (ts.drop (i + 1)) FR) (hp : [FL, FI, FR].Pairwise dj) : Forest T h' (ks.set i k) (ts.set i t) (un FL (un FI FR)) := by
  have e1 : ks.set i k = ks.take i ++ k :: ks.drop (i + 1) := List.set_eq_take_append_cons_drop .. |>.trans (by rw [if_pos hi])
  have e2 : ts.set i t = ts.take i ++ t :: ts.drop (i + 1) := List.set_eq_take_append_cons_drop .. |>.trans (by rw [if_pos hi2])
  simp only [List.pairwise_cons, List.mem_cons, List.not_mem_nil, or_false, forall_eq_or_imp, forall_eq, false_implies, implies_true, List.Pairwise.nil, and_true] at hp
  rw [e1, e2]
  exact hL.append ⟨FI, FR, hI, hR, hp.2, fun _ => Iff.rfl⟩ (fun x hx hu => hu.elim (hp.1.1 x hx) (hp.1.2 x hx))
end
def nodeC (iso : Int) (cnt : Nat) (s : SlT) (kp : Option PA) : List Value := [.int .u64 iso, .int .i64 cnt, .slice (s.1.map PA.val) s.2.1 s.2.2, .pointer (kp.map PA.val)]
def hdC (c : SlT) : List Value := [.slice (c.1.map PA.val) c.2.1 c.2.2]
def kptr (k : Nat) : Value := .pointer (some (PA.val (k, 0)))
section
variable {I : Type} (L : Lay I) (iso : Int)
def Tr : (n : Nat) → H → Nat → BT I n → (PA → Prop) → Prop
  | 0, h, b, xs, F => ∃ s : SlT, Own h (b, 0) (nodeC iso (flatB 0 xs).length s none) 0 ∧ s.1.isSome = true ∧ Sl h s L.sz (L.flat (itemsB 0 xs)) ∧ s.2.1 = (itemsB 0 xs).length ∧
      Parts [rng (b, 0) 4, sfoot s L.sz] F
  | n + 1, h, b, t, F => ∃ (s c : SlT) (hb : Nat) (ks : List Nat) (FK : PA → Prop), Own h (b, 0) (nodeC iso (flatB (n + 1) t).length s (some (hb, 0))) 0 ∧ s.1.isSome = true ∧
      Sl h s L.sz (L.flat t.1) ∧ s.2.1 = t.1.length ∧ Own h (hb, 0) (hdC c) 0 ∧ c.1.isSome = true ∧ Sl h c 1 (ks.map kptr) ∧ Forest (Tr n) h ks t.2 FK ∧
      Parts [rng (b, 0) 4, sfoot s L.sz, rng (hb, 0) 1, sfoot c 1, FK] F
theorem Parts.mem {l : List (PA → Prop)} {F A : PA → Prop} (h : Parts l F) (hA : A ∈ l) : ∀ x, A x → F x := fun x hx => (h.2 x).2 ⟨A, hA, hx⟩
theorem Tr.out {h h' : H} {G : PA → Prop} (f : Fr G h h') : ∀ {n : Nat} {b : Nat} {t : BT I n} {F : PA → Prop}, Tr L iso n h b t F → dj F G → Tr L iso n h' b t F
  | 0, b, t, F, ⟨s, h1, h2, h3, h4, h5⟩, hd => by
    have d : ∀ {A}, A ∈ [rng (b, 0) 4, sfoot s L.sz] → dj A G := fun hA => hd.sub (h5.mem hA) (fun _ hx => hx)
    exact ⟨s, h1.out f (show dj (rng (b, 0) 4) G from d (by simp)), h2, h3.out f (d (by simp)), h4, h5⟩
  | n + 1, b, t, F, ⟨s, c, hb, ks, FK, h1, h2, h3, h4, h5, h6, h7, h8, h9⟩, hd => by
    have d : ∀ {A}, A ∈ [rng (b, 0) 4, sfoot s L.sz, rng (hb, 0) 1, sfoot c 1, FK] → dj A G := fun hA => hd.sub (h9.mem hA) (fun _ hx => hx)
    exact ⟨s, c, hb, ks, FK, h1.out f (show dj (rng (b, 0) 4) G from d (by simp)), h2, h3.out f (d (by simp)), h4, h5.out f (show dj (rng (hb, 0) 1) G from d (by simp)), h6, h7.out f (d (by simp)), h8.out (fun k t F hT hdj => Tr.out f hT hdj) (d (by simp)), h9⟩
theorem Tr.lt {h : H} : ∀ {n : Nat} {b : Nat} {t : BT I n} {F : PA → Prop}, Tr L iso n h b t F → ∀ x, F x → x.1 < h.size
  | 0, b, t, F, ⟨s, h1, h2, h3, h4, h5⟩, x, hx => by
    obtain ⟨A, hA, hxA⟩ := (h5.2 x).1 hx
    simp only [List.mem_cons, List.not_mem_nil, or_false] at hA
    rcases hA with rfl | rfl
    · exact h1.lt hxA
    · exact h3.foot_lt hxA
  | n + 1, b, t, F, ⟨s, c, hb, ks, FK, h1, h2, h3, h4, h5, h6, h7, h8, h9⟩, x, hx => by
    obtain ⟨A, hA, hxA⟩ := (h9.2 x).1 hx
    simp only [List.mem_cons, List.not_mem_nil, or_false] at hA
    rcases hA with rfl | rfl | rfl | rfl | rfl
    · exact h1.lt hxA
    · exact h3.foot_lt hxA
    · exact h5.lt hxA
    · exact h7.foot_lt hxA
    · exact h8.lt (fun k t F hT => Tr.lt hT) x hxA
end
end Go.Proofs.Ytegnpimlfphncaa
set_option linter.unusedVariables false
set_option linter.unusedSimpArgs false
set_option linter.unusedSectionVars false
namespace Go.Proofs.Ytegnpimlfphncaa
open Go
structure Ck where
  p : H → (PA → Prop) → Prop
  out : ∀ {h h' : H} {F G : PA → Prop}, p h F → Fr G h h' → dj F G → p h' F
  lt : ∀ {h : H} {F : PA → Prop}, p h F → ∀ x, F x → x.1 < h.size
def Star : List Ck → H → (PA → Prop) → Prop
  | [], _, G => ∀ x, ¬ G x
  | c :: l, h, G => ∃ F1 F2, c.p h F1 ∧ Star l h F2 ∧ dj F1 F2 ∧ ∀ x, G x ↔ F1 x ∨ F2 x
theorem Star.lt : ∀ {l : List Ck} {h : H} {G : PA → Prop}, Star l h G → ∀ x, G x → x.1 < h.size
  | [], _, _, hs, x, hx => (hs x hx).elim
  | c :: l, h, G, ⟨F1, F2, h1, h2, _, h4⟩, x, hx => ((h4 x).1 hx).elim (c.lt h1 x) (Star.lt h2 x)
theorem Star.out : ∀ {l : List Ck} {h h' : H} {F G : PA → Prop}, Star l h F → Fr G h h' → dj F G → Star l h' F
  | [], _, _, _, _, hs, _, _ => hs
  | c :: l, h, h', F, G, ⟨F1, F2, h1, h2, h3, h4⟩, f, hd =>
    ⟨F1, F2, c.out h1 f (hd.sub (fun x hx => (h4 x).2 (.inl hx)) fun _ hx => hx), Star.out h2 f (hd.sub (fun x hx => (h4 x).2 (.inr hx)) fun _ hx => hx), h3, h4⟩
theorem Star.iff : ∀ {l : List Ck} {h : H} {F G : PA → Prop}, Star l h F → (∀ x, F x ↔ G x) → Star l h G
  | [], _, _, _, hs, e => fun x hx => hs x ((e x).2 hx)
  | c :: l, h, F, G, ⟨F1, F2, h1, h2, h3, h4⟩, e => ⟨F1, F2, h1, h2, h3, fun x => (e x).symm.trans (h4 x)⟩
theorem Star.append : ∀ {l m : List Ck} {h : H} {F G : PA → Prop}, Star l h F → Star m h G → dj F G → Star (l ++ m) h (un F G)
  | [], m, h, F, G, h1, h2, _ => h2.iff fun x => ⟨.inr, fun hx => hx.elim (fun h => (h1 x h).elim) id⟩
  | c :: l, m, h, F, G, ⟨A, B, a1, a2, a3, a4⟩, h2, hd =>
    ⟨A, un B G, a1, Star.append a2 h2 (hd.sub (fun x hx => (a4 x).2 (.inr hx)) fun _ hx => hx), fun x hA hB => hB.elim (a3 x hA) (fun hG => hd x ((a4 x).2 (.inl hA)) hG), fun x => by
      simp only [un, a4]; exact or_assoc⟩
theorem Star.split : ∀ {l m : List Ck} {h : H} {F : PA → Prop}, Star (l ++ m) h F → ∃ A B, Star l h A ∧ Star m h B ∧ dj A B ∧ ∀ x, F x ↔ A x ∨ B x
  | [], m, h, F, hs => ⟨none', F, fun x hx => hx, hs, fun x hx => hx.elim, fun x => ⟨.inr, fun hx => hx.elim (fun h => h.elim) id⟩⟩
  | c :: l, m, h, F, ⟨F1, F2, h1, h2, h3, h4⟩ => by
    obtain ⟨A, B, a1, a2, a3, a4⟩ := Star.split h2
    refine ⟨un F1 A, B, ⟨F1, A, h1, a1, fun x hx hA => h3 x hx ((a4 x).2 (.inl hA)), fun _ => Iff.rfl⟩, a2, fun x hx hB => hx.elim (fun hF => h3 x hF ((a4 x).2 (.inr hB))) (fun hA => a3 x hA hB), fun x => ?_⟩
    rw [h4, a4]; exact or_assoc.symm
theorem Star.swap {c d : Ck} {l : List Ck} {h : H} {F : PA → Prop} : Star (c :: d :: l) h F → Star (d :: c :: l) h F := by
  rintro ⟨F1, F2, h1, ⟨F3, F4, g1, g2, g3, g4⟩, h3, h4⟩
  refine ⟨F3, un F1 F4, g1, ⟨F1, F4, h1, g2, fun x hx h4' => h3 x hx ((g4 x).2 (.inr h4')), fun _ => Iff.rfl⟩, fun x hx hu => hu.elim (fun h1' => h3 x h1' ((g4 x).2 (.inl hx))) (fun h4' => g3 x hx h4'), fun x => ?_⟩
  rw [h4, g4]
  exact ⟨fun hx => hx.elim (fun h => .inr (.inl h)) (fun h => h.elim .inl (fun h => .inr (.inr h))), fun hx => hx.elim (fun h => .inr (.inl h)) (fun h => h.elim .inl (fun h => .inr (.inr h)))⟩
theorem Star.perm {l m : List Ck} (hp : l.Perm m) : ∀ {h : H} {F : PA → Prop}, Star l h F → Star m h F := by
  induction hp with
  | nil => exact fun hs => hs
  | cons c _ ih => exact fun ⟨F1, F2, h1, h2, h3, h4⟩ => ⟨F1, F2, h1, ih h2, h3, h4⟩
  | swap => exact fun hs => hs.swap
  | trans _ _ i1 i2 => exact fun hs => i2 (i1 hs)
structure St (h0 : H) (G0 : PA → Prop) (l : List Ck) (h : H) : Prop where
  ex : ∃ G, Star l h G ∧ ∀ x, G x → G0 x ∨ h0.size ≤ x.1
  fr : Fr G0 h0 h
theorem St.start {l : List Ck} {h : H} {G : PA → Prop} (hs : Star l h G) : St h G l h := ⟨⟨G, hs, fun _ hx => .inl hx⟩, Fr.refl _ _⟩
theorem St.perm {l m : List Ck} {h0 h : H} {G0 : PA → Prop} (s : St h0 G0 l h) (hp : l.Perm m) : St h0 G0 m h := by
  obtain ⟨⟨G, h1, h2⟩, h3⟩ := s
  exact ⟨⟨G, h1.perm hp, h2⟩, h3⟩
def pull (i : Nat) (l : List Ck) : List Ck := match l[i]? with
  | some c => c :: l.eraseIdx i
  | none => l
theorem perm_pull (i : Nat) (l : List Ck) : l.Perm (pull i l) := by
  unfold pull
  split
  · rename_i c hc
    obtain ⟨h1, h2⟩ := List.getElem?_eq_some_iff.1 hc
    subst h2
    conv => lhs; rw [← List.take_append_drop i l, List.drop_eq_getElem_cons h1]
    rw [List.eraseIdx_eq_take_drop_succ]
    exact List.perm_middle
  · exact List.Perm.refl _
theorem St.pull {l : List Ck} {h0 h : H} {G0 : PA → Prop} (s : St h0 G0 l h) (i : Nat) : St h0 G0 (Go.Proofs.Ytegnpimlfphncaa.pull i l) h := s.perm (perm_pull i l)
theorem St.pull1 {c0 c1 : Ck} {l : List Ck} {h0 h : H} {G0 : PA → Prop} (s : St h0 G0 (c0 :: c1 :: l) h) : St h0 G0 (c1 :: c0 :: l) h := s.pull 1
theorem St.pull2 {c0 c1 c2 : Ck} {l : List Ck} {h0 h : H} {G0 : PA → Prop} (s : St h0 G0 (c0 :: c1 :: c2 :: l) h) : St h0 G0 (c2 :: c0 :: c1 :: l) h := s.pull 2
theorem St.pull3 {c0 c1 c2 c3 : Ck} {l : List Ck} {h0 h : H} {G0 : PA → Prop} (s : St h0 G0 (c0 :: c1 :: c2 :: c3 :: l) h) : St h0 G0 (c3 :: c0 :: c1 :: c2 :: l) h := s.pull 3
theorem St.pull4 {c0 c1 c2 c3 c4 : Ck} {l : List Ck} {h0 h : H} {G0 : PA → Prop} (s : St h0 G0 (c0 :: c1 :: c2 :: c3 :: c4 :: l) h) : St h0 G0 (c4 :: c0 :: c1 :: c2 :: c3 :: l) h := s.pull 4
theorem St.pull8 {c0 c1 c2 c3 c4 c5 c6 c7 c8 : Ck} {l : List Ck} {h0 h : H} {G0 : PA → Prop} (s : St h0 G0 (c0 :: c1 :: c2 :: c3 :: c4 :: c5 :: c6 :: c7 :: c8 :: l) h) : St h0 G0 (c8 :: c0 :: c1 :: c2 :: c3 :: c4 :: c5 :: c6 :: c7 :: l) h := s.pull 8
theorem pa_eq {a b : PA} (h1 : a.1 = b.1) (h2 : a.2 = b.2) : a = b := by cases a; cases b; simp_all
theorem St.turn {l l' m : List Ck} {h0 h : H} {G0 : PA → Prop} (s : St h0 G0 (l ++ m) h) (hc : ∀ F, Star l h F → Star l' h F) : St h0 G0 (l' ++ m) h := by
  obtain ⟨⟨G, h1, h2⟩, h3⟩ := s
  obtain ⟨A, B, a1, a2, a3, a4⟩ := h1.split
  exact ⟨⟨un A B, (hc A a1).append a2 a3, fun x hx => h2 x ((a4 x).2 hx)⟩, h3⟩
theorem St.turnE {α : Type} {l m : List Ck} {l' : α → List Ck} {φ : α → Prop} {h0 h : H} {G0 : PA → Prop} (s : St h0 G0 (l ++ m) h) (hc : ∀ F, Star l h F → ∃ x, φ x ∧ Star (l' x) h F) : ∃ x, φ x ∧ St h0 G0 (l' x ++ m) h := by
  obtain ⟨⟨G, h1, h2⟩, h3⟩ := s
  obtain ⟨A, B, a1, a2, a3, a4⟩ := h1.split
  obtain ⟨x, hx, hs⟩ := hc A a1
  exact ⟨x, hx, ⟨un A B, hs.append a2 a3, fun x hx => h2 x ((a4 x).2 hx)⟩, h3⟩
theorem St.drop {c : Ck} {m : List Ck} {h0 h : H} {G0 : PA → Prop} (s : St h0 G0 (c :: m) h) : St h0 G0 m h := by
  obtain ⟨⟨G, ⟨F1, F2, h1, h2, h3, h4⟩, h5⟩, h6⟩ := s
  exact ⟨⟨F2, h2, fun x hx => h5 x ((h4 x).2 (.inr hx))⟩, h6⟩
theorem St.left {l m : List Ck} {h0 h : H} {G0 : PA → Prop} (s : St h0 G0 (l ++ m) h) : St h0 G0 l h := by
  obtain ⟨⟨G, h1, h2⟩, h3⟩ := s
  obtain ⟨A, B, a1, a2, a3, a4⟩ := h1.split
  exact ⟨⟨A, a1, fun x hx => h2 x ((a4 x).2 (.inl hx))⟩, h3⟩
theorem St.get {l m : List Ck} {h0 h : H} {G0 : PA → Prop} (s : St h0 G0 (l ++ m) h) : ∃ F, Star l h F ∧ ∀ x, F x → G0 x ∨ h0.size ≤ x.1 := by
  obtain ⟨⟨G, h1, h2⟩, h3⟩ := s
  obtain ⟨A, B, a1, a2, a3, a4⟩ := h1.split
  exact ⟨A, a1, fun x hx => h2 x ((a4 x).2 (.inl hx))⟩
theorem St.fact {c : Ck} {m : List Ck} {h0 h : H} {G0 : PA → Prop} (s : St h0 G0 (c :: m) h) : ∃ F, c.p h F := by
  obtain ⟨⟨G, ⟨F1, F2, h1, h2, h3, h4⟩, h5⟩, h6⟩ := s
  exact ⟨F1, h1⟩
theorem St.then {l l' m : List Ck} {h0 h h' : H} {G0 : PA → Prop} (s : St h0 G0 (l ++ m) h) (hc : ∀ G, Star l h G → St h G l' h') : St h0 G0 (l' ++ m) h' := by
  obtain ⟨⟨G, h1, h2⟩, h3⟩ := s
  obtain ⟨A, B, a1, a2, a3, a4⟩ := h1.split
  obtain ⟨⟨C, c1, c2⟩, c3⟩ := hc A a1
  have hB := a2.lt
  refine ⟨⟨un C B, c1.append (a2.out c3 a3.symm) (fun x hC hx => (c2 x hC).elim (fun hA => a3 x hA hx) (fun hs => Nat.not_le_of_lt (hB x hx) hs)), fun x hx => ?_⟩,
    h3.then c3 fun x hx hA => (h2 x ((a4 x).2 (.inl hA))).elim id (fun hs => absurd hx (Nat.not_lt_of_le hs))⟩
  rcases hx with hC | hB'
  · rcases c2 x hC with hA | hs
    · exact h2 x ((a4 x).2 (.inl hA))
    · exact .inr (Nat.le_trans h3.size hs)
  · exact h2 x ((a4 x).2 (.inr hB'))
def Ow (a : PA) (vs : List Value) (k : Nat) : Ck where
  p h F := Own h a vs k ∧ ∀ x, F x ↔ rng a (vs.length + k) x
  out := fun ⟨o, e⟩ f hd => ⟨o.out f (hd.sub (fun x hx => (e x).2 hx) fun _ hx => hx), e⟩
  lt := fun ⟨o, e⟩ x hx => o.lt ((e x).1 hx)
def SlC (s : SlT) (sz : Nat) (vs : List Value) : Ck where
  p h F := Sl h s sz vs ∧ ∀ x, F x ↔ sfoot s sz x
  out := fun ⟨o, e⟩ f hd => ⟨o.out f (hd.sub (fun x hx => (e x).2 hx) fun _ hx => hx), e⟩
  lt := fun ⟨o, e⟩ x hx => o.foot_lt ((e x).1 hx)
class Fi (l : List Ck) (a : PA) (vs : outParam (List Value)) (j : outParam Nat) (k : outParam Nat) (l' : outParam (List Value → List Ck)) : Prop where
  ok : ∀ h G, Star l h G → ∃ b F B, a = (b.1, b.2 + j) ∧ Own h b vs k ∧ (∀ x, F x ↔ rng b (vs.length + k) x) ∧ dj F B ∧ (∀ x, G x ↔ F x ∨ B x) ∧
    ∀ h' ws, Own h' b ws k → ws.length = vs.length → Fr F h h' → Star (l' ws) h' G
theorem fi_head {l : List Ck} {b : PA} {vs : List Value} {k : Nat} (a : PA) (j : Nat) (he : a = (b.1, b.2 + j)) : Fi (Ow b vs k :: l) a vs j k (fun ws => Ow b ws k :: l) := by
  refine ⟨fun h G ⟨F1, F2, ⟨h1, e⟩, h2, h3, h4⟩ => ⟨b, F1, F2, he, h1, e, h3, h4, fun h' ws ho hl f => ⟨F1, F2, ⟨ho, by rw [hl]; exact e⟩, h2.out f h3.symm, h3, h4⟩⟩⟩
instance fi_tail {l : List Ck} {c : Ck} {a : PA} {vs : List Value} {j k : Nat} {l' : List Value → List Ck} [Fi l a vs j k l'] : Fi (c :: l) a vs j k (fun ws => c :: l' ws) := by
  refine ⟨fun h G ⟨F1, F2, h1, h2, h3, h4⟩ => ?_⟩
  obtain ⟨b, F, B, e, o, eF, hd, hu, hk⟩ := Fi.ok (self := ‹Fi l a vs j k l'›) h F2 h2
  refine ⟨b, F, un F1 B, e, o, eF, fun x hx hu' => hu'.elim (fun h1' => h3 x h1' ((hu x).2 (.inl hx))) (hd x hx), fun x => ?_, fun h' ws ho hl f => ?_⟩
  · rw [h4, hu]
    exact ⟨fun hx => hx.elim (fun h => .inr (.inl h)) (fun h => h.elim .inl (fun h => .inr (.inr h))), fun hx => hx.elim (fun h => .inr (.inl h)) (fun h => h.elim .inl (fun h => .inr (.inr h)))⟩
  · exact ⟨F1, F2, c.out h1 f (h3.sub (fun _ hx => hx) (fun x hx => (hu x).2 (.inl hx))), hk h' ws ho hl f, h3, h4⟩
instance fi_pair {l : List Ck} {b j k : Nat} {vs : List Value} : Fi (Ow (b, 0) vs k :: l) (b, j) vs j k (fun ws => Ow (b, 0) ws k :: l) := fi_head _ _ (by simp)
instance fi_add {l : List Ck} {b : PA} {j k : Nat} {vs : List Value} : Fi (Ow b vs k :: l) (b.1, b.2 + j) vs j k (fun ws => Ow b ws k :: l) := fi_head _ _ rfl
instance fi_eta {l : List Ck} {b : PA} {k : Nat} {vs : List Value} : Fi (Ow b vs k :: l) (b.1, b.2) vs 0 k (fun ws => Ow b ws k :: l) := fi_head _ _ rfl
instance fi_self {l : List Ck} {b : PA} {k : Nat} {vs : List Value} : Fi (Ow b vs k :: l) b vs 0 k (fun ws => Ow b ws k :: l) := fi_head _ _ rfl
instance fi_add2 {l : List Ck} {b : PA} {j m k : Nat} {vs : List Value} : Fi (Ow b vs k :: l) (b.1, b.2 + m + j) vs (m + j) k (fun ws => Ow b ws k :: l) := fi_head _ _ (by rw [Nat.add_assoc])
section
variable {P : Program} {Q : Ex → List AV → H → Prop} {h h0 : H} {G0 : PA → Prop} {l : List Ck}
theorem St.re {p : PA} {vs : List Value} {k : Nat} (s : St h0 G0 (Ow p vs k :: l) h) (q : PA) (ws : List Value) (k' : Nat) (hp : p = q) (hv : vs = ws) (hk : k = k') : St h0 G0 (Ow q ws k' :: l) h := by
  subst hp hv hk; exact s
theorem Star.rd {G : PA → Prop} (s : Star l h G) {a : PA} {vs : List Value} {j k : Nat} {l' : List Value → List Ck} [Fi l a vs j k l'] {v : Value} (hv : vs[j]? = some v) : Go.Proofs.Ytegnpimlfphncaa.rd h a = some v := by
  obtain ⟨b, F, B, e, o, _⟩ := Fi.ok (self := ‹Fi l a vs j k l'›) h G s
  rw [e]
  exact o.rd j v hv
theorem St.rd (s : St h0 G0 l h) {a : PA} {vs : List Value} {j k : Nat} {l' : List Value → List Ck} [Fi l a vs j k l'] {v : Value} (hv : vs[j]? = some v) : Go.Proofs.Ytegnpimlfphncaa.rd h a = some v := by
  obtain ⟨⟨G, h1, _⟩, _⟩ := s
  exact h1.rd hv
theorem St.rds (s : St h0 G0 l h) {a : PA} {vs : List Value} {j k : Nat} {l' : List Value → List Ck} [Fi l a vs j k l'] (us : List Value) (hu : ∀ i v, us[i]? = some v → vs[j + i]? = some v) : Go.Proofs.Ytegnpimlfphncaa.rds h a us := by
  obtain ⟨⟨G, h1, _⟩, _⟩ := s
  obtain ⟨b, F, B, e, o, _⟩ := Fi.ok (self := ‹Fi l a vs j k l'›) h G h1
  intro i v hi
  rw [e]
  have := o.rd (j + i) v (hu i v hi)
  simpa [Nat.add_assoc] using this
theorem St.change (s : St h0 G0 l h) {a : PA} {vs : List Value} {j k : Nat} {l' : List Value → List Ck} [Fi l a vs j k l'] {h' : H} {ws : List Value} (hl : ws.length = vs.length)
    (hc : ∀ b, a = (b.1, b.2 + j) → Own h b vs k → Own h' b ws k ∧ Fr (rng b (vs.length + k)) h h') : St h0 G0 (l' ws) h' := by
  obtain ⟨⟨G, h1, h2⟩, h3⟩ := s
  obtain ⟨b, F, B, e, o, eF, hd, hu, hk⟩ := Fi.ok (self := ‹Fi l a vs j k l'›) h G h1
  obtain ⟨c1, c2⟩ := hc b e o
  have c3 : Fr F h h' := c2.mono fun x _ hx => (eF x).2 hx
  exact ⟨⟨G, hk h' ws c1 hl c3, h2⟩, h3.then c3 fun x hx hF => (h2 x ((hu x).2 (.inl hF))).elim id (fun hs => absurd hx (Nat.not_lt_of_le hs))⟩
theorem ld_int (s : St h0 G0 l h) {a : PA} {vs : List Value} {j k : Nat} {l' : List Value → List Ck} [Fi l a vs j k l'] {kd : IntKind} {n : Int} {m : Int → M} (hv : vs[j]? = some (.int kd n))
    (hw : wp P (m n) Q h) : wp P (.load a (.int kd) m) Q h := ⟨n, s.rd hv, hw⟩
theorem ld_bool (s : St h0 G0 l h) {a : PA} {vs : List Value} {j k : Nat} {l' : List Value → List Ck} [Fi l a vs j k l'] {b : Bool} {m : Bool → M} (hv : vs[j]? = some (.bool b))
    (hw : wp P (m b) Q h) : wp P (.load a .bool m) Q h := ⟨b, s.rd hv, hw⟩
theorem ld_ptr (s : St h0 G0 l h) {a : PA} {vs : List Value} {j k : Nat} {l' : List Value → List Ck} [Fi l a vs j k l'] (p : Option PA) {m : Option PA → M} (hv : vs[j]? = some (.pointer (p.map PA.val)))
    (hw : wp P (m p) Q h) : wp P (.load a .ptr m) Q h := ⟨p, s.rd hv, hw⟩
theorem ld_sl (s : St h0 G0 l h) {a : PA} {vs : List Value} {j k : Nat} {l' : List Value → List Ck} [Fi l a vs j k l'] (p : Option PA) (n c : Nat) {m : SlT → M} (hv : vs[j]? = some (.slice (p.map PA.val) n c))
    (hw : wp P (m (p, n, c)) Q h) : wp P (.load a .sl m) Q h := ⟨(p, n, c), s.rd hv, hw⟩
theorem st_held (s : St h0 G0 l h) {a : PA} {vs : List Value} {j k : Nat} {l' : List Value → List Ck} [Fi l a vs j k l'] {c : Cell} {m : M} (hv : vs[j]? = some c.val)
    (hw : wp P m Q h) : wp P (.held a c m) Q h := ⟨s.rd hv, hw⟩
theorem st_store (s : St h0 G0 l h) {a : PA} {vs : List Value} {j k : Nat} {l' : List Value → List Ck} [Fi l a vs j k l'] {c : Cell} {m : M} (hj : j < vs.length)
    (hw : ∀ h', St h0 G0 (l' (vs.set j c.val)) h' → wp P m Q h') : wp P (.store a c m) Q h := by
  refine ⟨?_, hw _ (s.change (a := a) (ws := vs.set j c.val) (by simp) fun b e o => ?_)⟩
  · obtain ⟨⟨G, h1, h2⟩, h3⟩ := s
    obtain ⟨b, F, B, e, o, _⟩ := Fi.ok (self := ‹Fi l a vs j k l'›) h G h1
    rw [e]
    exact o.ok j (by omega)
  · rw [e]
    exact ⟨o.one j _ hj, Fr.wr _ ⟨rfl, by simp, by simp; omega⟩⟩
theorem St.new (s : St h0 G0 l h) {t : TypeId} (hg : gd t = true) (vs us : List Value) : St h0 G0 (Ow (h.size, 0) vs us.length :: l) (newCells h t (vs ++ us)) := by
  obtain ⟨⟨G, h1, h2⟩, h3⟩ := s
  refine ⟨⟨un (rng (h.size, 0) (vs.length + us.length)) G, ⟨_, G, ⟨Own.new h hg vs us, fun x => Iff.rfl⟩, h1.out (Fr.new (F := none') h t _) (fun x _ hn => hn), fun x hx hG => ?_, fun x => Iff.rfl⟩, fun x hx => ?_⟩, h3.trans (Fr.new h t _)⟩
  · have := h1.lt x hG
    obtain ⟨e, _⟩ := hx
    simp at e; omega
  · rcases hx with ⟨e, _⟩ | hG
    · right; have := h3.size; simp at e; omega
    · exact h2 x hG
theorem st_alloc (s : St h0 G0 l h) {t : TypeId} {cs : List Cell} {m : Nat → M} (hw : ∀ n h', St h0 G0 (Ow (n, 0) (cs.map Cell.val) 0 :: l) h' → wp P (m n) Q h') : wp P (.alloc t cs m) Q h := by
  refine w_alloc fun hg => ?_
  have := s.new hg (cs.map Cell.val) []
  rw [List.append_nil] at this
  exact hw _ _ this
theorem st_allocK (s : St h0 G0 l h) {t : TypeId} {cs : List Cell} {m : Nat → M} (hw : ∀ n h', St h0 G0 (Ow (n, 0) (cs.map Cell.val) 0 :: l) h' → (∀ a v, Go.Proofs.Ytegnpimlfphncaa.rd h a = some v → Go.Proofs.Ytegnpimlfphncaa.rd h' a = some v) → wp P (m n) Q h') : wp P (.alloc t cs m) Q h := by
  refine w_alloc fun hg => ?_
  have := s.new hg (cs.map Cell.val) []
  rw [List.append_nil] at this
  exact hw _ _ this fun a v ha => by rw [rd_new_old t _ (rd_lt ha)]; exact ha
theorem st_make (s : St h0 G0 l h) {e : TypeId} {sz byt : Nat} {z : List Cell} {len cap : Int} {m : SlT → M} (hz : z.length = sz) (h1 : 0 ≤ len) (h2 : len ≤ cap) (h3 : (byt : Int) * cap ≤ 281474976710656) (h4 : cap ≤ 9223372036854775807)
    (hw : ∀ n h', St h0 G0 (SlC (some (n, 0), len.toNat, cap.toNat) sz (madeCells (z.map Cell.val).toArray (len.toNat * sz)).toList :: l) h' → wp P (m (some (n, 0), len.toNat, cap.toNat)) Q h') :
    wp P (.make e sz byt z len cap m) Q h := by
  refine w_make h1 h2 h3 h4 fun hg => ?_
  have hn := s.new hg (madeCells (z.map Cell.val).toArray (len.toNat * sz)).toList ((madeCells (z.map Cell.val).toArray (cap.toNat * sz)).toList.drop (len.toNat * sz))
  clear hg
  have hcl : len.toNat ≤ cap.toNat := by omega
  have hsp : (madeCells (z.map Cell.val).toArray (cap.toNat * sz)).toList = (madeCells (z.map Cell.val).toArray (len.toNat * sz)).toList ++ ((madeCells (z.map Cell.val).toArray (cap.toNat * sz)).toList.drop (len.toNat * sz)) := by
    conv => lhs; rw [← List.take_append_drop (len.toNat * sz) (madeCells (z.map Cell.val).toArray (cap.toNat * sz)).toList]
    congr 1
    have hle : len.toNat * sz ≤ cap.toNat * sz := Nat.mul_le_mul_right _ hcl
    have key : ∀ m, (madeCells (z.map Cell.val).toArray m).toList = (List.range m).map fun i => (z.map Cell.val).toArray[i % (z.map Cell.val).toArray.size]! := fun m => by simp [madeCells]
    rw [key, key, ← List.map_take, List.take_range, Nat.min_eq_left hle]
  have hll : (madeCells (z.map Cell.val).toArray (len.toNat * sz)).toList.length = len.toNat * sz := by rw [Array.length_toList, size_madeCells]
  have hlc : (madeCells (z.map Cell.val).toArray (cap.toNat * sz)).toList.length = cap.toNat * sz := by rw [Array.length_toList, size_madeCells]
  rw [hsp]
  refine hw _ _ (hn.turn (l := [_]) (l' := [_]) fun F hF => ?_)
  obtain ⟨F1, F2, ⟨o, e1⟩, e2, e3, e4⟩ := hF
  have hk : (List.drop (len.toNat * sz) (madeCells (z.map Cell.val).toArray (cap.toNat * sz)).toList).length = (cap.toNat - len.toNat) * sz := by
    rw [List.length_drop, hlc, Nat.sub_mul]
  rw [hk] at o e1
  refine ⟨F1, F2, ⟨⟨hll, hcl, .inr ⟨_, rfl, o⟩⟩, fun x => ?_⟩, e2, e3, e4⟩
  rw [e1, hll, ← Nat.add_mul]
  simp only [sfoot]
  rw [show len.toNat + (cap.toNat - len.toNat) = cap.toNat by omega]
theorem ld_some (s : St h0 G0 l h) {a : PA} {vs : List Value} {j k : Nat} {l' : List Value → List Ck} [Fi l a vs j k l'] {p : PA} {m : Option PA → M} (hv : vs[j]? = some (.pointer (some p.val)))
    (hw : wp P (m (some p)) Q h) : wp P (.load a .ptr m) Q h := ⟨some p, s.rd hv, hw⟩
theorem ld_nil (s : St h0 G0 l h) {a : PA} {vs : List Value} {j k : Nat} {l' : List Value → List Ck} [Fi l a vs j k l'] {m : Option PA → M} (hv : vs[j]? = some (.pointer none))
    (hw : wp P (m none) Q h) : wp P (.load a .ptr m) Q h := ⟨none, s.rd hv, hw⟩
theorem St.rsl (s : St h0 G0 l h) {a : PA} {vs : List Value} {j k : Nat} {l' : List Value → List Ck} [Fi l a vs j k l'] (us : List Value) (n c sz : Nat) (hu : ∀ i v, us[i]? = some v → vs[j + i]? = some v) (hl : us.length = n * sz) :
    RSl h (some a, n, c) sz us := ⟨hl, .inr ⟨a, rfl, s.rds us hu⟩⟩
theorem st_append {e : TypeId} {sz byt : Nat} {z : List Cell} {d src : SlT} {m : SlT → M} {vs news : List Value} (s : St h0 G0 (SlC d sz vs :: l) h) (hz : z.length = sz) (hs : RSl h src sz news)
    (h1 : ∀ v ∈ news, v.oneCell' = true) (hg : growOk (d.2.1 + src.2.1) byt)
    (hw : ∀ d' h', St h0 G0 (SlC d' sz (vs ++ news) :: l) h' → d'.2.1 = d.2.1 + src.2.1 → (0 < d.2.1 + src.2.1 ∨ d.1.isSome = true → d'.1.isSome = true) → wp P (m d') Q h') : wp P (.append e sz byt z d src m) Q h := by
  obtain ⟨F, hF, eF⟩ := s.fact
  refine w_append hz hF hs h1 hg fun d' h' hsl hlen hfr hft _ hsome => hw d' h' ?_ hlen hsome
  refine St.then (l := [_]) (l' := [_]) s fun G hG => ?_
  obtain ⟨F1, F2, ⟨o, e1⟩, e2, e3, e4⟩ := hG
  refine ⟨⟨sfoot d' sz, ⟨sfoot d' sz, none', ⟨hsl, fun _ => Iff.rfl⟩, fun x hx => hx, fun x _ hn => hn, fun x => ⟨.inl, fun hx => hx.elim id (fun h => h.elim)⟩⟩, fun x hx => ?_⟩, hfr.mono fun x _ hx => (e4 x).2 (.inl ((e1 x).2 hx))⟩
  exact (hft x hx).imp (fun hx => (e4 x).2 (.inl ((e1 x).2 hx))) id
theorem st_copy (s : St h0 G0 l h) {a : PA} {vs : List Value} {j k : Nat} {l' : List Value → List Ck} [Fi l a vs j k l'] {sz : Nat} {d src : SlT} {m : Nat → M} {us : List Value} {q : PA}
    (hl : us.length = Nat.min src.2.1 d.2.1 * sz) (hd : d.1 = some a) (hs : us = [] ∨ src.1 = some q ∧ rds h q us) (h1 : ∀ v ∈ us, v.oneCell' = true) (hj : j + us.length ≤ vs.length)
    (hw : ∀ h', St h0 G0 (l' (splice vs j us)) h' → wp P (m (Nat.min src.2.1 d.2.1)) Q h') : wp P (.copy sz d src m) Q h := by
  refine ⟨us, hl, ?_, ?_⟩
  · rcases hs with rfl | ⟨h2, h3⟩
    · exact .inl rfl
    · refine .inr ⟨a, q, hd, h2, h3, fun i hi => ?_, h1⟩
      obtain ⟨⟨G, g1, g2⟩, g3⟩ := s
      obtain ⟨b, F, B, e, o, _⟩ := Fi.ok (self := ‹Fi l a vs j k l'›) h G g1
      rw [e]
      have := o.ok (j + i) (by omega)
      simpa [Nat.add_assoc] using this
  · rw [hd]
    refine hw _ (s.change (a := a) (ws := splice vs j us) (splice_length hj) fun b e o => ?_)
    rw [e]
    exact ⟨o.splice j us hj, Fr.wrs us h _ fun x hx => by obtain ⟨g1, g2, g3⟩ := hx; exact ⟨g1, by simp at g2; omega, by simp at g3; omega⟩⟩
theorem fi_shift {a : PA} {vs : List Value} {k : Nat} {l' : List Value → List Ck} [Fi l a vs 0 k l'] (j : Nat) : Fi l (a.1, a.2 + j) vs j k l' := by
  refine ⟨fun h G hs => ?_⟩
  obtain ⟨b, F, B, e, r⟩ := Fi.ok (self := ‹Fi l a vs 0 k l'›) h G hs
  exact ⟨b, F, B, by rw [e]; rfl, r⟩
theorem slBase_in {p : PA} {c lo sz : Nat} (h : lo < c) : slBase (some p) c lo sz = some (p.1, p.2 + lo * sz) := by
  unfold slBase
  rw [if_neg (by omega), mulN_eq]; rfl
theorem slBase_zero {p : PA} {c sz : Nat} : slBase (some p) c 0 sz = some p := by
  unfold slBase
  split
  · rfl
  · rw [mulN_eq, Nat.zero_mul]; rfl
theorem st_copyI {I : Type} {L : Lay I} (s : St h0 G0 l h) {p : PA} {ys : List I} {k : Nat} {l' : List Value → List Ck} [Fi l p (L.flat ys) 0 k l'] {n c a b sz : Nat} {m : Nat → M} (hsz : sz = L.sz) (hn : ys.length = n) (ha : a ≤ n) (hb : b ≤ n) (hc : n ≤ c)
    (hw : ∀ h' mm, mm = Nat.min (n - b) (n - a) → St h0 G0 (l' (L.flat (ys.take a ++ ((ys.drop b).take mm ++ ys.drop (a + mm))))) h' → wp P (m mm) Q h') :
    wp P (.copy sz (slBase (some p) c a sz, n - a, c - a) (slBase (some p) c b sz, n - b, c - b) m) Q h := by
  subst hsz
  have hmin : Nat.min (n - b) (n - a) ≤ n - b ∧ Nat.min (n - b) (n - a) ≤ n - a := ⟨Nat.min_le_left _ _, Nat.min_le_right _ _⟩
  by_cases hac : a = c
  · have h0 : Nat.min (n - b) (n - a) = 0 := by omega
    refine st_copy s (a := p) (us := []) (q := p) (by dsimp only; rw [h0]; simp) (by unfold slBase; rw [if_pos (by omega)]) (.inl rfl) (by simp) (by simp) fun h' S => hw h' _ rfl ?_
    rw [h0]
    simp only [splice, List.take_zero, List.nil_append, List.length_nil, Nat.add_zero, List.drop_zero, List.take_append_drop] at S ⊢
    exact S
  · have hlen : ((ys.drop b).take (Nat.min (n - b) (n - a))).length = Nat.min (n - b) (n - a) := by rw [List.length_take, List.length_drop, hn]; omega
    haveI := fi_shift (l := l) (a := p) (vs := L.flat ys) (k := k) (l' := l') (a * L.sz)
    refine st_copy s (a := (p.1, p.2 + a * L.sz)) (vs := L.flat ys) (j := a * L.sz) (us := L.flat ((ys.drop b).take (Nat.min (n - b) (n - a)))) (q := (p.1, p.2 + b * L.sz)) (by rw [L.flat_length, hlen]) (slBase_in (by omega)) ?_ (L.flat_one _) ?_ fun h' S => hw h' _ rfl ?_
    · by_cases hz : Nat.min (n - b) (n - a) = 0
      · left; rw [hz]; rfl
      · right
        refine ⟨slBase_in (by omega), ?_⟩
        haveI := fi_shift (l := l) (a := p) (vs := L.flat ys) (k := k) (l' := l') (b * L.sz)
        refine s.rds (vs := L.flat ys) (j := b * L.sz) _ fun i v hi => ?_
        rw [← L.flat_take, ← L.flat_drop] at hi
        rw [List.getElem?_take] at hi
        split at hi
        · rw [List.getElem?_drop] at hi; exact hi
        · cases hi
    · rw [L.flat_length, L.flat_length, hlen, ← Nat.add_mul]
      exact Nat.mul_le_mul_right _ (by omega)
    · simp only [splice] at S
      rw [L.flat_length, hlen, ← Nat.add_mul, L.flat_take, L.flat_drop, List.append_assoc, ← L.flat_append, ← L.flat_append] at S
      exact S
theorem St.open_sl {s : SlT} {sz : Nat} {vs : List Value} (st : St h0 G0 (SlC s sz vs :: l) h) (hs : s.1.isSome = true) :
    ∃ p n c, s = (some p, n, c) ∧ n ≤ c ∧ vs.length = n * sz ∧ St h0 G0 (Ow p vs ((c - n) * sz) :: l) h := by
  obtain ⟨p, n, c⟩ := s
  obtain ⟨p, rfl⟩ := Option.isSome_iff_exists.1 hs
  obtain ⟨F, ⟨h1, h2, h3⟩, eF⟩ := st.fact
  refine ⟨p, n, c, rfl, h2, h1, st.turn (l := [_]) (l' := [_]) fun F hF => ?_⟩
  obtain ⟨F1, F2, ⟨o, e1⟩, e2, e3, e4⟩ := hF
  refine ⟨F1, F2, ⟨?_, fun x => ?_⟩, e2, e3, e4⟩
  · rcases o.2.2 with ⟨hn, _⟩ | ⟨q, hq, ho⟩
    · cases hn
    · obtain rfl := Option.some.inj hq
      exact ho
  · rw [e1, h1, ← Nat.add_mul]
    simp only [sfoot]
    simp only at h2
    rw [show n + (c - n) = c by omega]
theorem St.close_sl {p : PA} {n c sz : Nat} {vs : List Value} (st : St h0 G0 (Ow p vs ((c - n) * sz) :: l) h) (hn : n ≤ c) (hl : vs.length = n * sz) : St h0 G0 (SlC (some p, n, c) sz vs :: l) h := by
  refine st.turn (l := [_]) (l' := [_]) fun F hF => ?_
  obtain ⟨F1, F2, ⟨o, e1⟩, e2, e3, e4⟩ := hF
  refine ⟨F1, F2, ⟨⟨hl, hn, .inr ⟨p, rfl, o⟩⟩, fun x => ?_⟩, e2, e3, e4⟩
  rw [e1, hl, ← Nat.add_mul]
  simp only [sfoot]
  rw [show n + (c - n) = c by omega]
theorem St.cut {p : PA} {vs ws : List Value} {k : Nat} (st : St h0 G0 (Ow p (vs ++ ws) k :: l) h) : St h0 G0 (Ow p vs 0 :: Ow (p.1, p.2 + vs.length) ws k :: l) h := by
  refine st.turn (l := [_]) (l' := [_, _]) fun F hF => ?_
  obtain ⟨F1, F2, ⟨o, e1⟩, e2, e3, e4⟩ := hF
  refine ⟨rng p vs.length, rng (p.1, p.2 + vs.length) (ws.length + k), ⟨o.left, fun x => by simp⟩, ⟨_, none', ⟨o.right, fun x => Iff.rfl⟩, fun x hx => hx, fun x _ hn => hn, fun x => ⟨.inl, fun hx => hx.elim id (fun h => h.elim)⟩⟩, fun x hx hy => ?_, fun x => ?_⟩
  · obtain ⟨_, _, a3⟩ := hx; obtain ⟨_, b2, _⟩ := hy; omega
  · rw [e4, e1]
    simp only [rng, List.length_append]
    constructor
    · rintro (⟨g1, g2, g3⟩ | hn)
      · by_cases hc : x.2 < p.2 + vs.length
        · exact .inl ⟨g1, g2, hc⟩
        · exact .inr ⟨g1, by omega, by omega⟩
      · exact (e2 x hn).elim
    · rintro (⟨g1, g2, g3⟩ | ⟨g1, g2, g3⟩)
      · exact .inl ⟨g1, g2, by omega⟩
      · exact .inl ⟨g1, by omega, by omega⟩
theorem St.shrink {p : PA} {vs ws : List Value} {k : Nat} (st : St h0 G0 (Ow p (vs ++ ws) k :: l) h) : St h0 G0 (Ow p vs (ws.length + k) :: l) h := by
  refine st.turn (l := [_]) (l' := [_]) fun F hF => ?_
  obtain ⟨F1, F2, ⟨o, e1⟩, e2, e3, e4⟩ := hF
  exact ⟨F1, F2, ⟨o.shrink, fun x => by rw [e1, List.length_append, Nat.add_assoc]⟩, e2, e3, e4⟩
theorem st_call {f : FuncId} {args : List AV} {tup : Bool} {ss : List Sh} {k : SV ss → M} {pre m : List Ck} (s : St h0 G0 (pre ++ m) h) {R : Value → List Ck → Prop}
    (hc : ∀ G, Star pre h G → HC P f (args.map AV.val).toArray h fun v h' => ∃ post, R v post ∧ St h G post h')
    (hw : ∀ v post h', R v post → St h0 G0 (post ++ m) h' → ∃ x : SV ss, v = retVal tup ss x ∧ wp P (k x) Q h') : wp P (.call f args tup ss k) Q h := by
  have h2 : ∃ G, Star pre h G ∧ ∃ B, Star m h B ∧ dj G B ∧ St h0 G0 (pre ++ m) h := by
    obtain ⟨⟨G, h1, h2⟩, h3⟩ := s
    obtain ⟨A, B, a1, a2, a3, a4⟩ := h1.split
    exact ⟨A, a1, B, a2, a3, ⟨⟨G, h1, h2⟩, h3⟩⟩
  obtain ⟨⟨G, h1, h2⟩, h3⟩ := s
  obtain ⟨A, B, a1, a2, a3, a4⟩ := h1.split
  refine HC.mono (hc A a1) fun v h' ⟨post, hR, hst⟩ => hw v post h' hR ?_
  obtain ⟨⟨C, c1, c2⟩, c3⟩ := hst
  have hB := a2.lt
  refine ⟨⟨un C B, c1.append (a2.out c3 a3.symm) (fun x hC hx => (c2 x hC).elim (fun hA => a3 x hA hx) (fun hs => Nat.not_le_of_lt (hB x hx) hs)), fun x hx => ?_⟩,
    h3.then c3 fun x hx hA => (h2 x ((a4 x).2 (.inl hA))).elim id (fun hs => absurd hx (Nat.not_lt_of_le hs))⟩
  rcases hx with hC | hB'
  · rcases c2 x hC with hA | hs
    · exact h2 x ((a4 x).2 (.inl hA))
    · exact .inr (Nat.le_trans h3.size hs)
  · exact h2 x ((a4 x).2 (.inr hB'))
end
theorem w_loopN {P : Program} {Q : Ex → List AV → H → Prop} {h : H} {ss : List Sh} {init : List AV} {body : SV ss → M} (Inv : Nat → SV ss → H → Prop) (n0 : Nat) (x0 : SV ss) (h0 : (SV.list ss x0).map AV.val = init.map AV.val) (hI : Inv n0 x0 h)
    (hr : ∀ n x h1, Inv n x h1 → wp P (body x) (fun e vs h' => match e with
        | .normal => ∃ y m, (SV.list ss y).map AV.val = vs.map AV.val ∧ Inv m y h' ∧ m < n
        | _ => Q e vs h') h1) : wp P (.loop ss init body) Q h := by
  have least : ∀ (x : SV ss) (h1 : H), (∃ n, Inv n x h1) → ∃ n, Inv n x h1 ∧ ∀ m, Inv m x h1 → n ≤ m := by
    intro x h1 ⟨n, hn⟩
    induction n using Nat.strongRecOn with
    | _ n ih =>
      by_cases hm : ∃ m, m < n ∧ Inv m x h1
      · obtain ⟨m, hlt, hm⟩ := hm
        exact ih m hlt hm
      · exact ⟨n, hn, fun m hm' => Nat.le_of_not_lt fun hlt => hm ⟨m, hlt, hm'⟩⟩
  refine w_loop (fun x h1 => ∃ n, Inv n x h1) (fun x h1 => open Classical in if hx : ∃ n, Inv n x h1 then (least x h1 hx).choose else 0) x0 h0 ⟨n0, hI⟩ fun x h1 hx => ?_
  have hs := (least x h1 hx).choose_spec
  refine wp_mono (hr _ x h1 hs.1) fun e vs h' hh => ?_
  cases e with
  | normal =>
    obtain ⟨y, m, e1, e2, e3⟩ := hh
    refine ⟨y, e1, ⟨m, e2⟩, ?_⟩
    have hy : ∃ n, Inv n y h' := ⟨m, e2⟩
    have hs2 := (least y h' hy).choose_spec
    simp only [hx, hy, dif_pos]
    exact Nat.lt_of_le_of_lt (hs2.2 m e2) e3
  | exit i => exact hh
  | goto i => exact hh
  | ret => exact hh
section
variable {P : Program} {Q : Ex → List AV → H → Prop} {h h0 : H} {G0 : PA → Prop} {l : List Ck} {I : Type} (L : Lay I) (iso : Int)
def TrC (n b : Nat) (t : BT I n) : Ck where
  p h F := Tr L iso n h b t F
  out := fun h1 f hd => Tr.out L iso f h1 hd
  lt := fun h1 x hx => Tr.lt L iso h1 x hx
def FoC (n : Nat) (ks : List Nat) (ts : List (BT I n)) : Ck where
  p h F := Forest (Tr L iso n) h ks ts F
  out := fun h1 f hd => h1.out (fun k t F hT hdj => Tr.out L iso f hT hdj) hd
  lt := fun h1 x hx => h1.lt (fun k t F hT => Tr.lt L iso hT) x hx
theorem star_one {c : Ck} {F : PA → Prop} (h1 : c.p h F) : Star [c] h F := ⟨F, none', h1, fun x hx => hx, fun x _ hn => hn, fun x => ⟨.inl, fun hx => hx.elim id (fun h => h.elim)⟩⟩
theorem un_star : ∀ {cs : List (Ck × (PA → Prop))} {F : PA → Prop}, (∀ c ∈ cs, c.1.p h c.2) → (cs.map (·.2)).Pairwise dj → (∀ x, F x ↔ ∃ A ∈ cs.map (·.2), A x) → Star (cs.map (·.1)) h F
  | [], F, _, _, hF => fun x hx => by simpa using (hF x).1 hx
  | c :: cs, F, hp, hd, hF => by
    obtain ⟨h1, h2⟩ := List.pairwise_cons.1 hd
    refine ⟨c.2, fun x => ∃ A ∈ cs.map (·.2), A x, hp c (by simp), un_star (fun c hc => hp c (by simp [hc])) h2 (fun _ => Iff.rfl), fun x hx ⟨A, hA, hAx⟩ => h1 A hA x hx hAx, fun x => ?_⟩
    rw [hF]
    simp
theorem star_un : ∀ {cs : List Ck} {F : PA → Prop}, Star cs h F → ∃ Fs : List (PA → Prop), Fs.length = cs.length ∧ (∀ (i : Nat) (c : Ck) (A : PA → Prop), cs[i]? = some c → Fs[i]? = some A → c.p h A) ∧ Parts Fs F
  | [], F, hs => ⟨[], rfl, by simp, List.Pairwise.nil, fun x => by simpa using hs x⟩
  | c :: cs, F, ⟨F1, F2, h1, h2, h3, h4⟩ => by
    obtain ⟨Fs, g1, g2, g3, g4⟩ := star_un h2
    refine ⟨F1 :: Fs, by simp [g1], fun i c' A hi hA => ?_, List.pairwise_cons.2 ⟨fun A hA x hx hAx => h3 x hx ((g4 x).2 ⟨A, hA, hAx⟩), g3⟩, fun x => ?_⟩
    · cases i with
      | zero => simp at hi hA; subst hi; subst hA; exact h1
      | succ i => exact g2 i c' A (by simpa using hi) (by simpa using hA)
    · rw [h4, g4]; simp
theorem own_star {a : PA} {vs : List Value} {k : Nat} (o : Own h a vs k) : (Ow a vs k).p h (rng a (vs.length + k)) := ⟨o, fun _ => Iff.rfl⟩
theorem sl_foot {s : SlT} {sz : Nat} {vs : List Value} {p : PA} {n c : Nat} (hs : s = (some p, n, c)) (o : Sl h s sz vs) : n ≤ c ∧ vs.length = n * sz ∧ (Ow p vs ((c - n) * sz)).p h (sfoot s sz) := by
  subst hs
  obtain ⟨h1, h2, h3⟩ := o
  refine ⟨h2, h1, ?_, fun x => ?_⟩
  · rcases h3 with ⟨hn, _⟩ | ⟨q, hq, ho⟩
    · cases hn
    · obtain rfl := Option.some.inj hq
      exact ho
  · rw [h1, ← Nat.add_mul]
    dsimp only at h2
    simp only [sfoot]
    rw [show n + (c - n) = c by omega]
theorem open_leaf {b : Nat} {xs : BT I 0} (st : St h0 G0 (TrC L iso 0 b xs :: l) h) : ∃ p c, (itemsB 0 xs).length ≤ c ∧
    St h0 G0 (Ow (b, 0) (nodeC iso (itemsB 0 xs).length (some p, (itemsB 0 xs).length, c) none) 0 :: Ow p (L.flat (itemsB 0 xs)) ((c - (itemsB 0 xs).length) * L.sz) :: l) h := by
  obtain ⟨⟨p, c⟩, h1, h2⟩ := St.turnE (α := PA × Nat) (l := [_]) (l' := fun x => [Ow (b, 0) (nodeC iso (itemsB 0 xs).length (some x.1, (itemsB 0 xs).length, x.2) none) 0, Ow x.1 (L.flat (itemsB 0 xs)) ((x.2 - (itemsB 0 xs).length) * L.sz)])
    (φ := fun x => (itemsB 0 xs).length ≤ x.2) st (fun F hF => by
    obtain ⟨F1, F2, ⟨s, h1, h2, h3, h4, h5⟩, e2, e3, e4⟩ := hF
    obtain ⟨p, n, c⟩ := s
    obtain ⟨p, rfl⟩ := Option.isSome_iff_exists.1 h2
    obtain ⟨g1, g2, g3⟩ := sl_foot rfl h3
    dsimp only at h4; subst h4
    refine ⟨(p, c), g1, ?_⟩
    refine un_star (cs := [(_, rng (b, 0) 4), (_, sfoot (some p, (itemsB 0 xs).length, c) L.sz)]) (fun c hc => ?_) h5.1 (fun x => ?_)
    · simp only [List.mem_cons, List.not_mem_nil, or_false] at hc
      rcases hc with rfl | rfl
      · exact own_star h1
      · exact g3
    · rw [e4, h5.2]
      exact ⟨fun hx => hx.elim id (fun hn => (e2 x hn).elim), .inl⟩)
  exact ⟨p, c, h1, h2⟩
theorem shut_leaf {b : Nat} {xs : List I} {cnt n c : Nat} {p : PA} {k : Nat} {vs ws : List Value} (st : St h0 G0 (Ow (b, 0) ws 0 :: Ow p vs k :: l) h) (hw : ws = nodeC iso cnt (some p, n, c) none) (hv : vs = L.flat xs) (hn : n = xs.length) (hcnt : cnt = n) (hc : n ≤ c) (hk : k = (c - n) * L.sz) :
    St h0 G0 (TrC L iso 0 b xs :: l) h := by
  subst hw hv hcnt hn hk
  refine st.turn (l := [_, _]) (l' := [_]) fun F hF => ?_
  obtain ⟨F1, F2, ⟨o1, a1⟩, ⟨F3, F4, ⟨o2, b1⟩, b2, b3, b4⟩, a3, a4⟩ := hF
  refine star_one ⟨(some p, xs.length, c), o1, rfl, ⟨by rw [L.flat_length]; rfl, hc, .inr ⟨p, rfl, o2⟩⟩, rfl, ?_, fun x => ?_⟩
  · simp only [List.pairwise_cons, List.mem_cons, List.not_mem_nil, or_false, forall_eq, false_implies, implies_true, List.Pairwise.nil, and_true]
    refine a3.sub (fun x hx => (a1 x).2 hx) fun x hx => (b4 x).2 (.inl ((b1 x).2 ?_))
    simp only [sfoot] at hx
    rw [L.flat_length, ← Nat.add_mul, show xs.length + (c - xs.length) = c by omega]
    exact hx
  · rw [a4, b4, a1, b1, L.flat_length, ← Nat.add_mul, show xs.length + (c - xs.length) = c by omega]
    simp only [List.mem_cons, List.not_mem_nil, or_false, exists_eq_or_imp, exists_eq_left, sfoot]
    exact or_congr Iff.rfl ⟨fun hx => hx.elim id (fun hn => (b2 x hn).elim), .inl⟩
theorem open_node {n b : Nat} {t : BT I (n + 1)} (st : St h0 G0 (TrC L iso (n + 1) b t :: l) h) : ∃ p c q d hb ks, t.1.length ≤ c ∧ ks.length ≤ d ∧ ks.length = t.2.length ∧
    St h0 G0 (Ow (b, 0) (nodeC iso (flatB (n + 1) t).length (some p, t.1.length, c) (some (hb, 0))) 0 :: Ow p (L.flat t.1) ((c - t.1.length) * L.sz) ::
      Ow (hb, 0) (hdC (some q, ks.length, d)) 0 :: Ow q (ks.map kptr) ((d - ks.length) * 1) :: FoC L iso n ks t.2 :: l) h := by
  obtain ⟨⟨p, c, q, d, hb, ks⟩, ⟨h1, h1', h1''⟩, h2⟩ := St.turnE (α := PA × Nat × PA × Nat × Nat × List Nat) (l := [_]) (l' := fun (x : PA × Nat × PA × Nat × Nat × List Nat) => [Ow (b, 0) (nodeC iso (flatB (n + 1) t).length (some x.1, t.1.length, x.2.1) (some (x.2.2.2.2.1, 0))) 0, Ow x.1 (L.flat t.1) ((x.2.1 - t.1.length) * L.sz),
      Ow (x.2.2.2.2.1, 0) (hdC (some x.2.2.1, x.2.2.2.2.2.length, x.2.2.2.1)) 0, Ow x.2.2.1 (x.2.2.2.2.2.map kptr) ((x.2.2.2.1 - x.2.2.2.2.2.length) * 1), FoC L iso n x.2.2.2.2.2 t.2])
    (φ := fun (x : PA × Nat × PA × Nat × Nat × List Nat) => t.1.length ≤ x.2.1 ∧ x.2.2.2.2.2.length ≤ x.2.2.2.1 ∧ x.2.2.2.2.2.length = t.2.length) st (fun F hF => by
    obtain ⟨F1, F2, ⟨s, e, hb, ks, FK, h1, h2, h3, h4, h5, h6, h7, h8, h9⟩, e2, e3, e4⟩ := hF
    obtain ⟨p, m, c⟩ := s
    obtain ⟨p, rfl⟩ := Option.isSome_iff_exists.1 h2
    obtain ⟨q, m2, d⟩ := e
    obtain ⟨q, rfl⟩ := Option.isSome_iff_exists.1 h6
    obtain ⟨g1, g2, g3⟩ := sl_foot rfl h3
    obtain ⟨f1, f2, f3⟩ := sl_foot rfl h7
    dsimp only at h4; subst h4
    rw [List.length_map, Nat.mul_one] at f2
    subst f2
    refine ⟨(p, c, q, d, hb, ks), ⟨g1, f1, h8.len⟩, ?_⟩
    refine un_star (cs := [(_, rng (b, 0) 4), (_, sfoot (some p, t.1.length, c) L.sz), (_, rng (hb, 0) 1), (_, sfoot (some q, ks.length, d) 1), (_, FK)]) (fun c hc => ?_) h9.1 (fun x => ?_)
    · simp only [List.mem_cons, List.not_mem_nil, or_false] at hc
      rcases hc with rfl | rfl | rfl | rfl | rfl
      · exact own_star h1
      · exact g3
      · exact own_star h5
      · exact f3
      · exact h8
    · rw [e4, h9.2]
      exact ⟨fun hx => hx.elim id (fun hn => (e2 x hn).elim), .inl⟩)
  exact ⟨p, c, q, d, hb, ks, h1, h1', h1'', h2⟩
theorem shut_node {n b : Nat} {xs : List I} {ts : List (BT I n)} {cnt m c m2 d hb k k2 : Nat} {p q : PA} {ks : List Nat} {ws vs us ys : List Value}
    (st : St h0 G0 (Ow (b, 0) ws 0 :: Ow p vs k :: Ow (hb, 0) us 0 :: Ow q ys k2 :: FoC L iso n ks ts :: l) h)
    (hw : ws = nodeC iso cnt (some p, m, c) (some (hb, 0))) (hv : vs = L.flat xs) (hu : us = hdC (some q, m2, d)) (hy : ys = ks.map kptr) (hm : m = xs.length) (hm2 : m2 = ks.length) (hcnt : cnt = (flatB (n + 1) (xs, ts)).length) (hc : m ≤ c) (hk : k = (c - m) * L.sz) (hd : m2 ≤ d) (hk2 : k2 = d - m2) :
    St h0 G0 (TrC L iso (n + 1) b (xs, ts) :: l) h := by
  subst hw hv hu hy hm hm2 hcnt hk hk2
  refine st.turn (l := [_, _, _, _, _]) (l' := [_]) fun F hF => ?_
  obtain ⟨Fs, g1, g2, g3⟩ := star_un hF
  match Fs, g1 with
  | [A1, A2, A3, A4, A5], _ =>
    obtain ⟨o1, a1⟩ := g2 0 _ _ rfl rfl
    obtain ⟨o2, a2⟩ := g2 1 _ _ rfl rfl
    obtain ⟨o3, a3⟩ := g2 2 _ _ rfl rfl
    obtain ⟨o4, a4⟩ := g2 3 _ _ rfl rfl
    have o5 := g2 4 _ _ rfl rfl
    have e2 : ∀ x, A2 x ↔ sfoot (some p, xs.length, c) L.sz x := fun x => by
      rw [a2, L.flat_length, ← Nat.add_mul, show xs.length + (c - xs.length) = c by omega]; rfl
    have e4 : ∀ x, A4 x ↔ sfoot (some q, ks.length, d) 1 x := fun x => by
      rw [a4, List.length_map, show ks.length + (d - ks.length) = d * 1 by omega]; rfl
    obtain ⟨g4, g5⟩ := g3
    have q1 : A1 = rng (b, 0) 4 := funext fun x => propext (a1 x)
    have q2 : A2 = sfoot (some p, xs.length, c) L.sz := funext fun x => propext (e2 x)
    have q3 : A3 = rng (hb, 0) 1 := funext fun x => propext (a3 x)
    have q4 : A4 = sfoot (some q, ks.length, d) 1 := funext fun x => propext (e4 x)
    subst q1 q2 q3 q4
    exact star_one ⟨(some p, xs.length, c), (some q, ks.length, d), hb, ks, A5, o1, rfl, ⟨by rw [L.flat_length], hc, .inr ⟨p, rfl, o2⟩⟩, rfl, o3, rfl, ⟨by rw [List.length_map, Nat.mul_one], hd, .inr ⟨q, rfl, by rw [Nat.mul_one]; exact o4⟩⟩, o5, g4, g5⟩
theorem fo_cons {n k : Nat} {ks : List Nat} {t : BT I n} {ts : List (BT I n)} (st : St h0 G0 (TrC L iso n k t :: FoC L iso n ks ts :: l) h) : St h0 G0 (FoC L iso n (k :: ks) (t :: ts) :: l) h := by
  refine st.turn (l := [_, _]) (l' := [_]) fun F hF => ?_
  obtain ⟨F1, F2, a1, ⟨F3, F4, b1, b2, b3, b4⟩, a3, a4⟩ := hF
  refine star_one ⟨F1, F3, a1, b1, a3.sub (fun _ hx => hx) (fun x hx => (b4 x).2 (.inl hx)), fun x => ?_⟩
  rw [a4, b4]
  exact or_congr Iff.rfl ⟨fun hx => hx.elim id (fun hn => (b2 x hn).elim), .inl⟩
theorem fo_uncons {n k : Nat} {ks : List Nat} {t : BT I n} {ts : List (BT I n)} (st : St h0 G0 (FoC L iso n (k :: ks) (t :: ts) :: l) h) : St h0 G0 (TrC L iso n k t :: FoC L iso n ks ts :: l) h := by
  refine st.turn (l := [_]) (l' := [_, _]) fun F hF => ?_
  obtain ⟨F1, F2, ⟨F3, F4, b1, b2, b3, b4⟩, a2, a3, a4⟩ := hF
  refine ⟨F3, F4, b1, star_one b2, b3, fun x => ?_⟩
  rw [a4, b4]
  exact ⟨fun hx => hx.elim id (fun hn => (a2 x hn).elim), .inl⟩
theorem fo_app {n : Nat} {ks ls : List Nat} {ts us : List (BT I n)} (st : St h0 G0 (FoC L iso n ks ts :: FoC L iso n ls us :: l) h) : St h0 G0 (FoC L iso n (ks ++ ls) (ts ++ us) :: l) h := by
  refine st.turn (l := [_, _]) (l' := [_]) fun F hF => ?_
  obtain ⟨F1, F2, a1, ⟨F3, F4, b1, b2, b3, b4⟩, a3, a4⟩ := hF
  have h1 : dj F1 F3 := a3.sub (fun _ hx => hx) (fun x hx => (b4 x).2 (.inl hx))
  refine Star.iff (star_one (c := FoC L iso n (ks ++ ls) (ts ++ us)) (Forest.append a1 b1 h1)) fun x => ?_
  rw [a4, b4]
  exact or_congr Iff.rfl ⟨.inl, fun hx => hx.elim id (fun hn => (b2 x hn).elim)⟩
theorem fo_split {n : Nat} {ks ls : List Nat} {ts us : List (BT I n)} (hl : ks.length = ts.length) (st : St h0 G0 (FoC L iso n (ks ++ ls) (ts ++ us) :: l) h) : St h0 G0 (FoC L iso n ks ts :: FoC L iso n ls us :: l) h := by
  refine st.turn (l := [_]) (l' := [_, _]) fun F hF => ?_
  obtain ⟨F1, F2, b, a2, a3, a4⟩ := hF
  obtain ⟨A, B, c1, c2, c3, c4⟩ := Forest.split hl b
  refine ⟨A, B, c1, star_one c2, c3, fun x => ?_⟩
  rw [a4, c4]
  exact ⟨fun hx => hx.elim id (fun hn => (a2 x hn).elim), .inl⟩
theorem fo_nil {n : Nat} (st : St h0 G0 l h) : St h0 G0 (FoC L iso n [] [] :: l) h := by
  refine st.turn (l := []) (l' := [_]) fun F hF => ?_
  exact star_one hF
theorem fo_at {n i : Nat} {ks : List Nat} {ts : List (BT I n)} {t : BT I n} (hl : ks.length = ts.length) (ht : ts[i]? = some t) (st : St h0 G0 (FoC L iso n ks ts :: l) h) : ∃ k, ks[i]? = some k ∧
    St h0 G0 (TrC L iso n k t :: FoC L iso n (ks.drop (i + 1)) (ts.drop (i + 1)) :: FoC L iso n (ks.take i) (ts.take i) :: l) h := by
  obtain ⟨h1, h2⟩ := List.getElem?_eq_some_iff.1 ht
  have hk : i < ks.length := by omega
  have e1 : ks = ks.take i ++ ks[i] :: ks.drop (i + 1) := by rw [← List.drop_eq_getElem_cons hk, List.take_append_drop]
  have e2 : ts = ts.take i ++ t :: ts.drop (i + 1) := by rw [← h2, ← List.drop_eq_getElem_cons h1, List.take_append_drop]
  rw [e1, e2] at st
  have st := fo_uncons L iso ((fo_split L iso (by simp; omega) st).pull 1)
  exact ⟨ks[i], List.getElem?_eq_getElem hk, st⟩
theorem tr_leaf {b : Nat} {xs : BT I 0} {F : PA → Prop} (t : Tr L iso 0 h b xs F) : ∃ p c, rd h (b, 2) = some (.slice (some (PA.val p)) (itemsB 0 xs).length c) ∧ rd h (b, 3) = some (.pointer none) ∧ rds h p (L.flat (itemsB 0 xs)) := by
  obtain ⟨s, h1, h2, h3, h4, h5⟩ := t
  obtain ⟨p, n, c⟩ := s
  obtain ⟨p, rfl⟩ := Option.isSome_iff_exists.1 h2
  dsimp only at h4; subst h4
  refine ⟨p, c, h1.rd 2 _ rfl, h1.rd 3 _ rfl, ?_⟩
  rcases h3.2.2 with ⟨hn, _⟩ | ⟨q, hq, ho⟩
  · cases hn
  · obtain rfl := Option.some.inj hq
    exact ho.rd
theorem tr_node {n b : Nat} {t : BT I (n + 1)} {F : PA → Prop} (tr : Tr L iso (n + 1) h b t F) : ∃ p c q d hb ks FK, rd h (b, 2) = some (.slice (some (PA.val p)) t.1.length c) ∧ rd h (b, 3) = some (.pointer (some (PA.val (hb, 0)))) ∧ rds h p (L.flat t.1) ∧
    rd h (hb, 0) = some (.slice (some (PA.val q)) ks.length d) ∧ rds h q (ks.map kptr) ∧ Forest (Tr L iso n) h ks t.2 FK ∧ ks.length = t.2.length := by
  obtain ⟨s, c, hb, ks, FK, h1, h2, h3, h4, h5, h6, h7, h8, h9⟩ := tr
  obtain ⟨p, m, c1⟩ := s
  obtain ⟨p, rfl⟩ := Option.isSome_iff_exists.1 h2
  obtain ⟨q, m2, d⟩ := c
  obtain ⟨q, rfl⟩ := Option.isSome_iff_exists.1 h6
  dsimp only at h4; subst h4
  have hm2 : m2 = ks.length := by have := h7.1; rw [List.length_map, Nat.mul_one] at this; exact this.symm
  subst hm2
  refine ⟨p, c1, q, d, hb, ks, FK, h1.rd 2 _ rfl, h1.rd 3 _ rfl, ?_, h5.rd 0 _ rfl, ?_, h8, h8.len⟩
  · rcases h3.2.2 with ⟨hn, _⟩ | ⟨x, hx, ho⟩
    · cases hn
    · obtain rfl := Option.some.inj hx
      exact ho.rd
  · rcases h7.2.2 with ⟨hn, _⟩ | ⟨x, hx, ho⟩
    · cases hn
    · obtain rfl := Option.some.inj hx
      exact ho.rd
end
end Go.Proofs.Ytegnpimlfphncaa
set_option linter.unusedVariables false
set_option linter.unusedSimpArgs false
set_option linter.unusedSectionVars false
namespace Go.Proofs.Ytegnpimlfphncaa
open Go
section
variable {I : Type} {lt : I → I → Bool}
def up (lt : I → I → Bool) (l : List I) (x : I) : Nat := pos lt l x + if (fnd lt l x).isSome then 1 else 0
theorem up_le (o : Ord lt) (l : List I) (x : I) : up lt l x ≤ l.length := by
  unfold up
  have := pos_le (lt := lt) l x
  cases hf : fnd lt l x with
  | none => simpa using this
  | some b =>
    have h1 := (fnd_some_lt hf).1
    simp; omega
theorem up_spec (o : Ord lt) {l : List I} (hs : Srt lt l) {x a : I} {i : Nat} (ha : l[i]? = some a) : lt x a = false ↔ i < up lt l x := by
  constructor
  · intro hx
    rcases Nat.lt_or_ge i (up lt l x) with h | h
    · exact h
    · have hm : a ∈ l.drop (pos lt l x + if (fnd lt l x).isSome then 1 else 0) := List.mem_iff_getElem?.2 ⟨i - up lt l x, by rw [List.getElem?_drop]; show l[up lt l x + _]? = _; rw [show up lt l x + (i - up lt l x) = i by omega]; exact ha⟩
      rw [drop_fnd_gt o hs a hm] at hx; cases hx
  · intro h
    by_cases hp : i < pos lt l x
    · exact o.asym ((pos_spec o hs x i a ha).1 hp)
    · unfold up at h
      cases hf : fnd lt l x with
      | none => rw [hf] at h; simp at h; omega
      | some b =>
        rw [hf] at h
        obtain ⟨h1, h2, h3⟩ := fnd_some_lt hf
        have : i = pos lt l x := by simp at h; omega
        subst this
        rw [ha] at h2
        obtain rfl := Option.some.inj h2
        exact h3
end
def cellTo : (s : Sh1) → Cell → Option s.T
  | .int k, .int k' n => match kindEq k' k with
    | true => some n
    | false => none
  | .bool, .bool b => some b
  | .bool, .tt => some true
  | .bool, .ff => some false
  | .ptr, .ptr p => some p
  | .ptr, .addr p => some (some p)
  | .addr, .addr p => some p
  | .sl, .sl p l c => some (p, l, c)
  | .str, .str s => some s
  | .raw, .raw v => some v
  | _, _ => none
theorem cellTo_val : ∀ {s : Sh1} {c : Cell} {x : s.T}, cellTo s c = some x → (s.mk x).val = c.val
  | .int k, .int k' n, x, h => by
    simp only [cellTo] at h
    split at h
    · rename_i he; obtain rfl := kindEq_eq he; cases h; rfl
    · cases h
  | .bool, .bool b, x, h => by cases h; rfl
  | .bool, .tt, x, h => by cases h; rfl
  | .bool, .ff, x, h => by cases h; rfl
  | .ptr, .ptr p, x, h => by cases h; rfl
  | .ptr, .addr p, x, h => by cases h; rfl
  | .addr, .addr p, x, h => by cases h; rfl
  | .sl, .sl p l c, x, h => by cases h; rfl
  | .str, .str s, x, h => by cases h; rfl
  | .raw, .raw v, x, h => by cases h; rfl
def cellsTo : (ss : List Sh1) → List Cell → Option (SV1 ss)
  | [], [] => some ()
  | s :: ss, c :: cs => match cellTo s c, cellsTo ss cs with
    | some x, some y => some (x, y)
    | _, _ => none
  | _, _ => none
theorem cellsTo_val : ∀ {ss : List Sh1} {cs : List Cell} {x : SV1 ss}, cellsTo ss cs = some x → (SV1.list ss x).map Cell.val = cs.map Cell.val
  | [], [], x, h => rfl
  | s :: ss, c :: cs, x, h => by
    simp only [cellsTo] at h
    split at h
    · rename_i a b ha hb
      cases h
      simp only [SV1.list, List.map_cons, cellTo_val ha, cellsTo_val hb]
    · cases h
  | [], _ :: _, x, h => by cases h
  | _ :: _, [], x, h => by cases h
def avTo : (s : Sh) → AV → Option s.T
  | .c s, .c x => cellTo s x
  | .agg ss, .agg cs => cellsTo ss cs
  | _, _ => none
theorem avTo_val : ∀ {s : Sh} {v : AV} {x : s.T}, avTo s v = some x → (s.mk x).val = v.val
  | .c s, .c c, x, h => cellTo_val (s := s) h
  | .agg ss, .agg cs, x, h => by
    show Value.agg ((SV1.list ss x).map Cell.val).toArray = Value.agg (cs.map Cell.val).toArray
    rw [cellsTo_val h]
  | .c _, .agg _, x, h => by cases h
  | .c _, .tup _, x, h => by cases h
  | .agg _, .c _, x, h => by cases h
  | .agg _, .tup _, x, h => by cases h
def avsTo : (ss : List Sh) → List AV → Option (SV ss)
  | [], [] => some ()
  | s :: ss, v :: vs => match avTo s v, avsTo ss vs with
    | some x, some y => some (x, y)
    | _, _ => none
  | _, _ => none
theorem avsTo_val : ∀ {ss : List Sh} {vs : List AV} {x : SV ss}, avsTo ss vs = some x → (SV.list ss x).map AV.val = vs.map AV.val
  | [], [], x, h => rfl
  | s :: ss, v :: vs, x, h => by
    simp only [avsTo] at h
    split at h
    · rename_i a b ha hb
      cases h
      simp only [SV.list, List.map_cons, avTo_val ha, avsTo_val hb]
    · cases h
  | [], _ :: _, x, h => by cases h
  | _ :: _, [], x, h => by cases h
section
variable {P : Program} {Q : Ex → List AV → H → Prop} {h : H}
def Bd (P : Program) (l : Option Nat) (ss : List Sh) (k : SV ss → M) (Q : Ex → List AV → H → Prop) : Ex → List AV → H → Prop := fun e vs h' =>
  match e, l with
  | .normal, _ => ∃ x : SV ss, (SV.list ss x).map AV.val = vs.map AV.val ∧ wp P (k x) Q h'
  | .exit i, some j => if i = j then ∃ x : SV ss, (SV.list ss x).map AV.val = vs.map AV.val ∧ wp P (k x) Q h' else Q e vs h'
  | _, _ => Q e vs h'
theorem w_bnd {l : Option Nat} {m : M} {ss : List Sh} {k : SV ss → M} (hm : wp P m (Bd P l ss k Q) h) : wp P (.bind l m ss k) Q h := by
  simp only [wp]
  refine wp_mono hm fun e vs h' hh => ?_
  cases e <;> cases l <;> exact hh
theorem bd_n {l : Option Nat} {ss : List Sh} {k : SV ss → M} {vs : List AV} {x : SV ss} (hx : avsTo ss vs = some x) (hw : wp P (k x) Q h) : wp P (.done .normal vs) (Bd P l ss k Q) h := ⟨x, avsTo_val hx, hw⟩
theorem bd_e {j : Nat} {ss : List Sh} {k : SV ss → M} {vs : List AV} {x : SV ss} (hx : avsTo ss vs = some x) (hw : wp P (k x) Q h) : wp P (.done (.exit j) vs) (Bd P (some j) ss k Q) h := by
  show if j = j then _ else _
  rw [if_pos rfl]; exact ⟨x, avsTo_val hx, hw⟩
theorem bd_q {j : Nat} {ss : List Sh} {k : SV ss → M} {vs : List AV} {i : Nat} (hij : i ≠ j) (hw : wp P (.done (.exit i) vs) Q h) : wp P (.done (.exit i) vs) (Bd P (some j) ss k Q) h := by
  show if i = j then _ else _
  rw [if_neg hij]; exact hw
theorem bd_r {l : Option Nat} {ss : List Sh} {k : SV ss → M} {vs : List AV} (hw : wp P (.done .ret vs) Q h) : wp P (.done .ret vs) (Bd P l ss k Q) h := hw
def Ln (P : Program) (ss : List Sh) (Inv : Nat → SV ss → H → Prop) (n : Nat) (Q : Ex → List AV → H → Prop) : Ex → List AV → H → Prop := fun e vs h' => match e with
  | .normal => ∃ y m, (SV.list ss y).map AV.val = vs.map AV.val ∧ Inv m y h' ∧ m < n
  | _ => Q e vs h'
theorem w_lp {ss : List Sh} {init : List AV} {body : SV ss → M} (Inv : Nat → SV ss → H → Prop) (n0 : Nat) {x0 : SV ss} (h0 : avsTo ss init = some x0) (hI : Inv n0 x0 h)
    (hr : ∀ n x h1, Inv n x h1 → wp P (body x) (Ln P ss Inv n Q) h1) : wp P (.loop ss init body) Q h :=
  w_loopN Inv n0 x0 (avsTo_val h0) hI fun n x h1 hh => wp_mono (hr n x h1 hh) fun e vs h' hq => by cases e <;> exact hq
theorem ln_n {ss : List Sh} {Inv : Nat → SV ss → H → Prop} {n : Nat} {vs : List AV} {y : SV ss} (hy : avsTo ss vs = some y) (m : Nat) (hI : Inv m y h) (hm : m < n) : wp P (.done .normal vs) (Ln P ss Inv n Q) h := ⟨y, m, avsTo_val hy, hI, hm⟩
theorem ln_e {ss : List Sh} {Inv : Nat → SV ss → H → Prop} {n i : Nat} {vs : List AV} (hw : wp P (.done (.exit i) vs) Q h) : wp P (.done (.exit i) vs) (Ln P ss Inv n Q) h := hw
theorem ln_r {ss : List Sh} {Inv : Nat → SV ss → H → Prop} {n : Nat} {vs : List AV} (hw : wp P (.done .ret vs) Q h) : wp P (.done .ret vs) (Ln P ss Inv n Q) h := hw
def TR (tup : Bool) (ss : List Sh) (R : SV ss → H → Prop) : Value → H → Prop := fun v h' => ∃ x, v = retVal tup ss x ∧ R x h'
def HT (P : Program) (f : FuncId) (args : List AV) (tup : Bool) (ss : List Sh) (h : H) (R : SV ss → H → Prop) : Prop := HC P f (args.map AV.val).toArray h (TR tup ss R)
theorem HT.mono {f : FuncId} {args : List AV} {tup : Bool} {ss : List Sh} {R R' : SV ss → H → Prop} (hc : HT P f args tup ss h R) (hr : ∀ x h', R x h' → R' x h') : HT P f args tup ss h R' :=
  HC.mono hc fun _ _ ⟨x, e, hx⟩ => ⟨x, e, hr x _ hx⟩
theorem w_callT {f : FuncId} {args : List AV} {tup : Bool} {ss : List Sh} {k : SV ss → M} {R : SV ss → H → Prop} (hc : HT P f args tup ss h R) (hw : ∀ x h', R x h' → wp P (k x) Q h') :
    wp P (.call f args tup ss k) Q h := HC.mono hc fun _ _ ⟨x, e, hx⟩ => ⟨x, e, hw x _ hx⟩
theorem rt_1 {s : Sh} {v : AV} {x : s.T} {R : SV [s] → H → Prop} (hx : avTo s v = some x) (hR : R (x, ()) h) : wp P (.done .ret [v]) (Ret (TR false [s] R)) h :=
  ⟨(x, ()), (avTo_val hx).symm, hR⟩
theorem compVal_eq : ∀ {s : Sh} {v : AV} {x : s.T}, avTo s v = some x → compVal (s.comp x) = v.val
  | .c s, .c c, x, h => by
    show (s.mk x).val = c.val
    exact cellTo_val (s := s) h
  | .agg ss, .agg cs, x, h => by
    show Value.agg ((SV1.list ss x).map Cell.val).toArray = Value.agg (cs.map Cell.val).toArray
    rw [cellsTo_val h]
  | .c _, .agg _, x, h => by cases h
  | .c _, .tup _, x, h => by cases h
  | .agg _, .c _, x, h => by cases h
  | .agg _, .tup _, x, h => by cases h
theorem comps_eq : ∀ {ss : List Sh} {vs : List AV} {x : SV ss}, avsTo ss vs = some x → (SV.comps ss x).map compVal = vs.map AV.val
  | [], [], x, h => rfl
  | s :: ss, v :: vs, x, h => by
    simp only [avsTo] at h
    split at h
    · rename_i a b ha hb
      cases h
      simp only [SV.comps, List.map_cons, compVal_eq ha, comps_eq hb]
    · cases h
  | [], _ :: _, x, h => by cases h
  | _ :: _, [], x, h => by cases h
theorem rt_n {ss : List Sh} {vs : List AV} {x : SV ss} {R : SV ss → H → Prop} (hl : Nat.beq vs.length 1 = false) (hx : avsTo ss vs = some x) (hR : R x h) : wp P (.done .ret vs) (Ret (TR true ss R)) h := by
  refine ⟨x, ?_, hR⟩
  have e : retV vs = .tuple (vs.map AV.val).toArray := by
    match vs, hl with
    | [], _ => rfl
    | _ :: _ :: _, _ => rfl
  rw [e, ← comps_eq hx]; rfl
end
inductive Kq where
  | ow (a : PA) | tr (b : Nat) | fo (ks : List Nat) | sl (s : SlT) | ck (c : Ck) | kd (kp : Option PA) | mp (a : PA)
class Pk (q : Kq) (l : List Ck) (c : outParam Ck) (r : outParam (List Ck)) : Prop where
  perm : l.Perm (c :: r)
instance pk_tail {q : Kq} {d c : Ck} {l r : List Ck} [Pk q l c r] : Pk q (d :: l) c (d :: r) := ⟨((Pk.perm q).cons d).trans (List.Perm.swap ..)⟩
instance pk_ow {a : PA} {vs : List Value} {k : Nat} {l : List Ck} : Pk (.ow a) (Ow a vs k :: l) (Ow a vs k) l := ⟨.refl _⟩
instance pk_sl {s : SlT} {sz : Nat} {vs : List Value} {l : List Ck} : Pk (.sl s) (SlC s sz vs :: l) (SlC s sz vs) l := ⟨.refl _⟩
instance pk_tr {I : Type} {L : Lay I} {iso : Int} {n b : Nat} {t : BT I n} {l : List Ck} : Pk (.tr b) (TrC L iso n b t :: l) (TrC L iso n b t) l := ⟨.refl _⟩
instance pk_fo {I : Type} {L : Lay I} {iso : Int} {n : Nat} {ks : List Nat} {ts : List (BT I n)} {l : List Ck} : Pk (.fo ks) (FoC L iso n ks ts :: l) (FoC L iso n ks ts) l := ⟨.refl _⟩
instance pk_ck {c : Ck} {l : List Ck} : Pk (.ck c) (c :: l) c l := ⟨.refl _⟩
section
variable {P : Program} {Q : Ex → List AV → H → Prop} {h h0 : H} {G0 : PA → Prop} {l : List Ck}
theorem St.at (s : St h0 G0 l h) (q : Kq) {c : Ck} {r : List Ck} [Pk q l c r] : St h0 G0 (c :: r) h := s.perm (Pk.perm q)
theorem St.fct (s : St h0 G0 l h) (q : Kq) {c : Ck} {r : List Ck} [Pk q l c r] : ∃ F, c.p h F := (s.at q).fact
theorem St.del (s : St h0 G0 l h) (q : Kq) {c : Ck} {r : List Ck} [Pk q l c r] : St h0 G0 r h := (s.at q).drop
class Pks (qs : List Kq) (l : List Ck) (cs : outParam (List Ck)) (r : outParam (List Ck)) (m : outParam (List Ck)) : Prop where
  perm : l.Perm (cs ++ r)
  eq : m = cs ++ r
instance pks_nil {l : List Ck} : Pks [] l [] l l := ⟨.refl _, rfl⟩
instance pks_cons {q : Kq} {qs : List Kq} {l m r m' : List Ck} {c : Ck} {cs : List Ck} [Pk q l c m] [Pks qs m cs r m'] : Pks (q :: qs) l (c :: cs) r (c :: m') :=
  ⟨(Pk.perm q).trans ((Pks.perm qs (m := m')).cons c), by rw [Pks.eq (qs := qs) (l := m) (cs := cs) (r := r) (m := m')]; rfl⟩
theorem St.ats (s : St h0 G0 l h) (qs : List Kq) {cs r m : List Ck} [Pks qs l cs r m] : St h0 G0 m h := by
  rw [Pks.eq (qs := qs) (l := l) (cs := cs) (r := r) (m := m)]
  exact s.perm (Pks.perm qs (m := m))
theorem St.only (s : St h0 G0 l h) (qs : List Kq) {cs r m : List Ck} [Pks qs l cs r m] : St h0 G0 cs h := (s.perm (Pks.perm qs (m := m))).left
theorem St.dels (s : St h0 G0 l h) (qs : List Kq) {cs r m : List Ck} [Pks qs l cs r m] : St h0 G0 r h := by
  have := s.perm (Pks.perm qs (m := m))
  have := this.perm (List.perm_append_comm)
  exact this.left
theorem st_callT (s : St h0 G0 l h) (qs : List Kq) {cs r m : List Ck} [Pks qs l cs r m] {f : FuncId} {args : List AV} {tup : Bool} {ss : List Sh} {k : SV ss → M} {R : SV ss → List Ck → Prop}
    (hc : ∀ G, Star cs h G → HT P f args tup ss h fun x h' => ∃ post, R x post ∧ St h G post h')
    (hw : ∀ x post h', R x post → St h0 G0 (post ++ r) h' → wp P (k x) Q h') : wp P (.call f args tup ss k) Q h := by
  have s' := s.perm (Pks.perm qs (m := m))
  refine st_call (R := fun v post => ∃ x, v = retVal tup ss x ∧ R x post) s' (fun G hG => HC.mono (hc G hG) fun v h' ⟨x, e, post, hR, hS⟩ => ⟨post, ⟨x, e, hR⟩, hS⟩) ?_
  rintro v post h' ⟨x, e, hR⟩ hS
  exact ⟨x, e, hw x post h' hR hS⟩
theorem st_callV (s : St h0 G0 l h) (qs : List Kq) {cs r m : List Ck} [Pks qs l cs r m] {f : FuncId} {args args' : List AV} {tup : Bool} {ss : List Sh} {k : SV ss → M} {R : SV ss → List Ck → Prop}
    (ha : args'.map AV.val = args.map AV.val) (hc : ∀ G, Star cs h G → HT P f args' tup ss h fun x h' => ∃ post, R x post ∧ St h G post h')
    (hw : ∀ x post h', R x post → St h0 G0 (post ++ r) h' → wp P (k x) Q h') : wp P (.call f args tup ss k) Q h :=
  st_callT s qs (fun G hG => by unfold HT; rw [← ha]; exact hc G hG) hw
theorem beq_t {a b : Int} (h : a = b) : (a == b) = true := by simp [h]
theorem beq_f {a b : Int} (h : a ≠ b) : (a == b) = false := by simp [h]
theorem lt_t {a b : Int} (h : a < b) : decide (a < b) = true := decide_eq_true h
theorem lt_f {a b : Int} (h : b ≤ a) : decide (a < b) = false := decide_eq_false (by omega)
theorem toNat_succ (n : Nat) : ((n : Int) + 1).toNat = n + 1 := by omega
theorem toNat_succ2 (n : Nat) : ((n : Int) + 2).toNat = n + 2 := by omega
theorem toNat_pred (n : Nat) : ((n : Int) - 1).toNat = n - 1 := by omega
theorem lt_ble {a b : Nat} (h : Nat.ble (a + 1) b = true) : a < b := Nat.le_of_ble_eq_true h
theorem St.old (s : St h0 G0 l h) {a : PA} {v : Value} (ha : Go.Proofs.Ytegnpimlfphncaa.rd h0 a = some v) (hn : ¬ G0 a) : Go.Proofs.Ytegnpimlfphncaa.rd h a = some v := by
  rw [s.fr.rd a (rd_lt ha) hn]; exact ha
theorem tr_iso {I : Type} {L : Lay I} {iso : Int} : ∀ {n b : Nat} {t : BT I n} {F : PA → Prop}, Tr L iso n h b t F → rd h (b, 0) = some (.int .u64 iso)
  | 0, _, _, _, ⟨_, h1, _⟩ => h1.rd 0 _ rfl
  | _ + 1, _, _, _, ⟨_, _, _, _, _, h1, _⟩ => h1.rd 0 _ rfl
theorem tr_count {I : Type} {L : Lay I} {iso : Int} : ∀ {n b : Nat} {t : BT I n} {F : PA → Prop}, Tr L iso n h b t F → rd h (b, 1) = some (.int .i64 (flatB n t).length)
  | 0, _, _, _, ⟨_, h1, _⟩ => h1.rd 1 _ rfl
  | _ + 1, _, _, _, ⟨_, _, _, _, _, h1, _⟩ => h1.rd 1 _ rfl
theorem ld_sls (s : St h0 G0 l h) {a : PA} {vs : List Value} {j k : Nat} {l' : List Value → List Ck} [Fi l a vs j k l'] {p : PA} {n c : Nat} {m : SlT → M} (hv : vs[j]? = some (.slice (some p.val) n c))
    (hw : wp P (m (some p, n, c)) Q h) : wp P (.load a .sl m) Q h := ⟨(some p, n, c), s.rd hv, hw⟩
theorem ld_sln (s : St h0 G0 l h) {a : PA} {vs : List Value} {j k : Nat} {l' : List Value → List Ck} [Fi l a vs j k l'] {n c : Nat} {m : SlT → M} (hv : vs[j]? = some (.slice none n c))
    (hw : wp P (m (none, n, c)) Q h) : wp P (.load a .sl m) Q h := ⟨(none, n, c), s.rd hv, hw⟩
theorem st_app {I : Type} {L : Lay I} (s : St h0 G0 l h) {p : PA} {xs ys : List I} {n c k : Nat} {r : List Ck} {kk : Nat} [Pk (.ow p) l (Ow p (L.flat xs) kk) r] {e : TypeId} {byt sz : Nat} {z : List Cell} {sp : Option PA} {sc : Nat} {m : SlT → M}
    (hsz : sz = L.sz) (hkk : kk = (c - n) * L.sz) (hn : n = xs.length) (hc : n ≤ c) (hz : z.length = L.sz) (hy : k = ys.length) (hs : RSl h (sp, k, sc) L.sz (L.flat ys)) (hg : growOk (n + k) byt)
    (hw : ∀ p' c' h', n + k ≤ c' → St h0 G0 (Ow p' (L.flat (xs ++ ys)) ((c' - (n + k)) * L.sz) :: r) h' → wp P (m (some p', n + k, c')) Q h') : wp P (.append e sz byt z (some p, n, c) (sp, k, sc) m) Q h := by
  subst hsz
  have S := (s.at (.ow p)).re p (L.flat xs) ((c - n) * L.sz) rfl rfl hkk
  have S := S.close_sl (n := n) (c := c) (sz := L.sz) hc (by rw [L.flat_length, hn])
  refine st_append S hz hs (L.flat_one ys) hg fun d' h' S hlen hsome => ?_
  obtain ⟨p', n', c', rfl, h1, h2, S⟩ := S.open_sl (hsome (.inr rfl))
  dsimp only at hlen
  subst hlen
  exact hw p' c' h' h1 (S.re p' _ _ rfl (L.flat_append xs ys).symm rfl)
theorem St.rsI {I : Type} {L : Lay I} (s : St h0 G0 l h) {a : PA} {xs : List I} {k : Nat} {l' : List Value → List Ck} [Fi l a (L.flat xs) 0 k l'] {n : Nat} (hn : n = xs.length) (c : Nat) : RSl h (some a, n, c) L.sz (L.flat xs) :=
  s.rsl (L.flat xs) n c L.sz (fun i v h => by rw [Nat.zero_add]; exact h) (by rw [hn]; exact L.flat_length xs)
end
end Go.Proofs.Ytegnpimlfphncaa
set_option linter.unusedVariables false
set_option linter.unusedSimpArgs false
set_option linter.unusedSectionVars false
namespace Go.Proofs.Ytegnpimlfphncaa
open Go
def LK : Lay (Option Nat) where
  sz := 1
  cells x := match x with | some k => [kptr k] | none => [.pointer none]
  len x := by cases x <;> rfl
  one x v hv := by cases x <;> (simp at hv; subst hv; rfl)
  pos := by decide
theorem LK_flat (ks : List Nat) : LK.flat (ks.map some) = ks.map kptr := by
  induction ks with
  | nil => rfl
  | cons k ks ih => simp only [List.map_cons, LK.flat_cons, ih]; rfl
def kcell : Option Nat → Value
  | some k => kptr k
  | none => .pointer none
theorem LK_get : ∀ {ys : List (Option Nat)} {i : Nat} {y : Option Nat}, ys[i]? = some y → (LK.flat ys)[i]? = some (kcell y)
  | [], _, _, h => by simp at h
  | y :: ys, 0, z, h => by simp at h; subst h; cases y <;> rfl
  | y :: ys, i + 1, z, h => by
    have ih := LK_get (ys := ys) (i := i) (y := z) (by simpa using h)
    cases y <;> exact ih
theorem LK_set : ∀ (ys : List (Option Nat)) (i : Nat) (y : Option Nat), (LK.flat ys).set i (kcell y) = LK.flat (ys.set i y)
  | [], _, _ => rfl
  | y :: ys, 0, z => by cases y <;> cases z <;> rfl
  | y :: ys, i + 1, z => by
    have ih := LK_set ys i z
    cases y with
    | none => rw [List.set_cons_succ, LK.flat_cons, LK.flat_cons, ← ih]; rfl
    | some y => rw [List.set_cons_succ, LK.flat_cons, LK.flat_cons, ← ih]; rfl
section
variable {P : Program} {Q : Ex → List AV → H → Prop} {h h0 : H} {G0 : PA → Prop} {l : List Ck}
theorem ld_kid (s : St h0 G0 l h) {p : PA} {ys : List (Option Nat)} {k : Nat} {l' : List Value → List Ck} [Fi l p (LK.flat ys) 0 k l'] {i b : Nat} (hx : ys[i]? = some (some b)) {m : Option PA → M}
    (hw : wp P (m (some (b, 0))) Q h) : wp P (.load (p.1, p.2 + i) .ptr m) Q h := by
  have hr := s.rds (a := p) (vs := LK.flat ys) (j := 0) (LK.flat ys) (fun i v h => by rw [Nat.zero_add]; exact h)
  exact w_ptr (some (b, 0)) (hr i _ (LK_get hx)) hw
theorem ld_kid0 (s : St h0 G0 l h) {p : PA} {ys : List (Option Nat)} {k : Nat} {l' : List Value → List Ck} [Fi l p (LK.flat ys) 0 k l'] {b : Nat} (hx : ys[0]? = some (some b)) {m : Option PA → M}
    (hw : wp P (m (some (b, 0))) Q h) : wp P (.load (p.1, p.2) .ptr m) Q h := by
  have := ld_kid (P := P) (Q := Q) s (p := p) hx (m := m) hw
  simpa using this
theorem st_kid (s : St h0 G0 l h) {p : PA} {ys : List (Option Nat)} {k : Nat} {l' : List Value → List Ck} [Fi l p (LK.flat ys) 0 k l'] {i : Nat} (hi : i < ys.length) (y : Option Nat) {c : Cell} (hy : c.val = kcell y) {m : M}
    (hw : ∀ h', St h0 G0 (l' (LK.flat (ys.set i y))) h' → wp P m Q h') : wp P (.store (p.1, p.2 + i) c m) Q h := by
  haveI := fi_shift (l := l) (a := p) (vs := LK.flat ys) (k := k) (l' := l') i
  refine st_store s (a := (p.1, p.2 + i)) (j := i) (by rw [LK.flat_length]; show i < ys.length * 1; omega) fun h' S => hw h' ?_
  rw [hy, LK_set] at S
  exact S
theorem st_kid0 (s : St h0 G0 l h) {p : PA} {ys : List (Option Nat)} {k : Nat} {l' : List Value → List Ck} [Fi l p (LK.flat ys) 0 k l'] (hi : 0 < ys.length) (y : Option Nat) {c : Cell} (hy : c.val = kcell y) {m : M}
    (hw : ∀ h', St h0 G0 (l' (LK.flat (ys.set 0 y))) h' → wp P m Q h') : wp P (.store (p.1, p.2) c m) Q h := by
  have := st_kid (P := P) (Q := Q) s (p := p) (i := 0) hi y hy (m := m) hw
  simpa using this
theorem st_copyS {I : Type} {L : Lay I} (s : St h0 G0 l h) {p : PA} {ys : List I} {k : Nat} {l' : List Value → List Ck} [Fi l p (L.flat ys) 0 k l'] {n c a sz : Nat} {m : Nat → M} (hsz : sz = L.sz) (hn : ys.length = n) (ha : a ≤ n) (hc : n ≤ c)
    (hw : ∀ h', St h0 G0 (l' (L.flat (ys.take a ++ (ys.take (n - a) ++ ys.drop (a + (n - a)))))) h' → wp P (m (n - a)) Q h') :
    wp P (.copy sz (slBase (some p) c a sz, n - a, c - a) (some p, n, c) m) Q h := by
  have := st_copyI (P := P) (Q := Q) (L := L) s (p := p) (ys := ys) (n := n) (c := c) (a := a) (b := 0) (sz := sz) (m := m) hsz hn ha (Nat.zero_le _) hc (fun h' mm hmm S => by
    obtain rfl : mm = n - a := by rw [hmm]; show min _ _ = _; omega
    rw [List.drop_zero] at S
    exact hw h' S)
  rw [slBase_zero, Nat.sub_zero, Nat.sub_zero] at this
  exact this
theorem st_copyD {I : Type} {L : Lay I} (s : St h0 G0 l h) {p : PA} {ys : List I} {k : Nat} {l' : List Value → List Ck} [Fi l p (L.flat ys) 0 k l'] {n c b sz : Nat} {m : Nat → M} (hsz : sz = L.sz) (hn : ys.length = n) (hb : b ≤ n) (hc : n ≤ c)
    (hw : ∀ h', St h0 G0 (l' (L.flat (ys.take 0 ++ ((ys.drop b).take (n - b) ++ ys.drop (0 + (n - b)))))) h' → wp P (m (n - b)) Q h') :
    wp P (.copy sz (some p, n, c) (slBase (some p) c b sz, n - b, c - b) m) Q h := by
  have := st_copyI (P := P) (Q := Q) (L := L) s (p := p) (ys := ys) (n := n) (c := c) (a := 0) (b := b) (sz := sz) (m := m) hsz hn (Nat.zero_le _) hb hc (fun h' mm hmm S => by
    obtain rfl : mm = n - b := by rw [hmm]; show min _ _ = _; omega
    exact hw h' S)
  rw [slBase_zero, Nat.sub_zero, Nat.sub_zero] at this
  exact this
theorem st_copyB {I : Type} {L : Lay I} (s : St h0 G0 l h) {p : PA} {ys : List I} {k : Nat} {l' : List Value → List Ck} [Fi l p (L.flat ys) 0 k l'] {n c a b sz : Nat} {m : Nat → M} (hsz : sz = L.sz) (hn : ys.length = n) (hab : a ≤ b) (hb : b ≤ n) (hc : n ≤ c)
    (hw : ∀ h', St h0 G0 (l' (L.flat (ys.take a ++ ((ys.drop b).take (n - b) ++ ys.drop (a + (n - b)))))) h' → wp P (m (n - b)) Q h') :
    wp P (.copy sz (slBase (some p) c a sz, n - a, c - a) (slBase (some p) c b sz, n - b, c - b) m) Q h :=
  st_copyI (P := P) (Q := Q) (L := L) s (p := p) (ys := ys) (n := n) (c := c) (a := a) (b := b) (sz := sz) (m := m) hsz hn (by omega) hb hc (fun h' mm hmm S => by
    obtain rfl : mm = n - b := by rw [hmm]; show min _ _ = _; omega
    exact hw h' S)
theorem st_copyA {I : Type} {L : Lay I} (s : St h0 G0 l h) {p : PA} {ys : List I} {k : Nat} {l' : List Value → List Ck} [Fi l p (L.flat ys) 0 k l'] {n c a b sz : Nat} {m : Nat → M} (hsz : sz = L.sz) (hn : ys.length = n) (hab : b ≤ a) (ha : a ≤ n) (hc : n ≤ c)
    (hw : ∀ h', St h0 G0 (l' (L.flat (ys.take a ++ ((ys.drop b).take (n - a) ++ ys.drop (a + (n - a)))))) h' → wp P (m (n - a)) Q h') :
    wp P (.copy sz (slBase (some p) c a sz, n - a, c - a) (slBase (some p) c b sz, n - b, c - b) m) Q h :=
  st_copyI (P := P) (Q := Q) (L := L) s (p := p) (ys := ys) (n := n) (c := c) (a := a) (b := b) (sz := sz) (m := m) hsz hn ha (by omega) hc (fun h' mm hmm S => by
    obtain rfl : mm = n - a := by rw [hmm]; show min _ _ = _; omega
    exact hw h' S)
end
section
variable {I : Type}
theorem del_list {xs : List I} {i : Nat} {z : I} (hi : i < xs.length) :
    (xs.take i ++ ((xs.drop (i + 1)).take (xs.length - (i + 1)) ++ xs.drop (i + (xs.length - (i + 1))))).set (xs.length - 1) z = xs.eraseIdx i ++ [z] := by
  have e1 : (xs.drop (i + 1)).take (xs.length - (i + 1)) = xs.drop (i + 1) := List.take_of_length_le (by simp)
  have e2 : i + (xs.length - (i + 1)) = xs.length - 1 := by omega
  rw [e1, e2, ← List.append_assoc, ← List.eraseIdx_eq_take_drop_succ, List.set_append_right _ _ (by rw [List.length_eraseIdx_of_lt hi]; omega), List.length_eraseIdx_of_lt hi, Nat.sub_self]
  have hl : (xs.drop (xs.length - 1)).length = 1 := by simp; omega
  match hd : xs.drop (xs.length - 1), hl with
  | [w], _ => rfl
theorem erase_last {xs : List I} : xs.eraseIdx (xs.length - 1) = xs.dropLast := by
  rw [List.dropLast_eq_take]
  rcases Nat.eq_zero_or_pos xs.length with h | h
  · have : xs = [] := List.length_eq_zero_iff.1 h
    subst this; rfl
  · rw [List.eraseIdx_eq_take_drop_succ, show xs.length - 1 + 1 = xs.length by omega]; simp
theorem del_at {xs : List I} {i n : Nat} {z : I} (hn : xs.length = n) (hi : i < n) : (xs.take i ++ ((xs.drop (i + 1)).take (n - (i + 1)) ++ xs.drop (i + (n - (i + 1))))).set (n - 1) z = xs.eraseIdx i ++ [z] := by
  subst hn; exact del_list hi
theorem cp_len {xs : List I} {a b n k : Nat} (hn : xs.length = n) (hb : b + k ≤ n) (ha : a + k ≤ n) : (xs.take a ++ ((xs.drop b).take k ++ xs.drop (a + k))).length = n := by simp; omega
theorem ins_first {xs : List I} {z x : I} : (((xs ++ [z]).take 1 ++ ((xs ++ [z]).take xs.length ++ (xs ++ [z]).drop (1 + xs.length)))).set 0 x = x :: xs := by
  have e1 : (xs ++ [z]).drop (1 + xs.length) = [] := List.drop_of_length_le (by simp; omega)
  have e2 : (xs ++ [z]).take xs.length = xs := by rw [List.take_append_of_le_length (Nat.le_refl _), List.take_length]
  rw [e1, e2, List.append_nil]
  cases xs <;> rfl
theorem set_last {xs : List I} {z : I} (h : 0 < xs.length) : xs.set (xs.length - 1) z = xs.dropLast ++ [z] := by
  rw [List.set_eq_take_append_cons_drop, if_pos (by omega), List.dropLast_eq_take, show xs.length - 1 + 1 = xs.length by omega, List.drop_length]
theorem ins_list {xs : List I} {i : Nat} {z x : I} (hi : i ≤ xs.length) :
    (((xs ++ [z]).take (i + 1) ++ (((xs ++ [z]).drop i).take (xs.length + 1 - (i + 1)) ++ (xs ++ [z]).drop (i + 1 + (xs.length + 1 - (i + 1)))))).set i x = xs.take i ++ x :: xs.drop i := by
  have e1 : (xs ++ [z]).drop (i + 1 + (xs.length + 1 - (i + 1))) = [] := List.drop_of_length_le (by simp; omega)
  have e2 : ((xs ++ [z]).drop i).take (xs.length + 1 - (i + 1)) = xs.drop i := by
    rw [List.drop_append_of_le_length hi, List.take_append_of_le_length (by simp), List.take_of_length_le (by simp)]
  have hlt : i < (xs ++ [z]).length := by simp; omega
  rw [e1, e2, List.append_nil, List.take_succ_eq_append_getElem hlt, List.append_assoc, List.set_append_right _ _ (by simp; omega)]
  have e3 : (xs ++ [z]).take i = xs.take i := List.take_append_of_le_length hi
  rw [e3, List.length_take, Nat.min_eq_left hi, Nat.sub_self]
  rfl
theorem ins_list2 {xs : List I} {i : Nat} {z x : I} (hi : i < xs.length) :
    (((xs ++ [z]).take (i + 1) ++ (((xs ++ [z]).drop i).take (xs.length + 1 - (i + 1)) ++ (xs ++ [z]).drop (i + 1 + (xs.length + 1 - (i + 1)))))).set (i + 1) x = xs.take (i + 1) ++ x :: xs.drop (i + 1) := by
  have e1 : (xs ++ [z]).drop (i + 1 + (xs.length + 1 - (i + 1))) = [] := List.drop_of_length_le (by simp; omega)
  have e2 : ((xs ++ [z]).drop i).take (xs.length + 1 - (i + 1)) = xs[i] :: xs.drop (i + 1) := by
    rw [List.drop_append_of_le_length (by omega), List.take_append_of_le_length (by simp), List.take_of_length_le (by simp), ← List.drop_eq_getElem_cons hi]
  have e3 : (xs ++ [z]).take (i + 1) = xs.take (i + 1) := List.take_append_of_le_length (by omega)
  rw [e1, e2, e3, List.append_nil, List.set_append_right _ _ (by simp; omega), List.length_take, Nat.min_eq_left (by omega), Nat.sub_self]
  rfl
end
theorem erase_mid {I : Type} {A C : List I} {x : I} {j : Nat} (h : A.length = j) : (A ++ x :: C).eraseIdx j = A ++ C := by
  subst h; rw [List.eraseIdx_append_of_length_le (Nat.le_refl _), Nat.sub_self]; rfl
theorem set_mid {I : Type} {A C : List I} {x y : I} {j : Nat} (h : A.length = j) : (A ++ x :: C).set j y = A ++ y :: C := by
  subst h; rw [List.set_append_right _ _ (Nat.le_refl _), Nat.sub_self]; rfl
theorem get_mid {I : Type} {A C : List I} {x : I} {j : Nat} (h : A.length = j) : (A ++ x :: C)[j]? = some x := by
  subst h; rw [List.getElem?_append_right (Nat.le_refl _), Nat.sub_self]; rfl
theorem get_mid1 {I : Type} {A C : List I} {x y : I} {j : Nat} (h : A.length = j) : (A ++ x :: y :: C)[j + 1]? = some y := by
  subst h; rw [List.getElem?_append_right (by omega), show A.length + 1 - A.length = 1 by omega]; rfl
theorem erase_mid1 {I : Type} {A C : List I} {x y : I} {j : Nat} (h : A.length = j) : (A ++ x :: y :: C).eraseIdx (j + 1) = A ++ x :: C := by
  subst h; rw [List.eraseIdx_append_of_length_le (by omega), show A.length + 1 - A.length = 1 by omega]; rfl
theorem split_at {I : Type} {xs : List I} {j : Nat} (h : j < xs.length) : ∃ A x C, xs = A ++ x :: C ∧ A.length = j :=
  ⟨xs.take j, xs[j], xs.drop (j + 1), by rw [← List.drop_eq_getElem_cons h, List.take_append_drop], by simp; omega⟩
theorem split_at2 {I : Type} {xs : List I} {j : Nat} (h : j + 1 < xs.length) : ∃ A x y C, xs = A ++ x :: y :: C ∧ A.length = j :=
  ⟨xs.take j, xs[j], xs[j + 1], xs.drop (j + 2), by rw [← List.drop_eq_getElem_cons h, ← List.drop_eq_getElem_cons (by omega), List.take_append_drop], by simp; omega⟩
section
variable {P : Program} {Q : Ex → List AV → H → Prop} {h h0 : H} {G0 : PA → Prop} {l : List Ck} {I : Type} {L : Lay I}
theorem st_cpdel (s : St h0 G0 l h) {p : PA} {ys : List I} {k : Nat} {l' : List Value → List Ck} [Fi l p (L.flat ys) 0 k l'] {n c i sz : Nat} {m : Nat → M} (hsz : sz = L.sz) (hn : ys.length = n) (hi : i < n) (hc : n ≤ c)
    (hw : ∀ h' zs, zs.length = n → (∀ z, zs.set (n - 1) z = ys.eraseIdx i ++ [z]) → St h0 G0 (l' (L.flat zs)) h' → wp P (m (n - (i + 1))) Q h') :
    wp P (.copy sz (slBase (some p) c i sz, n - i, c - i) (slBase (some p) c (i + 1) sz, n - (i + 1), c - (i + 1)) m) Q h :=
  st_copyB s hsz hn (by omega) (by omega) hc fun h' S => hw h' _ (cp_len hn (by omega) (by omega)) (fun z => del_at hn hi) S
theorem st_cpdel0 (s : St h0 G0 l h) {p : PA} {ys : List I} {k : Nat} {l' : List Value → List Ck} [Fi l p (L.flat ys) 0 k l'] {n c sz : Nat} {m : Nat → M} (hsz : sz = L.sz) (hn : ys.length = n) (hi : 0 < n) (hc : n ≤ c)
    (hw : ∀ h' zs, zs.length = n → (∀ z, zs.set (n - 1) z = ys.tail ++ [z]) → St h0 G0 (l' (L.flat zs)) h' → wp P (m (n - 1)) Q h') :
    wp P (.copy sz (some p, n, c) (slBase (some p) c 1 sz, n - 1, c - 1) m) Q h :=
  st_copyD s hsz hn (by omega) hc fun h' S => hw h' _ (cp_len hn (by omega) (by omega)) (fun z => by rw [del_at (i := 0) hn hi]; cases ys <;> rfl) S
theorem st_cpins (s : St h0 G0 l h) {p : PA} {xs : List I} {w : I} {k : Nat} {l' : List Value → List Ck} [Fi l p (L.flat (xs ++ [w])) 0 k l'] {n c i sz : Nat} {m : Nat → M} (hsz : sz = L.sz) (hn : xs.length + 1 = n) (hi : i < n) (hc : n ≤ c)
    (hw : ∀ h' zs, zs.length = n → (∀ x, zs.set i x = xs.take i ++ x :: xs.drop i) → (i + 1 < n → ∀ x, zs.set (i + 1) x = xs.take (i + 1) ++ x :: xs.drop (i + 1)) → St h0 G0 (l' (L.flat zs)) h' → wp P (m (n - (i + 1))) Q h') :
    wp P (.copy sz (slBase (some p) c (i + 1) sz, n - (i + 1), c - (i + 1)) (slBase (some p) c i sz, n - i, c - i) m) Q h := by
  subst hn
  exact st_copyA s hsz (by simp) (by omega) (by omega) hc fun h' S => hw h' _ (cp_len (by simp) (by omega) (by omega)) (fun x => ins_list (by omega)) (fun h x => ins_list2 (by omega)) S
theorem st_cpins0 (s : St h0 G0 l h) {p : PA} {xs : List I} {w : I} {k : Nat} {l' : List Value → List Ck} [Fi l p (L.flat (xs ++ [w])) 0 k l'] {n c sz : Nat} {m : Nat → M} (hsz : sz = L.sz) (hn : xs.length + 1 = n) (hc : n ≤ c)
    (hw : ∀ h' zs, zs.length = n → (∀ x, zs.set 0 x = x :: xs) → St h0 G0 (l' (L.flat zs)) h' → wp P (m (n - 1)) Q h') :
    wp P (.copy sz (slBase (some p) c 1 sz, n - 1, c - 1) (some p, n, c) m) Q h := by
  subst hn
  exact st_copyS s hsz (by simp) (by omega) hc fun h' S => hw h' _ (cp_len (b := 0) (by simp) (by omega) (by omega)) (fun x => ins_first) S
end
def EmC : Ck where
  p _ F := ∀ x, ¬ F x
  out := fun h _ _ => h
  lt := fun h x hx => (h x hx).elim
def StC (l : List Ck) : Ck where
  p h F := Star l h F
  out := fun h f d => h.out f d
  lt := fun h x hx => h.lt x hx
def ExC {α : Type} (φ : α → Prop) (f : α → Ck) : Ck where
  p h F := ∃ a, φ a ∧ (f a).p h F
  out := fun ⟨a, ha, hp⟩ f d => ⟨a, ha, Ck.out _ hp f d⟩
  lt := fun ⟨a, ha, hp⟩ x hx => Ck.lt _ hp x hx
section
variable {h h0 : H} {G0 : PA → Prop} {l : List Ck}
theorem St.ex_out {α : Type} {φ : α → Prop} {f : α → Ck} (s : St h0 G0 (ExC φ f :: l) h) : ∃ a, φ a ∧ St h0 G0 (f a :: l) h := by
  obtain ⟨a, ha, h2⟩ := St.turnE (l := [_]) (l' := fun a => [f a]) (φ := φ) s fun F hF => by
    obtain ⟨F1, F2, ⟨a, ha, hp⟩, h2⟩ := hF
    exact ⟨a, ha, F1, F2, hp, h2⟩
  exact ⟨a, ha, h2⟩
theorem St.ex_in {α : Type} {φ : α → Prop} {f : α → Ck} (a : α) (ha : φ a) (s : St h0 G0 (f a :: l) h) : St h0 G0 (ExC φ f :: l) h :=
  s.turn (l := [_]) (l' := [_]) fun F ⟨F1, F2, hp, h2⟩ => ⟨F1, F2, ⟨a, ha, hp⟩, h2⟩
theorem St.st_out {m : List Ck} (s : St h0 G0 (StC m :: l) h) : St h0 G0 (m ++ l) h :=
  s.turn (l := [_]) (l' := m) fun F ⟨F1, F2, hp, h2, h3, h4⟩ => hp.iff fun x => by rw [h4]; exact ⟨.inl, fun hx => hx.elim id fun hn => (h2 x hn).elim⟩
theorem St.st_in {m : List Ck} (s : St h0 G0 (m ++ l) h) : St h0 G0 (StC m :: l) h :=
  s.turn (l := m) (l' := [_]) fun F hF => star_one (c := StC m) hF
theorem St.em_in (s : St h0 G0 l h) : St h0 G0 (EmC :: l) h :=
  s.turn (l := []) (l' := [_]) fun F hF => star_one (c := EmC) hF
end
theorem w_jnt {P : Program} {Q : Ex → List AV → H → Prop} {h h0 : H} {G0 : PA → Prop} {l : List Ck} (s : St h0 G0 l h) (qs : List Kq) {cs r m : List Ck} [Pks qs l cs r m] (cs' : List Ck) {x : M} {k : SV [] → M}
    (hm : wp P x (Jo none (fun vs h' => vs = [] ∧ St h0 G0 (cs' ++ r) h') Q) h) (hk : ∀ h', St h0 G0 (cs' ++ r) h' → wp P (k ()) Q h') : wp P (.bind none x [] k) Q h := by
  refine w_bind _ hm ?_
  rintro vs h' ⟨rfl, S⟩
  exact ⟨(), rfl, hk h' S⟩
theorem jo_n {P : Program} {Q : Ex → List AV → H → Prop} {h : H} {l : Option Nat} {R : List AV → H → Prop} {vs : List AV} (hR : R vs h) : wp P (.done .normal vs) (Jo l R Q) h := hR
theorem St.iso {I : Type} {L : Lay I} {iso : Int} {n : Nat} {t : BT I n} {h h0 : H} {G0 : PA → Prop} {l r : List Ck} (s : St h0 G0 l h) (b : Nat) [Pk (.tr b) l (TrC L iso n b t) r] : Go.Proofs.Ytegnpimlfphncaa.rd h (b, 0) = some (.int .u64 iso) := by
  obtain ⟨F, hF⟩ := s.fct (.tr b)
  exact tr_iso hF
theorem St.cnt {I : Type} {L : Lay I} {iso : Int} {n : Nat} {t : BT I n} {h h0 : H} {G0 : PA → Prop} {l r : List Ck} (s : St h0 G0 l h) (b : Nat) [Pk (.tr b) l (TrC L iso n b t) r] : Go.Proofs.Ytegnpimlfphncaa.rd h (b, 1) = some (.int .i64 (flatB n t).length) := by
  obtain ⟨F, hF⟩ := s.fct (.tr b)
  exact tr_count hF
theorem St.itm {I : Type} {L : Lay I} {iso : Int} {n : Nat} {t : BT I n} {h h0 : H} {G0 : PA → Prop} {l r : List Ck} (s : St h0 G0 l h) (b : Nat) [Pk (.tr b) l (TrC L iso n b t) r] : ∃ p c, Go.Proofs.Ytegnpimlfphncaa.rd h (b, 2) = some (.slice (some (PA.val p)) (itemsB n t).length c) := by
  obtain ⟨F, hF⟩ := s.fct (.tr b)
  cases n with
  | zero => obtain ⟨p, c, h1, _⟩ := tr_leaf L iso hF; exact ⟨p, c, h1⟩
  | succ n => obtain ⟨p, c, q, d, hb, ks, FK, h1, _⟩ := tr_node L iso hF; exact ⟨p, c, h1⟩
section
variable {I : Type} (L : Lay I) (iso : Int)
def KdC : (n : Nat) → Option PA → BT I n → Ck
  | 0, kp, _ => ExC (α := Unit) (fun _ => kp = none) fun _ => EmC
  | n + 1, kp, t => ExC (α := Nat × PA × Nat × List Nat) (fun x => kp = some (x.1, 0) ∧ x.2.2.2.length ≤ x.2.2.1 ∧ x.2.2.2.length = t.2.length) fun x =>
      StC [Ow (x.1, 0) (hdC (some x.2.1, x.2.2.2.length, x.2.2.1)) 0, Ow x.2.1 (LK.flat (x.2.2.2.map some)) ((x.2.2.1 - x.2.2.2.length) * LK.sz), FoC L iso n x.2.2.2 t.2]
variable {h h0 : H} {G0 : PA → Prop} {l : List Ck}
theorem kids_leaf {kp : Option PA} {t : BT I 0} (s : St h0 G0 (KdC L iso 0 kp t :: l) h) : kp = none := s.ex_out.choose_spec.1
theorem open_kids {n : Nat} {kp : Option PA} {t : BT I (n + 1)} (s : St h0 G0 (KdC L iso (n + 1) kp t :: l) h) : ∃ hb q d ks, kp = some (hb, 0) ∧ ks.length ≤ d ∧ ks.length = t.2.length ∧
    St h0 G0 (Ow (hb, 0) (hdC (some q, ks.length, d)) 0 :: Ow q (LK.flat (ks.map some)) ((d - ks.length) * LK.sz) :: FoC L iso n ks t.2 :: l) h := by
  obtain ⟨x, ⟨h1, h2, h3⟩, s⟩ := s.ex_out
  exact ⟨x.1, x.2.1, x.2.2.1, x.2.2.2, h1, h2, h3, s.st_out⟩
theorem shut_kids {n hb m d k : Nat} {q : PA} {ks : List Nat} {ys : List (Option Nat)} {ws : List Value} {t : BT I (n + 1)} (s : St h0 G0 (Ow (hb, 0) ws 0 :: Ow q (LK.flat ys) k :: FoC L iso n ks t.2 :: l) h)
    (hw : ws = hdC (some q, m, d)) (hy : ys = ks.map some) (hm : m = ks.length) (hd : m ≤ d) (hk : k = (d - m) * LK.sz) (hl : ks.length = t.2.length) : St h0 G0 (KdC L iso (n + 1) (some (hb, 0)) t :: l) h := by
  subst hw hy hm hk
  exact St.ex_in (α := Nat × PA × Nat × List Nat) (hb, q, d, ks) ⟨rfl, hd, hl⟩ (St.st_in s)
theorem shut_kidsE {n hb m d k : Nat} {q : PA} {ks : List Nat} {ys : List (Option Nat)} {ws : List Value} {t : BT I (n + 1)} {ts : List (BT I n)} (s : St h0 G0 (Ow (hb, 0) ws 0 :: Ow q (LK.flat ys) k :: FoC L iso n ks ts :: l) h)
    (he : ts = t.2) (hw : ws = hdC (some q, m, d)) (hy : ys = ks.map some) (hm : m = ks.length) (hd : m ≤ d) (hk : k = (d - m) * LK.sz) (hl : ks.length = t.2.length) : St h0 G0 (KdC L iso (n + 1) (some (hb, 0)) t :: l) h := by
  subst he; exact shut_kids L iso s hw hy hm hd hk hl
theorem shut_nokids {t : BT I 0} (s : St h0 G0 l h) : St h0 G0 (KdC L iso 0 none t :: l) h := St.ex_in (α := Unit) () rfl s.em_in
theorem open_nd {n b : Nat} {t : BT I n} (s : St h0 G0 (TrC L iso n b t :: l) h) : ∃ p c kp, (itemsB n t).length ≤ c ∧ kp.isNone = Nat.beq n 0 ∧
    St h0 G0 (Ow (b, 0) (nodeC iso (flatB n t).length (some p, (itemsB n t).length, c) kp) 0 :: Ow p (L.flat (itemsB n t)) ((c - (itemsB n t).length) * L.sz) :: KdC L iso n kp t :: l) h := by
  cases n with
  | zero =>
    obtain ⟨p, c, hc, s⟩ := open_leaf L iso s
    exact ⟨p, c, none, hc, rfl, (shut_nokids L iso s).ats [.ow (b, 0), .ow p]⟩
  | succ n =>
    obtain ⟨p, c, q, d, hb, ks, hc, hd, hl, s⟩ := open_node L iso s
    have s := s.ats [.ow (hb, 0), .ow q, .fo ks]
    rw [← LK_flat] at s
    have s := shut_kids L iso (t := t) s rfl rfl rfl hd rfl hl
    exact ⟨p, c, some (hb, 0), hc, rfl, s.ats [.ow (b, 0), .ow p]⟩
theorem shut_nd {n b : Nat} {t : BT I n} {cnt m c k : Nat} {p : PA} {kp : Option PA} {ws vs : List Value} (s : St h0 G0 (Ow (b, 0) ws 0 :: Ow p vs k :: KdC L iso n kp t :: l) h)
    (hw : ws = nodeC iso cnt (some p, m, c) kp) (hv : vs = L.flat (itemsB n t)) (hm : m = (itemsB n t).length) (hcnt : cnt = (flatB n t).length) (hc : m ≤ c) (hk : k = (c - m) * L.sz) : St h0 G0 (TrC L iso n b t :: l) h := by
  cases n with
  | zero =>
    have s := s.pull2
    obtain rfl := kids_leaf L iso s
    exact shut_leaf L iso (xs := t) s.drop hw hv hm (by rw [hcnt, hm]; rfl) hc hk
  | succ n =>
    have s := s.pull2
    obtain ⟨hb, q, d, ks, rfl, h1, h2, s⟩ := open_kids L iso s
    rw [LK_flat] at s
    exact shut_node L iso (xs := t.1) (ts := t.2) (s.ats [.ow (b, 0), .ow p, .ow (hb, 0), .ow q]) hw hv rfl rfl hm rfl hcnt hc hk h1 (Nat.mul_one _)
theorem fo_re {n : Nat} {ks ks' : List Nat} {ts ts' : List (BT I n)} (s : St h0 G0 (FoC L iso n ks ts :: l) h) (hk : ks = ks') (ht : ts = ts') : St h0 G0 (FoC L iso n ks' ts' :: l) h := by
  subst hk ht; exact s
instance pk_kd {n : Nat} {kp : Option PA} {t : BT I n} {l : List Ck} : Pk (.kd kp) (KdC L iso n kp t :: l) (KdC L iso n kp t) l := ⟨.refl _⟩
end
end Go.Proofs.Ytegnpimlfphncaa
