/-
  Sorted lists and trees of one height, without a program. Conditions: an order (Ord).
-/
import Derived.KernelRfl
namespace Go.Proofs.Ytkhpbcckaenmcaa

/-- A strict order whose 'neither before the other' is an equality of ranks. -/
structure Ord {I : Type} (lt : I → I → Bool) : Prop where
  irr : ∀ a, lt a a = false
  tr : ∀ a b c, lt a b = true → lt b c = true → lt a c = true
  neg : ∀ a b c, lt a b = false → lt b c = false → lt a c = false

section
variable {I : Type} {lt : I → I → Bool}

theorem Ord.asym (o : Ord lt) {a b : I} (h : lt a b = true) : lt b a = false := by
  cases hq : lt b a with
  | false => rfl
  | true => have := o.tr a b a h hq; rw [o.irr] at this; cases this
theorem Ord.lt_of_lt_of_le (o : Ord lt) {a b c : I} (h : lt a b = true) (g : lt c b = false) : lt a c = true := by
  cases hq : lt a c with
  | true => rfl
  | false => have := o.neg a c b hq g; rw [h] at this; cases this
theorem Ord.lt_of_le_of_lt (o : Ord lt) {a b c : I} (h : lt b a = false) (g : lt b c = true) : lt a c = true := by
  cases hq : lt a c with
  | true => rfl
  | false => have := o.neg b a c h hq; rw [g] at this; cases this

/-- Strictly ascending. -/
def Srt (lt : I → I → Bool) (l : List I) : Prop := l.Pairwise fun a b => lt a b = true

/-- How many at the head come before x. -/
def pos (lt : I → I → Bool) (l : List I) (x : I) : Nat := (l.takeWhile fun a => lt a x).length
/-- The item that is equal to x in the order. -/
def fnd (lt : I → I → Bool) (l : List I) (x : I) : Option I := match l[pos lt l x]? with
  | some a => if lt x a then none else some a
  | none => none
/-- x set. -/
def put (lt : I → I → Bool) (l : List I) (x : I) : List I := l.take (pos lt l x) ++ x :: l.drop (pos lt l x + if (fnd lt l x).isSome then 1 else 0)
/-- x deleted. -/
def del (lt : I → I → Bool) (l : List I) (x : I) : List I := l.take (pos lt l x) ++ l.drop (pos lt l x + if (fnd lt l x).isSome then 1 else 0)

theorem pos_le (l : List I) (x : I) : pos lt l x ≤ l.length := by
  unfold pos; exact (List.takeWhile_sublist _).length_le
theorem takeWhile_append' {p : I → Bool} {l m : List I} (h : ∀ a ∈ l, p a = true) : (l ++ m).takeWhile p = l ++ m.takeWhile p := by
  induction l with
  | nil => rfl
  | cons a l ih => simp [h a (by simp), ih (fun b hb => h b (by simp [hb]))]
theorem pos_append {l m : List I} {x : I} (h : ∀ a ∈ l, lt a x = true) : pos lt (l ++ m) x = l.length + pos lt m x := by
  unfold pos; rw [takeWhile_append' h, List.length_append]
/-- In the middle: behind what comes before x, ahead of what x comes before. -/
theorem pos_mid (o : Ord lt) {l m r : List I} {x : I} (h : ∀ a ∈ l, lt a x = true) (g : ∀ a ∈ r, lt x a = true) : pos lt (l ++ (m ++ r)) x = l.length + pos lt m x := by
  rw [pos_append h]
  congr 1
  unfold pos
  congr 1
  induction m with
  | nil =>
    cases r with
    | nil => rfl
    | cons b r => simp [o.asym (g b (by simp))]
  | cons a m ih =>
    simp only [List.cons_append, List.takeWhile_cons]
    split
    · rw [ih]
    · rfl
theorem fnd_mid (o : Ord lt) {l m r : List I} {x : I} (h : ∀ a ∈ l, lt a x = true) (g : ∀ a ∈ r, lt x a = true) : fnd lt (l ++ (m ++ r)) x = fnd lt m x := by
  unfold fnd
  rw [pos_mid o h g, List.getElem?_append_right (by omega), Nat.add_sub_cancel_left]
  rcases Nat.lt_or_ge (pos lt m x) m.length with hl | hl
  · rw [List.getElem?_append_left hl]
  · rw [List.getElem?_append_right hl, List.getElem?_eq_none hl]
    have : pos lt m x - m.length = 0 := by have := pos_le (lt := lt) m x; omega
    rw [this]
    cases r with
    | nil => rfl
    | cons b r => simp [g b (by simp)]
theorem fnd_some_lt {l : List I} {x a : I} (h : fnd lt l x = some a) : pos lt l x < l.length ∧ l[pos lt l x]? = some a ∧ lt x a = false := by
  unfold fnd at h
  split at h
  · rename_i b hb
    split at h
    · cases h
    · rename_i hlt
      have := Option.some.inj h; subst this
      exact ⟨(List.getElem?_eq_some_iff.1 hb).1, hb, by simpa using hlt⟩
  · cases h
theorem put_mid (o : Ord lt) {l m r : List I} {x : I} (h : ∀ a ∈ l, lt a x = true) (g : ∀ a ∈ r, lt x a = true) : put lt (l ++ (m ++ r)) x = l ++ (put lt m x ++ r) := by
  unfold put
  rw [pos_mid o h g, fnd_mid o h g]
  have hp := pos_le (lt := lt) m x
  have hp2 : pos lt m x + (if (fnd lt m x).isSome then 1 else 0) ≤ m.length := by
    cases hf : fnd lt m x with
    | none => simpa using hp
    | some a => have := (fnd_some_lt hf).1; simp; omega
  rw [List.take_length_add_append, Nat.add_assoc, List.drop_length_add_append, List.take_append_of_le_length hp, List.drop_append_of_le_length hp2]
  simp
theorem del_mid (o : Ord lt) {l m r : List I} {x : I} (h : ∀ a ∈ l, lt a x = true) (g : ∀ a ∈ r, lt x a = true) : del lt (l ++ (m ++ r)) x = l ++ (del lt m x ++ r) := by
  unfold del
  rw [pos_mid o h g, fnd_mid o h g]
  have hp := pos_le (lt := lt) m x
  have hp2 : pos lt m x + (if (fnd lt m x).isSome then 1 else 0) ≤ m.length := by
    cases hf : fnd lt m x with
    | none => simpa using hp
    | some a => have := (fnd_some_lt hf).1; simp; omega
  rw [List.take_length_add_append, Nat.add_assoc, List.drop_length_add_append, List.take_append_of_le_length hp, List.drop_append_of_le_length hp2]
  simp

theorem pos_spec (o : Ord lt) {l : List I} (hs : Srt lt l) (x : I) (i : Nat) (a : I) (ha : l[i]? = some a) : (i < pos lt l x ↔ lt a x = true) := by
  induction l generalizing i with
  | nil => simp at ha
  | cons b l ih =>
    have hs' := List.pairwise_cons.1 hs
    unfold pos
    simp only [List.takeWhile_cons]
    cases hb : lt b x with
    | false =>
      simp only [Bool.false_eq_true, if_false, List.length_nil, Nat.not_lt_zero, false_iff, Bool.not_eq_true]
      cases i with
      | zero => simp at ha; subst ha; exact hb
      | succ i =>
        have hm : a ∈ l := List.mem_of_getElem? (by simpa using ha)
        have h1 := hs'.1 a hm
        cases hq : lt a x with
        | false => rfl
        | true => have := o.tr b a x h1 hq; rw [hb] at this; cases this
    | true =>
      cases i with
      | zero => simp at ha; subst ha; simp [hb]
      | succ i =>
        have := ih hs'.2 i (by simpa using ha)
        simp only [if_true, List.length_cons, Nat.add_lt_add_iff_right]
        exact this

theorem srt_append {l m : List I} : Srt lt (l ++ m) ↔ Srt lt l ∧ Srt lt m ∧ ∀ a ∈ l, ∀ b ∈ m, lt a b = true := List.pairwise_append
theorem srt_take {l : List I} (hs : Srt lt l) (i : Nat) : Srt lt (l.take i) := hs.sublist (List.take_sublist i l)
theorem srt_drop {l : List I} (hs : Srt lt l) (i : Nat) : Srt lt (l.drop i) := hs.sublist (List.drop_sublist i l)
theorem take_takeWhile (p : I → Bool) (l : List I) : l.take (l.takeWhile p).length = l.takeWhile p := by
  induction l with
  | nil => rfl
  | cons b l ih => simp only [List.takeWhile_cons]; split <;> simp [ih]
theorem of_mem_takeWhile {p : I → Bool} {l : List I} {a : I} (h : a ∈ l.takeWhile p) : p a = true := by
  induction l with
  | nil => simp at h
  | cons b l ih =>
    simp only [List.takeWhile_cons] at h
    split at h
    · rcases List.mem_cons.1 h with rfl | h
      · assumption
      · exact ih h
    · simp at h
theorem take_pos_lt {l : List I} {x : I} : ∀ a ∈ l.take (pos lt l x), lt a x = true := by
  intro a ha
  unfold pos at ha
  rw [take_takeWhile] at ha
  exact of_mem_takeWhile (p := fun a => lt a x) ha
theorem drop_pos_ge (o : Ord lt) {l : List I} (hs : Srt lt l) {x : I} : ∀ a ∈ l.drop (pos lt l x), lt a x = false := by
  intro a ha
  obtain ⟨i, hi⟩ := List.mem_iff_getElem?.1 ha
  rw [List.getElem?_drop] at hi
  have := pos_spec o hs x _ a hi
  cases hq : lt a x with
  | false => rfl
  | true => have := this.2 hq; omega
/-- Behind the place, and behind the equal one if there is one, x comes before all. -/
theorem drop_fnd_gt (o : Ord lt) {l : List I} (hs : Srt lt l) {x : I} : ∀ a ∈ l.drop (pos lt l x + if (fnd lt l x).isSome then 1 else 0), lt x a = true := by
  intro a ha
  obtain ⟨i, hi⟩ := List.mem_iff_getElem?.1 ha
  rw [List.getElem?_drop] at hi
  cases hf : fnd lt l x with
  | none =>
    simp only [hf, Option.isSome_none, Bool.false_eq_true, if_false, Nat.add_zero] at hi
    have hlen : pos lt l x < l.length := by have := (List.getElem?_eq_some_iff.1 hi).1; omega
    have hb := List.getElem?_eq_getElem hlen
    have hxb : lt x l[pos lt l x] = true := by
      unfold fnd at hf; rw [hb] at hf
      simp only at hf
      split at hf
      · assumption
      · cases hf
    cases i with
    | zero => rw [Nat.add_zero, hb] at hi; rw [← Option.some.inj hi]; exact hxb
    | succ i =>
      have hp := List.pairwise_iff_getElem.1 hs (pos lt l x) (pos lt l x + (i + 1)) hlen (List.getElem?_eq_some_iff.1 hi).1 (by omega)
      rw [(List.getElem?_eq_some_iff.1 hi).2] at hp
      exact o.tr _ _ _ hxb hp
  | some b =>
    simp only [hf, Option.isSome_some, if_true] at hi
    obtain ⟨hlen, hb, hxb⟩ := fnd_some_lt hf
    have hp := List.pairwise_iff_getElem.1 hs (pos lt l x) (pos lt l x + 1 + i) hlen (List.getElem?_eq_some_iff.1 hi).1 (by omega)
    rw [(List.getElem?_eq_some_iff.1 hi).2, (List.getElem?_eq_some_iff.1 hb).2] at hp
    have hbx : lt b x = false := by
      have := pos_spec o hs x _ b hb
      cases hq : lt b x with
      | false => rfl
      | true => have := this.2 hq; omega
    exact o.lt_of_le_of_lt hbx hp
theorem put_srt (o : Ord lt) {l : List I} (hs : Srt lt l) (x : I) : Srt lt (put lt l x) := by
  unfold put
  refine srt_append.2 ⟨srt_take hs _, List.pairwise_cons.2 ⟨drop_fnd_gt o hs, srt_drop hs _⟩, fun a ha b hb => ?_⟩
  have h1 := take_pos_lt a ha
  rcases List.mem_cons.1 hb with rfl | hb
  · exact h1
  · exact o.tr _ _ _ h1 (drop_fnd_gt o hs b hb)
theorem del_srt {l : List I} (hs : Srt lt l) (x : I) : Srt lt (del lt l x) := by
  refine List.Pairwise.sublist ?_ hs
  unfold del
  conv => rhs; rw [← List.take_append_drop (pos lt l x) l]
  refine List.Sublist.append (List.Sublist.refl _) ?_
  rw [show l.drop (pos lt l x + if (fnd lt l x).isSome then 1 else 0) = (l.drop (pos lt l x)).drop (if (fnd lt l x).isSome then 1 else 0) by rw [List.drop_drop]]
  exact List.drop_sublist _ _
end
end Go.Proofs.Ytkhpbcckaenmcaa
