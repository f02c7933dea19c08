/-
  A tree of one height in the heap. Conditions: none.
-/
import Derived.Test.YtkhpbcckaenmcaaHeap
import Derived.Test.YtkhpbcckaenmcaaBt
namespace Go.Proofs.Ytkhpbcckaenmcaa
open Go

/-- How an item lies in cells. -/
structure Lay (I : Type) where
  sz : Nat
  cells : I → List Value
  len : ∀ x, (cells x).length = sz
  one : ∀ x, ∀ v ∈ cells x, v.oneCell' = true
  pos : 0 < sz
def Lay.flat {I : Type} (L : Lay I) (xs : List I) : List Value := xs.flatMap L.cells

section
variable {I : Type} (L : Lay I)
theorem Lay.flat_length (xs : List I) : (L.flat xs).length = xs.length * L.sz := by
  induction xs with
  | nil => simp [Lay.flat]
  | cons x xs ih =>
    have : L.flat (x :: xs) = L.cells x ++ L.flat xs := rfl
    rw [this, List.length_append, ih, L.len, List.length_cons, Nat.add_mul]; omega
theorem Lay.flat_append (xs ys : List I) : L.flat (xs ++ ys) = L.flat xs ++ L.flat ys := by simp [Lay.flat]
theorem Lay.flat_cons (x : I) (xs : List I) : L.flat (x :: xs) = L.cells x ++ L.flat xs := rfl
theorem Lay.flat_one (xs : List I) : ∀ v ∈ L.flat xs, v.oneCell' = true := by
  intro v hv
  obtain ⟨x, _, hx⟩ := List.mem_flatMap.1 hv
  exact L.one x v hx
theorem Lay.flat_get {xs : List I} {i j : Nat} {x : I} {v : Value} (hx : xs[i]? = some x) (hv : (L.cells x)[j]? = some v) : (L.flat xs)[i * L.sz + j]? = some v := by
  obtain ⟨h1, h2⟩ := List.getElem?_eq_some_iff.1 hx
  have hj : j < L.sz := by rw [← L.len x]; exact (List.getElem?_eq_some_iff.1 hv).1
  have e : xs = xs.take i ++ x :: xs.drop (i + 1) := by rw [← h2, ← List.drop_eq_getElem_cons h1, List.take_append_drop]
  rw [e, L.flat_append, List.getElem?_append_right (by rw [L.flat_length, List.length_take, Nat.min_eq_left (by omega)]; omega), L.flat_length, L.flat_cons]
  have : i * L.sz + j - (xs.take i).length * L.sz = j := by
    rw [List.length_take, Nat.min_eq_left (by omega)]; omega
  rw [this, List.getElem?_append_left (by rw [L.len]; exact hj)]
  exact hv
theorem Lay.flat_take (xs : List I) (i : Nat) : (L.flat xs).take (i * L.sz) = L.flat (xs.take i) := by
  rcases Nat.lt_or_ge xs.length i with h | h
  · rw [List.take_of_length_le (by rw [L.flat_length]; exact Nat.mul_le_mul_right _ (by omega)), List.take_of_length_le (by omega)]
  · conv => lhs; rw [← List.take_append_drop i xs, L.flat_append]
    rw [List.take_append_of_le_length (by rw [L.flat_length]; simp; rw [Nat.min_eq_left h]; omega), List.take_of_length_le (by rw [L.flat_length]; simp; rw [Nat.min_eq_left h]; omega)]
theorem Lay.flat_drop (xs : List I) (i : Nat) : (L.flat xs).drop (i * L.sz) = L.flat (xs.drop i) := by
  have h1 := List.take_append_drop (i * L.sz) (L.flat xs)
  rw [L.flat_take] at h1
  have h2 : L.flat (xs.take i) ++ L.flat (xs.drop i) = L.flat xs := by rw [← L.flat_append, List.take_append_drop]
  exact List.append_cancel_left (h1.trans h2.symm)
end

/-- The parts of a footprint: pairwise apart, and F is all of them. -/
def Parts (l : List (PA → Prop)) (F : PA → Prop) : Prop := l.Pairwise dj ∧ ∀ x, F x ↔ ∃ A ∈ l, A x

theorem dj.symm {F G : PA → Prop} (h : dj F G) : dj G F := fun x hg hf => h x hf hg
theorem dj.sub {F G F' G' : PA → Prop} (h : dj F G) (h1 : ∀ x, F' x → F x) (h2 : ∀ x, G' x → G x) : dj F' G' := fun x hf hg => h x (h1 x hf) (h2 x hg)

/-! ### Trees side by side -/
def Forest {α : Type} (T : H → Nat → α → (PA → Prop) → Prop) (h : H) : List Nat → List α → (PA → Prop) → Prop
  | [], [], F => ∀ x, ¬ F x
  | k :: ks, t :: ts, F => ∃ F1 F2, T h k t F1 ∧ Forest T h ks ts F2 ∧ dj F1 F2 ∧ ∀ x, F x ↔ F1 x ∨ F2 x
  | _, _, _ => False

section
variable {α : Type} {T : H → Nat → α → (PA → Prop) → Prop} {h : H}

theorem Forest.len : ∀ {ks : List Nat} {ts : List α} {F : PA → Prop}, Forest T h ks ts F → ks.length = ts.length
  | [], [], _, _ => rfl
  | _ :: _, _ :: _, _, ⟨_, _, _, h2, _⟩ => by simp [h2.len]
  | [], _ :: _, _, hf => hf.elim
  | _ :: _, [], _, hf => hf.elim
theorem Forest.out {h' : H} {G : PA → Prop} (hT : ∀ k t F, T h k t F → dj F G → T h' k t F) : ∀ {ks : List Nat} {ts : List α} {F : PA → Prop}, Forest T h ks ts F → dj F G → Forest T h' ks ts F
  | [], [], _, hf, _ => hf
  | _ :: _, _ :: _, _, ⟨F1, F2, h1, h2, h3, h4⟩, hd =>
    ⟨F1, F2, hT _ _ _ h1 (hd.sub (fun x hx => (h4 x).2 (.inl hx)) (fun _ hx => hx)), Forest.out hT h2 (hd.sub (fun x hx => (h4 x).2 (.inr hx)) (fun _ hx => hx)), h3, h4⟩
  | [], _ :: _, _, hf, _ => hf.elim
  | _ :: _, [], _, hf, _ => hf.elim
theorem Forest.lt (hT : ∀ k t F, T h k t F → ∀ x, F x → x.1 < h.size) : ∀ {ks : List Nat} {ts : List α} {F : PA → Prop}, Forest T h ks ts F → ∀ x, F x → x.1 < h.size
  | [], [], _, hf, x, hx => (hf x hx).elim
  | _ :: _, _ :: _, _, ⟨_, _, h1, h2, _, h4⟩, x, hx => ((h4 x).1 hx).elim (hT _ _ _ h1 x) (Forest.lt hT h2 x)
  | [], _ :: _, _, hf, _, _ => hf.elim
  | _ :: _, [], _, hf, _, _ => hf.elim
theorem Forest.iff {F G : PA → Prop} (hfg : ∀ x, F x ↔ G x) : ∀ {ks : List Nat} {ts : List α}, Forest T h ks ts F → Forest T h ks ts G
  | [], [], hf => fun x hx => hf x ((hfg x).2 hx)
  | _ :: _, _ :: _, ⟨F1, F2, h1, h2, h3, h4⟩ => ⟨F1, F2, h1, h2, h3, fun x => (hfg x).symm.trans (h4 x)⟩
  | [], _ :: _, hf => hf.elim
  | _ :: _, [], hf => hf.elim
theorem Forest.append : ∀ {ks ls : List Nat} {ts us : List α} {F1 F2 : PA → Prop}, Forest T h ks ts F1 → Forest T h ls us F2 → dj F1 F2 → Forest T h (ks ++ ls) (ts ++ us) (un F1 F2)
  | [], ls, [], us, F1, F2, h1, h2, _ => h2.iff (fun x => ⟨fun hx => .inr hx, fun hx => hx.elim (fun h => (h1 x h).elim) id⟩)
  | k :: ks, ls, t :: ts, us, F1, F2, ⟨A, B, a1, a2, a3, a4⟩, h2, hd => by
    refine ⟨A, un B F2, a1, Forest.append a2 h2 (hd.sub (fun x hx => (a4 x).2 (.inr hx)) (fun _ hx => hx)), fun x hA hB => hB.elim (a3 x hA) (fun hF => hd x ((a4 x).2 (.inl hA)) hF), fun x => ?_⟩
    simp only [un, a4]
    exact or_assoc
  | [], _, _ :: _, _, _, _, hf, _, _ => hf.elim
  | _ :: _, _, [], _, _, _, hf, _, _ => hf.elim
theorem Forest.split : ∀ {ks ls : List Nat} {ts us : List α} {F : PA → Prop}, ks.length = ts.length → Forest T h (ks ++ ls) (ts ++ us) F →
    ∃ F1 F2, Forest T h ks ts F1 ∧ Forest T h ls us F2 ∧ dj F1 F2 ∧ ∀ x, F x ↔ F1 x ∨ F2 x
  | [], ls, [], us, F, _, hf => ⟨none', F, fun x hx => hx, hf, fun _ hx => hx.elim, fun x => ⟨fun hx => .inr hx, fun hx => hx.elim (fun h => h.elim) id⟩⟩
  | k :: ks, ls, t :: ts, us, F, hl, ⟨A, B, a1, a2, a3, a4⟩ => by
    obtain ⟨F1, F2, b1, b2, b3, b4⟩ := Forest.split (by simpa using hl) a2
    refine ⟨un A F1, F2, ⟨A, F1, a1, b1, fun x hA hF => a3 x hA ((b4 x).2 (.inl hF)), fun _ => Iff.rfl⟩, b2, fun x hx hF => hx.elim (fun hA => a3 x hA ((b4 x).2 (.inr hF))) (fun h1 => b3 x h1 hF), fun x => ?_⟩
    rw [a4, b4]
    exact or_assoc.symm
/-- One of them. -/
theorem Forest.at {ks : List Nat} {ts : List α} {F : PA → Prop} {i : Nat} {t : α} (hf : Forest T h ks ts F) (ht : ts[i]? = some t) :
    ∃ k FL FI FR, ks[i]? = some k ∧ Forest T h (ks.take i) (ts.take i) FL ∧ T h k t FI ∧ Forest T h (ks.drop (i + 1)) (ts.drop (i + 1)) FR ∧ [FL, FI, FR].Pairwise dj ∧ ∀ x, F x ↔ FL x ∨ FI x ∨ FR x := by
  obtain ⟨h1, h2⟩ := List.getElem?_eq_some_iff.1 ht
  have hl := hf.len
  have hk : i < ks.length := by omega
  have e1 : ks = ks.take i ++ ks[i] :: ks.drop (i + 1) := by rw [← List.drop_eq_getElem_cons hk, List.take_append_drop]
  have e2 : ts = ts.take i ++ t :: ts.drop (i + 1) := by rw [← h2, ← List.drop_eq_getElem_cons h1, List.take_append_drop]
  rw [e1, e2] at hf
  obtain ⟨F1, F2, a1, ⟨A, B, b1, b2, b3, b4⟩, a3, a4⟩ := Forest.split (by simp; omega) hf
  refine ⟨ks[i], F1, A, B, List.getElem?_eq_getElem hk, a1, b1, b2, ?_, fun x => ?_⟩
  · simp only [List.pairwise_cons, List.mem_cons, List.not_mem_nil, or_false, forall_eq_or_imp, forall_eq, false_implies, implies_true, List.Pairwise.nil, and_true]
    exact ⟨⟨a3.sub (fun _ hx => hx) (fun x hx => (b4 x).2 (.inl hx)), a3.sub (fun _ hx => hx) (fun x hx => (b4 x).2 (.inr hx))⟩, b3⟩
  · rw [a4, b4]
/-- And another one laid in its place. -/
theorem Forest.put {h' : H} {ks : List Nat} {ts : List α} {i k : Nat} {t : α} {FL FI FR : PA → Prop} (hi : i < ks.length) (hi2 : i < ts.length) (hL : Forest T h' (ks.take i) (ts.take i) FL) (hI : T h' k t FI)
    (hR : Forest T h' (ks.drop (i + 1)) (ts.drop (i + 1)) FR) (hp : [FL, FI, FR].Pairwise dj) : Forest T h' (ks.set i k) (ts.set i t) (un FL (un FI FR)) := by
  have e1 : ks.set i k = ks.take i ++ k :: ks.drop (i + 1) := List.set_eq_take_append_cons_drop .. |>.trans (by rw [if_pos hi])
  have e2 : ts.set i t = ts.take i ++ t :: ts.drop (i + 1) := List.set_eq_take_append_cons_drop .. |>.trans (by rw [if_pos hi2])
  simp only [List.pairwise_cons, List.mem_cons, List.not_mem_nil, or_false, forall_eq_or_imp, forall_eq, false_implies, implies_true, List.Pairwise.nil, and_true] at hp
  rw [e1, e2]
  exact hL.append ⟨FI, FR, hI, hR, hp.2, fun _ => Iff.rfl⟩ (fun x hx hu => hu.elim (hp.1.1 x hx) (hp.1.2 x hx))
end

/-! ### A tree -/
def nodeC (iso : Int) (cnt : Nat) (s : SlT) (kp : Option PA) : List Value := [.int .u64 iso, .int .i64 cnt, .slice (s.1.map PA.val) s.2.1 s.2.2, .pointer (kp.map PA.val)]
def hdC (c : SlT) : List Value := [.slice (c.1.map PA.val) c.2.1 c.2.2]
def kptr (k : Nat) : Value := .pointer (some (PA.val (k, 0)))

section
variable {I : Type} (L : Lay I) (iso : Int)

/-- Node b of the height n is the tree t; F: its places. -/
def Tr : (n : Nat) → H → Nat → BT I n → (PA → Prop) → Prop
  | 0, h, b, xs, F => ∃ s : SlT, Own h (b, 0) (nodeC iso (flatB 0 xs).length s none) 0 ∧ s.1.isSome = true ∧ Sl h s L.sz (L.flat (itemsB 0 xs)) ∧ s.2.1 = (itemsB 0 xs).length ∧
      Parts [rng (b, 0) 4, sfoot s L.sz] F
  | n + 1, h, b, t, F => ∃ (s c : SlT) (hb : Nat) (ks : List Nat) (FK : PA → Prop), Own h (b, 0) (nodeC iso (flatB (n + 1) t).length s (some (hb, 0))) 0 ∧ s.1.isSome = true ∧
      Sl h s L.sz (L.flat t.1) ∧ s.2.1 = t.1.length ∧ Own h (hb, 0) (hdC c) 0 ∧ c.1.isSome = true ∧ Sl h c 1 (ks.map kptr) ∧ Forest (Tr n) h ks t.2 FK ∧
      Parts [rng (b, 0) 4, sfoot s L.sz, rng (hb, 0) 1, sfoot c 1, FK] F

theorem Parts.mem {l : List (PA → Prop)} {F A : PA → Prop} (h : Parts l F) (hA : A ∈ l) : ∀ x, A x → F x := fun x hx => (h.2 x).2 ⟨A, hA, hx⟩

theorem Tr.out {h h' : H} {G : PA → Prop} (f : Fr G h h') : ∀ {n : Nat} {b : Nat} {t : BT I n} {F : PA → Prop}, Tr L iso n h b t F → dj F G → Tr L iso n h' b t F
  | 0, b, t, F, ⟨s, h1, h2, h3, h4, h5⟩, hd => by
    have d : ∀ {A}, A ∈ [rng (b, 0) 4, sfoot s L.sz] → dj A G := fun hA => hd.sub (h5.mem hA) (fun _ hx => hx)
    exact ⟨s, h1.out f (show dj (rng (b, 0) 4) G from d (by simp)), h2, h3.out f (d (by simp)), h4, h5⟩
  | n + 1, b, t, F, ⟨s, c, hb, ks, FK, h1, h2, h3, h4, h5, h6, h7, h8, h9⟩, hd => by
    have d : ∀ {A}, A ∈ [rng (b, 0) 4, sfoot s L.sz, rng (hb, 0) 1, sfoot c 1, FK] → dj A G := fun hA => hd.sub (h9.mem hA) (fun _ hx => hx)
    exact ⟨s, c, hb, ks, FK, h1.out f (show dj (rng (b, 0) 4) G from d (by simp)), h2, h3.out f (d (by simp)), h4, h5.out f (show dj (rng (hb, 0) 1) G from d (by simp)), h6, h7.out f (d (by simp)), h8.out (fun k t F hT hdj => Tr.out f hT hdj) (d (by simp)), h9⟩

theorem Tr.lt {h : H} : ∀ {n : Nat} {b : Nat} {t : BT I n} {F : PA → Prop}, Tr L iso n h b t F → ∀ x, F x → x.1 < h.size
  | 0, b, t, F, ⟨s, h1, h2, h3, h4, h5⟩, x, hx => by
    obtain ⟨A, hA, hxA⟩ := (h5.2 x).1 hx
    simp only [List.mem_cons, List.not_mem_nil, or_false] at hA
    rcases hA with rfl | rfl
    · exact h1.lt hxA
    · exact h3.foot_lt hxA
  | n + 1, b, t, F, ⟨s, c, hb, ks, FK, h1, h2, h3, h4, h5, h6, h7, h8, h9⟩, x, hx => by
    obtain ⟨A, hA, hxA⟩ := (h9.2 x).1 hx
    simp only [List.mem_cons, List.not_mem_nil, or_false] at hA
    rcases hA with rfl | rfl | rfl | rfl | rfl
    · exact h1.lt hxA
    · exact h3.foot_lt hxA
    · exact h5.lt hxA
    · exact h7.foot_lt hxA
    · exact h8.lt (fun k t F hT => Tr.lt hT) x hxA
end

end Go.Proofs.Ytkhpbcckaenmcaa
