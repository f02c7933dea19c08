/-
  Pieces of memory side by side: what a program owns, and one step lemma for each form of a typed program said of them. Conditions: none.
-/
import Derived.Test.YtkhpbcckaenmcaaTree
set_option linter.unusedVariables false
set_option linter.unusedSimpArgs false
set_option linter.unusedSectionVars false
namespace Go.Proofs.Ytkhpbcckaenmcaa
open Go

/-- A piece of memory: what holds of it, and its places. -/
structure Ck where
  p : H → (PA → Prop) → Prop
  out : ∀ {h h' : H} {F G : PA → Prop}, p h F → Fr G h h' → dj F G → p h' F
  lt : ∀ {h : H} {F : PA → Prop}, p h F → ∀ x, F x → x.1 < h.size

def Star : List Ck → H → (PA → Prop) → Prop
  | [], _, G => ∀ x, ¬ G x
  | c :: l, h, G => ∃ F1 F2, c.p h F1 ∧ Star l h F2 ∧ dj F1 F2 ∧ ∀ x, G x ↔ F1 x ∨ F2 x

theorem Star.lt : ∀ {l : List Ck} {h : H} {G : PA → Prop}, Star l h G → ∀ x, G x → x.1 < h.size
  | [], _, _, hs, x, hx => (hs x hx).elim
  | c :: l, h, G, ⟨F1, F2, h1, h2, _, h4⟩, x, hx => ((h4 x).1 hx).elim (c.lt h1 x) (Star.lt h2 x)
theorem Star.out : ∀ {l : List Ck} {h h' : H} {F G : PA → Prop}, Star l h F → Fr G h h' → dj F G → Star l h' F
  | [], _, _, _, _, hs, _, _ => hs
  | c :: l, h, h', F, G, ⟨F1, F2, h1, h2, h3, h4⟩, f, hd =>
    ⟨F1, F2, c.out h1 f (hd.sub (fun x hx => (h4 x).2 (.inl hx)) fun _ hx => hx), Star.out h2 f (hd.sub (fun x hx => (h4 x).2 (.inr hx)) fun _ hx => hx), h3, h4⟩
theorem Star.iff : ∀ {l : List Ck} {h : H} {F G : PA → Prop}, Star l h F → (∀ x, F x ↔ G x) → Star l h G
  | [], _, _, _, hs, e => fun x hx => hs x ((e x).2 hx)
  | c :: l, h, F, G, ⟨F1, F2, h1, h2, h3, h4⟩, e => ⟨F1, F2, h1, h2, h3, fun x => (e x).symm.trans (h4 x)⟩
theorem Star.append : ∀ {l m : List Ck} {h : H} {F G : PA → Prop}, Star l h F → Star m h G → dj F G → Star (l ++ m) h (un F G)
  | [], m, h, F, G, h1, h2, _ => h2.iff fun x => ⟨.inr, fun hx => hx.elim (fun h => (h1 x h).elim) id⟩
  | c :: l, m, h, F, G, ⟨A, B, a1, a2, a3, a4⟩, h2, hd =>
    ⟨A, un B G, a1, Star.append a2 h2 (hd.sub (fun x hx => (a4 x).2 (.inr hx)) fun _ hx => hx), fun x hA hB => hB.elim (a3 x hA) (fun hG => hd x ((a4 x).2 (.inl hA)) hG), fun x => by
      simp only [un, a4]; exact or_assoc⟩
theorem Star.split : ∀ {l m : List Ck} {h : H} {F : PA → Prop}, Star (l ++ m) h F → ∃ A B, Star l h A ∧ Star m h B ∧ dj A B ∧ ∀ x, F x ↔ A x ∨ B x
  | [], m, h, F, hs => ⟨none', F, fun x hx => hx, hs, fun x hx => hx.elim, fun x => ⟨.inr, fun hx => hx.elim (fun h => h.elim) id⟩⟩
  | c :: l, m, h, F, ⟨F1, F2, h1, h2, h3, h4⟩ => by
    obtain ⟨A, B, a1, a2, a3, a4⟩ := Star.split h2
    refine ⟨un F1 A, B, ⟨F1, A, h1, a1, fun x hx hA => h3 x hx ((a4 x).2 (.inl hA)), fun _ => Iff.rfl⟩, a2, fun x hx hB => hx.elim (fun hF => h3 x hF ((a4 x).2 (.inr hB))) (fun hA => a3 x hA hB), fun x => ?_⟩
    rw [h4, a4]; exact or_assoc.symm
theorem Star.swap {c d : Ck} {l : List Ck} {h : H} {F : PA → Prop} : Star (c :: d :: l) h F → Star (d :: c :: l) h F := by
  rintro ⟨F1, F2, h1, ⟨F3, F4, g1, g2, g3, g4⟩, h3, h4⟩
  refine ⟨F3, un F1 F4, g1, ⟨F1, F4, h1, g2, fun x hx h4' => h3 x hx ((g4 x).2 (.inr h4')), fun _ => Iff.rfl⟩, fun x hx hu => hu.elim (fun h1' => h3 x h1' ((g4 x).2 (.inl hx))) (fun h4' => g3 x hx h4'), fun x => ?_⟩
  rw [h4, g4]
  exact ⟨fun hx => hx.elim (fun h => .inr (.inl h)) (fun h => h.elim .inl (fun h => .inr (.inr h))), fun hx => hx.elim (fun h => .inr (.inl h)) (fun h => h.elim .inl (fun h => .inr (.inr h)))⟩
theorem Star.perm {l m : List Ck} (hp : l.Perm m) : ∀ {h : H} {F : PA → Prop}, Star l h F → Star m h F := by
  induction hp with
  | nil => exact fun hs => hs
  | cons c _ ih => exact fun ⟨F1, F2, h1, h2, h3, h4⟩ => ⟨F1, F2, h1, ih h2, h3, h4⟩
  | swap => exact fun hs => hs.swap
  | trans _ _ i1 i2 => exact fun hs => i2 (i1 hs)

/-! ### What has been done since a start -/
/-- Since the heap h0, of which G0 was ours: these pieces are ours now, and of what was there only G0 has changed. -/
structure St (h0 : H) (G0 : PA → Prop) (l : List Ck) (h : H) : Prop where
  ex : ∃ G, Star l h G ∧ ∀ x, G x → G0 x ∨ h0.size ≤ x.1
  fr : Fr G0 h0 h

theorem St.start {l : List Ck} {h : H} {G : PA → Prop} (hs : Star l h G) : St h G l h := ⟨⟨G, hs, fun _ hx => .inl hx⟩, Fr.refl _ _⟩
theorem St.perm {l m : List Ck} {h0 h : H} {G0 : PA → Prop} (s : St h0 G0 l h) (hp : l.Perm m) : St h0 G0 m h := by
  obtain ⟨⟨G, h1, h2⟩, h3⟩ := s
  exact ⟨⟨G, h1.perm hp, h2⟩, h3⟩
/-- The piece i to the front. -/
def pull (i : Nat) (l : List Ck) : List Ck := match l[i]? with
  | some c => c :: l.eraseIdx i
  | none => l
theorem perm_pull (i : Nat) (l : List Ck) : l.Perm (pull i l) := by
  unfold pull
  split
  · rename_i c hc
    obtain ⟨h1, h2⟩ := List.getElem?_eq_some_iff.1 hc
    subst h2
    conv => lhs; rw [← List.take_append_drop i l, List.drop_eq_getElem_cons h1]
    rw [List.eraseIdx_eq_take_drop_succ]
    exact List.perm_middle
  · exact List.Perm.refl _
theorem St.pull {l : List Ck} {h0 h : H} {G0 : PA → Prop} (s : St h0 G0 l h) (i : Nat) : St h0 G0 (Go.Proofs.Ytkhpbcckaenmcaa.pull i l) h := s.perm (perm_pull i l)
theorem St.pull1 {c0 c1 : Ck} {l : List Ck} {h0 h : H} {G0 : PA → Prop} (s : St h0 G0 (c0 :: c1 :: l) h) : St h0 G0 (c1 :: c0 :: l) h := s.pull 1
theorem St.pull2 {c0 c1 c2 : Ck} {l : List Ck} {h0 h : H} {G0 : PA → Prop} (s : St h0 G0 (c0 :: c1 :: c2 :: l) h) : St h0 G0 (c2 :: c0 :: c1 :: l) h := s.pull 2
theorem St.pull3 {c0 c1 c2 c3 : Ck} {l : List Ck} {h0 h : H} {G0 : PA → Prop} (s : St h0 G0 (c0 :: c1 :: c2 :: c3 :: l) h) : St h0 G0 (c3 :: c0 :: c1 :: c2 :: l) h := s.pull 3
theorem St.pull4 {c0 c1 c2 c3 c4 : Ck} {l : List Ck} {h0 h : H} {G0 : PA → Prop} (s : St h0 G0 (c0 :: c1 :: c2 :: c3 :: c4 :: l) h) : St h0 G0 (c4 :: c0 :: c1 :: c2 :: c3 :: l) h := s.pull 4
theorem St.pull5 {c0 c1 c2 c3 c4 c5 : Ck} {l : List Ck} {h0 h : H} {G0 : PA → Prop} (s : St h0 G0 (c0 :: c1 :: c2 :: c3 :: c4 :: c5 :: l) h) : St h0 G0 (c5 :: c0 :: c1 :: c2 :: c3 :: c4 :: l) h := s.pull 5
theorem St.pull6 {c0 c1 c2 c3 c4 c5 c6 : Ck} {l : List Ck} {h0 h : H} {G0 : PA → Prop} (s : St h0 G0 (c0 :: c1 :: c2 :: c3 :: c4 :: c5 :: c6 :: l) h) : St h0 G0 (c6 :: c0 :: c1 :: c2 :: c3 :: c4 :: c5 :: l) h := s.pull 6
theorem St.pull7 {c0 c1 c2 c3 c4 c5 c6 c7 : Ck} {l : List Ck} {h0 h : H} {G0 : PA → Prop} (s : St h0 G0 (c0 :: c1 :: c2 :: c3 :: c4 :: c5 :: c6 :: c7 :: l) h) : St h0 G0 (c7 :: c0 :: c1 :: c2 :: c3 :: c4 :: c5 :: c6 :: l) h := s.pull 7
theorem St.pull8 {c0 c1 c2 c3 c4 c5 c6 c7 c8 : Ck} {l : List Ck} {h0 h : H} {G0 : PA → Prop} (s : St h0 G0 (c0 :: c1 :: c2 :: c3 :: c4 :: c5 :: c6 :: c7 :: c8 :: l) h) : St h0 G0 (c8 :: c0 :: c1 :: c2 :: c3 :: c4 :: c5 :: c6 :: c7 :: l) h := s.pull 8
theorem St.pull9 {c0 c1 c2 c3 c4 c5 c6 c7 c8 c9 : Ck} {l : List Ck} {h0 h : H} {G0 : PA → Prop} (s : St h0 G0 (c0 :: c1 :: c2 :: c3 :: c4 :: c5 :: c6 :: c7 :: c8 :: c9 :: l) h) : St h0 G0 (c9 :: c0 :: c1 :: c2 :: c3 :: c4 :: c5 :: c6 :: c7 :: c8 :: l) h := s.pull 9
theorem St.pull10 {c0 c1 c2 c3 c4 c5 c6 c7 c8 c9 c10 : Ck} {l : List Ck} {h0 h : H} {G0 : PA → Prop} (s : St h0 G0 (c0 :: c1 :: c2 :: c3 :: c4 :: c5 :: c6 :: c7 :: c8 :: c9 :: c10 :: l) h) : St h0 G0 (c10 :: c0 :: c1 :: c2 :: c3 :: c4 :: c5 :: c6 :: c7 :: c8 :: c9 :: l) h := s.pull 10
theorem St.pull11 {c0 c1 c2 c3 c4 c5 c6 c7 c8 c9 c10 c11 : Ck} {l : List Ck} {h0 h : H} {G0 : PA → Prop} (s : St h0 G0 (c0 :: c1 :: c2 :: c3 :: c4 :: c5 :: c6 :: c7 :: c8 :: c9 :: c10 :: c11 :: l) h) : St h0 G0 (c11 :: c0 :: c1 :: c2 :: c3 :: c4 :: c5 :: c6 :: c7 :: c8 :: c9 :: c10 :: l) h := s.pull 11
theorem St.pull12 {c0 c1 c2 c3 c4 c5 c6 c7 c8 c9 c10 c11 c12 : Ck} {l : List Ck} {h0 h : H} {G0 : PA → Prop} (s : St h0 G0 (c0 :: c1 :: c2 :: c3 :: c4 :: c5 :: c6 :: c7 :: c8 :: c9 :: c10 :: c11 :: c12 :: l) h) : St h0 G0 (c12 :: c0 :: c1 :: c2 :: c3 :: c4 :: c5 :: c6 :: c7 :: c8 :: c9 :: c10 :: c11 :: l) h := s.pull 12
theorem pa_eq {a b : PA} (h1 : a.1 = b.1) (h2 : a.2 = b.2) : a = b := by cases a; cases b; simp_all
/-- A piece, or some, said in another way. -/
theorem St.turn {l l' m : List Ck} {h0 h : H} {G0 : PA → Prop} (s : St h0 G0 (l ++ m) h) (hc : ∀ F, Star l h F → Star l' h F) : St h0 G0 (l' ++ m) h := by
  obtain ⟨⟨G, h1, h2⟩, h3⟩ := s
  obtain ⟨A, B, a1, a2, a3, a4⟩ := h1.split
  exact ⟨⟨un A B, (hc A a1).append a2 a3, fun x hx => h2 x ((a4 x).2 hx)⟩, h3⟩
theorem St.turnE {α : Type} {l m : List Ck} {l' : α → List Ck} {φ : α → Prop} {h0 h : H} {G0 : PA → Prop} (s : St h0 G0 (l ++ m) h) (hc : ∀ F, Star l h F → ∃ x, φ x ∧ Star (l' x) h F) : ∃ x, φ x ∧ St h0 G0 (l' x ++ m) h := by
  obtain ⟨⟨G, h1, h2⟩, h3⟩ := s
  obtain ⟨A, B, a1, a2, a3, a4⟩ := h1.split
  obtain ⟨x, hx, hs⟩ := hc A a1
  exact ⟨x, hx, ⟨un A B, hs.append a2 a3, fun x hx => h2 x ((a4 x).2 hx)⟩, h3⟩
theorem St.drop {c : Ck} {m : List Ck} {h0 h : H} {G0 : PA → Prop} (s : St h0 G0 (c :: m) h) : St h0 G0 m h := by
  obtain ⟨⟨G, ⟨F1, F2, h1, h2, h3, h4⟩, h5⟩, h6⟩ := s
  exact ⟨⟨F2, h2, fun x hx => h5 x ((h4 x).2 (.inr hx))⟩, h6⟩
theorem St.left {l m : List Ck} {h0 h : H} {G0 : PA → Prop} (s : St h0 G0 (l ++ m) h) : St h0 G0 l h := by
  obtain ⟨⟨G, h1, h2⟩, h3⟩ := s
  obtain ⟨A, B, a1, a2, a3, a4⟩ := h1.split
  exact ⟨⟨A, a1, fun x hx => h2 x ((a4 x).2 (.inl hx))⟩, h3⟩
theorem St.get {l m : List Ck} {h0 h : H} {G0 : PA → Prop} (s : St h0 G0 (l ++ m) h) : ∃ F, Star l h F ∧ ∀ x, F x → G0 x ∨ h0.size ≤ x.1 := by
  obtain ⟨⟨G, h1, h2⟩, h3⟩ := s
  obtain ⟨A, B, a1, a2, a3, a4⟩ := h1.split
  exact ⟨A, a1, fun x hx => h2 x ((a4 x).2 (.inl hx))⟩
theorem St.fact {c : Ck} {m : List Ck} {h0 h : H} {G0 : PA → Prop} (s : St h0 G0 (c :: m) h) : ∃ F, c.p h F := by
  obtain ⟨⟨G, ⟨F1, F2, h1, h2, h3, h4⟩, h5⟩, h6⟩ := s
  exact ⟨F1, h1⟩
/-- One stretch behind another. -/
theorem St.then {l l' m : List Ck} {h0 h h' : H} {G0 : PA → Prop} (s : St h0 G0 (l ++ m) h) (hc : ∀ G, Star l h G → St h G l' h') : St h0 G0 (l' ++ m) h' := by
  obtain ⟨⟨G, h1, h2⟩, h3⟩ := s
  obtain ⟨A, B, a1, a2, a3, a4⟩ := h1.split
  obtain ⟨⟨C, c1, c2⟩, c3⟩ := hc A a1
  have hB := a2.lt
  refine ⟨⟨un C B, c1.append (a2.out c3 a3.symm) (fun x hC hx => (c2 x hC).elim (fun hA => a3 x hA hx) (fun hs => Nat.not_le_of_lt (hB x hx) hs)), fun x hx => ?_⟩,
    h3.then c3 fun x hx hA => (h2 x ((a4 x).2 (.inl hA))).elim id (fun hs => absurd hx (Nat.not_lt_of_le hs))⟩
  rcases hx with hC | hB'
  · rcases c2 x hC with hA | hs
    · exact h2 x ((a4 x).2 (.inl hA))
    · exact .inr (Nat.le_trans h3.size hs)
  · exact h2 x ((a4 x).2 (.inr hB'))
/-- The same, where nothing has changed. -/
theorem St.trans {l l' : List Ck} {h0 h h' : H} {G0 : PA → Prop} (s : St h0 G0 l h) (hc : ∀ G, Star l h G → St h G l' h') : St h0 G0 l' h' := by
  have := St.then (m := []) (l := l) (l' := l') (by simpa using s) hc
  simpa using this

/-! ### Cells -/
def Ow (a : PA) (vs : List Value) (k : Nat) : Ck where
  p h F := Own h a vs k ∧ ∀ x, F x ↔ rng a (vs.length + k) x
  out := fun ⟨o, e⟩ f hd => ⟨o.out f (hd.sub (fun x hx => (e x).2 hx) fun _ hx => hx), e⟩
  lt := fun ⟨o, e⟩ x hx => o.lt ((e x).1 hx)
def SlC (s : SlT) (sz : Nat) (vs : List Value) : Ck where
  p h F := Sl h s sz vs ∧ ∀ x, F x ↔ sfoot s sz x
  out := fun ⟨o, e⟩ f hd => ⟨o.out f (hd.sub (fun x hx => (e x).2 hx) fun _ hx => hx), e⟩
  lt := fun ⟨o, e⟩ x hx => o.foot_lt ((e x).1 hx)

/-- Where a place lies among the pieces: in the piece of the cells vs, at j; 'l' with other cells there. -/
class Fi (l : List Ck) (a : PA) (vs : outParam (List Value)) (j : outParam Nat) (k : outParam Nat) (l' : outParam (List Value → List Ck)) : Prop where
  ok : ∀ h G, Star l h G → ∃ b F B, a = (b.1, b.2 + j) ∧ Own h b vs k ∧ (∀ x, F x ↔ rng b (vs.length + k) x) ∧ dj F B ∧ (∀ x, G x ↔ F x ∨ B x) ∧
    ∀ h' ws, Own h' b ws k → ws.length = vs.length → Fr F h h' → Star (l' ws) h' G

theorem fi_head {l : List Ck} {b : PA} {vs : List Value} {k : Nat} (a : PA) (j : Nat) (he : a = (b.1, b.2 + j)) : Fi (Ow b vs k :: l) a vs j k (fun ws => Ow b ws k :: l) := by
  refine ⟨fun h G ⟨F1, F2, ⟨h1, e⟩, h2, h3, h4⟩ => ⟨b, F1, F2, he, h1, e, h3, h4, fun h' ws ho hl f => ⟨F1, F2, ⟨ho, by rw [hl]; exact e⟩, h2.out f h3.symm, h3, h4⟩⟩⟩
instance fi_tail {l : List Ck} {c : Ck} {a : PA} {vs : List Value} {j k : Nat} {l' : List Value → List Ck} [Fi l a vs j k l'] : Fi (c :: l) a vs j k (fun ws => c :: l' ws) := by
  refine ⟨fun h G ⟨F1, F2, h1, h2, h3, h4⟩ => ?_⟩
  obtain ⟨b, F, B, e, o, eF, hd, hu, hk⟩ := Fi.ok (self := ‹Fi l a vs j k l'›) h F2 h2
  refine ⟨b, F, un F1 B, e, o, eF, fun x hx hu' => hu'.elim (fun h1' => h3 x h1' ((hu x).2 (.inl hx))) (hd x hx), fun x => ?_, fun h' ws ho hl f => ?_⟩
  · rw [h4, hu]
    exact ⟨fun hx => hx.elim (fun h => .inr (.inl h)) (fun h => h.elim .inl (fun h => .inr (.inr h))), fun hx => hx.elim (fun h => .inr (.inl h)) (fun h => h.elim .inl (fun h => .inr (.inr h)))⟩
  · exact ⟨F1, F2, c.out h1 f (h3.sub (fun _ hx => hx) (fun x hx => (hu x).2 (.inl hx))), hk h' ws ho hl f, h3, h4⟩
instance fi_pair {l : List Ck} {b j k : Nat} {vs : List Value} : Fi (Ow (b, 0) vs k :: l) (b, j) vs j k (fun ws => Ow (b, 0) ws k :: l) := fi_head _ _ (by simp)
instance fi_add {l : List Ck} {b : PA} {j k : Nat} {vs : List Value} : Fi (Ow b vs k :: l) (b.1, b.2 + j) vs j k (fun ws => Ow b ws k :: l) := fi_head _ _ rfl
instance fi_eta {l : List Ck} {b : PA} {k : Nat} {vs : List Value} : Fi (Ow b vs k :: l) (b.1, b.2) vs 0 k (fun ws => Ow b ws k :: l) := fi_head _ _ rfl
instance fi_self {l : List Ck} {b : PA} {k : Nat} {vs : List Value} : Fi (Ow b vs k :: l) b vs 0 k (fun ws => Ow b ws k :: l) := fi_head _ _ rfl
instance fi_add2 {l : List Ck} {b : PA} {j m k : Nat} {vs : List Value} : Fi (Ow b vs k :: l) (b.1, b.2 + m + j) vs (m + j) k (fun ws => Ow b ws k :: l) := fi_head _ _ (by rw [Nat.add_assoc])

section
variable {P : Program} {Q : Ex → List AV → H → Prop} {h h0 : H} {G0 : PA → Prop} {l : List Ck}

theorem St.re {p : PA} {vs : List Value} {k : Nat} (s : St h0 G0 (Ow p vs k :: l) h) (q : PA) (ws : List Value) (k' : Nat) (hp : p = q) (hv : vs = ws) (hk : k = k') : St h0 G0 (Ow q ws k' :: l) h := by
  subst hp hv hk; exact s
theorem Star.rd {G : PA → Prop} (s : Star l h G) {a : PA} {vs : List Value} {j k : Nat} {l' : List Value → List Ck} [Fi l a vs j k l'] {v : Value} (hv : vs[j]? = some v) : Go.Proofs.Ytkhpbcckaenmcaa.rd h a = some v := by
  obtain ⟨b, F, B, e, o, _⟩ := Fi.ok (self := ‹Fi l a vs j k l'›) h G s
  rw [e]
  exact o.rd j v hv
theorem St.rd (s : St h0 G0 l h) {a : PA} {vs : List Value} {j k : Nat} {l' : List Value → List Ck} [Fi l a vs j k l'] {v : Value} (hv : vs[j]? = some v) : Go.Proofs.Ytkhpbcckaenmcaa.rd h a = some v := by
  obtain ⟨⟨G, h1, _⟩, _⟩ := s
  exact h1.rd hv
/-- From a place on, as far as the piece goes. -/
theorem St.rds (s : St h0 G0 l h) {a : PA} {vs : List Value} {j k : Nat} {l' : List Value → List Ck} [Fi l a vs j k l'] (us : List Value) (hu : ∀ i v, us[i]? = some v → vs[j + i]? = some v) : Go.Proofs.Ytkhpbcckaenmcaa.rds h a us := by
  obtain ⟨⟨G, h1, _⟩, _⟩ := s
  obtain ⟨b, F, B, e, o, _⟩ := Fi.ok (self := ‹Fi l a vs j k l'›) h G h1
  intro i v hi
  rw [e]
  have := o.rd (j + i) v (hu i v hi)
  simpa [Nat.add_assoc] using this

/-- A change of one piece. -/
theorem St.change (s : St h0 G0 l h) {a : PA} {vs : List Value} {j k : Nat} {l' : List Value → List Ck} [Fi l a vs j k l'] {h' : H} {ws : List Value} (hl : ws.length = vs.length)
    (hc : ∀ b, a = (b.1, b.2 + j) → Own h b vs k → Own h' b ws k ∧ Fr (rng b (vs.length + k)) h h') : St h0 G0 (l' ws) h' := by
  obtain ⟨⟨G, h1, h2⟩, h3⟩ := s
  obtain ⟨b, F, B, e, o, eF, hd, hu, hk⟩ := Fi.ok (self := ‹Fi l a vs j k l'›) h G h1
  obtain ⟨c1, c2⟩ := hc b e o
  have c3 : Fr F h h' := c2.mono fun x _ hx => (eF x).2 hx
  exact ⟨⟨G, hk h' ws c1 hl c3, h2⟩, h3.then c3 fun x hx hF => (h2 x ((hu x).2 (.inl hF))).elim id (fun hs => absurd hx (Nat.not_lt_of_le hs))⟩

theorem ld_int (s : St h0 G0 l h) {a : PA} {vs : List Value} {j k : Nat} {l' : List Value → List Ck} [Fi l a vs j k l'] {kd : IntKind} {n : Int} {m : Int → M} (hv : vs[j]? = some (.int kd n))
    (hw : wp P (m n) Q h) : wp P (.load a (.int kd) m) Q h := ⟨n, s.rd hv, hw⟩
theorem ld_bool (s : St h0 G0 l h) {a : PA} {vs : List Value} {j k : Nat} {l' : List Value → List Ck} [Fi l a vs j k l'] {b : Bool} {m : Bool → M} (hv : vs[j]? = some (.bool b))
    (hw : wp P (m b) Q h) : wp P (.load a .bool m) Q h := ⟨b, s.rd hv, hw⟩
theorem ld_ptr (s : St h0 G0 l h) {a : PA} {vs : List Value} {j k : Nat} {l' : List Value → List Ck} [Fi l a vs j k l'] (p : Option PA) {m : Option PA → M} (hv : vs[j]? = some (.pointer (p.map PA.val)))
    (hw : wp P (m p) Q h) : wp P (.load a .ptr m) Q h := ⟨p, s.rd hv, hw⟩
theorem ld_sl (s : St h0 G0 l h) {a : PA} {vs : List Value} {j k : Nat} {l' : List Value → List Ck} [Fi l a vs j k l'] (p : Option PA) (n c : Nat) {m : SlT → M} (hv : vs[j]? = some (.slice (p.map PA.val) n c))
    (hw : wp P (m (p, n, c)) Q h) : wp P (.load a .sl m) Q h := ⟨(p, n, c), s.rd hv, hw⟩
theorem ld_str (s : St h0 G0 l h) {a : PA} {vs : List Value} {j k : Nat} {l' : List Value → List Ck} [Fi l a vs j k l'] {b : ByteArray} {m : ByteArray → M} (hv : vs[j]? = some (.string b))
    (hw : wp P (m b) Q h) : wp P (.load a .str m) Q h := ⟨b, s.rd hv, hw⟩
theorem st_held (s : St h0 G0 l h) {a : PA} {vs : List Value} {j k : Nat} {l' : List Value → List Ck} [Fi l a vs j k l'] {c : Cell} {m : M} (hv : vs[j]? = some c.val)
    (hw : wp P m Q h) : wp P (.held a c m) Q h := ⟨s.rd hv, hw⟩
theorem st_store (s : St h0 G0 l h) {a : PA} {vs : List Value} {j k : Nat} {l' : List Value → List Ck} [Fi l a vs j k l'] {c : Cell} {m : M} (hj : j < vs.length)
    (hw : ∀ h', St h0 G0 (l' (vs.set j c.val)) h' → wp P m Q h') : wp P (.store a c m) Q h := by
  refine ⟨?_, hw _ (s.change (a := a) (ws := vs.set j c.val) (by simp) fun b e o => ?_)⟩
  · obtain ⟨⟨G, h1, h2⟩, h3⟩ := s
    obtain ⟨b, F, B, e, o, _⟩ := Fi.ok (self := ‹Fi l a vs j k l'›) h G h1
    rw [e]
    exact o.ok j (by omega)
  · rw [e]
    exact ⟨o.one j _ hj, Fr.wr _ ⟨rfl, by simp, by simp; omega⟩⟩
theorem St.new (s : St h0 G0 l h) (t : TypeId) (vs us : List Value) : St h0 G0 (Ow (h.size, 0) vs us.length :: l) (newCells h t (vs ++ us)) := by
  obtain ⟨⟨G, h1, h2⟩, h3⟩ := s
  refine ⟨⟨un (rng (h.size, 0) (vs.length + us.length)) G, ⟨_, G, ⟨Own.new h t vs us, fun x => Iff.rfl⟩, h1.out (Fr.new (F := none') h t _) (fun x _ hn => hn), fun x hx hG => ?_, fun x => Iff.rfl⟩, fun x hx => ?_⟩, h3.trans (Fr.new h t _)⟩
  · have := h1.lt x hG
    obtain ⟨e, _⟩ := hx
    simp at e; omega
  · rcases hx with ⟨e, _⟩ | hG
    · right; have := h3.size; simp at e; omega
    · exact h2 x hG
theorem st_alloc (s : St h0 G0 l h) {t : TypeId} {cs : List Cell} {m : Nat → M} (hw : ∀ n h', St h0 G0 (Ow (n, 0) (cs.map Cell.val) 0 :: l) h' → wp P (m n) Q h') : wp P (.alloc t cs m) Q h := by
  have := s.new t (cs.map Cell.val) []
  rw [List.append_nil] at this
  exact hw _ _ this
theorem st_allocK (s : St h0 G0 l h) {t : TypeId} {cs : List Cell} {m : Nat → M} (hw : ∀ n h', St h0 G0 (Ow (n, 0) (cs.map Cell.val) 0 :: l) h' → (∀ a v, Go.Proofs.Ytkhpbcckaenmcaa.rd h a = some v → Go.Proofs.Ytkhpbcckaenmcaa.rd h' a = some v) → wp P (m n) Q h') : wp P (.alloc t cs m) Q h := by
  have := s.new t (cs.map Cell.val) []
  rw [List.append_nil] at this
  exact hw _ _ this fun a v ha => by rw [rd_new_old t _ (rd_lt ha)]; exact ha
theorem st_make (s : St h0 G0 l h) {e : TypeId} {sz byt : Nat} {z : List Cell} {len cap : Int} {m : SlT → M} (hz : z.length = sz) (h1 : 0 ≤ len) (h2 : len ≤ cap) (h3 : (byt : Int) * cap ≤ 281474976710656) (h4 : cap ≤ 9223372036854775807)
    (hw : ∀ n h', St h0 G0 (SlC (some (n, 0), len.toNat, cap.toNat) sz (madeCells (z.map Cell.val).toArray (len.toNat * sz)).toList :: l) h' → wp P (m (some (n, 0), len.toNat, cap.toNat)) Q h') :
    wp P (.make e sz byt z len cap m) Q h := by
  refine w_make h1 h2 h3 h4 ?_
  have hcl : len.toNat ≤ cap.toNat := by omega
  have hsp : (madeCells (z.map Cell.val).toArray (cap.toNat * sz)).toList = (madeCells (z.map Cell.val).toArray (len.toNat * sz)).toList ++ ((madeCells (z.map Cell.val).toArray (cap.toNat * sz)).toList.drop (len.toNat * sz)) := by
    conv => lhs; rw [← List.take_append_drop (len.toNat * sz) (madeCells (z.map Cell.val).toArray (cap.toNat * sz)).toList]
    congr 1
    have hle : len.toNat * sz ≤ cap.toNat * sz := Nat.mul_le_mul_right _ hcl
    have key : ∀ m, (madeCells (z.map Cell.val).toArray m).toList = (List.range m).map fun i => (z.map Cell.val).toArray[i % (z.map Cell.val).toArray.size]! := fun m => by simp [madeCells]
    rw [key, key, ← List.map_take, List.take_range, Nat.min_eq_left hle]
  have hll : (madeCells (z.map Cell.val).toArray (len.toNat * sz)).toList.length = len.toNat * sz := by rw [Array.length_toList, size_madeCells]
  have hlc : (madeCells (z.map Cell.val).toArray (cap.toNat * sz)).toList.length = cap.toNat * sz := by rw [Array.length_toList, size_madeCells]
  rw [hsp]
  have hn := s.new e (madeCells (z.map Cell.val).toArray (len.toNat * sz)).toList ((madeCells (z.map Cell.val).toArray (cap.toNat * sz)).toList.drop (len.toNat * sz))
  refine hw _ _ (hn.turn (l := [_]) (l' := [_]) fun F hF => ?_)
  obtain ⟨F1, F2, ⟨o, e1⟩, e2, e3, e4⟩ := hF
  have hk : (List.drop (len.toNat * sz) (madeCells (z.map Cell.val).toArray (cap.toNat * sz)).toList).length = (cap.toNat - len.toNat) * sz := by
    rw [List.length_drop, hlc, Nat.sub_mul]
  rw [hk] at o e1
  refine ⟨F1, F2, ⟨⟨hll, hcl, .inr ⟨_, rfl, o⟩⟩, fun x => ?_⟩, e2, e3, e4⟩
  rw [e1, hll, ← Nat.add_mul]
  simp only [sfoot]
  rw [show len.toNat + (cap.toNat - len.toNat) = cap.toNat by omega]
theorem ld_some (s : St h0 G0 l h) {a : PA} {vs : List Value} {j k : Nat} {l' : List Value → List Ck} [Fi l a vs j k l'] {p : PA} {m : Option PA → M} (hv : vs[j]? = some (.pointer (some p.val)))
    (hw : wp P (m (some p)) Q h) : wp P (.load a .ptr m) Q h := ⟨some p, s.rd hv, hw⟩
theorem ld_nil (s : St h0 G0 l h) {a : PA} {vs : List Value} {j k : Nat} {l' : List Value → List Ck} [Fi l a vs j k l'] {m : Option PA → M} (hv : vs[j]? = some (.pointer none))
    (hw : wp P (m none) Q h) : wp P (.load a .ptr m) Q h := ⟨none, s.rd hv, hw⟩
theorem ld_raw (s : St h0 G0 l h) {a : PA} {vs : List Value} {j k : Nat} {l' : List Value → List Ck} [Fi l a vs j k l'] (v : Value) {m : Value → M} (hv : vs[j]? = some (Cell.raw v).val)
    (hw : wp P (m v) Q h) : wp P (.load a .raw m) Q h := ⟨v, s.rd hv, hw⟩

/-- What lies in a piece from a place on is a slice to read. -/
theorem St.rsl (s : St h0 G0 l h) {a : PA} {vs : List Value} {j k : Nat} {l' : List Value → List Ck} [Fi l a vs j k l'] (us : List Value) (n c sz : Nat) (hu : ∀ i v, us[i]? = some v → vs[j + i]? = some v) (hl : us.length = n * sz) :
    RSl h (some a, n, c) sz us := ⟨hl, .inr ⟨a, rfl, s.rds us hu⟩⟩

theorem st_append {e : TypeId} {sz byt : Nat} {z : List Cell} {d src : SlT} {m : SlT → M} {vs news : List Value} (s : St h0 G0 (SlC d sz vs :: l) h) (hz : z.length = sz) (hs : RSl h src sz news)
    (h1 : ∀ v ∈ news, v.oneCell' = true) (hg : growOk (d.2.1 + src.2.1) byt)
    (hw : ∀ d' h', St h0 G0 (SlC d' sz (vs ++ news) :: l) h' → d'.2.1 = d.2.1 + src.2.1 → (0 < d.2.1 + src.2.1 ∨ d.1.isSome = true → d'.1.isSome = true) → wp P (m d') Q h') : wp P (.append e sz byt z d src m) Q h := by
  obtain ⟨F, hF, eF⟩ := s.fact
  refine w_append hz hF hs h1 hg fun d' h' hsl hlen hfr hft _ hsome => hw d' h' ?_ hlen hsome
  refine St.then (l := [_]) (l' := [_]) s fun G hG => ?_
  obtain ⟨F1, F2, ⟨o, e1⟩, e2, e3, e4⟩ := hG
  refine ⟨⟨sfoot d' sz, ⟨sfoot d' sz, none', ⟨hsl, fun _ => Iff.rfl⟩, fun x hx => hx, fun x _ hn => hn, fun x => ⟨.inl, fun hx => hx.elim id (fun h => h.elim)⟩⟩, fun x hx => ?_⟩, hfr.mono fun x _ hx => (e4 x).2 (.inl ((e1 x).2 hx))⟩
  exact (hft x hx).imp (fun hx => (e4 x).2 (.inl ((e1 x).2 hx))) id

theorem st_copy (s : St h0 G0 l h) {a : PA} {vs : List Value} {j k : Nat} {l' : List Value → List Ck} [Fi l a vs j k l'] {sz : Nat} {d src : SlT} {m : Nat → M} {us : List Value} {q : PA}
    (hl : us.length = Nat.min src.2.1 d.2.1 * sz) (hd : d.1 = some a) (hs : us = [] ∨ src.1 = some q ∧ rds h q us) (h1 : ∀ v ∈ us, v.oneCell' = true) (hj : j + us.length ≤ vs.length)
    (hw : ∀ h', St h0 G0 (l' (splice vs j us)) h' → wp P (m (Nat.min src.2.1 d.2.1)) Q h') : wp P (.copy sz d src m) Q h := by
  refine ⟨us, hl, ?_, ?_⟩
  · rcases hs with rfl | ⟨h2, h3⟩
    · exact .inl rfl
    · refine .inr ⟨a, q, hd, h2, h3, fun i hi => ?_, h1⟩
      obtain ⟨⟨G, g1, g2⟩, g3⟩ := s
      obtain ⟨b, F, B, e, o, _⟩ := Fi.ok (self := ‹Fi l a vs j k l'›) h G g1
      rw [e]
      have := o.ok (j + i) (by omega)
      simpa [Nat.add_assoc] using this
  · rw [hd]
    refine hw _ (s.change (a := a) (ws := splice vs j us) (splice_length hj) fun b e o => ?_)
    rw [e]
    exact ⟨o.splice j us hj, Fr.wrs us h _ fun x hx => by obtain ⟨g1, g2, g3⟩ := hx; exact ⟨g1, by simp at g2; omega, by simp at g3; omega⟩⟩

theorem fi_shift {a : PA} {vs : List Value} {k : Nat} {l' : List Value → List Ck} [Fi l a vs 0 k l'] (j : Nat) : Fi l (a.1, a.2 + j) vs j k l' := by
  refine ⟨fun h G hs => ?_⟩
  obtain ⟨b, F, B, e, r⟩ := Fi.ok (self := ‹Fi l a vs 0 k l'›) h G hs
  exact ⟨b, F, B, by rw [e]; rfl, r⟩
theorem slBase_in {p : PA} {c lo sz : Nat} (h : lo < c) : slBase (some p) c lo sz = some (p.1, p.2 + lo * sz) := by
  unfold slBase
  rw [if_neg (by omega), mulN_eq]; rfl
theorem slBase_zero {p : PA} {c sz : Nat} : slBase (some p) c 0 sz = some p := by
  unfold slBase
  split
  · rfl
  · rw [mulN_eq, Nat.zero_mul]; rfl
/-- copy within one slice, said of its items. -/
theorem st_copyI {I : Type} {L : Lay I} (s : St h0 G0 l h) {p : PA} {ys : List I} {k : Nat} {l' : List Value → List Ck} [Fi l p (L.flat ys) 0 k l'] {n c a b sz : Nat} {m : Nat → M} (hsz : sz = L.sz) (hn : ys.length = n) (ha : a ≤ n) (hb : b ≤ n) (hc : n ≤ c)
    (hw : ∀ h' mm, mm = Nat.min (n - b) (n - a) → St h0 G0 (l' (L.flat (ys.take a ++ ((ys.drop b).take mm ++ ys.drop (a + mm))))) h' → wp P (m mm) Q h') :
    wp P (.copy sz (slBase (some p) c a sz, n - a, c - a) (slBase (some p) c b sz, n - b, c - b) m) Q h := by
  subst hsz
  have hmin : Nat.min (n - b) (n - a) ≤ n - b ∧ Nat.min (n - b) (n - a) ≤ n - a := ⟨Nat.min_le_left _ _, Nat.min_le_right _ _⟩
  by_cases hac : a = c
  · have h0 : Nat.min (n - b) (n - a) = 0 := by omega
    refine st_copy s (a := p) (us := []) (q := p) (by dsimp only; rw [h0]; simp) (by unfold slBase; rw [if_pos (by omega)]) (.inl rfl) (by simp) (by simp) fun h' S => hw h' _ rfl ?_
    rw [h0]
    simp only [splice, List.take_zero, List.nil_append, List.length_nil, Nat.add_zero, List.drop_zero, List.take_append_drop] at S ⊢
    exact S
  · have hlen : ((ys.drop b).take (Nat.min (n - b) (n - a))).length = Nat.min (n - b) (n - a) := by rw [List.length_take, List.length_drop, hn]; omega
    haveI := fi_shift (l := l) (a := p) (vs := L.flat ys) (k := k) (l' := l') (a * L.sz)
    refine st_copy s (a := (p.1, p.2 + a * L.sz)) (vs := L.flat ys) (j := a * L.sz) (us := L.flat ((ys.drop b).take (Nat.min (n - b) (n - a)))) (q := (p.1, p.2 + b * L.sz)) (by rw [L.flat_length, hlen]) (slBase_in (by omega)) ?_ (L.flat_one _) ?_ fun h' S => hw h' _ rfl ?_
    · by_cases hz : Nat.min (n - b) (n - a) = 0
      · left; rw [hz]; rfl
      · right
        refine ⟨slBase_in (by omega), ?_⟩
        haveI := fi_shift (l := l) (a := p) (vs := L.flat ys) (k := k) (l' := l') (b * L.sz)
        refine s.rds (vs := L.flat ys) (j := b * L.sz) _ fun i v hi => ?_
        rw [← L.flat_take, ← L.flat_drop] at hi
        rw [List.getElem?_take] at hi
        split at hi
        · rw [List.getElem?_drop] at hi; exact hi
        · cases hi
    · rw [L.flat_length, L.flat_length, hlen, ← Nat.add_mul]
      exact Nat.mul_le_mul_right _ (by omega)
    · simp only [splice] at S
      rw [L.flat_length, hlen, ← Nat.add_mul, L.flat_take, L.flat_drop, List.append_assoc, ← L.flat_append, ← L.flat_append] at S
      exact S
/-- A slice that is ours, and its cells. -/
theorem St.open_sl {s : SlT} {sz : Nat} {vs : List Value} (st : St h0 G0 (SlC s sz vs :: l) h) (hs : s.1.isSome = true) :
    ∃ p n c, s = (some p, n, c) ∧ n ≤ c ∧ vs.length = n * sz ∧ St h0 G0 (Ow p vs ((c - n) * sz) :: l) h := by
  obtain ⟨p, n, c⟩ := s
  obtain ⟨p, rfl⟩ := Option.isSome_iff_exists.1 hs
  obtain ⟨F, ⟨h1, h2, h3⟩, eF⟩ := st.fact
  refine ⟨p, n, c, rfl, h2, h1, st.turn (l := [_]) (l' := [_]) fun F hF => ?_⟩
  obtain ⟨F1, F2, ⟨o, e1⟩, e2, e3, e4⟩ := hF
  refine ⟨F1, F2, ⟨?_, fun x => ?_⟩, e2, e3, e4⟩
  · rcases o.2.2 with ⟨hn, _⟩ | ⟨q, hq, ho⟩
    · cases hn
    · obtain rfl := Option.some.inj hq
      exact ho
  · rw [e1, h1, ← Nat.add_mul]
    simp only [sfoot]
    simp only at h2
    rw [show n + (c - n) = c by omega]
theorem St.close_sl {p : PA} {n c sz : Nat} {vs : List Value} (st : St h0 G0 (Ow p vs ((c - n) * sz) :: l) h) (hn : n ≤ c) (hl : vs.length = n * sz) : St h0 G0 (SlC (some p, n, c) sz vs :: l) h := by
  refine st.turn (l := [_]) (l' := [_]) fun F hF => ?_
  obtain ⟨F1, F2, ⟨o, e1⟩, e2, e3, e4⟩ := hF
  refine ⟨F1, F2, ⟨⟨hl, hn, .inr ⟨p, rfl, o⟩⟩, fun x => ?_⟩, e2, e3, e4⟩
  rw [e1, hl, ← Nat.add_mul]
  simp only [sfoot]
  rw [show n + (c - n) = c by omega]
/-- append onto an empty slice with no room. -/
theorem st_append0 {e0 : Nat} {ty : TypeId} {sz byt : Nat} {z : List Cell} {src : SlT} {m : SlT → M} {news : List Value} (s : St h0 G0 (Ow (e0, 0) [] 0 :: l) h) (hz : z.length = sz) (hs : RSl h src sz news)
    (h1 : ∀ v ∈ news, v.oneCell' = true) (hg : growOk (0 + src.2.1) byt) (hpos : 0 < src.2.1)
    (hw : ∀ p c h', src.2.1 ≤ c → St h0 G0 (Ow p news ((c - src.2.1) * sz) :: l) h' → wp P (m (some p, src.2.1, c)) Q h') : wp P (.append ty sz byt z (some (e0, 0), 0, 0) src m) Q h := by
  have S : St h0 G0 (SlC (some (e0, 0), 0, 0) sz [] :: l) h := St.close_sl (n := 0) (c := 0) (sz := sz) (by rw [Nat.sub_self, Nat.zero_mul]; exact s) (Nat.le_refl _) (by simp)
  refine st_append S hz hs h1 hg fun d' h' S hlen hsome => ?_
  obtain ⟨p, n, c, rfl, g1, g2, S⟩ := S.open_sl (hsome (.inl (by dsimp only; omega)))
  dsimp only at hlen
  rw [Nat.zero_add] at hlen
  subst hlen
  exact hw p c h' g1 S
/-- Cells cut in two. -/
theorem St.cut {p : PA} {vs ws : List Value} {k : Nat} (st : St h0 G0 (Ow p (vs ++ ws) k :: l) h) : St h0 G0 (Ow p vs 0 :: Ow (p.1, p.2 + vs.length) ws k :: l) h := by
  refine st.turn (l := [_]) (l' := [_, _]) fun F hF => ?_
  obtain ⟨F1, F2, ⟨o, e1⟩, e2, e3, e4⟩ := hF
  refine ⟨rng p vs.length, rng (p.1, p.2 + vs.length) (ws.length + k), ⟨o.left, fun x => by simp⟩, ⟨_, none', ⟨o.right, fun x => Iff.rfl⟩, fun x hx => hx, fun x _ hn => hn, fun x => ⟨.inl, fun hx => hx.elim id (fun h => h.elim)⟩⟩, fun x hx hy => ?_, fun x => ?_⟩
  · obtain ⟨_, _, a3⟩ := hx; obtain ⟨_, b2, _⟩ := hy; omega
  · rw [e4, e1]
    simp only [rng, List.length_append]
    constructor
    · rintro (⟨g1, g2, g3⟩ | hn)
      · by_cases hc : x.2 < p.2 + vs.length
        · exact .inl ⟨g1, g2, hc⟩
        · exact .inr ⟨g1, by omega, by omega⟩
      · exact (e2 x hn).elim
    · rintro (⟨g1, g2, g3⟩ | ⟨g1, g2, g3⟩)
      · exact .inl ⟨g1, g2, by omega⟩
      · exact .inl ⟨g1, by omega, by omega⟩
/-- Cells at the end given up to be spare. -/
theorem St.shrink {p : PA} {vs ws : List Value} {k : Nat} (st : St h0 G0 (Ow p (vs ++ ws) k :: l) h) : St h0 G0 (Ow p vs (ws.length + k) :: l) h := by
  refine st.turn (l := [_]) (l' := [_]) fun F hF => ?_
  obtain ⟨F1, F2, ⟨o, e1⟩, e2, e3, e4⟩ := hF
  exact ⟨F1, F2, ⟨o.shrink, fun x => by rw [e1, List.length_append, Nat.add_assoc]⟩, e2, e3, e4⟩
theorem St.spare {p : PA} {vs : List Value} {k : Nat} (st : St h0 G0 (Ow p vs k :: l) h) : St h0 G0 (Ow p vs 0 :: l) h := by
  have h2 : ∀ F, Star [Ow p vs k] h F → ∃ F', Star [Ow p vs 0] h F' ∧ ∀ x, F' x → F x := by
    rintro F ⟨F1, F2, ⟨o, e1⟩, e2, e3, e4⟩
    refine ⟨rng p vs.length, ⟨_, none', ⟨⟨o.rd, fun j hj => o.ok j (by omega)⟩, fun x => Iff.rfl⟩, fun x hx => hx, fun x _ hn => hn, fun x => ⟨.inl, fun hx => hx.elim id (fun h => h.elim)⟩⟩, fun x hx => ?_⟩
    rw [e4, e1]
    obtain ⟨g1, g2, g3⟩ := hx
    exact .inl ⟨g1, g2, by omega⟩
  refine St.then (l := [_]) (l' := [_]) st fun G hG => ?_
  obtain ⟨F', h3, h4⟩ := h2 G hG
  exact ⟨⟨F', h3, fun x hx => .inl (h4 x hx)⟩, Fr.refl _ _⟩

theorem st_call {f : FuncId} {args : List AV} {tup : Bool} {ss : List Sh} {k : SV ss → M} {pre m : List Ck} (s : St h0 G0 (pre ++ m) h) {R : Value → List Ck → Prop}
    (hc : ∀ G, Star pre h G → HC P f (args.map AV.val).toArray h fun v h' => ∃ post, R v post ∧ St h G post h')
    (hw : ∀ v post h', R v post → St h0 G0 (post ++ m) h' → ∃ x : SV ss, v = retVal tup ss x ∧ wp P (k x) Q h') : wp P (.call f args tup ss k) Q h := by
  have h2 : ∃ G, Star pre h G ∧ ∃ B, Star m h B ∧ dj G B ∧ St h0 G0 (pre ++ m) h := by
    obtain ⟨⟨G, h1, h2⟩, h3⟩ := s
    obtain ⟨A, B, a1, a2, a3, a4⟩ := h1.split
    exact ⟨A, a1, B, a2, a3, ⟨⟨G, h1, h2⟩, h3⟩⟩
  obtain ⟨⟨G, h1, h2⟩, h3⟩ := s
  obtain ⟨A, B, a1, a2, a3, a4⟩ := h1.split
  refine HC.mono (hc A a1) fun v h' ⟨post, hR, hst⟩ => hw v post h' hR ?_
  obtain ⟨⟨C, c1, c2⟩, c3⟩ := hst
  have hB := a2.lt
  refine ⟨⟨un C B, c1.append (a2.out c3 a3.symm) (fun x hC hx => (c2 x hC).elim (fun hA => a3 x hA hx) (fun hs => Nat.not_le_of_lt (hB x hx) hs)), fun x hx => ?_⟩,
    h3.then c3 fun x hx hA => (h2 x ((a4 x).2 (.inl hA))).elim id (fun hs => absurd hx (Nat.not_lt_of_le hs))⟩
  rcases hx with hC | hB'
  · rcases c2 x hC with hA | hs
    · exact h2 x ((a4 x).2 (.inl hA))
    · exact .inr (Nat.le_trans h3.size hs)
  · exact h2 x ((a4 x).2 (.inr hB'))
end

/-- A loop whose rounds lower a number that is not in sight. -/
theorem w_loopN {P : Program} {Q : Ex → List AV → H → Prop} {h : H} {ss : List Sh} {init : List AV} {body : SV ss → M} (Inv : Nat → SV ss → H → Prop) (n0 : Nat) (x0 : SV ss) (h0 : (SV.list ss x0).map AV.val = init.map AV.val) (hI : Inv n0 x0 h)
    (hr : ∀ n x h1, Inv n x h1 → wp P (body x) (fun e vs h' => match e with
        | .normal => ∃ y m, (SV.list ss y).map AV.val = vs.map AV.val ∧ Inv m y h' ∧ m < n
        | _ => Q e vs h') h1) : wp P (.loop ss init body) Q h := by
  have least : ∀ (x : SV ss) (h1 : H), (∃ n, Inv n x h1) → ∃ n, Inv n x h1 ∧ ∀ m, Inv m x h1 → n ≤ m := by
    intro x h1 ⟨n, hn⟩
    induction n using Nat.strongRecOn with
    | _ n ih =>
      by_cases hm : ∃ m, m < n ∧ Inv m x h1
      · obtain ⟨m, hlt, hm⟩ := hm
        exact ih m hlt hm
      · exact ⟨n, hn, fun m hm' => Nat.le_of_not_lt fun hlt => hm ⟨m, hlt, hm'⟩⟩
  refine w_loop (fun x h1 => ∃ n, Inv n x h1) (fun x h1 => open Classical in if hx : ∃ n, Inv n x h1 then (least x h1 hx).choose else 0) x0 h0 ⟨n0, hI⟩ fun x h1 hx => ?_
  have hs := (least x h1 hx).choose_spec
  refine wp_mono (hr _ x h1 hs.1) fun e vs h' hh => ?_
  cases e with
  | normal =>
    obtain ⟨y, m, e1, e2, e3⟩ := hh
    refine ⟨y, e1, ⟨m, e2⟩, ?_⟩
    have hy : ∃ n, Inv n y h' := ⟨m, e2⟩
    have hs2 := (least y h' hy).choose_spec
    simp only [hx, hy, dif_pos]
    exact Nat.lt_of_le_of_lt (hs2.2 m e2) e3
  | exit i => exact hh
  | goto i => exact hh
  | ret => exact hh
/-! ### Trees as pieces -/
section
variable {P : Program} {Q : Ex → List AV → H → Prop} {h h0 : H} {G0 : PA → Prop} {l : List Ck} {I : Type} (L : Lay I) (iso : Int)
def TrC (n b : Nat) (t : BT I n) : Ck where
  p h F := Tr L iso n h b t F
  out := fun h1 f hd => Tr.out L iso f h1 hd
  lt := fun h1 x hx => Tr.lt L iso h1 x hx
def FoC (n : Nat) (ks : List Nat) (ts : List (BT I n)) : Ck where
  p h F := Forest (Tr L iso n) h ks ts F
  out := fun h1 f hd => h1.out (fun k t F hT hdj => Tr.out L iso f hT hdj) hd
  lt := fun h1 x hx => h1.lt (fun k t F hT => Tr.lt L iso hT) x hx

theorem star_one {c : Ck} {F : PA → Prop} (h1 : c.p h F) : Star [c] h F := ⟨F, none', h1, fun x hx => hx, fun x _ hn => hn, fun x => ⟨.inl, fun hx => hx.elim id (fun h => h.elim)⟩⟩
theorem un_star : ∀ {cs : List (Ck × (PA → Prop))} {F : PA → Prop}, (∀ c ∈ cs, c.1.p h c.2) → (cs.map (·.2)).Pairwise dj → (∀ x, F x ↔ ∃ A ∈ cs.map (·.2), A x) → Star (cs.map (·.1)) h F
  | [], F, _, _, hF => fun x hx => by simpa using (hF x).1 hx
  | c :: cs, F, hp, hd, hF => by
    obtain ⟨h1, h2⟩ := List.pairwise_cons.1 hd
    refine ⟨c.2, fun x => ∃ A ∈ cs.map (·.2), A x, hp c (by simp), un_star (fun c hc => hp c (by simp [hc])) h2 (fun _ => Iff.rfl), fun x hx ⟨A, hA, hAx⟩ => h1 A hA x hx hAx, fun x => ?_⟩
    rw [hF]
    simp
theorem star_un : ∀ {cs : List Ck} {F : PA → Prop}, Star cs h F → ∃ Fs : List (PA → Prop), Fs.length = cs.length ∧ (∀ (i : Nat) (c : Ck) (A : PA → Prop), cs[i]? = some c → Fs[i]? = some A → c.p h A) ∧ Parts Fs F
  | [], F, hs => ⟨[], rfl, by simp, List.Pairwise.nil, fun x => by simpa using hs x⟩
  | c :: cs, F, ⟨F1, F2, h1, h2, h3, h4⟩ => by
    obtain ⟨Fs, g1, g2, g3, g4⟩ := star_un h2
    refine ⟨F1 :: Fs, by simp [g1], fun i c' A hi hA => ?_, List.pairwise_cons.2 ⟨fun A hA x hx hAx => h3 x hx ((g4 x).2 ⟨A, hA, hAx⟩), g3⟩, fun x => ?_⟩
    · cases i with
      | zero => simp at hi hA; subst hi; subst hA; exact h1
      | succ i => exact g2 i c' A (by simpa using hi) (by simpa using hA)
    · rw [h4, g4]; simp

theorem own_star {a : PA} {vs : List Value} {k : Nat} (o : Own h a vs k) : (Ow a vs k).p h (rng a (vs.length + k)) := ⟨o, fun _ => Iff.rfl⟩
theorem sl_foot {s : SlT} {sz : Nat} {vs : List Value} {p : PA} {n c : Nat} (hs : s = (some p, n, c)) (o : Sl h s sz vs) : n ≤ c ∧ vs.length = n * sz ∧ (Ow p vs ((c - n) * sz)).p h (sfoot s sz) := by
  subst hs
  obtain ⟨h1, h2, h3⟩ := o
  refine ⟨h2, h1, ?_, fun x => ?_⟩
  · rcases h3 with ⟨hn, _⟩ | ⟨q, hq, ho⟩
    · cases hn
    · obtain rfl := Option.some.inj hq
      exact ho
  · rw [h1, ← Nat.add_mul]
    dsimp only at h2
    simp only [sfoot]
    rw [show n + (c - n) = c by omega]

/-- A leaf opened. -/
theorem open_leaf {b : Nat} {xs : BT I 0} (st : St h0 G0 (TrC L iso 0 b xs :: l) h) : ∃ p c, (itemsB 0 xs).length ≤ c ∧
    St h0 G0 (Ow (b, 0) (nodeC iso (itemsB 0 xs).length (some p, (itemsB 0 xs).length, c) none) 0 :: Ow p (L.flat (itemsB 0 xs)) ((c - (itemsB 0 xs).length) * L.sz) :: l) h := by
  obtain ⟨⟨p, c⟩, h1, h2⟩ := St.turnE (α := PA × Nat) (l := [_]) (l' := fun x => [Ow (b, 0) (nodeC iso (itemsB 0 xs).length (some x.1, (itemsB 0 xs).length, x.2) none) 0, Ow x.1 (L.flat (itemsB 0 xs)) ((x.2 - (itemsB 0 xs).length) * L.sz)])
    (φ := fun x => (itemsB 0 xs).length ≤ x.2) st (fun F hF => by
    obtain ⟨F1, F2, ⟨s, h1, h2, h3, h4, h5⟩, e2, e3, e4⟩ := hF
    obtain ⟨p, n, c⟩ := s
    obtain ⟨p, rfl⟩ := Option.isSome_iff_exists.1 h2
    obtain ⟨g1, g2, g3⟩ := sl_foot rfl h3
    dsimp only at h4; subst h4
    refine ⟨(p, c), g1, ?_⟩
    refine un_star (cs := [(_, rng (b, 0) 4), (_, sfoot (some p, (itemsB 0 xs).length, c) L.sz)]) (fun c hc => ?_) h5.1 (fun x => ?_)
    · simp only [List.mem_cons, List.not_mem_nil, or_false] at hc
      rcases hc with rfl | rfl
      · exact own_star h1
      · exact g3
    · rw [e4, h5.2]
      exact ⟨fun hx => hx.elim id (fun hn => (e2 x hn).elim), .inl⟩)
  exact ⟨p, c, h1, h2⟩
/-- And shut. -/
theorem shut_leaf {b : Nat} {xs : List I} {cnt n c : Nat} {p : PA} {k : Nat} {vs ws : List Value} (st : St h0 G0 (Ow (b, 0) ws 0 :: Ow p vs k :: l) h) (hw : ws = nodeC iso cnt (some p, n, c) none) (hv : vs = L.flat xs) (hn : n = xs.length) (hcnt : cnt = n) (hc : n ≤ c) (hk : k = (c - n) * L.sz) :
    St h0 G0 (TrC L iso 0 b xs :: l) h := by
  subst hw hv hcnt hn hk
  refine st.turn (l := [_, _]) (l' := [_]) fun F hF => ?_
  obtain ⟨F1, F2, ⟨o1, a1⟩, ⟨F3, F4, ⟨o2, b1⟩, b2, b3, b4⟩, a3, a4⟩ := hF
  refine star_one ⟨(some p, xs.length, c), o1, rfl, ⟨by rw [L.flat_length]; rfl, hc, .inr ⟨p, rfl, o2⟩⟩, rfl, ?_, fun x => ?_⟩
  · simp only [List.pairwise_cons, List.mem_cons, List.not_mem_nil, or_false, forall_eq, false_implies, implies_true, List.Pairwise.nil, and_true]
    refine a3.sub (fun x hx => (a1 x).2 hx) fun x hx => (b4 x).2 (.inl ((b1 x).2 ?_))
    simp only [sfoot] at hx
    rw [L.flat_length, ← Nat.add_mul, show xs.length + (c - xs.length) = c by omega]
    exact hx
  · rw [a4, b4, a1, b1, L.flat_length, ← Nat.add_mul, show xs.length + (c - xs.length) = c by omega]
    simp only [List.mem_cons, List.not_mem_nil, or_false, exists_eq_or_imp, exists_eq_left, sfoot]
    exact or_congr Iff.rfl ⟨fun hx => hx.elim id (fun hn => (b2 x hn).elim), .inl⟩

/-- A node with children opened. -/
theorem open_node {n b : Nat} {t : BT I (n + 1)} (st : St h0 G0 (TrC L iso (n + 1) b t :: l) h) : ∃ p c q d hb ks, t.1.length ≤ c ∧ ks.length ≤ d ∧ ks.length = t.2.length ∧
    St h0 G0 (Ow (b, 0) (nodeC iso (flatB (n + 1) t).length (some p, t.1.length, c) (some (hb, 0))) 0 :: Ow p (L.flat t.1) ((c - t.1.length) * L.sz) ::
      Ow (hb, 0) (hdC (some q, ks.length, d)) 0 :: Ow q (ks.map kptr) ((d - ks.length) * 1) :: FoC L iso n ks t.2 :: l) h := by
  obtain ⟨⟨p, c, q, d, hb, ks⟩, ⟨h1, h1', h1''⟩, h2⟩ := St.turnE (α := PA × Nat × PA × Nat × Nat × List Nat) (l := [_]) (l' := fun (x : PA × Nat × PA × Nat × Nat × List Nat) => [Ow (b, 0) (nodeC iso (flatB (n + 1) t).length (some x.1, t.1.length, x.2.1) (some (x.2.2.2.2.1, 0))) 0, Ow x.1 (L.flat t.1) ((x.2.1 - t.1.length) * L.sz),
      Ow (x.2.2.2.2.1, 0) (hdC (some x.2.2.1, x.2.2.2.2.2.length, x.2.2.2.1)) 0, Ow x.2.2.1 (x.2.2.2.2.2.map kptr) ((x.2.2.2.1 - x.2.2.2.2.2.length) * 1), FoC L iso n x.2.2.2.2.2 t.2])
    (φ := fun (x : PA × Nat × PA × Nat × Nat × List Nat) => t.1.length ≤ x.2.1 ∧ x.2.2.2.2.2.length ≤ x.2.2.2.1 ∧ x.2.2.2.2.2.length = t.2.length) st (fun F hF => by
    obtain ⟨F1, F2, ⟨s, e, hb, ks, FK, h1, h2, h3, h4, h5, h6, h7, h8, h9⟩, e2, e3, e4⟩ := hF
    obtain ⟨p, m, c⟩ := s
    obtain ⟨p, rfl⟩ := Option.isSome_iff_exists.1 h2
    obtain ⟨q, m2, d⟩ := e
    obtain ⟨q, rfl⟩ := Option.isSome_iff_exists.1 h6
    obtain ⟨g1, g2, g3⟩ := sl_foot rfl h3
    obtain ⟨f1, f2, f3⟩ := sl_foot rfl h7
    dsimp only at h4; subst h4
    rw [List.length_map, Nat.mul_one] at f2
    subst f2
    refine ⟨(p, c, q, d, hb, ks), ⟨g1, f1, h8.len⟩, ?_⟩
    refine un_star (cs := [(_, rng (b, 0) 4), (_, sfoot (some p, t.1.length, c) L.sz), (_, rng (hb, 0) 1), (_, sfoot (some q, ks.length, d) 1), (_, FK)]) (fun c hc => ?_) h9.1 (fun x => ?_)
    · simp only [List.mem_cons, List.not_mem_nil, or_false] at hc
      rcases hc with rfl | rfl | rfl | rfl | rfl
      · exact own_star h1
      · exact g3
      · exact own_star h5
      · exact f3
      · exact h8
    · rw [e4, h9.2]
      exact ⟨fun hx => hx.elim id (fun hn => (e2 x hn).elim), .inl⟩)
  exact ⟨p, c, q, d, hb, ks, h1, h1', h1'', h2⟩
theorem shut_node {n b : Nat} {xs : List I} {ts : List (BT I n)} {cnt m c m2 d hb k k2 : Nat} {p q : PA} {ks : List Nat} {ws vs us ys : List Value}
    (st : St h0 G0 (Ow (b, 0) ws 0 :: Ow p vs k :: Ow (hb, 0) us 0 :: Ow q ys k2 :: FoC L iso n ks ts :: l) h)
    (hw : ws = nodeC iso cnt (some p, m, c) (some (hb, 0))) (hv : vs = L.flat xs) (hu : us = hdC (some q, m2, d)) (hy : ys = ks.map kptr) (hm : m = xs.length) (hm2 : m2 = ks.length) (hcnt : cnt = (flatB (n + 1) (xs, ts)).length) (hc : m ≤ c) (hk : k = (c - m) * L.sz) (hd : m2 ≤ d) (hk2 : k2 = d - m2) :
    St h0 G0 (TrC L iso (n + 1) b (xs, ts) :: l) h := by
  subst hw hv hu hy hm hm2 hcnt hk hk2
  refine st.turn (l := [_, _, _, _, _]) (l' := [_]) fun F hF => ?_
  obtain ⟨Fs, g1, g2, g3⟩ := star_un hF
  match Fs, g1 with
  | [A1, A2, A3, A4, A5], _ =>
    obtain ⟨o1, a1⟩ := g2 0 _ _ rfl rfl
    obtain ⟨o2, a2⟩ := g2 1 _ _ rfl rfl
    obtain ⟨o3, a3⟩ := g2 2 _ _ rfl rfl
    obtain ⟨o4, a4⟩ := g2 3 _ _ rfl rfl
    have o5 := g2 4 _ _ rfl rfl
    have e2 : ∀ x, A2 x ↔ sfoot (some p, xs.length, c) L.sz x := fun x => by
      rw [a2, L.flat_length, ← Nat.add_mul, show xs.length + (c - xs.length) = c by omega]; rfl
    have e4 : ∀ x, A4 x ↔ sfoot (some q, ks.length, d) 1 x := fun x => by
      rw [a4, List.length_map, show ks.length + (d - ks.length) = d * 1 by omega]; rfl
    obtain ⟨g4, g5⟩ := g3
    have q1 : A1 = rng (b, 0) 4 := funext fun x => propext (a1 x)
    have q2 : A2 = sfoot (some p, xs.length, c) L.sz := funext fun x => propext (e2 x)
    have q3 : A3 = rng (hb, 0) 1 := funext fun x => propext (a3 x)
    have q4 : A4 = sfoot (some q, ks.length, d) 1 := funext fun x => propext (e4 x)
    subst q1 q2 q3 q4
    exact star_one ⟨(some p, xs.length, c), (some q, ks.length, d), hb, ks, A5, o1, rfl, ⟨by rw [L.flat_length], hc, .inr ⟨p, rfl, o2⟩⟩, rfl, o3, rfl, ⟨by rw [List.length_map, Nat.mul_one], hd, .inr ⟨q, rfl, by rw [Nat.mul_one]; exact o4⟩⟩, o5, g4, g5⟩

/-! Children side by side -/
theorem fo_cons {n k : Nat} {ks : List Nat} {t : BT I n} {ts : List (BT I n)} (st : St h0 G0 (TrC L iso n k t :: FoC L iso n ks ts :: l) h) : St h0 G0 (FoC L iso n (k :: ks) (t :: ts) :: l) h := by
  refine st.turn (l := [_, _]) (l' := [_]) fun F hF => ?_
  obtain ⟨F1, F2, a1, ⟨F3, F4, b1, b2, b3, b4⟩, a3, a4⟩ := hF
  refine star_one ⟨F1, F3, a1, b1, a3.sub (fun _ hx => hx) (fun x hx => (b4 x).2 (.inl hx)), fun x => ?_⟩
  rw [a4, b4]
  exact or_congr Iff.rfl ⟨fun hx => hx.elim id (fun hn => (b2 x hn).elim), .inl⟩
theorem fo_uncons {n k : Nat} {ks : List Nat} {t : BT I n} {ts : List (BT I n)} (st : St h0 G0 (FoC L iso n (k :: ks) (t :: ts) :: l) h) : St h0 G0 (TrC L iso n k t :: FoC L iso n ks ts :: l) h := by
  refine st.turn (l := [_]) (l' := [_, _]) fun F hF => ?_
  obtain ⟨F1, F2, ⟨F3, F4, b1, b2, b3, b4⟩, a2, a3, a4⟩ := hF
  refine ⟨F3, F4, b1, star_one b2, b3, fun x => ?_⟩
  rw [a4, b4]
  exact ⟨fun hx => hx.elim id (fun hn => (a2 x hn).elim), .inl⟩
theorem fo_app {n : Nat} {ks ls : List Nat} {ts us : List (BT I n)} (st : St h0 G0 (FoC L iso n ks ts :: FoC L iso n ls us :: l) h) : St h0 G0 (FoC L iso n (ks ++ ls) (ts ++ us) :: l) h := by
  refine st.turn (l := [_, _]) (l' := [_]) fun F hF => ?_
  obtain ⟨F1, F2, a1, ⟨F3, F4, b1, b2, b3, b4⟩, a3, a4⟩ := hF
  have h1 : dj F1 F3 := a3.sub (fun _ hx => hx) (fun x hx => (b4 x).2 (.inl hx))
  refine Star.iff (star_one (c := FoC L iso n (ks ++ ls) (ts ++ us)) (Forest.append a1 b1 h1)) fun x => ?_
  rw [a4, b4]
  exact or_congr Iff.rfl ⟨.inl, fun hx => hx.elim id (fun hn => (b2 x hn).elim)⟩
theorem fo_split {n : Nat} {ks ls : List Nat} {ts us : List (BT I n)} (hl : ks.length = ts.length) (st : St h0 G0 (FoC L iso n (ks ++ ls) (ts ++ us) :: l) h) : St h0 G0 (FoC L iso n ks ts :: FoC L iso n ls us :: l) h := by
  refine st.turn (l := [_]) (l' := [_, _]) fun F hF => ?_
  obtain ⟨F1, F2, b, a2, a3, a4⟩ := hF
  obtain ⟨A, B, c1, c2, c3, c4⟩ := Forest.split hl b
  refine ⟨A, B, c1, star_one c2, c3, fun x => ?_⟩
  rw [a4, c4]
  exact ⟨fun hx => hx.elim id (fun hn => (a2 x hn).elim), .inl⟩
theorem fo_nil {n : Nat} (st : St h0 G0 l h) : St h0 G0 (FoC L iso n [] [] :: l) h := by
  refine st.turn (l := []) (l' := [_]) fun F hF => ?_
  exact star_one hF
/-- The child i brought out. -/
theorem fo_at {n i : Nat} {ks : List Nat} {ts : List (BT I n)} {t : BT I n} (hl : ks.length = ts.length) (ht : ts[i]? = some t) (st : St h0 G0 (FoC L iso n ks ts :: l) h) : ∃ k, ks[i]? = some k ∧
    St h0 G0 (TrC L iso n k t :: FoC L iso n (ks.drop (i + 1)) (ts.drop (i + 1)) :: FoC L iso n (ks.take i) (ts.take i) :: l) h := by
  obtain ⟨h1, h2⟩ := List.getElem?_eq_some_iff.1 ht
  have hk : i < ks.length := by omega
  have e1 : ks = ks.take i ++ ks[i] :: ks.drop (i + 1) := by rw [← List.drop_eq_getElem_cons hk, List.take_append_drop]
  have e2 : ts = ts.take i ++ t :: ts.drop (i + 1) := by rw [← h2, ← List.drop_eq_getElem_cons h1, List.take_append_drop]
  rw [e1, e2] at st
  have st := fo_uncons L iso ((fo_split L iso (by simp; omega) st).pull 1)
  exact ⟨ks[i], List.getElem?_eq_getElem hk, st⟩
/-- And another laid in its place. -/
theorem fo_put {n i k : Nat} {ks : List Nat} {ts : List (BT I n)} {t : BT I n} (hl : ks.length = ts.length) (hi : i < ts.length) (st : St h0 G0 (TrC L iso n k t :: FoC L iso n (ks.drop (i + 1)) (ts.drop (i + 1)) :: FoC L iso n (ks.take i) (ts.take i) :: l) h) :
    St h0 G0 (FoC L iso n (ks.set i k) (ts.set i t) :: l) h := by
  have e1 : ks.set i k = ks.take i ++ k :: ks.drop (i + 1) := List.set_eq_take_append_cons_drop .. |>.trans (by rw [if_pos (by omega)])
  have e2 : ts.set i t = ts.take i ++ t :: ts.drop (i + 1) := List.set_eq_take_append_cons_drop .. |>.trans (by rw [if_pos hi])
  rw [e1, e2]
  exact fo_app L iso ((fo_cons L iso st).pull 1)

/-! ### Reading a tree -/
theorem tr_leaf {b : Nat} {xs : BT I 0} {F : PA → Prop} (t : Tr L iso 0 h b xs F) : ∃ p c, rd h (b, 2) = some (.slice (some (PA.val p)) (itemsB 0 xs).length c) ∧ rd h (b, 3) = some (.pointer none) ∧ rds h p (L.flat (itemsB 0 xs)) := by
  obtain ⟨s, h1, h2, h3, h4, h5⟩ := t
  obtain ⟨p, n, c⟩ := s
  obtain ⟨p, rfl⟩ := Option.isSome_iff_exists.1 h2
  dsimp only at h4; subst h4
  refine ⟨p, c, h1.rd 2 _ rfl, h1.rd 3 _ rfl, ?_⟩
  rcases h3.2.2 with ⟨hn, _⟩ | ⟨q, hq, ho⟩
  · cases hn
  · obtain rfl := Option.some.inj hq
    exact ho.rd
theorem tr_node {n b : Nat} {t : BT I (n + 1)} {F : PA → Prop} (tr : Tr L iso (n + 1) h b t F) : ∃ p c q d hb ks FK, rd h (b, 2) = some (.slice (some (PA.val p)) t.1.length c) ∧ rd h (b, 3) = some (.pointer (some (PA.val (hb, 0)))) ∧ rds h p (L.flat t.1) ∧
    rd h (hb, 0) = some (.slice (some (PA.val q)) ks.length d) ∧ rds h q (ks.map kptr) ∧ Forest (Tr L iso n) h ks t.2 FK ∧ ks.length = t.2.length := by
  obtain ⟨s, c, hb, ks, FK, h1, h2, h3, h4, h5, h6, h7, h8, h9⟩ := tr
  obtain ⟨p, m, c1⟩ := s
  obtain ⟨p, rfl⟩ := Option.isSome_iff_exists.1 h2
  obtain ⟨q, m2, d⟩ := c
  obtain ⟨q, rfl⟩ := Option.isSome_iff_exists.1 h6
  dsimp only at h4; subst h4
  have hm2 : m2 = ks.length := by have := h7.1; rw [List.length_map, Nat.mul_one] at this; exact this.symm
  subst hm2
  refine ⟨p, c1, q, d, hb, ks, FK, h1.rd 2 _ rfl, h1.rd 3 _ rfl, ?_, h5.rd 0 _ rfl, ?_, h8, h8.len⟩
  · rcases h3.2.2 with ⟨hn, _⟩ | ⟨x, hx, ho⟩
    · cases hn
    · obtain rfl := Option.some.inj hx
      exact ho.rd
  · rcases h7.2.2 with ⟨hn, _⟩ | ⟨x, hx, ho⟩
    · cases hn
    · obtain rfl := Option.some.inj hx
      exact ho.rd
/-- The child i. -/
theorem fo_kid {n i : Nat} {ks : List Nat} {ts : List (BT I n)} {t : BT I n} {F : PA → Prop} {q : PA} (hf : Forest (Tr L iso n) h ks ts F) (ht : ts[i]? = some t) (hq : rds h q (ks.map kptr)) :
    ∃ k FI, ks[i]? = some k ∧ rd h (q.1, q.2 + i) = some (.pointer (some (PA.val (k, 0)))) ∧ Tr L iso n h k t FI := by
  obtain ⟨k, FL, FI, FR, g1, g2, g3, g4⟩ := Forest.at hf ht
  exact ⟨k, FI, g1, hq i _ (by rw [List.getElem?_map, g1]; rfl), g3⟩
end
end Go.Proofs.Ytkhpbcckaenmcaa
