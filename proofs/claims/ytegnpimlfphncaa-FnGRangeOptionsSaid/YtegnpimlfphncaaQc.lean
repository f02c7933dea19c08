/-
  The list of deleted items: one taken out, one laid in, emptied. Conditions: none.
-/
import Derived.Test.YtegnpimlfphncaaNd
import Derived.Test.YtegnpimlfphncaaPgQ
import Derived.Test.YtegnpimlfphncaaYma
import Derived.Test.YtegnpimlfphncaaSp
import Derived.Test.YtegnpimlfphncaaVa
set_option linter.unusedVariables false
set_option linter.unusedSimpArgs false
set_option linter.unusedSectionVars false
set_option maxRecDepth 100000
namespace Go.Proofs.Ytegnpimlfphncaa
open Go
section
variable {E : Type} {lt : E → E → Bool} {q : List E} {i p s : Nat} {a b x : E}
def Hpq (lt : E → E → Bool) (q : List E) : Prop := ∀ (j : Nat) (a b : E), 0 < j → q[j]? = some a → q[(j - 1) / 2]? = some b → lt a b = false
theorem Hpq.min (o : Ord lt) (h : Hpq lt q) {m : E} (hm : q[0]? = some m) : ∀ (j : Nat) (a : E), q[j]? = some a → lt a m = false := by
  intro j
  induction j using Nat.strongRecOn with
  | _ j ih =>
    intro a ha
    rcases Nat.eq_zero_or_pos j with rfl | hj
    · rw [hm] at ha; cases ha; exact o.irr m
    · obtain ⟨b, hb⟩ : ∃ b, q[(j - 1) / 2]? = some b := ⟨_, List.getElem?_eq_getElem (by have := (List.getElem?_eq_some_iff.1 ha).1; omega)⟩
      exact o.neg _ _ _ (h j a b hj ha hb) (ih ((j - 1) / 2) (by omega) b hb)
theorem get_sw (hi : i < q.length) (hp : p < q.length) (j : Nat) : ((q.set p a).set i b)[j]? = if j = i then some b else if j = p then some a else q[j]? := by
  by_cases h1 : j = i
  · subst h1
    rw [if_pos rfl, List.getElem?_set_self (by rw [List.length_set]; exact hi)]
  · rw [if_neg h1, List.getElem?_set_ne (Ne.symm h1)]
    by_cases h2 : j = p
    · subst h2
      rw [if_pos rfl, List.getElem?_set_self hp]
    · rw [if_neg h2, List.getElem?_set_ne (Ne.symm h2)]
theorem sw_perm (ha : q[i]? = some a) (hb : q[p]? = some b) : ((q.set p a).set i b).Perm q := by
  obtain ⟨h1, h2⟩ := List.getElem?_eq_some_iff.1 ha
  obtain ⟨h3, h4⟩ := List.getElem?_eq_some_iff.1 hb
  subst h2 h4
  exact List.set_set_perm h3 h1
structure Upq (lt : E → E → Bool) (i : Nat) (q : List E) : Prop where
  h1 : ∀ (j : Nat) (a b : E), 0 < j → j ≠ i → q[j]? = some a → q[(j - 1) / 2]? = some b → lt a b = false
  h2 : ∀ (j : Nat) (a b : E), 0 < j → 0 < i → (j - 1) / 2 = i → q[j]? = some a → q[(i - 1) / 2]? = some b → lt a b = false
theorem up_app (h : Hpq lt q) : Upq lt q.length (q ++ [x]) := by
  refine ⟨fun j a b hj hne ha hb => ?_, fun j a b hj hi he ha hb => ?_⟩
  · have hl := (List.getElem?_eq_some_iff.1 ha).1
    rw [List.length_append, List.length_singleton] at hl
    rw [List.getElem?_append_left (by omega)] at ha hb
    exact h j a b hj ha hb
  · have hl := (List.getElem?_eq_some_iff.1 ha).1
    rw [List.length_append, List.length_singleton] at hl
    omega
theorem Upq.done (h : Upq lt i q) (hs : i = 0 ∨ ∀ a b, q[i]? = some a → q[(i - 1) / 2]? = some b → lt a b = false) : Hpq lt q := by
  intro j a b hj ha hb
  by_cases hji : j = i
  · subst hji
    exact hs.elim (fun e => by omega) fun h => h a b ha hb
  · exact h.h1 j a b hj hji ha hb
theorem Upq.step (o : Ord lt) (h : Upq lt i q) (hi : 0 < i) (ha : q[i]? = some a) (hb : q[(i - 1) / 2]? = some b) (hab : lt a b = true) : Upq lt ((i - 1) / 2) ((q.set ((i - 1) / 2) a).set i b) := by
  have hil := (List.getElem?_eq_some_iff.1 ha).1
  have hpl := (List.getElem?_eq_some_iff.1 hb).1
  refine ⟨fun j c d hj hne hc hd => ?_, fun j c d hj hp he hc hd => ?_⟩
  · rw [get_sw hil hpl] at hc hd
    by_cases hji : j = i
    · subst hji
      rw [if_pos rfl] at hc
      rw [if_neg (by omega), if_pos rfl] at hd
      cases hc; cases hd
      exact o.asym hab
    · rw [if_neg hji, if_neg hne] at hc
      by_cases h1 : (j - 1) / 2 = i
      · rw [if_pos h1] at hd
        cases hd
        exact h.h2 j c b hj hi h1 hc hb
      · rw [if_neg h1] at hd
        by_cases h2 : (j - 1) / 2 = (i - 1) / 2
        · rw [if_pos h2] at hd
          cases hd
          have h3 := h.h1 j c b hj hji hc (by rw [h2]; exact hb)
          cases hq : lt c a with
          | false => rfl
          | true => rw [o.tr c a b hq hab] at h3; cases h3
        · rw [if_neg h2] at hd
          exact h.h1 j c d hj hji hc hd
  · rw [get_sw hil hpl] at hc hd
    rw [if_neg (by omega), if_neg (by omega)] at hd
    have h4 := h.h1 ((i - 1) / 2) b d hp (by omega) hb hd
    by_cases hji : j = i
    · subst hji
      rw [if_pos rfl] at hc
      cases hc
      exact h4
    · rw [if_neg hji, if_neg (by omega)] at hc
      exact o.neg _ _ _ (h.h1 j c b hj hji hc (by rw [he]; exact hb)) h4
structure Dwq (lt : E → E → Bool) (i : Nat) (q : List E) : Prop where
  h1 : ∀ (j : Nat) (a b : E), 0 < j → (j - 1) / 2 ≠ i → q[j]? = some a → q[(j - 1) / 2]? = some b → lt a b = false
  h2 : ∀ (j : Nat) (a b : E), 0 < j → 0 < i → (j - 1) / 2 = i → q[j]? = some a → q[(i - 1) / 2]? = some b → lt a b = false
theorem Dwq.done (h : Dwq lt i q) (hs : ∀ (j : Nat) (a b : E), 0 < j → (j - 1) / 2 = i → q[j]? = some a → q[i]? = some b → lt a b = false) : Hpq lt q := by
  intro j a b hj ha hb
  by_cases hji : (j - 1) / 2 = i
  · exact hs j a b hj hji ha (by rw [← hji]; exact hb)
  · exact h.h1 j a b hj hji ha hb
theorem Dwq.step (h : Dwq lt i q) (hs : 0 < s) (hsi : (s - 1) / 2 = i) (ha : q[i]? = some a) (hb : q[s]? = some b) (hab : lt a b = false) (hc : ∀ (j : Nat) (c : E), 0 < j → (j - 1) / 2 = i → q[j]? = some c → lt c b = false) :
    Dwq lt s ((q.set s a).set i b) := by
  have hil := (List.getElem?_eq_some_iff.1 ha).1
  have hsl := (List.getElem?_eq_some_iff.1 hb).1
  refine ⟨fun j c d hj hne hc' hd => ?_, fun j c d hj hp he hc' hd => ?_⟩
  · rw [get_sw hil hsl] at hc' hd
    by_cases hji : j = i
    · subst hji
      rw [if_pos rfl] at hc'
      rw [if_neg (by omega), if_neg hne] at hd
      cases hc'
      exact h.h2 s b d hs hj hsi hb hd
    · rw [if_neg hji] at hc'
      by_cases hjs : j = s
      · subst hjs
        rw [if_pos rfl] at hc'
        rw [if_pos hsi] at hd
        cases hc'; cases hd
        exact hab
      · rw [if_neg hjs] at hc'
        by_cases h1 : (j - 1) / 2 = i
        · rw [if_pos h1] at hd
          cases hd
          exact hc j c hj h1 hc'
        · rw [if_neg h1, if_neg hne] at hd
          exact h.h1 j c d hj h1 hc' hd
  · rw [get_sw hil hsl] at hc' hd
    rw [if_neg (by omega), if_neg (by omega)] at hc'
    rw [if_pos hsi] at hd
    cases hd
    exact h.h1 j c b hj (by omega) hc' (by rw [he]; exact hb)
theorem Dwq.pick (o : Ord lt) (h : Dwq lt i q) {s1 : Nat} (h1 : (s1 = i ∧ ∀ a c, q[i]? = some a → q[2 * i + 1]? = some c → lt a c = true) ∨ (s1 = 2 * i + 1 ∧ s1 < q.length ∧ ∀ a c, q[i]? = some a → q[2 * i + 1]? = some c → lt a c = false))
    (h2 : (s = s1 ∧ ∀ b d, q[s1]? = some b → q[2 * i + 2]? = some d → lt b d = true) ∨ (s = 2 * i + 2 ∧ s < q.length ∧ ∀ b d, q[s1]? = some b → q[2 * i + 2]? = some d → lt b d = false)) :
    (s = i → Hpq lt q) ∧ (s ≠ i → 0 < s ∧ (s - 1) / 2 = i ∧ i < s ∧ s < q.length ∧ ∀ a b, q[i]? = some a → q[s]? = some b → Dwq lt s ((q.set s a).set i b)) := by
  have two : ∀ j, 0 < j → (j - 1) / 2 = i → j = 2 * i + 1 ∨ j = 2 * i + 2 := fun j h1 h2 => by omega
  refine ⟨fun hs => ?_, fun hs => ?_⟩
  · subst hs
    rcases h1 with ⟨rfl, h1⟩ | ⟨e, _⟩
    · rcases h2 with ⟨_, h2⟩ | ⟨e, _⟩
      · refine h.done fun j a b hj hji ha hb => o.asym ?_
        rcases two j hj hji with rfl | rfl
        · exact h1 b a hb ha
        · exact h2 b a hb ha
      · omega
    · rcases h2 with ⟨e2, _⟩ | ⟨e2, _⟩ <;> omega
  · have hlt : 0 < s ∧ (s - 1) / 2 = i ∧ i < s ∧ s < q.length := by
      rcases h1 with ⟨e, _⟩ | ⟨e, l1, _⟩
      · rcases h2 with ⟨e2, _⟩ | ⟨e2, l2, _⟩
        · omega
        · exact ⟨by omega, by omega, by omega, l2⟩
      · rcases h2 with ⟨e2, _⟩ | ⟨e2, l2, _⟩
        · exact ⟨by omega, by omega, by omega, by omega⟩
        · exact ⟨by omega, by omega, by omega, l2⟩
    obtain ⟨k1, k2, k3, k4⟩ := hlt
    refine ⟨k1, k2, k3, k4, fun a b ha hb => h.step k1 k2 ha hb ?_ fun j c hj hji hc => ?_⟩
    · rcases h1 with ⟨e, g1⟩ | ⟨e, l1, g1⟩
      · subst e
        rcases h2 with ⟨e2, _⟩ | ⟨e2, l2, g2⟩
        · exact absurd e2 hs
        · subst e2; exact g2 a b ha hb
      · have hc := List.getElem?_eq_getElem l1
        rcases h2 with ⟨e2, _⟩ | ⟨e2, l2, g2⟩
        · subst e2; subst e; exact g1 a b ha hb
        · subst e2
          exact o.neg _ _ _ (g1 a _ ha (by rw [← e]; exact hc)) (g2 _ b hc hb)
    · rcases h1 with ⟨e, g1⟩ | ⟨e, l1, g1⟩
      · subst e
        rcases h2 with ⟨e2, _⟩ | ⟨e2, l2, g2⟩
        · exact absurd e2 hs
        · subst e2
          rcases two j hj hji with rfl | rfl
          · have h3 := g1 a c ha hc
            have h4 := g2 a b ha hb
            cases hq : lt c b with
            | false => rfl
            | true => rw [o.tr a c b h3 hq] at h4; cases h4
          · rw [hb] at hc; cases hc; exact o.irr b
      · rcases h2 with ⟨e2, g2⟩ | ⟨e2, l2, g2⟩
        · subst e2
          rcases two j hj hji with rfl | rfl
          · subst e; rw [hb] at hc; cases hc; exact o.irr b
          · exact o.asym (g2 b c hb hc)
        · subst e2
          rcases two j hj hji with rfl | rfl
          · exact g2 c b (by rw [e]; exact hc) hb
          · rw [hb] at hc; cases hc; exact o.irr b
theorem dw_start {z : E} (h : Hpq lt q) : Dwq lt 0 (q.set 0 z).dropLast := by
  have key : ∀ (j : Nat) (a : E), 0 < j → (q.set 0 z).dropLast[j]? = some a → q[j]? = some a := fun j a hj ha => by
    rw [List.dropLast_eq_take, List.getElem?_take] at ha
    split at ha
    · rw [List.getElem?_set_ne (by omega)] at ha; exact ha
    · cases ha
  exact ⟨fun j a b hj hne ha hb => h j a b hj (key j a hj ha) (key _ b (by omega) hb), fun j a b hj h0 => absurd h0 (Nat.lt_irrefl 0)⟩
theorem dw_perm {m z : E} (hm : q[0]? = some m) (hz : q.getLast? = some z) : (m :: (q.set 0 z).dropLast).Perm q := by
  cases q with
  | nil => cases hm
  | cons c t =>
    obtain rfl : c = m := by simpa using hm
    rcases List.eq_nil_or_concat t with rfl | ⟨t', w, e⟩
    · exact List.Perm.refl _
    · have e : t = t' ++ [w] := by simpa using e
      subst e
      obtain rfl : w = z := by
        have : ((c :: t') ++ [w]).getLast? = some z := hz
        rw [List.getLast?_concat] at this
        exact Option.some.inj this
      show (c :: ((w :: (t' ++ [w])).dropLast)).Perm (c :: (t' ++ [w]))
      refine List.Perm.cons _ ?_
      rw [show w :: (t' ++ [w]) = (w :: t') ++ [w] from rfl, List.dropLast_concat]
      exact (List.perm_append_comm (l₁ := [w]) (l₂ := t'))
theorem perm_srt (o : Ord lt) : ∀ {l m : List E}, Srt lt l → Srt lt m → l.Perm m → l = m
  | [], m, _, _, hp => (List.nil_perm.1 hp).symm
  | a :: l, [], _, _, hp => by cases List.perm_nil.1 hp
  | a :: l, b :: m, hl, hm, hp => by
    obtain ⟨h1, h2⟩ := List.pairwise_cons.1 hl
    obtain ⟨h3, h4⟩ := List.pairwise_cons.1 hm
    have hab : a = b := by
      rcases List.mem_cons.1 (hp.subset (List.mem_cons_self ..)) with e | e
      · exact e
      · rcases List.mem_cons.1 (hp.symm.subset (List.mem_cons_self ..)) with e2 | e2
        · exact e2.symm
        · have := o.asym (h1 b e2)
          rw [h3 a e] at this; cases this
    subst hab
    rw [perm_srt o h2 h4 hp.cons_inv]
theorem Hpq.first (o : Ord lt) {s0 : E} {S : List E} (h : Hpq lt q) (hp : q.Perm (s0 :: S)) (hs : Srt lt (s0 :: S)) : q[0]? = some s0 := by
  have hl : 0 < q.length := by rw [hp.length_eq]; simp
  have hm := List.getElem?_eq_getElem hl
  obtain ⟨h1, _⟩ := List.pairwise_cons.1 hs
  obtain ⟨j, hj⟩ := List.mem_iff_getElem?.1 (hp.symm.subset (List.mem_cons_self ..))
  have h2 := h.min o hm j s0 hj
  rcases List.mem_cons.1 (hp.subset (List.getElem_mem hl)) with e | e
  · rw [hm, e]
  · rw [h1 _ e] at h2; cases h2
end
end Go.Proofs.Ytegnpimlfphncaa
set_option linter.unusedVariables false
set_option linter.unusedSimpArgs false
set_option linter.unusedSectionVars false
set_option maxRecDepth 100000
namespace Go.Proofs.Ytegnpimlfphncaa.TG
open Go Go.Proofs.Ytegnpimlfphncaa
abbrev Nd := (r : Nat) × Nat × BT KV r
abbrev El := KV × Option Nd
def ptE (x : El) : Option PA := x.2.map fun s => ((s.2.1, 0) : PA)
def LE : Lay El where
  sz := 3
  cells x := [.int .i64 x.1.1, .int .i64 x.1.2, .pointer ((ptE x).map PA.val)]
  len _ := rfl
  one _ v hv := by simp only [List.mem_cons, List.not_mem_nil, or_false] at hv; rcases hv with rfl | rfl | rfl <;> rfl
  pos := by decide
def ltE (o : List Int) (a b : El) : Bool := ltO o a.1 b.1
theorem ordE (o : List Int) : Ord (ltE o) := ⟨fun a => (ordO o).irr a.1, fun a b c => (ordO o).tr a.1 b.1 c.1, fun a b c => (ordO o).neg a.1 b.1 c.1⟩
def listC (ls : Value) (cnt np : Int) (s : SlT) : List Value := [ls, .int .i64 cnt, .int .i64 np, .slice (s.1.map PA.val) s.2.1 s.2.2]
section
variable {h h0 : H} {G0 : PA → Prop} {l : List Ck} {Q : Ex → List AV → H → Prop}
theorem ld_ek (s : St h0 G0 l h) {p : PA} {xs : List El} {k : Nat} {l' : List Value → List Ck} [Fi l p (LE.flat xs) 0 k l'] {i : Nat} {x : El} (hx : xs[i]? = some x) {m : Int → Int → M}
    (hw : wp Try.prog (m x.1.1 x.1.2) Q h) : wp Try.prog (.load (p.1, p.2 + mulN i 3) (.int .i64) fun v => .load (p.1, p.2 + mulN i 3 + 1) (.int .i64) fun k => m v k) Q h := by
  have hr := s.rds (a := p) (vs := LE.flat xs) (j := 0) (LE.flat xs) (fun i v h => by rw [Nat.zero_add]; exact h)
  have h0 := hr (i * 3 + 0) _ (LE.flat_get (j := 0) hx rfl)
  have h1 := hr (i * 3 + 1) _ (LE.flat_get (j := 1) hx rfl)
  rw [mulN_eq]
  refine w_int x.1.1 h0 (w_int x.1.2 ?_ hw)
  rw [Nat.add_assoc]; exact h1
theorem ld_ee (s : St h0 G0 l h) {p : PA} {xs : List El} {k : Nat} {l' : List Value → List Ck} [Fi l p (LE.flat xs) 0 k l'] {i : Nat} {x : El} (hx : xs[i]? = some x) {m : Int → Int → Option PA → M}
    (hw : wp Try.prog (m x.1.1 x.1.2 (ptE x)) Q h) : wp Try.prog (.load (p.1, p.2 + mulN i 3) (.int .i64) fun v => .load (p.1, p.2 + mulN i 3 + 1) (.int .i64) fun k => .load (p.1, p.2 + mulN i 3 + 2) .ptr fun q => m v k q) Q h := by
  have hr := s.rds (a := p) (vs := LE.flat xs) (j := 0) (LE.flat xs) (fun i v h => by rw [Nat.zero_add]; exact h)
  have h0 := hr (i * 3 + 0) _ (LE.flat_get (j := 0) hx rfl)
  have h1 := hr (i * 3 + 1) _ (LE.flat_get (j := 1) hx rfl)
  have h2 := hr (i * 3 + 2) _ (LE.flat_get (j := 2) hx rfl)
  rw [mulN_eq]
  refine w_int x.1.1 h0 (w_int x.1.2 ?_ (w_ptr (ptE x) ?_ hw))
  · rw [Nat.add_assoc]; exact h1
  · rw [Nat.add_assoc]; exact h2
theorem flat_set3 : ∀ (xs : List El) (i : Nat) (a : El), i < xs.length → (((LE.flat xs).set (i * 3) (.int .i64 a.1.1)).set (i * 3 + 1) (.int .i64 a.1.2)).set (i * 3 + 2) (.pointer ((ptE a).map PA.val)) = LE.flat (xs.set i a)
  | [], _, _, h => by simp at h
  | x :: xs, 0, a, _ => rfl
  | x :: xs, i + 1, a, h => by
    have ih := flat_set3 xs i a (by simpa using h)
    show (((.int .i64 x.1.1 :: .int .i64 x.1.2 :: .pointer ((ptE x).map PA.val) :: LE.flat xs : List Value).set ((i + 1) * 3) _).set ((i + 1) * 3 + 1) _).set ((i + 1) * 3 + 2) _ = .int .i64 x.1.1 :: .int .i64 x.1.2 :: .pointer ((ptE x).map PA.val) :: LE.flat (xs.set i a)
    rw [← ih, show (i + 1) * 3 = i * 3 + 3 by omega]
    rfl
theorem st_ee (s : St h0 G0 l h) {p : PA} {xs : List El} {k : Nat} {l' : List Value → List Ck} [Fi l p (LE.flat xs) 0 k l'] {i : Nat} (hi : i < xs.length) (x : El) {m : M}
    (hw : ∀ h', St h0 G0 (l' (LE.flat (xs.set i x))) h' → wp Try.prog m Q h') : wp Try.prog (.store (p.1, p.2 + mulN i 3) (.int .i64 x.1.1) (.store (p.1, p.2 + mulN i 3 + 1) (.int .i64 x.1.2) (.store (p.1, p.2 + mulN i 3 + 2) (.ptr (ptE x)) m))) Q h := by
  have hk : oks h p (LE.flat xs).length := by
    obtain ⟨⟨G, h1, h2⟩, h3⟩ := s
    obtain ⟨c, F, B, e, o, _⟩ := Fi.ok (self := ‹Fi l p (LE.flat xs) 0 k l'›) h G h1
    intro j hj
    have := o.ok j (by omega)
    rw [e]; simpa using this
  rw [LE.flat_length] at hk
  have hk : oks h p (xs.length * 3) := hk
  have k0 : wok h (p.1, p.2 + mulN i 3) := by rw [mulN_eq]; exact hk (i * 3) (by omega)
  have k1 : wok h (p.1, p.2 + mulN i 3 + 1) := by rw [mulN_eq, Nat.add_assoc]; exact hk (i * 3 + 1) (by omega)
  have k2 : wok h (p.1, p.2 + mulN i 3 + 2) := by rw [mulN_eq, Nat.add_assoc]; exact hk (i * 3 + 2) (by omega)
  refine w_store k0 (w_store (wok_wr k1) (w_store (wok_wr (wok_wr k2)) (hw _ ?_)))
  refine s.change (a := p) (ws := LE.flat (xs.set i x)) (by rw [LE.flat_length, LE.flat_length, List.length_set]) fun c e o => ?_
  have e' : c = p := by rw [e]; rfl
  subst e'
  have hl : (LE.flat xs).length = xs.length * 3 := LE.flat_length xs
  have o1 := o.one (i * 3) (.int .i64 x.1.1) (by rw [hl]; omega)
  have o2 := o1.one (i * 3 + 1) (.int .i64 x.1.2) (by rw [List.length_set, hl]; omega)
  have o3 := o2.one (i * 3 + 2) (.pointer ((ptE x).map PA.val)) (by rw [List.length_set, List.length_set, hl]; omega)
  rw [flat_set3 xs i x hi] at o3
  rw [mulN_eq, Nat.add_assoc, Nat.add_assoc]
  exact ⟨o3, ((Fr.wr _ ⟨rfl, by simp, by simp; omega⟩).trans (Fr.wr _ ⟨rfl, by simp, by simp; omega⟩)).trans (Fr.wr _ ⟨rfl, by simp, by simp; omega⟩)⟩
theorem tdv2 {i : Nat} (h : 0 < i) : ((i : Int) - 1).tdiv 2 = (((i - 1) / 2 : Nat) : Int) := by
  rw [show (i : Int) - 1 = ((i - 1 : Nat) : Int) by omega, show (2 : Int) = ((2 : Nat) : Int) from rfl, ← Int.ofNat_tdiv]
theorem tdv2' (i : Nat) : -1 ≤ ((i : Int) - 1).tdiv 2 ∧ ((i : Int) - 1).tdiv 2 ≤ i := by
  rcases Nat.eq_zero_or_pos i with rfl | h
  · decide
  · rw [tdv2 h]; omega
end
section
variable {h : H} {ls : Value} {oc : Ck} {o : List Int}
def OwC (s : SlT) (q : List El) : Prop := OwnL LE s q ∧ s.2.2 < 9223372036854775808
theorem wp_append_lt {P : Program} {Q1 Q2 : Ex → List AV → H → Prop} {h : H} {e : TypeId} {sz byt : Nat} {z : List Cell} {d s : SlT} {k1 k2 : SlT → M} (hc : d.2.2 < 9223372036854775808) (hw : wp P (.append e sz byt z d s k1) Q1 h) (hk : ∀ d' h', d'.2.2 < 9223372036854775808 → wp P (k1 d') Q1 h' → wp P (k2 d') Q2 h') : wp P (.append e sz byt z d s k2) Q2 h := by
  obtain ⟨news, a1, a2, a3, a4⟩ := hw
  refine ⟨news, a1, a2, a3, ?_⟩
  split at a4
  · rename_i hr
    rw [if_pos hr]
    rcases a4 with ⟨b1, b2⟩ | ⟨p, b1, b2, b3⟩
    · exact .inl ⟨b1, hk _ _ hc b2⟩
    · exact .inr ⟨p, b1, b2, hk _ _ hc b3⟩
  · rename_i hr
    rw [if_neg hr]
    obtain ⟨olds, b1, b2, b3, b4⟩ := a4
    exact ⟨olds, b1, b2, b3, fun nc c1 c2 c3 => hk _ _ c2 (b4 nc c1 c2 c3)⟩
theorem st_apoC {h h0 : H} {G0 : PA → Prop} {l : List Ck} {Q : Ex → List AV → H → Prop} {P : Program} (s : St h0 G0 l h) {d : SlT} {xs : List El} {y : El} {r : List Ck} [Pk (.sl d) l (SlC d LE.sz (LE.flat xs)) r] (hd : OwC d xs) {e : TypeId} {byt sz : Nat} {z : List Cell} {sp : Option PA} {sc : Nat} {m : SlT → M}
    (hsz : sz = LE.sz) (hz : z.length = LE.sz) (hs : RSl h (sp, 1, sc) LE.sz (LE.flat [y])) (hg : growOk (xs.length + 1) byt)
    (hw : ∀ d' h', OwC d' (xs ++ [y]) → St h0 G0 (SlC d' LE.sz (LE.flat (xs ++ [y])) :: r) h' → wp P (m d') Q h') : wp P (.append e sz byt z d (sp, 1, sc) m) Q h := by
  refine wp_append_lt (k1 := fun d' => .done .normal [.c (.sl d'.1 d'.2.1 d'.2.2)]) (Q1 := fun _ vs h' => ∃ d' : SlT, vs = [.c (.sl d'.1 d'.2.1 d'.2.2)] ∧ OwnL LE d' (xs ++ [y]) ∧ St h0 G0 (SlC d' LE.sz (LE.flat (xs ++ [y])) :: r) h') hd.2
    (st_apo (L := LE) (xs := xs) (y := y) s hd.1 hsz hz hs hg fun d' h' h1 h2 => ⟨d', rfl, h1, h2⟩) ?_
  rintro ⟨d1, d2, d3⟩ h' hc ⟨⟨e1, e2, e3⟩, he, g1, g2⟩
  cases he
  exact hw _ _ ⟨g1, hc⟩ g2
set_option maxHeartbeats 2000000 in
theorem c_push {a0 : PA} {cnt np : Int} {s : SlT} {q : List El} {x : El} (hls : Lss ls oc o) (hs : OwC s q) (hq : Hpq (ltE o) q) (hlen : q.length ≤ 4294967295) {G : PA → Prop} (hoc : Bes oc h G) (hG : Star [Ow a0 (listC ls cnt np s) 0, SlC s LE.sz (LE.flat q)] h G) :
    HT Try.prog fn_lg_push [.c (.addr a0), .agg [.int .i64 x.1.1, .int .i64 x.1.2, .ptr (ptE x)]] true [] h fun _ h' => ∃ post, (∃ (s' : SlT) (q' : List El), OwC s' q' ∧ Hpq (ltE o) q' ∧ q'.Perm (q ++ [x]) ∧ post = [Ow a0 (listC ls cnt np s') 0, SlC s' LE.sz (LE.flat q')]) ∧ St h G post h' := by
  apply hc_lg_push
  unfold M_lg_push
  refine st_alloc (St.start hG) fun n0 _ S => ?_
  refine ld_sl S s.1 s.2.1 s.2.2 rfl (ld_int S rfl (ld_int S rfl (ld_ptr S (ptE x) rfl ?_)))
  refine st_alloc S fun n5 _ S => ?_
  refine st_held S rfl ?_
  refine st_apoC (xs := q) (y := x) S hs rfl rfl (S.rsl (LE.flat [x]) 1 1 3 (fun i v h => by rw [Nat.zero_add]; exact h) rfl) ⟨by omega, by omega⟩ fun s' _ hs' S => ?_
  refine st_store S (lt_ble rfl) fun _ S => ?_
  obtain ⟨p, n, c, rfl, hc, _, S⟩ := S.open_sl (hs'.1.2.2.resolve_left (by simp))
  have hn : n = q.length + 1 := by have := hs'.1.1; simpa using this
  have S := S.only [.ow a0, .ow p]
  have S := S.re a0 (listC ls cnt np (some p, n, c)) 0 rfl rfl rfl
  refine ld_sls S rfl (w_guard (inK64 (by (first | omega | ((try dsimp only [Sh.T, Sh1.T]); omega))) (by (first | omega | ((try dsimp only [Sh.T, Sh1.T]); omega)))) (w_guard (inK64 (by (first | omega | ((try dsimp only [Sh.T, Sh1.T]); omega))) (by (first | omega | ((try dsimp only [Sh.T, Sh1.T]); omega)))) ?_))
  have e0 : ((n : Int) - 1 - 1).tdiv 2 = (((n - 1 : Nat) : Int) - 1).tdiv 2 := by rw [show (n : Int) - 1 - 1 = ((n - 1 : Nat) : Int) - 1 by omega]
  have b0 := tdv2' (n - 1)
  dsimp only
  rw [e0]
  refine w_guard ⟨by decide, inK64 (by omega) (by omega)⟩ ?_
  refine w_mid' (some 0) (fun (_ : SV []) h' => ∃ w : List El, w.Perm (q ++ [x]) ∧ Hpq (ltE o) w ∧ St h G [Ow a0 (listC ls cnt np (some p, n, c)) 0, Ow p (LE.flat w) ((c - n) * LE.sz)] h') ?_ ?_
  · refine w_lp (fun r y h' => ∃ (i : Nat) (w : List El), y = (((i : Int) - 1).tdiv 2, (i : Int), ()) ∧ r = i ∧ i < n ∧ w.length = n ∧ w.Perm (q ++ [x]) ∧ Upq (ltE o) i w ∧ St h G [Ow a0 (listC ls cnt np (some p, n, c)) 0, Ow p (LE.flat w) ((c - n) * LE.sz)] h') (n - 1) rfl
      ⟨n - 1, q ++ [x], Prod.ext rfl (Prod.ext (by show (n : Int) - 1 = ((n - 1 : Nat) : Int); omega) rfl), rfl, by omega, by simp [hn], List.Perm.refl _, by rw [show n - 1 = q.length by omega]; exact up_app hq, S⟩ ?_
    clear S
    rintro i _ _ ⟨_, w, rfl, rfl, hi, hw, hp, hu, S⟩
    rcases Nat.eq_zero_or_pos i with rfl | hi0
    · exact w_bnd (w_false rfl (bd_n rfl (w_false rfl (ln_e (md_e rfl ⟨w, hp, hu.done (.inl rfl), S⟩)))))
    · have ha := List.getElem?_eq_getElem (show i < w.length by omega)
      have hb := List.getElem?_eq_getElem (show (i - 1) / 2 < w.length by omega)
      refine w_bnd (w_true (by show ((i : Int) != 0) = true; simp; omega) (w_less hls (S.rd rfl) (ld_sls S rfl (w_nonnil (w_guard ⟨by (first | omega | ((try dsimp only [Sh.T, Sh1.T]); omega)), by (first | omega | ((try dsimp only [Sh.T, Sh1.T]); omega))⟩ ?_)))))
      dsimp only
      rw [Int.toNat_natCast]
      refine ld_ek S ha (ld_sls S rfl (w_nonnil ?_))
      rw [tdv2 hi0]
      refine w_guard ⟨by (first | omega | ((try dsimp only [Sh.T, Sh1.T]); omega)), by (first | omega | ((try dsimp only [Sh.T, Sh1.T]); omega))⟩ ?_
      rw [Int.toNat_natCast]
      refine ld_ek S hb ?_
      refine st_less S hls (hoc.now S).ex w[i].1 (w[(i - 1) / 2]).1 fun _ S => bd_n rfl ?_
      cases hlt : ltO o w[i].1 (w[(i - 1) / 2]).1 with
      | false =>
        refine w_false rfl (ln_e (md_e rfl ⟨w, hp, hu.done (.inr fun a b h1 h2 => ?_), S⟩))
        rw [ha] at h1; rw [hb] at h2; cases h1; cases h2
        exact hlt
      | true =>
        refine w_true rfl (ld_sls S rfl (ld_sls S rfl (ld_sls S rfl (w_nonnil (w_guard ⟨by (first | omega | ((try dsimp only [Sh.T, Sh1.T]); omega)), by (first | omega | ((try dsimp only [Sh.T, Sh1.T]); omega))⟩ ?_)))))
        refine ld_ee S ha (ld_sls S rfl (w_nonnil (w_guard ⟨by (first | omega | ((try dsimp only [Sh.T, Sh1.T]); omega)), by (first | omega | ((try dsimp only [Sh.T, Sh1.T]); omega))⟩ ?_)))
        refine ld_ee S hb (w_nonnil (w_guard ⟨by (first | omega | ((try dsimp only [Sh.T, Sh1.T]); omega)), by (first | omega | ((try dsimp only [Sh.T, Sh1.T]); omega))⟩ ?_))
        refine st_ee S (by omega) w[i] fun _ S => ?_
        refine w_nonnil (w_guard ⟨by (first | omega | ((try dsimp only [Sh.T, Sh1.T]); omega)), by (first | omega | ((try dsimp only [Sh.T, Sh1.T]); omega))⟩ ?_)
        refine st_ee S (by rw [List.length_set]; omega) (w[(i - 1) / 2]) fun _ S => ?_
        have b1 := tdv2' ((i - 1) / 2)
        refine w_guard (inK64 (by (first | omega | ((try dsimp only [Sh.T, Sh1.T]); omega))) (by (first | omega | ((try dsimp only [Sh.T, Sh1.T]); omega)))) (w_guard ⟨by decide, inK64 (by omega) (by omega)⟩ ?_)
        exact ln_n rfl ((i - 1) / 2) ⟨(i - 1) / 2, _, rfl, rfl, by omega, by rw [List.length_set, List.length_set]; exact hw, (sw_perm ha hb).trans hp, hu.step (ordE o) hi0 ha hb hlt, S⟩ (by omega)
  clear S
  rintro _ _ ⟨w, hp, hw, S⟩
  have hwl : w.length = n := by rw [hp.length_eq, hn]; simp
  have S := S.pull1.close_sl (n := n) (c := c) (sz := LE.sz) hc (by rw [LE.flat_length, hwl])
  exact rt_n rfl rfl ⟨_, ⟨(some p, n, c), w, ⟨⟨hwl.symm, hc, .inr rfl⟩, hs'.2⟩, hw, hp, rfl⟩, S.pull1⟩
end
end Go.Proofs.Ytegnpimlfphncaa.TG
set_option linter.unusedVariables false
set_option linter.unusedSimpArgs false
set_option linter.unusedSectionVars false
set_option maxRecDepth 100000
namespace Go.Proofs.Ytegnpimlfphncaa.TG
open Go Go.Proofs.Ytegnpimlfphncaa
def flE (x : El) : List KV := x.1 :: (match x.2 with | none => [] | some s => flatB s.1 s.2.2)
section
variable {h h0 : H} {G0 : PA → Prop} {l : List Ck} {Q : Ex → List AV → H → Prop}
theorem ld_ee0 (s : St h0 G0 l h) {p : PA} {xs : List El} {k : Nat} {l' : List Value → List Ck} [Fi l p (LE.flat xs) 0 k l'] {x : El} (hx : xs[0]? = some x) {m : Int → Int → Option PA → M}
    (hw : wp Try.prog (m x.1.1 x.1.2 (ptE x)) Q h) : wp Try.prog (.load (p.1, p.2) (.int .i64) fun v => .load (p.1, p.2 + 1) (.int .i64) fun k => .load (p.1, p.2 + 2) .ptr fun q => m v k q) Q h := by
  have := ld_ee s (p := p) (i := 0) hx (m := m) hw
  rw [mulN_eq] at this
  simpa using this
theorem st_ee0 (s : St h0 G0 l h) {p : PA} {xs : List El} {k : Nat} {l' : List Value → List Ck} [Fi l p (LE.flat xs) 0 k l'] (hi : 0 < xs.length) (x : El) {m : M}
    (hw : ∀ h', St h0 G0 (l' (LE.flat (xs.set 0 x))) h' → wp Try.prog m Q h') : wp Try.prog (.store (p.1, p.2) (.int .i64 x.1.1) (.store (p.1, p.2 + 1) (.int .i64 x.1.2) (.store (p.1, p.2 + 2) (.ptr (ptE x)) m))) Q h := by
  have := st_ee s (p := p) (i := 0) hi x (m := m) hw
  rw [mulN_eq] at this
  simpa using this
theorem hd_ee (s : St h0 G0 l h) {p : PA} {xs : List El} {k : Nat} {l' : List Value → List Ck} [Fi l p (LE.flat xs) 0 k l'] {i : Nat} {x : El} (hx : xs[i]? = some x) {m : M}
    (hw : wp Try.prog m Q h) : wp Try.prog (.held (p.1, p.2 + mulN i 3) (.int .i64 x.1.1) (.held (p.1, p.2 + mulN i 3 + 1) (.int .i64 x.1.2) (.held (p.1, p.2 + mulN i 3 + 2) (.ptr (ptE x)) m))) Q h := by
  have hr := s.rds (a := p) (vs := LE.flat xs) (j := 0) (LE.flat xs) (fun i v h => by rw [Nat.zero_add]; exact h)
  have h0 := hr (i * 3 + 0) _ (LE.flat_get (j := 0) hx rfl)
  have h1 := hr (i * 3 + 1) _ (LE.flat_get (j := 1) hx rfl)
  have h2 := hr (i * 3 + 2) _ (LE.flat_get (j := 2) hx rfl)
  rw [mulN_eq]
  refine w_held h0 (w_held ?_ (w_held ?_ hw))
  · rw [Nat.add_assoc]; exact h1
  · rw [Nat.add_assoc]; exact h2
end
section
variable {h : H} {ls : Value} {oc : Ck} {o : List Int}
set_option maxHeartbeats 2000000 in
theorem w_down {h0 : H} {G0 : PA → Prop} {Q : Ex → List AV → H → Prop} {l : List Ck} {a0 : PA} {cnt np : Int} {p : PA} {N c k e : Nat} {w : List El} (hls : Lss ls oc o) (hw : w.length = N) (hN : N ≤ 4294967296) (hd : Dwq (ltE o) 0 w) (hoc : Bes oc h0 G0)
    (S : St h0 G0 (Ow a0 (listC ls cnt np (some p, N, c)) 0 :: Ow p (LE.flat w) k :: l) h)
    (hk : ∀ h' w', w'.Perm w → Hpq (ltE o) w' → St h0 G0 (Ow a0 (listC ls cnt np (some p, N, c)) 0 :: Ow p (LE.flat w') k :: l) h' → wp Try.prog (.done (.exit e) []) Q h') :
    wp Try.prog (.loop [.c (.int .i64)] [.c (.int .i64 (0))] fun y21 =>
        .guard (InK IntKind.i64 (y21.fst * 2)) <|
        .guard (InK IntKind.i64 (y21.fst * 2 + 1)) <|
        .guard (InK IntKind.i64 (y21.fst * 2)) <|
        .guard (InK IntKind.i64 (y21.fst * 2 + 2)) <|
        .bind none (.load (a0.fst, a0.snd + 3) (.sl) fun s22 =>
          .ite (decide (y21.fst * 2 + 1 < (↑s22.snd.fst : Int)))
          (.load (a0.fst, a0.snd) (.raw) fun v23 =>
            .load (a0.fst, a0.snd + 3) (.sl) fun s24 =>
            .nonnil (s24.fst) fun p25 =>
            .guard (((0 : Int) ≤ y21.fst) ∧ ((y21.fst : Int) < (↑s24.snd.fst : Int))) <|
            .load (p25.fst, p25.snd + mulN (Int.toNat y21.fst) 3) (.int .i64) fun i26 =>
            .load (p25.fst, p25.snd + mulN (Int.toNat y21.fst) 3 + 1) (.int .i64) fun i27 =>
            .load (a0.fst, a0.snd + 3) (.sl) fun s28 =>
            .nonnil (s28.fst) fun p29 =>
            .guard (((0 : Int) ≤ y21.fst * 2 + 1) ∧ ((y21.fst * 2 + 1 : Int) < (↑s28.snd.fst : Int))) <|
            .load (p29.fst, p29.snd + mulN (y21.fst * 2 + 1).toNat 3) (.int .i64) fun i30 =>
            .load (p29.fst, p29.snd + mulN (y21.fst * 2 + 1).toNat 3 + 1) (.int .i64) fun i31 =>
            .callv (v23) [.agg [.int .i64 (i26), .int .i64 (i27)], .agg [.int .i64 (i30), .int .i64 (i31)]] false [.c (.bool)] fun r32 =>
            .done .normal [.c (.bool (!r32.fst))])
          (.done .normal [.c (.ff)])) [.c (.bool)] fun x33 =>
        .bind none (.ite (x33.fst)
          (.done .normal [.c (.int .i64 (y21.fst * 2 + 1))])
          (.done .normal [.c (.int .i64 (y21.fst))])) [.c (.int .i64)] fun x34 =>
        .bind none (.load (a0.fst, a0.snd + 3) (.sl) fun s35 =>
          .ite (decide (y21.fst * 2 + 2 < (↑s35.snd.fst : Int)))
          (.load (a0.fst, a0.snd) (.raw) fun v36 =>
            .load (a0.fst, a0.snd + 3) (.sl) fun s37 =>
            .nonnil (s37.fst) fun p38 =>
            .guard (((0 : Int) ≤ x34.fst) ∧ ((x34.fst : Int) < (↑s37.snd.fst : Int))) <|
            .load (p38.fst, p38.snd + mulN (Int.toNat x34.fst) 3) (.int .i64) fun i39 =>
            .load (p38.fst, p38.snd + mulN (Int.toNat x34.fst) 3 + 1) (.int .i64) fun i40 =>
            .load (a0.fst, a0.snd + 3) (.sl) fun s41 =>
            .nonnil (s41.fst) fun p42 =>
            .guard (((0 : Int) ≤ y21.fst * 2 + 2) ∧ ((y21.fst * 2 + 2 : Int) < (↑s41.snd.fst : Int))) <|
            .load (p42.fst, p42.snd + mulN (y21.fst * 2 + 2).toNat 3) (.int .i64) fun i43 =>
            .load (p42.fst, p42.snd + mulN (y21.fst * 2 + 2).toNat 3 + 1) (.int .i64) fun i44 =>
            .callv (v36) [.agg [.int .i64 (i39), .int .i64 (i40)], .agg [.int .i64 (i43), .int .i64 (i44)]] false [.c (.bool)] fun r45 =>
            .done .normal [.c (.bool (!r45.fst))])
          (.done .normal [.c (.ff)])) [.c (.bool)] fun x46 =>
        .bind none (.ite (x46.fst)
          (.done .normal [.c (.int .i64 (y21.fst * 2 + 2))])
          (.done .normal [.c (.int .i64 (x34.fst))])) [.c (.int .i64)] fun x47 =>
        .ite (x47.fst == y21.fst)
        (.done (.exit e) [])
        (.load (a0.fst, a0.snd + 3) (.sl) fun s48 =>
          .load (a0.fst, a0.snd + 3) (.sl) fun s49 =>
          .load (a0.fst, a0.snd + 3) (.sl) fun s50 =>
          .nonnil (s50.fst) fun p51 =>
          .guard (((0 : Int) ≤ y21.fst) ∧ ((y21.fst : Int) < (↑s50.snd.fst : Int))) <|
          .load (p51.fst, p51.snd + mulN (Int.toNat y21.fst) 3) (.int .i64) fun i52 =>
          .load (p51.fst, p51.snd + mulN (Int.toNat y21.fst) 3 + 1) (.int .i64) fun i53 =>
          .load (p51.fst, p51.snd + mulN (Int.toNat y21.fst) 3 + 2) (.ptr) fun q54 =>
          .load (a0.fst, a0.snd + 3) (.sl) fun s55 =>
          .nonnil (s55.fst) fun p56 =>
          .guard (((0 : Int) ≤ x47.fst) ∧ ((x47.fst : Int) < (↑s55.snd.fst : Int))) <|
          .load (p56.fst, p56.snd + mulN (Int.toNat x47.fst) 3) (.int .i64) fun i57 =>
          .load (p56.fst, p56.snd + mulN (Int.toNat x47.fst) 3 + 1) (.int .i64) fun i58 =>
          .load (p56.fst, p56.snd + mulN (Int.toNat x47.fst) 3 + 2) (.ptr) fun q59 =>
          .nonnil (s48.fst) fun p60 =>
          .guard (((0 : Int) ≤ x47.fst) ∧ ((x47.fst : Int) < (↑s48.snd.fst : Int))) <|
          .store (p60.fst, p60.snd + mulN (Int.toNat x47.fst) 3) (.int .i64 (i52)) <|
          .store (p60.fst, p60.snd + mulN (Int.toNat x47.fst) 3 + 1) (.int .i64 (i53)) <|
          .store (p60.fst, p60.snd + mulN (Int.toNat x47.fst) 3 + 2) (.ptr (q54)) <|
          .nonnil (s49.fst) fun p61 =>
          .guard (((0 : Int) ≤ y21.fst) ∧ ((y21.fst : Int) < (↑s49.snd.fst : Int))) <|
          .store (p61.fst, p61.snd + mulN (Int.toNat y21.fst) 3) (.int .i64 (i57)) <|
          .store (p61.fst, p61.snd + mulN (Int.toNat y21.fst) 3 + 1) (.int .i64 (i58)) <|
          .store (p61.fst, p61.snd + mulN (Int.toNat y21.fst) 3 + 2) (.ptr (q59)) <|
          .done .normal [.c (.int .i64 (x47.fst))])) Q h := by
  refine w_lp (fun r y h' => ∃ (i : Nat) (w' : List El), y = ((i : Int), ()) ∧ (i = 0 ∨ i < N) ∧ r = N - i ∧ w'.length = N ∧ w'.Perm w ∧ Dwq (ltE o) i w' ∧ St h0 G0 (Ow a0 (listC ls cnt np (some p, N, c)) 0 :: Ow p (LE.flat w') k :: l) h') (N - 0) rfl
    ⟨0, w, rfl, .inl rfl, rfl, hw, List.Perm.refl _, hd, S⟩ ?_
  clear S hd
  rintro _ _ _ ⟨i, w', rfl, hi, rfl, hwl, hp, hd, S⟩
  have e1 : (i : Int) * 2 + 1 = ((2 * i + 1 : Nat) : Int) := by omega
  have e2 : (i : Int) * 2 + 2 = ((2 * i + 2 : Nat) : Int) := by omega
  dsimp only
  rw [e1, e2]
  refine w_guard (inK64 (by omega) (by omega)) (w_guard (inK64 (by omega) (by omega)) (w_guard (inK64 (by omega) (by omega)) (w_guard (inK64 (by omega) (by omega)) ?_)))
  refine w_mid' none (fun (x : SV [.c .bool]) h' => ∃ b : Bool, x = (b, ()) ∧ (if b then 2 * i + 1 < N ∧ ∀ a c, w'[i]? = some a → w'[2 * i + 1]? = some c → ltE o a c = false else ∀ a c, w'[i]? = some a → w'[2 * i + 1]? = some c → ltE o a c = true) ∧ St h0 G0 (Ow a0 (listC ls cnt np (some p, N, c)) 0 :: Ow p (LE.flat w') k :: l) h') ?_ ?_
  · refine ld_sls S rfl ?_
    by_cases hlt : 2 * i + 1 < N
    · have ha := List.getElem?_eq_getElem (show i < w'.length by omega)
      have hb := List.getElem?_eq_getElem (show 2 * i + 1 < w'.length by omega)
      refine w_true (lt_t (by (first | omega | ((try dsimp only [Sh.T, Sh1.T]); omega)))) (w_less hls (S.rd rfl) (ld_sls S rfl (w_nonnil (w_guard ⟨by (first | omega | ((try dsimp only [Sh.T, Sh1.T]); omega)), by (first | omega | ((try dsimp only [Sh.T, Sh1.T]); omega))⟩ ?_))))
      try dsimp only
      rw [Int.toNat_natCast]
      refine ld_ek S ha (ld_sls S rfl (w_nonnil (w_guard ⟨by (first | omega | ((try dsimp only [Sh.T, Sh1.T]); omega)), by (first | omega | ((try dsimp only [Sh.T, Sh1.T]); omega))⟩ ?_)))
      rw [Int.toNat_natCast]
      refine ld_ek S hb ?_
      refine st_less S hls (hoc.now S).ex w'[i].1 (w'[2 * i + 1]).1 fun _ S => md_n rfl ⟨_, rfl, ?_, S⟩
      cases hq : ltO o w'[i].1 (w'[2 * i + 1]).1 with
      | false => exact ⟨hlt, fun a c h1 h2 => by rw [ha] at h1; rw [hb] at h2; cases h1; cases h2; exact hq⟩
      | true => exact fun a c h1 h2 => by rw [ha] at h1; rw [hb] at h2; cases h1; cases h2; exact hq
    · refine w_false (lt_f (by (first | omega | ((try dsimp only [Sh.T, Sh1.T]); omega)))) (md_n rfl ⟨false, rfl, fun a c h1 h2 => ?_, S⟩)
      rw [List.getElem?_eq_none (by omega)] at h2; cases h2
  clear S
  rintro _ _ ⟨b, rfl, hb1, S⟩
  refine w_mid' none (fun (x : SV [.c (.int .i64)]) h' => ∃ s1 : Nat, x = ((s1 : Int), ()) ∧ ((s1 = i ∧ ∀ a c, w'[i]? = some a → w'[2 * i + 1]? = some c → ltE o a c = true) ∨ (s1 = 2 * i + 1 ∧ s1 < w'.length ∧ ∀ a c, w'[i]? = some a → w'[2 * i + 1]? = some c → ltE o a c = false)) ∧ St h0 G0 (Ow a0 (listC ls cnt np (some p, N, c)) 0 :: Ow p (LE.flat w') k :: l) h') ?_ ?_
  · cases b with
    | true => exact w_true rfl (md_n rfl ⟨2 * i + 1, rfl, .inr ⟨rfl, by rw [hwl]; exact hb1.1, hb1.2⟩, S⟩)
    | false => exact w_false rfl (md_n rfl ⟨i, rfl, .inl ⟨rfl, hb1⟩, S⟩)
  clear S hb1
  rintro _ _ ⟨s1, rfl, hs1, S⟩
  have hs1b : s1 ≤ 2 * i + 1 ∧ (s1 = i ∨ s1 < N) := by
    rcases hs1 with ⟨rfl, _⟩ | ⟨rfl, hl, _⟩
    · exact ⟨by omega, .inl rfl⟩
    · exact ⟨Nat.le_refl _, .inr (by omega)⟩
  refine w_mid' none (fun (x : SV [.c .bool]) h' => ∃ b : Bool, x = (b, ()) ∧ (if b then 2 * i + 2 < N ∧ ∀ a c, w'[s1]? = some a → w'[2 * i + 2]? = some c → ltE o a c = false else ∀ a c, w'[s1]? = some a → w'[2 * i + 2]? = some c → ltE o a c = true) ∧ St h0 G0 (Ow a0 (listC ls cnt np (some p, N, c)) 0 :: Ow p (LE.flat w') k :: l) h') ?_ ?_
  · refine ld_sls S rfl ?_
    by_cases hlt : 2 * i + 2 < N
    · have ha := List.getElem?_eq_getElem (show s1 < w'.length by omega)
      have hb := List.getElem?_eq_getElem (show 2 * i + 2 < w'.length by omega)
      refine w_true (lt_t (by (first | omega | ((try dsimp only [Sh.T, Sh1.T]); omega)))) (w_less hls (S.rd rfl) (ld_sls S rfl (w_nonnil (w_guard ⟨by (first | omega | ((try dsimp only [Sh.T, Sh1.T]); omega)), by (first | omega | ((try dsimp only [Sh.T, Sh1.T]); omega))⟩ ?_))))
      try dsimp only
      rw [Int.toNat_natCast]
      refine ld_ek S ha (ld_sls S rfl (w_nonnil (w_guard ⟨by (first | omega | ((try dsimp only [Sh.T, Sh1.T]); omega)), by (first | omega | ((try dsimp only [Sh.T, Sh1.T]); omega))⟩ ?_)))
      rw [Int.toNat_natCast]
      refine ld_ek S hb ?_
      refine st_less S hls (hoc.now S).ex w'[s1].1 (w'[2 * i + 2]).1 fun _ S => md_n rfl ⟨_, rfl, ?_, S⟩
      cases hq : ltO o w'[s1].1 (w'[2 * i + 2]).1 with
      | false => exact ⟨hlt, fun a c h1 h2 => by rw [ha] at h1; rw [hb] at h2; cases h1; cases h2; exact hq⟩
      | true => exact fun a c h1 h2 => by rw [ha] at h1; rw [hb] at h2; cases h1; cases h2; exact hq
    · refine w_false (lt_f (by (first | omega | ((try dsimp only [Sh.T, Sh1.T]); omega)))) (md_n rfl ⟨false, rfl, fun a c h1 h2 => ?_, S⟩)
      rw [List.getElem?_eq_none (by omega)] at h2; cases h2
  clear S
  rintro _ _ ⟨b, rfl, hb2, S⟩
  refine w_mid' none (fun (x : SV [.c (.int .i64)]) h' => ∃ s : Nat, x = ((s : Int), ()) ∧ ((s = s1 ∧ ∀ a c, w'[s1]? = some a → w'[2 * i + 2]? = some c → ltE o a c = true) ∨ (s = 2 * i + 2 ∧ s < w'.length ∧ ∀ a c, w'[s1]? = some a → w'[2 * i + 2]? = some c → ltE o a c = false)) ∧ St h0 G0 (Ow a0 (listC ls cnt np (some p, N, c)) 0 :: Ow p (LE.flat w') k :: l) h') ?_ ?_
  · cases b with
    | true => exact w_true rfl (md_n rfl ⟨2 * i + 2, rfl, .inr ⟨rfl, by rw [hwl]; exact hb2.1, hb2.2⟩, S⟩)
    | false => exact w_false rfl (md_n rfl ⟨s1, rfl, .inl ⟨rfl, hb2⟩, S⟩)
  clear S hb2
  rintro _ _ ⟨s, rfl, hs, S⟩
  obtain ⟨f1, f2⟩ := hd.pick (ordE o) hs1 hs
  by_cases hsi : s = i
  · exact w_true (beq_t (by (first | omega | ((try dsimp only [Sh.T, Sh1.T]); omega)))) (hk _ w' hp (f1 hsi) S |> ln_e)
  · obtain ⟨k1, k2, k3, k4, f3⟩ := f2 hsi
    have ha := List.getElem?_eq_getElem (show i < w'.length by omega)
    have hb := List.getElem?_eq_getElem k4
    refine w_false (beq_f (by (first | omega | ((try dsimp only [Sh.T, Sh1.T]); omega)))) (ld_sls S rfl (ld_sls S rfl (ld_sls S rfl (w_nonnil (w_guard ⟨by (first | omega | ((try dsimp only [Sh.T, Sh1.T]); omega)), by (first | omega | ((try dsimp only [Sh.T, Sh1.T]); omega))⟩ ?_)))))
    try dsimp only
    rw [Int.toNat_natCast]
    refine ld_ee S ha (ld_sls S rfl (w_nonnil (w_guard ⟨by (first | omega | ((try dsimp only [Sh.T, Sh1.T]); omega)), by (first | omega | ((try dsimp only [Sh.T, Sh1.T]); omega))⟩ ?_)))
    rw [Int.toNat_natCast]
    refine ld_ee S hb (w_nonnil (w_guard ⟨by (first | omega | ((try dsimp only [Sh.T, Sh1.T]); omega)), by (first | omega | ((try dsimp only [Sh.T, Sh1.T]); omega))⟩ ?_))
    refine st_ee S k4 w'[i] fun _ S => ?_
    refine w_nonnil (w_guard ⟨by (first | omega | ((try dsimp only [Sh.T, Sh1.T]); omega)), by (first | omega | ((try dsimp only [Sh.T, Sh1.T]); omega))⟩ ?_)
    refine st_ee S (by rw [List.length_set]; omega) w'[s] fun _ S => ?_
    exact ln_n rfl (N - s) ⟨s, _, rfl, .inr (by omega), rfl, by rw [List.length_set, List.length_set]; exact hwl, (sw_perm ha hb).trans hp, f3 _ _ ha hb, S⟩ (by omega)
set_option maxHeartbeats 2000000 in
theorem c_pop0 {a0 : PA} {cnt np : Int} {s : SlT} (hs : OwnL LE s []) {G : PA → Prop} (hG : Star [Ow a0 (listC ls cnt np s) 0] h G) :
    HT Try.prog fn_lg_pop [.c (.addr a0)] true [.agg [.int .i64, .int .i64, .ptr], .c .bool] h fun r h' => ∃ post, (r = ((0, 0, none, ()), false, ()) ∧ post = [Ow a0 (listC ls cnt np s) 0]) ∧ St h G post h' := by
  apply hc_lg_pop
  unfold M_lg_pop
  have hn : s.2.1 = 0 := hs.1
  refine st_alloc (St.start hG) fun n0 _ S => ?_
  refine ld_sl S s.1 s.2.1 s.2.2 rfl (w_true (beq_t (by (first | omega | ((try dsimp only [Sh.T, Sh1.T]); omega)))) ?_)
  refine st_store S (lt_ble rfl) fun _ S => ?_
  refine st_store S (lt_ble rfl) fun _ S => ?_
  refine st_store S (lt_ble rfl) fun _ S => ?_
  refine ld_int S rfl (ld_int S rfl (ld_nil S rfl ?_))
  exact rt_n rfl rfl ⟨_, ⟨rfl, rfl⟩, S.drop⟩
set_option maxHeartbeats 4000000 in
theorem c_pop {a0 : PA} {cnt np : Int} {p : PA} {n c : Nat} {q : List El} {m : El} (hls : Lss ls oc o) (hm : q[0]? = some m) (hn : n = q.length) (hq : Hpq (ltE o) q) (hlen : q.length ≤ 4294967296) {G : PA → Prop} (hoc : Bes oc h G) (hc : n ≤ c) (hG : Star [Ow a0 (listC ls cnt np (some p, n, c)) 0, Ow p (LE.flat q) ((c - n) * LE.sz)] h G) :
    HT Try.prog fn_lg_pop [.c (.addr a0)] true [.agg [.int .i64, .int .i64, .ptr], .c .bool] h fun r h' => ∃ post, (∃ q' : List El, r = ((m.1.1, m.1.2, ptE m, ()), true, ()) ∧ Hpq (ltE o) q' ∧ (m :: q').Perm q ∧ post = [Ow a0 (listC ls cnt np (some p, n - 1, c)) 0, Ow p (LE.flat q') ((c - (n - 1)) * LE.sz)]) ∧ St h G post h' := by
  apply hc_lg_pop
  unfold M_lg_pop
  have hql : 0 < q.length := (List.getElem?_eq_some_iff.1 hm).1
  obtain ⟨z, hz⟩ : ∃ z, q[n - 1]? = some z := ⟨_, List.getElem?_eq_getElem (by omega)⟩
  have hgl : q.getLast? = some z := by rw [List.getLast?_eq_getElem?, ← hn]; exact hz
  have hpp := dw_perm hm hgl
  have hds := dw_start (z := z) hq
  refine st_alloc (St.start hG) fun n0 _ S => ?_
  refine ld_sls S rfl (w_false (beq_f (by (first | omega | ((try dsimp only [Sh.T, Sh1.T]); omega)))) ?_)
  refine st_alloc S fun n5 _ S => ?_
  refine ld_sls S rfl (ld_sls S rfl (w_nonnil (w_guard ⟨by (first | omega | ((try dsimp only [Sh.T, Sh1.T]); omega)), by (first | omega | ((try dsimp only [Sh.T, Sh1.T]); omega))⟩ ?_)))
  refine ld_ee0 S hm (ld_sls S rfl (ld_sls S rfl (w_guard (inK64 (by (first | omega | ((try dsimp only [Sh.T, Sh1.T]); omega))) (by (first | omega | ((try dsimp only [Sh.T, Sh1.T]); omega)))) (w_nonnil (w_guard ⟨by (first | omega | ((try dsimp only [Sh.T, Sh1.T]); omega)), by (first | omega | ((try dsimp only [Sh.T, Sh1.T]); omega))⟩ ?_)))))
  dsimp only
  rw [toNat_pred]
  refine ld_ee S hz ?_
  refine st_store S (lt_ble rfl) fun _ S => ?_
  refine st_store S (lt_ble rfl) fun _ S => ?_
  refine st_store S (lt_ble rfl) fun _ S => ?_
  refine hd_ee S hz (st_held S rfl (st_held S rfl (st_held S rfl (w_nonnil (w_guard ⟨by (first | omega | ((try dsimp only [Sh.T, Sh1.T]); omega)), by (first | omega | ((try dsimp only [Sh.T, Sh1.T]); omega))⟩ ?_)))))
  refine st_ee0 S hql z fun _ S => ?_
  refine ld_sls S rfl (ld_sls S rfl (w_guard (inK64 (by (first | omega | ((try dsimp only [Sh.T, Sh1.T]); omega))) (by (first | omega | ((try dsimp only [Sh.T, Sh1.T]); omega)))) (w_guard ⟨by (first | omega | ((try dsimp only [Sh.T, Sh1.T]); omega)), by (first | omega | ((try dsimp only [Sh.T, Sh1.T]); omega))⟩ (st_store S (lt_ble rfl) fun _ S => ?_))))
  obtain ⟨w, hw⟩ : ∃ w, w = (q.set 0 z).dropLast := ⟨_, rfl⟩
  have hwl : w.length = n - 1 := by rw [hw]; simp [hn]
  have hsl : ∃ y, q.set 0 z = w ++ [y] := by
    obtain ⟨a, y, e⟩ := snoc_of (l := q.set 0 z) (by rw [List.length_set]; exact hql)
    exact ⟨y, by rw [hw, e, List.dropLast_concat]⟩
  obtain ⟨y, hy⟩ := hsl
  rw [hy] at S
  rw [← hw] at hds hpp
  have S := ((S.at (.ow p)).re p (LE.flat w ++ LE.flat [y]) _ rfl (LE.flat_append w [y]) rfl).shrink
  have S := S.re p (LE.flat w) ((c - (n - 1)) * LE.sz) rfl rfl (by rw [LE.flat_length, ← Nat.add_mul]; congr 1; show 1 + _ = _; omega)
  have S := (S.at (.ow a0)).re a0 (listC ls cnt np (some p, n - 1, c)) 0 rfl (by rw [slBase_zero]; simp only [toNat_pred]; rfl) rfl
  have S := S.ats [.ow a0, .ow p]
  refine w_bnd (w_down (l := _ :: _ :: []) hls hwl (by omega) hds hoc S fun h' w' hp' hw' S => bd_e rfl ?_)
  refine ld_int S rfl (ld_int S rfl (ld_ptr S (ptE m) rfl ?_))
  refine st_store S (lt_ble rfl) fun _ S => ?_
  refine st_store S (lt_ble rfl) fun _ S => ?_
  refine st_store S (lt_ble rfl) fun _ S => ?_
  refine ld_int S rfl (ld_int S rfl (ld_ptr S (ptE m) rfl ?_))
  exact rt_n rfl rfl ⟨_, ⟨w', rfl, hw', (List.Perm.cons m hp').trans hpp, rfl⟩, S.only [.ow a0, .ow p]⟩
set_option maxHeartbeats 2000000 in
theorem c_lappend {a0 : PA} {cnt np : Int} {s : SlT} {q : List El} {x : El} (hls : Lss ls oc o) (hs : OwC s q) (hq : Hpq (ltE o) q) (hlen : q.length ≤ 4294967295) {G : PA → Prop} (hoc : Bes oc h G)
    (hx : ∀ s, x.2 = some s → Bes (RdC (s.2.1, 1) (.int .i64 (flatB s.1 s.2.2).length)) h G) (hc0 : 0 ≤ cnt) (hc1 : cnt + (flE x).length ≤ 4294967296) (hG : Star [Ow a0 (listC ls cnt np s) 0, SlC s LE.sz (LE.flat q)] h G) :
    HT Try.prog fn_lg_append [.c (.addr a0), .agg [.int .i64 x.1.1, .int .i64 x.1.2], .c (.ptr (ptE x))] true [] h fun _ h' => ∃ post, (∃ (s' : SlT) (q' : List El), OwC s' q' ∧ Hpq (ltE o) q' ∧ q'.Perm (q ++ [x]) ∧ post = [Ow a0 (listC ls (cnt + (flE x).length) np s') 0, SlC s' LE.sz (LE.flat q')]) ∧ St h G post h' := by
  apply hc_lg_append
  unfold M_lg_append
  refine st_alloc (St.start hG) fun n0 _ S => ?_
  have hfl : 1 ≤ (flE x).length := by simp [flE]
  refine ld_int S rfl (w_guard (inK64 (by (first | omega | ((try dsimp only [Sh.T, Sh1.T]); omega))) (by (first | omega | ((try dsimp only [Sh.T, Sh1.T]); omega)))) (st_store S (lt_ble rfl) fun _ S => ?_))
  refine w_mid' none (fun (_ : SV []) h' => St h G [Ow (n0, 0) (LT.cells x.1) 0, Ow a0 (listC ls (cnt + (flE x).length) np s) 0, SlC s LE.sz (LE.flat q)] h') ?_ ?_
  · obtain ⟨x1, x2⟩ := x
    cases x2 with
    | none =>
      refine w_false rfl (md_n rfl ?_)
      exact S
    | some u =>
      have hr := hx u rfl
      refine w_true rfl (ld_int S rfl (w_nonnil (w_int _ (hr.now S).rd (w_guard (inK64 ?_ ?_) (st_store S (lt_ble rfl) fun _ S => md_n rfl ?_)))))
      · (first | omega | ((try dsimp only [Sh.T, Sh1.T]); omega))
      · simp only [flE, List.length_cons] at hc1
        (first | omega | ((try dsimp only [Sh.T, Sh1.T]); omega))
      have S := (S.at (.ow a0)).re a0 (listC ls (cnt + (flE (x1, some u)).length) np s) 0 rfl (by
        simp only [flE, List.length_cons, listC, List.set_cons_succ, List.set_cons_zero, Cell.val]
        rw [show cnt + 1 + ((flatB u.1 u.2.2).length : Int) = cnt + (((flatB u.1 u.2.2).length + 1 : Nat) : Int) by omega]) rfl
      exact S.ats [.ow (n0, 0), .ow a0, .sl s]
  clear S
  rintro _ _ S
  refine ld_int S rfl (ld_int S rfl ?_)
  refine st_callF S [.ow a0, .sl s] (fun G' hG' hsub => c_push (x := x) hls hs hq hlen (hoc.step S hsub) hG') ?_
  rintro _ _ _ ⟨s', q', hs', hq', hp', rfl⟩ S
  dsimp only [List.cons_append, List.nil_append] at S
  exact rt_n rfl rfl ⟨_, ⟨s', q', hs', hq', hp', rfl⟩, S.only [.ow a0, .sl s']⟩
theorem c_Clear {a0 : PA} {ls' : Value} {cnt np : Int} {s : SlT} {G : PA → Prop} (hG : Star [Ow a0 (listC ls' cnt np s) 0] h G) :
    HT Try.prog fn_lg_Clear [.c (.addr a0)] true [] h fun _ h' => ∃ post, post = [Ow a0 (listC Value.nilFunc 0 0 (s.1, 0, s.2.2)) 0] ∧ St h G post h' := by
  apply hc_lg_Clear
  unfold M_lg_Clear
  refine st_store (St.start hG) (lt_ble rfl) fun _ S => ?_
  refine ld_sl S s.1 s.2.1 s.2.2 rfl (w_guard ⟨by (first | omega | ((try dsimp only [Sh.T, Sh1.T]); omega)), by (first | omega | ((try dsimp only [Sh.T, Sh1.T]); omega))⟩ ?_)
  refine st_store S (lt_ble rfl) fun _ S => ?_
  refine st_store S (lt_ble rfl) fun _ S => ?_
  refine st_store S (lt_ble rfl) fun _ S => ?_
  refine rt_n rfl rfl ⟨_, rfl, S.re a0 _ 0 rfl ?_ rfl⟩
  dsimp only
  rw [show slBase s.1 s.2.2 0 3 = s.1 by
    cases s.1 with
    | some p => exact slBase_zero
    | none => unfold slBase; split <;> rfl]
  rfl
end
end Go.Proofs.Ytegnpimlfphncaa.TG
