/-
  Orders that are handed on as functions; calls beside pieces. Conditions: none.
-/
import Derived.Test.YtegnpimlfphncaaIt
import Derived.Test.YtegnpimlfphncaaBe
set_option linter.unusedVariables false
set_option linter.unusedSimpArgs false
set_option linter.unusedSectionVars false
set_option maxRecDepth 100000
namespace Go.Proofs.Ytegnpimlfphncaa
open Go
section
variable {P : Program} {Q : Ex → List AV → H → Prop} {h h0 : H} {G0 : PA → Prop} {l : List Ck}
def RsC (a : PA) (vs : List Value) : Ck where
  p h F := Go.Proofs.Ytegnpimlfphncaa.rds h a vs ∧ ∀ x, F x ↔ rng a vs.length x
  out := fun ⟨o, e⟩ f hd => ⟨fun i v hi => by
    have hlt : i < vs.length := (List.getElem?_eq_some_iff.1 hi).1
    rw [f.rd _ (rd_lt (o i v hi)) (hd _ ((e _).2 ⟨rfl, Nat.le_add_right _ _, Nat.add_lt_add_left hlt _⟩))]; exact o i v hi, e⟩
  lt := fun ⟨o, e⟩ x hx => by
    obtain ⟨h1, h2, h3⟩ := (e x).1 hx
    have hlt : x.2 - _ < vs.length := Nat.sub_lt_left_of_lt_add h2 h3
    have := rd_lt (o _ _ (List.getElem?_eq_getElem hlt))
    rw [h1]; exact this
theorem Bes.rds {a : PA} {vs : List Value} {G : PA → Prop} (d : Bes (RsC a vs) h G) : Go.Proofs.Ytegnpimlfphncaa.rds h a vs := by obtain ⟨F, ⟨o, _⟩, _⟩ := d; exact o
theorem st_callS (s : St h0 G0 l h) (qs : List Kq) {cs r m : List Ck} [Pks qs l cs r m] {f : FuncId} {args : List AV} {tup : Bool} {ss : List Sh} {k : SV ss → M} {R : SV ss → List Ck → Prop}
    (hc : ∀ G B, Star cs h G → Star r h B → dj G B → (∀ x, G x → G0 x ∨ h0.size ≤ x.1) → HT P f args tup ss h fun x h' => ∃ post, R x post ∧ St h G post h')
    (hw : ∀ x post h', R x post → St h0 G0 (post ++ r) h' → wp P (k x) Q h') : wp P (.call f args tup ss k) Q h := by
  have s' := s.perm (Pks.perm qs (m := m))
  obtain ⟨⟨G, h1, h2⟩, h3⟩ := s'
  obtain ⟨A, B, a1, a2, a3, a4⟩ := h1.split
  refine HC.mono (hc A B a1 a2 a3 fun x hx => h2 x ((a4 x).2 (.inl hx))) fun v h' ⟨x, e, post, hR, hS⟩ => ⟨x, e, ?_⟩
  refine hw x post h' hR ?_
  obtain ⟨⟨C, c1, c2⟩, c3⟩ := hS
  have hB := a2.lt
  refine ⟨⟨un C B, c1.append (a2.out c3 a3.symm) (fun x hC hx => (c2 x hC).elim (fun hA => a3 x hA hx) (fun hs => Nat.not_le_of_lt (hB x hx) hs)), fun x hx => ?_⟩,
    h3.then c3 fun x hx hA => (h2 x ((a4 x).2 (.inl hA))).elim id (fun hs => absurd hx (Nat.not_lt_of_le hs))⟩
  rcases hx with hC | hB'
  · rcases c2 x hC with hA | hs
    · exact h2 x ((a4 x).2 (.inl hA))
    · exact .inr (Nat.le_trans h3.size hs)
  · exact h2 x ((a4 x).2 (.inr hB'))
theorem bes {G B : PA → Prop} (s : Star l h B) (hd : dj G B) {a : PA} {vs : List Value} {j k : Nat} {l' : List Value → List Ck} [Fi l a vs j k l'] {v : Value} (hv : vs[j]? = some v) : Bes (RdC a v) h G := by
  obtain ⟨b, F, B', e, o, eF, _, eG, _⟩ := Fi.ok (self := ‹Fi l a vs j k l'›) h B s
  have hj : j < vs.length := (List.getElem?_eq_some_iff.1 hv).1
  subst e
  exact .mk (o.rd j v hv) fun hG => hd _ hG ((eG _).2 (.inl ((eF _).2 ⟨rfl, Nat.le_add_right _ _, Nat.add_lt_add_left (by omega) _⟩)))
theorem besR {G B : PA → Prop} (s : Star l h B) (hd : dj G B) {a : PA} {vs : List Value} {k : Nat} {l' : List Value → List Ck} [Fi l a vs 0 k l'] : Bes (RsC a vs) h G := by
  obtain ⟨b, F, B', e, o, eF, _, eG, _⟩ := Fi.ok (self := ‹Fi l a vs 0 k l'›) h B s
  have e : a = b := by rw [e]; rfl
  subst e
  refine ⟨rng a vs.length, ⟨o.rd, fun _ => Iff.rfl⟩, fun x hx hG => hd _ hG ((eG _).2 (.inl ((eF _).2 ⟨hx.1, hx.2.1, Nat.lt_of_lt_of_le hx.2.2 (by omega)⟩)))⟩
def Lss (ls : Value) (c : Ck) (o : List Int) : Prop :=
  (Cell.raw ls).val = ls ∧ ∀ (h : H) (F : PA → Prop) (a b : IV), c.p h F → callOf Try.prog ls (List.map AV.val [.agg [.int .i64 a.1, .int .i64 a.2], .agg [.int .i64 b.1, .int .i64 b.2]]).toArray h (TR false [.c .bool] fun r h' => r = (ltO o a b, ()) ∧ ∀ G, Star [] h G → St h G [] h')
theorem st_less {Q : Ex → List AV → H → Prop} (s : St h0 G0 l h) {ls : Value} {c : Ck} {o : List Int} (hls : Lss ls c o) (hc : ∃ F, c.p h F) (a b : IV) {k : SV [.c .bool] → M}
    (hw : ∀ h', St h0 G0 l h' → wp Try.prog (k (ltO o a b, ())) Q h') : wp Try.prog (.callv ls [.agg [.int .i64 a.1, .int .i64 a.2], .agg [.int .i64 b.1, .int .i64 b.2]] false [.c .bool] k) Q h := by
  obtain ⟨F, hF⟩ := hc
  refine w_callOf (hls.2 h F a b hF) fun v h' ⟨x, e, hx, hS⟩ => ⟨x, e, ?_⟩
  subst hx
  exact hw h' (St.then (l := []) (l' := []) (m := l) s hS)
theorem w_less {Q : Ex → List AV → H → Prop} {ls : Value} {c : Ck} {o : List Int} (hls : Lss ls c o) {a : PA} {m : Value → M} (hr : Go.Proofs.Ytegnpimlfphncaa.rd h a = some ls) (hw : wp Try.prog (m ls) Q h) : wp Try.prog (.load a .raw m) Q h :=
  w_raw ls (by rw [hls.1]; exact hr) hw
theorem Bes.ex {c : Ck} {G : PA → Prop} (d : Bes c h G) : ∃ F, c.p h F := by obtain ⟨F, hF, _⟩ := d; exact ⟨F, hF⟩
end
end Go.Proofs.Ytegnpimlfphncaa
