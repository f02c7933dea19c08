/-
  Functions that are handed on and called with one item after another until one answers false. Conditions: none.
-/
import Derived.Test.YtegnpimlfphncaaBe
set_option linter.unusedVariables false
set_option linter.unusedSimpArgs false
set_option linter.unusedSectionVars false
set_option maxRecDepth 100000
namespace Go.Proofs.Ytegnpimlfphncaa
open Go
section
variable {I : Type}
def run (go : List I → I → Bool) : List I → List I → List I × Bool
  | acc, [] => (acc, true)
  | acc, x :: xs => if go acc x then run go (acc ++ [x]) xs else (acc ++ [x], false)
def goN (n : Int) (acc : List I) (_ : I) : Bool := decide (n < 1) || decide ((acc.length : Int) + 1 < n)
def Cbk (P : Program) (f : Value) (arg : I → List AV) (K : List I → Ck) (go : List I → I → Bool) (mx : Nat) : Prop :=
  ∀ (h : H) (G : PA → Prop) (acc : List I) (x : I), acc.length < mx → Star [K acc] h G → callOf P f ((arg x).map AV.val).toArray h (TR false [.c .bool] fun r h' => r = (go acc x, ()) ∧ St h G [K (acc ++ [x])] h')
section
variable {P : Program} {Q : Ex → List AV → H → Prop} {h h0 : H} {G0 : PA → Prop} {l : List Ck}
theorem st_cb {f : Value} {arg : I → List AV} {K : List I → Ck} {go : List I → I → Bool} {mx : Nat} {acc : List I} {r : List Ck} (s : St h0 G0 (K acc :: r) h) (hcb : Cbk P f arg K go mx) (x : I) (hl : acc.length < mx) {args : List AV} (ha : args.map AV.val = (arg x).map AV.val) {k : SV [.c .bool] → M}
    (hw : ∀ h', St h0 G0 (K (acc ++ [x]) :: r) h' → wp P (k (go acc x, ())) Q h') : wp P (.callv f args false [.c .bool] k) Q h := by
  obtain ⟨⟨G, h1, h2⟩, h3⟩ := s
  obtain ⟨A, B, a1, a2, a3, a4⟩ := Star.split (l := [K acc]) (m := r) h1
  have hc := hcb h A acc x hl a1
  rw [← ha] at hc
  refine w_callOf hc fun v h' ⟨y, e, hy, hS⟩ => ?_
  subst hy
  refine ⟨(go acc x, ()), e, hw h' ?_⟩
  obtain ⟨⟨C, c1, c2⟩, c3⟩ := hS
  have hB := a2.lt
  refine ⟨⟨un C B, Star.append c1 (a2.out c3 a3.symm) (fun x hC hx => (c2 x hC).elim (fun hA => a3 x hA hx) (fun hs => Nat.not_le_of_lt (hB x hx) hs)), fun x hx => ?_⟩,
    h3.then c3 fun x hx hA => (h2 x ((a4 x).2 (.inl hA))).elim id (fun hs => absurd hx (Nat.not_lt_of_le hs))⟩
  rcases hx with hC | hB'
  · rcases c2 x hC with hA | hs
    · exact h2 x ((a4 x).2 (.inl hA))
    · exact .inr (Nat.le_trans h3.size hs)
  · exact h2 x ((a4 x).2 (.inr hB'))
end
end
section
variable {I : Type} {n : Nat}
end
section
variable {I : Type} {lt : I → I → Bool}
theorem pos_app {x : I} : ∀ {A B : List I}, (∀ a ∈ A, lt a x = true) → (∀ b, B.head? = some b → lt b x = false) → pos lt (A ++ B) x = A.length
  | [], [], _, _ => rfl
  | [], b :: B, _, h2 => by simp [pos, h2 b rfl]
  | a :: A, B, h1, h2 => by
    have ih := pos_app (x := x) (A := A) (B := B) (fun b hb => h1 b (by simp [hb])) h2
    unfold pos at ih ⊢
    simp [h1 a (by simp), ih]
theorem drop_here (o : Ord lt) {xs : List I} {ts : List (List I)} (hl : ts.length = xs.length + 1) (hs : Srt lt (weave xs ts)) {x y : I} (hf : fnd lt xs x = some y) :
    (weave xs ts).drop (pos lt (weave xs ts) x) = post (xs.drop (pos lt xs x)) (ts.drop (pos lt xs x + 1)) := by
  obtain ⟨hlt, hy, hxy⟩ := fnd_some_lt hf
  have hyx : lt y x = false := by
    cases hq : lt y x with
    | false => rfl
    | true =>
      have := (pos_spec o (srt_items hl hs) x _ y hy).2 hq
      omega
  obtain ⟨m, hm⟩ : ∃ m, ts[pos lt xs x]? = some m := ⟨_, List.getElem?_eq_getElem (by omega)⟩
  obtain ⟨u, hu⟩ : ∃ u, ts[pos lt xs x + 1]? = some u := ⟨_, List.getElem?_eq_getElem (by omega)⟩
  generalize pos lt xs x = i at *
  have e := weave_at (Nat.le_of_lt hlt) hm
  rw [← List.append_assoc] at e
  have hp : post (xs.drop i) (ts.drop (i + 1)) = y :: (u ++ post (xs.drop (i + 1)) (ts.drop (i + 2))) := post_cons hy hu
  rw [e] at hs ⊢
  obtain ⟨g1, g2, g3⟩ := srt_append.1 hs
  rw [pos_app (fun a ha => ?_) (fun b hb => ?_), List.drop_left]
  · have := g3 a ha y (by rw [hp]; simp)
    cases hq : lt a x with
    | true => rfl
    | false => rw [o.neg _ _ _ hq hxy] at this; cases this
  · rw [hp] at hb
    simp at hb; subst hb; exact hyx
end
end Go.Proofs.Ytegnpimlfphncaa
