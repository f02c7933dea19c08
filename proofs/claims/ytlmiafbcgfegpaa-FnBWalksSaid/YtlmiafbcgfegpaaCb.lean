/-
  Functions that are handed on and called with one item after another until one answers false. Conditions: none.
-/
import Derived.Test.YtlmiafbcgfegpaaBe
set_option linter.unusedVariables false
set_option linter.unusedSimpArgs false
set_option linter.unusedSectionVars false
set_option maxRecDepth 100000
namespace Go.Proofs.Ytlmiafbcgfegpaa
open Go
section
variable {I : Type}
def run (go : List I → I → Bool) : List I → List I → List I × Bool
  | acc, [] => (acc, true)
  | acc, x :: xs => if go acc x then run go (acc ++ [x]) xs else (acc ++ [x], false)
theorem run_app (go : List I → I → Bool) : ∀ (xs ys acc : List I), run go acc (xs ++ ys) = if (run go acc xs).2 then run go (run go acc xs).1 ys else run go acc xs
  | [], ys, acc => by simp [run]
  | x :: xs, ys, acc => by
    have ih := run_app go xs ys (acc ++ [x])
    simp only [List.cons_append, run]
    by_cases hg : go acc x = true
    · simp only [hg, if_true]; exact ih
    · simp [hg]
theorem run_on {go : List I → I → Bool} {xs acc : List I} (ys : List I) (h : (run go acc xs).2 = true) : run go acc (xs ++ ys) = run go (run go acc xs).1 ys := by rw [run_app, if_pos h]
theorem run_stop {go : List I → I → Bool} {xs acc : List I} (ys : List I) (h : (run go acc xs).2 = false) : run go acc (xs ++ ys) = run go acc xs := by rw [run_app, if_neg (by simp [h])]
theorem run_one (go : List I → I → Bool) (acc : List I) (x : I) : run go acc [x] = (acc ++ [x], go acc x) := by
  simp only [run]
  cases go acc x <;> rfl
theorem run_len (go : List I → I → Bool) : ∀ (xs acc : List I), (run go acc xs).1.length ≤ acc.length + xs.length
  | [], acc => by simp [run]
  | x :: xs, acc => by
    have ih := run_len go xs (acc ++ [x])
    simp only [run]
    by_cases hg : go acc x = true
    · simp only [hg, if_true]; simp at ih ⊢; omega
    · simp [hg]
def goN (n : Int) (acc : List I) (_ : I) : Bool := decide (n < 1) || decide ((acc.length : Int) + 1 < n)
theorem run_goN (n : Int) : ∀ (xs acc : List I), (1 ≤ n → (acc.length : Int) < n) → (run (goN n) acc xs).1 = acc ++ (if n < 1 then xs else xs.take (n.toNat - acc.length))
  | [], acc, _ => by simp [run]
  | x :: xs, acc, h => by
    simp only [run]
    by_cases h1 : n < 1
    · have hg : goN n acc x = true := by simp [goN, h1]
      rw [if_pos hg, run_goN n xs (acc ++ [x]) (fun h2 => by omega)]
      simp [h1]
    · have hn := h (by omega)
      by_cases h2 : (acc.length : Int) + 1 < n
      · have hg : goN n acc x = true := by simp [goN, h2]
        rw [if_pos hg, run_goN n xs (acc ++ [x]) (fun _ => by simp; omega)]
        simp only [h1, if_false]
        rw [show n.toNat - acc.length = (n.toNat - (acc ++ [x]).length) + 1 by simp; omega]
        simp
      · have hg : goN n acc x = false := by simp [goN, h1, h2]
        rw [if_neg (by simp [hg])]
        simp only [h1, if_false]
        rw [show n.toNat - acc.length = 1 by omega]
        simp
def firstO (xs : List I) (n : Int) : List I := if n < 1 ∨ n > xs.length then xs else xs.take n.toNat
theorem run_first (n : Int) (xs : List I) : (run (goN n) [] xs).1 = firstO xs n := by
  rw [run_goN n xs [] (fun h => by simp; omega)]
  unfold firstO
  by_cases h1 : n < 1
  · simp [h1]
  · simp only [h1, if_false, List.nil_append, List.length_nil, Nat.sub_zero, false_or]
    split
    · rw [List.take_of_length_le (by omega)]
    · rfl
def Cbk (P : Program) (f : Value) (arg : I → List AV) (K : List I → Ck) (go : List I → I → Bool) (mx : Nat) : Prop :=
  ∀ (h : H) (G : PA → Prop) (acc : List I) (x : I), acc.length < mx → Star [K acc] h G → callOf P f ((arg x).map AV.val).toArray h (TR false [.c .bool] fun r h' => r = (go acc x, ()) ∧ St h G [K (acc ++ [x])] h')
section
variable {P : Program} {Q : Ex → List AV → H → Prop} {h h0 : H} {G0 : PA → Prop} {l : List Ck}
theorem st_cb {f : Value} {arg : I → List AV} {K : List I → Ck} {go : List I → I → Bool} {mx : Nat} {acc : List I} {r : List Ck} (s : St h0 G0 (K acc :: r) h) (hcb : Cbk P f arg K go mx) (x : I) (hl : acc.length < mx) {args : List AV} (ha : args.map AV.val = (arg x).map AV.val) {k : SV [.c .bool] → M}
    (hw : ∀ h', St h0 G0 (K (acc ++ [x]) :: r) h' → wp P (k (go acc x, ())) Q h') : wp P (.callv f args false [.c .bool] k) Q h := by
  obtain ⟨⟨G, h1, h2⟩, h3⟩ := s
  obtain ⟨A, B, a1, a2, a3, a4⟩ := Star.split (l := [K acc]) (m := r) h1
  have hc := hcb h A acc x hl a1
  rw [← ha] at hc
  refine w_callOf hc fun v h' ⟨y, e, hy, hS⟩ => ?_
  subst hy
  refine ⟨(go acc x, ()), e, hw h' ?_⟩
  obtain ⟨⟨C, c1, c2⟩, c3⟩ := hS
  have hB := a2.lt
  refine ⟨⟨un C B, Star.append c1 (a2.out c3 a3.symm) (fun x hC hx => (c2 x hC).elim (fun hA => a3 x hA hx) (fun hs => Nat.not_le_of_lt (hB x hx) hs)), fun x hx => ?_⟩,
    h3.then c3 fun x hx hA => (h2 x ((a4 x).2 (.inl hA))).elim id (fun hs => absurd hx (Nat.not_lt_of_le hs))⟩
  rcases hx with hC | hB'
  · rcases c2 x hC with hA | hs
    · exact h2 x ((a4 x).2 (.inl hA))
    · exact .inr (Nat.le_trans h3.size hs)
  · exact h2 x ((a4 x).2 (.inr hB'))
end
end
section
variable {I : Type} {n : Nat}
theorem ah_at {xs : List I} {ts : List (BT I n)} {i : Nat} {u : BT I n} (hl : ts.length = xs.length + 1) (hu : ts[i]? = some u) : ∃ B, flatB (n + 1) ((xs, ts) : BT I (n + 1)) = ahead xs ts i ++ (flatB n u ++ B) := by
  obtain ⟨h3, h4⟩ := List.getElem?_eq_some_iff.1 hu
  refine ⟨post (xs.drop i) ((ts.map (flatB n)).drop (i + 1)), ?_⟩
  show weave xs (ts.map (flatB n)) = _
  rw [weave_at (i := i) (by omega) (m := flatB n u) (by rw [List.getElem?_map, hu]; rfl)]
  simp only [ahead, List.map_take]
theorem ah_at2 {xs : List I} {ts : List (BT I n)} {i : Nat} {u : BT I n} {x : I} (hl : ts.length = xs.length + 1) (hu : ts[i]? = some u) (hx : xs[i]? = some x) : ∃ B, flatB (n + 1) ((xs, ts) : BT I (n + 1)) = ahead xs ts i ++ (flatB n u ++ [x]) ++ B := by
  obtain ⟨h1, h2⟩ := List.getElem?_eq_some_iff.1 hx
  obtain ⟨v, hv⟩ : ∃ v, ts[i + 1]? = some v := ⟨_, List.getElem?_eq_getElem (by omega)⟩
  obtain ⟨B, hB⟩ := ah_at hl hv
  rw [ah_succ hl hx hu] at hB
  exact ⟨_, hB⟩
end
section
variable {I : Type} {lt : I → I → Bool}
end
end Go.Proofs.Ytlmiafbcgfegpaa
