/-
  From a law's contract to its row: lists of truth values as arguments. Conditions: none.
-/
import Derived.Test.YtgniflegbdeokaaLiftW
set_option linter.unusedVariables false
set_option linter.unusedSimpArgs false
set_option linter.unusedSectionVars false
set_option maxRecDepth 100000
namespace Go.Proofs.Ytgniflegbdeokaa
open Go Go.ChangeShapes Go.WideShapes Go.ChangeAt Go.RowKit Go.Deep
section
variable {H' : Type} {enc : TypeId × Value → H'} {W W' : World}
theorem open_boolsQ {P : Program} {t e : TypeId} {d : DataW H'} {v : Value} {p : List MemPlace} {base : Nat} (ht : P.underlying t = some (.slice e)) (he : P.underlying e = some .bool) (hc : P.cellsOf e = 1)
    (hv : Value.okWide P W .any base t v) (h : DataW.Trod enc P W 0 (fun _ => true) true t v d p) :
    ∃ (sp : Option PA) (n cap : Nat) (xs : List Bool), v = Cell.val (.sl sp n cap) ∧ Rdr (BaC W.heap) (sp, n, cap) LQ xs := by
  have hv0 : Cell.ok P W .any base t v := by simpa [Value.okWide, Cell.okWide, ht] using hv
  obtain ⟨fuel, hf⟩ := h
  rcases open_slice ht hf with ⟨h1, _⟩ | ⟨a, len, cap, m, n, D, Pl, hcs, _, hl, hm, hmm, _, hi⟩
  · have : v = .slice none 0 0 := by cases v <;> simp_all [Value.cells, Cell.ok]
    subst this
    exact ⟨none, 0, 0, [], rfl, Rdr.nil⟩
  · have : v = .slice (some a) len cap := by cases v <;> simp_all [Value.cells, Cell.ok]
    subst this
    obtain ⟨b, o, spot⟩ := a
    have hs : spot = none := by
      simp only [Cell.ok, ht] at hv0
      exact hv0.2.2.2.1
    subst hs
    simp only [if_true] at hmm
    subst hmm
    have hall : ∀ i, i < m → ∃ x : Bool, rd W.heap (b, o + i) = some (.bool x) := by
      intro i him
      obtain ⟨cs', hcells, hd⟩ := hi i him
      rw [hc] at hcells
      obtain ⟨x, hx, _⟩ := DataW.trod_bool he hd
      obtain ⟨_, hcl, hat⟩ := World.cells?_some hcells
      have hcs : cs' = [.bool x] := by simpa using hx
      subst hcs
      have a0 := hat 0 (by simp)
      rw [Go.Deep.add_add, rd_add] at a0
      exact ⟨x, by simpa using a0⟩
    obtain ⟨xs, hxl, hx⟩ := pick_list m hall
    refine ⟨some (b, o), len, m, xs.take len, rfl, ?_⟩
    refine BaC.rdr (by simp [hxl]; omega) hl (.inr ⟨_, rfl, rds_flat fun i x hi' j v hj => ?_⟩)
    have hxi : xs[i]? = some x := by rw [List.getElem?_take] at hi'; split at hi'; exact hi'; cases hi'
    have r0 := hx i x hxi
    match j, hj with
    | 0, hj => simp only [LQ, List.getElem?_cons_zero, Option.some.injEq] at hj; subst hj; simpa [LQ] using r0
    | j + 1, hj => simp [LQ] at hj
end
end Go.Proofs.Ytgniflegbdeokaa
