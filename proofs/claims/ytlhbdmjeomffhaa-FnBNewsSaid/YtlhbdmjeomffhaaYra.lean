/-
  The map tg: the greatest item; a key sought. Conditions: none.
-/
import Derived.Test.YtlhbdmjeomffhaaYsd
import Derived.Test.YtlhbdmjeomffhaaCb
set_option linter.unusedVariables false
set_option linter.unusedSimpArgs false
set_option linter.unusedSectionVars false
set_option maxRecDepth 100000
namespace Go.Proofs.Ytlhbdmjeomffhaa.TG
open Go Go.Proofs.Ytlhbdmjeomffhaa
section
variable {ls : Value} {oc : Ck} {o : List Int} {hp : Option PA} {h h0 : H} {G0 : PA → Prop} {r : List Ck}
theorem last_child {mn mx n : Nat} {xs : List KV} {ts : List (BT KV n)} {u : BT KV n} (h1 : 1 ≤ mn) (hv : Val mn mx (n + 1) (xs, ts)) (hu : ts[ts.length - 1]? = some u) : (flatB (n + 1) ((xs, ts) : BT KV (n + 1))).getLast? = (flatB n u).getLast? ∧ Val mn mx n u ∧ 1 ≤ (itemsB n u).length := by
  have hl : ts.length = xs.length + 1 := hv.2.1
  obtain ⟨B, w, rfl⟩ := snoc_of (l := ts) (by omega)
  obtain rfl : w = u := by simpa using hu
  have hw := hv.2.2 w (by simp)
  have hne : flatB n w ≠ [] := fun e => by
    have h2 := items_le hw.1
    have h3 : (itemsB n w).length ≤ 0 := by rw [e] at h2; exact h2
    omega
  refine ⟨?_, hw.1, by omega⟩
  simp only [flatB, List.map_append, List.map_cons, List.map_nil]
  rw [weave_last (by simp at hl ⊢; omega), List.getLast?_append]
  cases hq : (flatB n w).getLast? with
  | none => exact (hne (List.getLast?_eq_none_iff.1 hq)).elim
  | some y => rfl
def itR (f : Option KV) : SV [.agg [.int .i64, .int .i64], .c .bool] := (((f.getD (0, 0)).1, (f.getD (0, 0)).2, ()), f.isSome, ())
end
end Go.Proofs.Ytlhbdmjeomffhaa.TG
