/-
  A row's small whole numbers. Conditions: none.
-/
import Derived.Test.YthcgddidkoejbaaLift
set_option linter.unusedVariables false
set_option linter.unusedSimpArgs false
set_option linter.unusedSectionVars false
set_option maxRecDepth 100000
namespace Go.Proofs.Ythcgddidkoejbaa
open Go Go.ChangeShapes Go.WideShapes Go.ChangeAt Go.RowKit

section
variable {H' : Type} {enc : TypeId × Value → H'} {W : World}
theorem open_u16 {t : TypeId} {d : DataW H'} {v : Value} {p : List MemPlace} {base : Nat} (ht : Try.prog.underlying t = some (.int .u16)) (hv : Value.okWide Try.prog W .any base t v) (h : DataW.Trod enc Try.prog W 0 (fun _ => true) true t v d p) :
    ∃ n : Nat, v = .int .u16 n ∧ n ≤ 65535 := by
  obtain ⟨n, rfl, rfl, rfl, w⟩ := open_int ht hv h
  have hw : 0 ≤ n ∧ n ≤ 65535 := by simpa [Lit.wf, IntKind.min, IntKind.max, IntKind.signed, IntKind.bits] using w
  exact ⟨n.toNat, by rw [Int.toNat_of_nonneg hw.1], by omega⟩
theorem open_u8 {t : TypeId} {d : DataW H'} {v : Value} {p : List MemPlace} {base : Nat} (ht : Try.prog.underlying t = some (.int .u8)) (hv : Value.okWide Try.prog W .any base t v) (h : DataW.Trod enc Try.prog W 0 (fun _ => true) true t v d p) :
    ∃ n : Nat, v = .int .u8 n ∧ n ≤ 255 := by
  obtain ⟨n, rfl, rfl, rfl, w⟩ := open_int ht hv h
  have hw : 0 ≤ n ∧ n ≤ 255 := by simpa [Lit.wf, IntKind.min, IntKind.max, IntKind.signed, IntKind.bits] using w
  exact ⟨n.toNat, by rw [Int.toNat_of_nonneg hw.1], by omega⟩
end
end Go.Proofs.Ythcgddidkoejbaa
