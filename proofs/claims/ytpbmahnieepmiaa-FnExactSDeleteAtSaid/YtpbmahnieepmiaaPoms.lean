/-
  The map ms: the first item or the last one popped. Conditions: none.
-/
import Derived.Test.YtpbmahnieepmiaaDfms
set_option linter.unusedVariables false
set_option linter.unusedSimpArgs false
set_option linter.unusedSectionVars false
set_option maxRecDepth 100000
namespace Go.Proofs.Ytpbmahnieepmiaa.MS
open Go Go.Proofs.Ytpbmahnieepmiaa
section
variable {h : H}
def opR (f : Option KV) : SV [.c (.int .i64), .agg [], .c .bool] := match f with
  | some y => (y.1, (), true, ())
  | none => (0, (), false, ())
theorem irr_k (y : KV) : lt (y.1, ()) y = false ∧ lt y (y.1, ()) = false := ⟨ord.irr _, ord.irr _⟩
theorem of_res {n : Nat} {t t' : BT KV n} {dg j : Nat} (hr : Res dg (2 * dg + 1) n t t' j) (hi : 1 ≤ (itemsB n t).length) (hl : (flatB n t').length ≠ 0) : 1 ≤ (itemsB n t').length := by
  cases n with
  | zero =>
    have : (itemsB 0 t').length = (flatB 0 t').length := rfl
    omega
  | succ n => rw [hr.2.2.1 (by omega)]; exact hi
end
end Go.Proofs.Ytpbmahnieepmiaa.MS
