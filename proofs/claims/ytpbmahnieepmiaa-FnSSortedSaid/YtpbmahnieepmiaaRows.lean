/-
  No cell of these rows narrows 'for every input' (looked for: loops, veiled, ifaces, maps, wideKeys, modest, calm, conditions, laid).
  DERIVED. THE GIVEN ROWS OF THIS SEAT. 6 by the template 'for every input the law returns true; each argument reads behind the call as it read before'; 0 by the template 'total and deterministic' (their statements: YtpbmahnieepmiaaTotals.lean).
  GIVEN WITH THE SEED: the statements are not yours to turn. If you find one false, say at which input.
  Laid BY PROGRAM, IN A SANDBOX (cutbox-rows.mjs): the forced cells as the released guide's own fill.sh prints them over the translation aafd8fba3a40d868… (all of the seat's roots in one cut). By AI agents, Wed Nov 11 2026. No macro, syntax, notation, axiom, sorry.
-/
import Derived.Test.YtpbmahnieepmiaaChecked
import GoSem.Claim
import GoSem.ClaimJoined
import GoSem.ClaimMapViews
import Derived.JoinedTies
import Derived.KernelRfl
namespace Go.Proofs.Ytpbmahnieepmiaa
/- THE CELL 'sum', in the pinned program and in every row, IS THE sha256 OF THE DUMP (.gsa) THAT YtpbmahnieepmiaaProg.lean LOADS. Nothing in Lean hashes anything: it is a label: what it is worth is what the hold of that sum in a sandbox is worth. -/
noncomputable def Try.pinned : Pinned := { name := "ytpbmahnieepmiaa", sum := "aafd8fba3a40d868f09b0fbe5be2b2893984aad0d5a77b6c83f20710a2a02ac1", checked := Try.checked }
namespace Rows
def none {H : Type} : Left H := { results := [], args := [] }

/-- 'laws.FnExactSLen': WHATEVER THE INPUT: true; the input reads as it did. -/
def fnExactSLenSpec : ChangeSpec := { name := "fnExactSLen", fn := fun _ => fun
  | [d] => { results := [.lit (.bool true)], args := [d] }
  | _ => none }
def fnExactSLenRow : OpenClaim := { program := "ytpbmahnieepmiaa", sum := "aafd8fba3a40d868f09b0fbe5be2b2893984aad0d5a77b6c83f20710a2a02ac1", func := "pub-greenwood/laws.FnExactSLen", spec := "fnExactSLen", unfollowed := true, recurses := true, apart := false }
def FnExactSLenSaid : Prop := fnExactSLenRow.holds Try.pinned (OpenSpec.ofChange fnExactSLenSpec)

/-- ITS FALSE NEIGHBOUR: 'it returns false'. Refute it at one input. -/
def fnExactSLenWrong : ChangeSpec := { name := "fnExactSLen", fn := fun _ => fun
  | [d] => { results := [.lit (.bool false)], args := [d] }
  | _ => none }
def FnExactSLenWrongFalsely : Prop := fnExactSLenRow.holds Try.pinned (OpenSpec.ofChange fnExactSLenWrong)

/-- 'laws.FnSHeight': WHATEVER THE INPUT: true; the input reads as it did. -/
def fnSHeightSpec : ChangeSpec := { name := "fnSHeight", fn := fun _ => fun
  | [d] => { results := [.lit (.bool true)], args := [d] }
  | _ => none }
def fnSHeightRow : OpenClaim := { program := "ytpbmahnieepmiaa", sum := "aafd8fba3a40d868f09b0fbe5be2b2893984aad0d5a77b6c83f20710a2a02ac1", func := "pub-greenwood/laws.FnSHeight", spec := "fnSHeight", unfollowed := true, recurses := true, apart := false }
def FnSHeightSaid : Prop := fnSHeightRow.holds Try.pinned (OpenSpec.ofChange fnSHeightSpec)

/-- ITS FALSE NEIGHBOUR: 'it returns false'. Refute it at one input. -/
def fnSHeightWrong : ChangeSpec := { name := "fnSHeight", fn := fun _ => fun
  | [d] => { results := [.lit (.bool false)], args := [d] }
  | _ => none }
def FnSHeightWrongFalsely : Prop := fnSHeightRow.holds Try.pinned (OpenSpec.ofChange fnSHeightWrong)

/-- 'laws.FnExactSLoad': WHATEVER THE INPUT: true; the input reads as it did. -/
def fnExactSLoadSpec : ChangeSpec := { name := "fnExactSLoad", fn := fun _ => fun
  | [d] => { results := [.lit (.bool true)], args := [d] }
  | _ => none }
def fnExactSLoadRow : OpenClaim := { program := "ytpbmahnieepmiaa", sum := "aafd8fba3a40d868f09b0fbe5be2b2893984aad0d5a77b6c83f20710a2a02ac1", func := "pub-greenwood/laws.FnExactSLoad", spec := "fnExactSLoad", unfollowed := true, recurses := true, apart := false }
def FnExactSLoadSaid : Prop := fnExactSLoadRow.holds Try.pinned (OpenSpec.ofChange fnExactSLoadSpec)

/-- ITS FALSE NEIGHBOUR: 'it returns false'. Refute it at one input. -/
def fnExactSLoadWrong : ChangeSpec := { name := "fnExactSLoad", fn := fun _ => fun
  | [d] => { results := [.lit (.bool false)], args := [d] }
  | _ => none }
def FnExactSLoadWrongFalsely : Prop := fnExactSLoadRow.holds Try.pinned (OpenSpec.ofChange fnExactSLoadWrong)

/-- 'laws.FnExactSDescend': WHATEVER THE INPUT: true; the input reads as it did. -/
def fnExactSDescendSpec : ChangeSpec := { name := "fnExactSDescend", fn := fun _ => fun
  | [d1, d2, d3] => { results := [.lit (.bool true)], args := [d1, d2, d3] }
  | _ => none }
def fnExactSDescendRow : OpenClaim := { program := "ytpbmahnieepmiaa", sum := "aafd8fba3a40d868f09b0fbe5be2b2893984aad0d5a77b6c83f20710a2a02ac1", func := "pub-greenwood/laws.FnExactSDescend", spec := "fnExactSDescend", unfollowed := true, recurses := true, apart := false }
def FnExactSDescendSaid : Prop := fnExactSDescendRow.holds Try.pinned (OpenSpec.ofChange fnExactSDescendSpec)

/-- ITS FALSE NEIGHBOUR: 'it returns false'. Refute it at one input. -/
def fnExactSDescendWrong : ChangeSpec := { name := "fnExactSDescend", fn := fun _ => fun
  | [d1, d2, d3] => { results := [.lit (.bool false)], args := [d1, d2, d3] }
  | _ => none }
def FnExactSDescendWrongFalsely : Prop := fnExactSDescendRow.holds Try.pinned (OpenSpec.ofChange fnExactSDescendWrong)

/-- 'laws.FnExactSDeleteAt': WHATEVER THE INPUT: true; the input reads as it did. -/
def fnExactSDeleteAtSpec : ChangeSpec := { name := "fnExactSDeleteAt", fn := fun _ => fun
  | [d1, d2] => { results := [.lit (.bool true)], args := [d1, d2] }
  | _ => none }
def fnExactSDeleteAtRow : OpenClaim := { program := "ytpbmahnieepmiaa", sum := "aafd8fba3a40d868f09b0fbe5be2b2893984aad0d5a77b6c83f20710a2a02ac1", func := "pub-greenwood/laws.FnExactSDeleteAt", spec := "fnExactSDeleteAt", unfollowed := true, recurses := true, apart := false }
def FnExactSDeleteAtSaid : Prop := fnExactSDeleteAtRow.holds Try.pinned (OpenSpec.ofChange fnExactSDeleteAtSpec)

/-- ITS FALSE NEIGHBOUR: 'it returns false'. Refute it at one input. -/
def fnExactSDeleteAtWrong : ChangeSpec := { name := "fnExactSDeleteAt", fn := fun _ => fun
  | [d1, d2] => { results := [.lit (.bool false)], args := [d1, d2] }
  | _ => none }
def FnExactSDeleteAtWrongFalsely : Prop := fnExactSDeleteAtRow.holds Try.pinned (OpenSpec.ofChange fnExactSDeleteAtWrong)

/-- 'laws.FnSSorted': WHATEVER THE INPUT: true; the input reads as it did. -/
def fnSSortedSpec : ChangeSpec := { name := "fnSSorted", fn := fun _ => fun
  | [d] => { results := [.lit (.bool true)], args := [d] }
  | _ => none }
def fnSSortedRow : OpenClaim := { program := "ytpbmahnieepmiaa", sum := "aafd8fba3a40d868f09b0fbe5be2b2893984aad0d5a77b6c83f20710a2a02ac1", func := "pub-greenwood/laws.FnSSorted", spec := "fnSSorted", unfollowed := true, recurses := true, apart := false }
def FnSSortedSaid : Prop := fnSSortedRow.holds Try.pinned (OpenSpec.ofChange fnSSortedSpec)

/-- ITS FALSE NEIGHBOUR: 'it returns false'. Refute it at one input. -/
def fnSSortedWrong : ChangeSpec := { name := "fnSSorted", fn := fun _ => fun
  | [d] => { results := [.lit (.bool false)], args := [d] }
  | _ => none }
def FnSSortedWrongFalsely : Prop := fnSSortedRow.holds Try.pinned (OpenSpec.ofChange fnSSortedWrong)

/- THE SECOND FORM. 'bulk': how many values and letters a reading holds, each counted each time it is reached (what is shared counts as often as it is met; a slice's spare places count too). A statement '..UptoSaid' is the law's where the arguments, and the package variables that the reading takes, are together of bulk at most 1048576: NARROWER than '..Said'. Prove '..Said' where nothing that the law and all that it calls make is longer than what came in: it says more and counts as full. Else prove '..UptoSaid'. A law counts once. -/
mutual
def uptoBulk {H : Type} : DataW H → Nat
  | .lit (.string bytes) => bytes.length + 1
  | .lit _ => 1
  | .nil => 1
  | .ptr d => uptoBulk d + 1
  | .slice elems spare => uptoBulkAll elems + uptoBulkAll spare + 1
  | .agg parts => uptoBulkAll parts + 1
  | .iface _ d => uptoBulk d + 1
  | .map entries => uptoBulkEntries entries + 1
  | .held _ => 1
def uptoBulkAll {H : Type} : List (DataW H) → Nat
  | [] => 0
  | d :: r => uptoBulk d + uptoBulkAll r
def uptoBulkEntries {H : Type} : List (Lit × DataW H) → Nat
  | [] => 0
  | x :: r => uptoBulkEntry x + uptoBulkEntries r
def uptoBulkEntry {H : Type} : Lit × DataW H → Nat
  | (.string bytes, d) => bytes.length + uptoBulk d + 1
  | (_, d) => uptoBulk d + 1
 end
def uptoSmall : (H : Type) → List (DataW H) → Bool := fun _ ds => decide (uptoBulkAll ds ≤ 1048576)
def OpenSpec.upto (s : _root_.Go.ChangeSpec) : _root_.Go.OpenSpec := { _root_.Go.OpenSpec.ofChange s with cond := some uptoSmall }

/-- 'laws.FnExactSLen', WHERE WHAT IT READS IS OF BULK AT MOST 1048576: true; the input reads as it did. -/
def fnExactSLenUptoRow : OpenClaim := { program := "ytpbmahnieepmiaa", sum := "aafd8fba3a40d868f09b0fbe5be2b2893984aad0d5a77b6c83f20710a2a02ac1", func := "pub-greenwood/laws.FnExactSLen", spec := "fnExactSLen", unfollowed := true, recurses := true, apart := false, narrowed := true }
def FnExactSLenUptoSaid : Prop := fnExactSLenUptoRow.holds Try.pinned (OpenSpec.upto fnExactSLenSpec)

/-- 'laws.FnSHeight', WHERE WHAT IT READS IS OF BULK AT MOST 1048576: true; the input reads as it did. -/
def fnSHeightUptoRow : OpenClaim := { program := "ytpbmahnieepmiaa", sum := "aafd8fba3a40d868f09b0fbe5be2b2893984aad0d5a77b6c83f20710a2a02ac1", func := "pub-greenwood/laws.FnSHeight", spec := "fnSHeight", unfollowed := true, recurses := true, apart := false, narrowed := true }
def FnSHeightUptoSaid : Prop := fnSHeightUptoRow.holds Try.pinned (OpenSpec.upto fnSHeightSpec)

/-- 'laws.FnExactSLoad', WHERE WHAT IT READS IS OF BULK AT MOST 1048576: true; the input reads as it did. -/
def fnExactSLoadUptoRow : OpenClaim := { program := "ytpbmahnieepmiaa", sum := "aafd8fba3a40d868f09b0fbe5be2b2893984aad0d5a77b6c83f20710a2a02ac1", func := "pub-greenwood/laws.FnExactSLoad", spec := "fnExactSLoad", unfollowed := true, recurses := true, apart := false, narrowed := true }
def FnExactSLoadUptoSaid : Prop := fnExactSLoadUptoRow.holds Try.pinned (OpenSpec.upto fnExactSLoadSpec)

/-- 'laws.FnExactSDescend', WHERE WHAT IT READS IS OF BULK AT MOST 1048576: true; the input reads as it did. -/
def fnExactSDescendUptoRow : OpenClaim := { program := "ytpbmahnieepmiaa", sum := "aafd8fba3a40d868f09b0fbe5be2b2893984aad0d5a77b6c83f20710a2a02ac1", func := "pub-greenwood/laws.FnExactSDescend", spec := "fnExactSDescend", unfollowed := true, recurses := true, apart := false, narrowed := true }
def FnExactSDescendUptoSaid : Prop := fnExactSDescendUptoRow.holds Try.pinned (OpenSpec.upto fnExactSDescendSpec)

/-- 'laws.FnExactSDeleteAt', WHERE WHAT IT READS IS OF BULK AT MOST 1048576: true; the input reads as it did. -/
def fnExactSDeleteAtUptoRow : OpenClaim := { program := "ytpbmahnieepmiaa", sum := "aafd8fba3a40d868f09b0fbe5be2b2893984aad0d5a77b6c83f20710a2a02ac1", func := "pub-greenwood/laws.FnExactSDeleteAt", spec := "fnExactSDeleteAt", unfollowed := true, recurses := true, apart := false, narrowed := true }
def FnExactSDeleteAtUptoSaid : Prop := fnExactSDeleteAtUptoRow.holds Try.pinned (OpenSpec.upto fnExactSDeleteAtSpec)

/-- 'laws.FnSSorted', WHERE WHAT IT READS IS OF BULK AT MOST 1048576: true; the input reads as it did. -/
def fnSSortedUptoRow : OpenClaim := { program := "ytpbmahnieepmiaa", sum := "aafd8fba3a40d868f09b0fbe5be2b2893984aad0d5a77b6c83f20710a2a02ac1", func := "pub-greenwood/laws.FnSSorted", spec := "fnSSorted", unfollowed := true, recurses := true, apart := false, narrowed := true }
def FnSSortedUptoSaid : Prop := fnSSortedUptoRow.holds Try.pinned (OpenSpec.upto fnSSortedSpec)

end Rows
end Go.Proofs.Ytpbmahnieepmiaa
