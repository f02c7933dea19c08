/-
  No cell of these rows narrows 'for every input' (looked for: loops, veiled, ifaces, maps, wideKeys, modest, calm, conditions, laid).
  DERIVED. THE GIVEN ROWS OF THIS SEAT. 10 by the template 'for every input the law returns true; each argument reads behind the call as it read before'; 0 by the template 'total and deterministic' (their statements: YtlhbdmjeomffhaaTotals.lean).
  GIVEN WITH THE SEED: the statements are not yours to turn. If you find one false, say at which input.
  Laid BY PROGRAM, IN A SANDBOX (cutbox-rows.mjs): the forced cells as the released guide's own fill.sh prints them over the translation 633d18c7f90277b8… (all of the seat's roots in one cut). By AI agents, Wed Nov 11 2026. No macro, syntax, notation, axiom, sorry.
-/
import Derived.Test.YtlhbdmjeomffhaaChecked
import GoSem.Claim
import GoSem.ClaimJoined
import GoSem.ClaimMapViews
import Derived.JoinedTies
import Derived.KernelRfl
namespace Go.Proofs.Ytlhbdmjeomffhaa
/- THE CELL 'sum', in the pinned program and in every row, IS THE sha256 OF THE DUMP (.gsa) THAT YtlhbdmjeomffhaaProg.lean LOADS. Nothing in Lean hashes anything: it is a label: what it is worth is what the hold of that sum in a sandbox is worth. -/
noncomputable def Try.pinned : Pinned := { name := "ytlhbdmjeomffhaa", sum := "633d18c7f90277b8f4b5bc33951dc218ecb8939a7f95c8b387add6d3f1257b57", checked := Try.checked }
namespace Rows
def none {H : Type} : Left H := { results := [], args := [] }

/-- 'laws.FnExactBLen': WHATEVER THE INPUT: true; the input reads as it did. -/
def fnExactBLenSpec : ChangeSpec := { name := "fnExactBLen", fn := fun _ => fun
  | [d1, d2] => { results := [.lit (.bool true)], args := [d1, d2] }
  | _ => none }
def fnExactBLenRow : OpenClaim := { program := "ytlhbdmjeomffhaa", sum := "633d18c7f90277b8f4b5bc33951dc218ecb8939a7f95c8b387add6d3f1257b57", func := "pub-greenwood/laws.FnExactBLen", spec := "fnExactBLen", unfollowed := true, recurses := true, apart := false }
def FnExactBLenSaid : Prop := fnExactBLenRow.holds Try.pinned (OpenSpec.ofChange fnExactBLenSpec)

/-- ITS FALSE NEIGHBOUR: 'it returns false'. Refute it at one input. -/
def fnExactBLenWrong : ChangeSpec := { name := "fnExactBLen", fn := fun _ => fun
  | [d1, d2] => { results := [.lit (.bool false)], args := [d1, d2] }
  | _ => none }
def FnExactBLenWrongFalsely : Prop := fnExactBLenRow.holds Try.pinned (OpenSpec.ofChange fnExactBLenWrong)

/-- 'laws.FnExactBMax': WHATEVER THE INPUT: true; the input reads as it did. -/
def fnExactBMaxSpec : ChangeSpec := { name := "fnExactBMax", fn := fun _ => fun
  | [d1, d2] => { results := [.lit (.bool true)], args := [d1, d2] }
  | _ => none }
def fnExactBMaxRow : OpenClaim := { program := "ytlhbdmjeomffhaa", sum := "633d18c7f90277b8f4b5bc33951dc218ecb8939a7f95c8b387add6d3f1257b57", func := "pub-greenwood/laws.FnExactBMax", spec := "fnExactBMax", unfollowed := true, recurses := true, apart := false }
def FnExactBMaxSaid : Prop := fnExactBMaxRow.holds Try.pinned (OpenSpec.ofChange fnExactBMaxSpec)

/-- ITS FALSE NEIGHBOUR: 'it returns false'. Refute it at one input. -/
def fnExactBMaxWrong : ChangeSpec := { name := "fnExactBMax", fn := fun _ => fun
  | [d1, d2] => { results := [.lit (.bool false)], args := [d1, d2] }
  | _ => none }
def FnExactBMaxWrongFalsely : Prop := fnExactBMaxRow.holds Try.pinned (OpenSpec.ofChange fnExactBMaxWrong)

/-- 'laws.FnExactBGetAt': WHATEVER THE INPUT: true; the input reads as it did. -/
def fnExactBGetAtSpec : ChangeSpec := { name := "fnExactBGetAt", fn := fun _ => fun
  | [d1, d2, d3] => { results := [.lit (.bool true)], args := [d1, d2, d3] }
  | _ => none }
def fnExactBGetAtRow : OpenClaim := { program := "ytlhbdmjeomffhaa", sum := "633d18c7f90277b8f4b5bc33951dc218ecb8939a7f95c8b387add6d3f1257b57", func := "pub-greenwood/laws.FnExactBGetAt", spec := "fnExactBGetAt", unfollowed := true, recurses := true, apart := false }
def FnExactBGetAtSaid : Prop := fnExactBGetAtRow.holds Try.pinned (OpenSpec.ofChange fnExactBGetAtSpec)

/-- ITS FALSE NEIGHBOUR: 'it returns false'. Refute it at one input. -/
def fnExactBGetAtWrong : ChangeSpec := { name := "fnExactBGetAt", fn := fun _ => fun
  | [d1, d2, d3] => { results := [.lit (.bool false)], args := [d1, d2, d3] }
  | _ => none }
def FnExactBGetAtWrongFalsely : Prop := fnExactBGetAtRow.holds Try.pinned (OpenSpec.ofChange fnExactBGetAtWrong)

/-- 'laws.FnExactBGetHint': WHATEVER THE INPUT: true; the input reads as it did. -/
def fnExactBGetHintSpec : ChangeSpec := { name := "fnExactBGetHint", fn := fun _ => fun
  | [d1, d2, d3] => { results := [.lit (.bool true)], args := [d1, d2, d3] }
  | _ => none }
def fnExactBGetHintRow : OpenClaim := { program := "ytlhbdmjeomffhaa", sum := "633d18c7f90277b8f4b5bc33951dc218ecb8939a7f95c8b387add6d3f1257b57", func := "pub-greenwood/laws.FnExactBGetHint", spec := "fnExactBGetHint", unfollowed := true, recurses := true, apart := false }
def FnExactBGetHintSaid : Prop := fnExactBGetHintRow.holds Try.pinned (OpenSpec.ofChange fnExactBGetHintSpec)

/-- ITS FALSE NEIGHBOUR: 'it returns false'. Refute it at one input. -/
def fnExactBGetHintWrong : ChangeSpec := { name := "fnExactBGetHint", fn := fun _ => fun
  | [d1, d2, d3] => { results := [.lit (.bool false)], args := [d1, d2, d3] }
  | _ => none }
def FnExactBGetHintWrongFalsely : Prop := fnExactBGetHintRow.holds Try.pinned (OpenSpec.ofChange fnExactBGetHintWrong)

/-- 'laws.FnExactBDescend': WHATEVER THE INPUT: true; the input reads as it did. -/
def fnExactBDescendSpec : ChangeSpec := { name := "fnExactBDescend", fn := fun _ => fun
  | [d1, d2, d3, d4, d5] => { results := [.lit (.bool true)], args := [d1, d2, d3, d4, d5] }
  | _ => none }
def fnExactBDescendRow : OpenClaim := { program := "ytlhbdmjeomffhaa", sum := "633d18c7f90277b8f4b5bc33951dc218ecb8939a7f95c8b387add6d3f1257b57", func := "pub-greenwood/laws.FnExactBDescend", spec := "fnExactBDescend", unfollowed := true, recurses := true, apart := false }
def FnExactBDescendSaid : Prop := fnExactBDescendRow.holds Try.pinned (OpenSpec.ofChange fnExactBDescendSpec)

/-- ITS FALSE NEIGHBOUR: 'it returns false'. Refute it at one input. -/
def fnExactBDescendWrong : ChangeSpec := { name := "fnExactBDescend", fn := fun _ => fun
  | [d1, d2, d3, d4, d5] => { results := [.lit (.bool false)], args := [d1, d2, d3, d4, d5] }
  | _ => none }
def FnExactBDescendWrongFalsely : Prop := fnExactBDescendRow.holds Try.pinned (OpenSpec.ofChange fnExactBDescendWrong)

/-- 'laws.FnExactBDescendHint': WHATEVER THE INPUT: true; the input reads as it did. -/
def fnExactBDescendHintSpec : ChangeSpec := { name := "fnExactBDescendHint", fn := fun _ => fun
  | [d1, d2, d3, d4, d5] => { results := [.lit (.bool true)], args := [d1, d2, d3, d4, d5] }
  | _ => none }
def fnExactBDescendHintRow : OpenClaim := { program := "ytlhbdmjeomffhaa", sum := "633d18c7f90277b8f4b5bc33951dc218ecb8939a7f95c8b387add6d3f1257b57", func := "pub-greenwood/laws.FnExactBDescendHint", spec := "fnExactBDescendHint", unfollowed := true, recurses := true, apart := false }
def FnExactBDescendHintSaid : Prop := fnExactBDescendHintRow.holds Try.pinned (OpenSpec.ofChange fnExactBDescendHintSpec)

/-- ITS FALSE NEIGHBOUR: 'it returns false'. Refute it at one input. -/
def fnExactBDescendHintWrong : ChangeSpec := { name := "fnExactBDescendHint", fn := fun _ => fun
  | [d1, d2, d3, d4, d5] => { results := [.lit (.bool false)], args := [d1, d2, d3, d4, d5] }
  | _ => none }
def FnExactBDescendHintWrongFalsely : Prop := fnExactBDescendHintRow.holds Try.pinned (OpenSpec.ofChange fnExactBDescendHintWrong)

/-- 'laws.FnExactBSetHint': WHATEVER THE INPUT: true; the input reads as it did. -/
def fnExactBSetHintSpec : ChangeSpec := { name := "fnExactBSetHint", fn := fun _ => fun
  | [d1, d2] => { results := [.lit (.bool true)], args := [d1, d2] }
  | _ => none }
def fnExactBSetHintRow : OpenClaim := { program := "ytlhbdmjeomffhaa", sum := "633d18c7f90277b8f4b5bc33951dc218ecb8939a7f95c8b387add6d3f1257b57", func := "pub-greenwood/laws.FnExactBSetHint", spec := "fnExactBSetHint", unfollowed := true, recurses := true, apart := false }
def FnExactBSetHintSaid : Prop := fnExactBSetHintRow.holds Try.pinned (OpenSpec.ofChange fnExactBSetHintSpec)

/-- ITS FALSE NEIGHBOUR: 'it returns false'. Refute it at one input. -/
def fnExactBSetHintWrong : ChangeSpec := { name := "fnExactBSetHint", fn := fun _ => fun
  | [d1, d2] => { results := [.lit (.bool false)], args := [d1, d2] }
  | _ => none }
def FnExactBSetHintWrongFalsely : Prop := fnExactBSetHintRow.holds Try.pinned (OpenSpec.ofChange fnExactBSetHintWrong)

/-- 'laws.FnExactBClear': WHATEVER THE INPUT: true; the input reads as it did. -/
def fnExactBClearSpec : ChangeSpec := { name := "fnExactBClear", fn := fun _ => fun
  | [d1, d2, d3] => { results := [.lit (.bool true)], args := [d1, d2, d3] }
  | _ => none }
def fnExactBClearRow : OpenClaim := { program := "ytlhbdmjeomffhaa", sum := "633d18c7f90277b8f4b5bc33951dc218ecb8939a7f95c8b387add6d3f1257b57", func := "pub-greenwood/laws.FnExactBClear", spec := "fnExactBClear", unfollowed := true, recurses := true, apart := false }
def FnExactBClearSaid : Prop := fnExactBClearRow.holds Try.pinned (OpenSpec.ofChange fnExactBClearSpec)

/-- ITS FALSE NEIGHBOUR: 'it returns false'. Refute it at one input. -/
def fnExactBClearWrong : ChangeSpec := { name := "fnExactBClear", fn := fun _ => fun
  | [d1, d2, d3] => { results := [.lit (.bool false)], args := [d1, d2, d3] }
  | _ => none }
def FnExactBClearWrongFalsely : Prop := fnExactBClearRow.holds Try.pinned (OpenSpec.ofChange fnExactBClearWrong)

/-- 'laws.FnBNews': WHATEVER THE INPUT: true; the input reads as it did. -/
def fnBNewsSpec : ChangeSpec := { name := "fnBNews", fn := fun _ => fun
  | [d1, d2] => { results := [.lit (.bool true)], args := [d1, d2] }
  | _ => none }
def fnBNewsRow : OpenClaim := { program := "ytlhbdmjeomffhaa", sum := "633d18c7f90277b8f4b5bc33951dc218ecb8939a7f95c8b387add6d3f1257b57", func := "pub-greenwood/laws.FnBNews", spec := "fnBNews", unfollowed := true, recurses := true, apart := false }
def FnBNewsSaid : Prop := fnBNewsRow.holds Try.pinned (OpenSpec.ofChange fnBNewsSpec)

/-- ITS FALSE NEIGHBOUR: 'it returns false'. Refute it at one input. -/
def fnBNewsWrong : ChangeSpec := { name := "fnBNews", fn := fun _ => fun
  | [d1, d2] => { results := [.lit (.bool false)], args := [d1, d2] }
  | _ => none }
def FnBNewsWrongFalsely : Prop := fnBNewsRow.holds Try.pinned (OpenSpec.ofChange fnBNewsWrong)

/-- 'laws.FnBWalks': WHATEVER THE INPUT: true; the input reads as it did. -/
def fnBWalksSpec : ChangeSpec := { name := "fnBWalks", fn := fun _ => fun
  | [d1, d2] => { results := [.lit (.bool true)], args := [d1, d2] }
  | _ => none }
def fnBWalksRow : OpenClaim := { program := "ytlhbdmjeomffhaa", sum := "633d18c7f90277b8f4b5bc33951dc218ecb8939a7f95c8b387add6d3f1257b57", func := "pub-greenwood/laws.FnBWalks", spec := "fnBWalks", unfollowed := true, recurses := true, apart := false }
def FnBWalksSaid : Prop := fnBWalksRow.holds Try.pinned (OpenSpec.ofChange fnBWalksSpec)

/-- ITS FALSE NEIGHBOUR: 'it returns false'. Refute it at one input. -/
def fnBWalksWrong : ChangeSpec := { name := "fnBWalks", fn := fun _ => fun
  | [d1, d2] => { results := [.lit (.bool false)], args := [d1, d2] }
  | _ => none }
def FnBWalksWrongFalsely : Prop := fnBWalksRow.holds Try.pinned (OpenSpec.ofChange fnBWalksWrong)

/- THE SECOND FORM. 'bulk': how many values and letters a reading holds, each counted each time it is reached (what is shared counts as often as it is met; a slice's spare places count too). A statement '..UptoSaid' is the law's where the arguments, and the package variables that the reading takes, are together of bulk at most 1048576: NARROWER than '..Said'. Prove '..Said' where nothing that the law and all that it calls make is longer than what came in: it says more and counts as full. Else prove '..UptoSaid'. A law counts once. -/
mutual
def uptoBulk {H : Type} : DataW H → Nat
  | .lit (.string bytes) => bytes.length + 1
  | .lit _ => 1
  | .nil => 1
  | .ptr d => uptoBulk d + 1
  | .slice elems spare => uptoBulkAll elems + uptoBulkAll spare + 1
  | .agg parts => uptoBulkAll parts + 1
  | .iface _ d => uptoBulk d + 1
  | .map entries => uptoBulkEntries entries + 1
  | .held _ => 1
def uptoBulkAll {H : Type} : List (DataW H) → Nat
  | [] => 0
  | d :: r => uptoBulk d + uptoBulkAll r
def uptoBulkEntries {H : Type} : List (Lit × DataW H) → Nat
  | [] => 0
  | x :: r => uptoBulkEntry x + uptoBulkEntries r
def uptoBulkEntry {H : Type} : Lit × DataW H → Nat
  | (.string bytes, d) => bytes.length + uptoBulk d + 1
  | (_, d) => uptoBulk d + 1
 end
def uptoSmall : (H : Type) → List (DataW H) → Bool := fun _ ds => decide (uptoBulkAll ds ≤ 1048576)
def OpenSpec.upto (s : _root_.Go.ChangeSpec) : _root_.Go.OpenSpec := { _root_.Go.OpenSpec.ofChange s with cond := some uptoSmall }

/-- 'laws.FnExactBLen', WHERE WHAT IT READS IS OF BULK AT MOST 1048576: true; the input reads as it did. -/
def fnExactBLenUptoRow : OpenClaim := { program := "ytlhbdmjeomffhaa", sum := "633d18c7f90277b8f4b5bc33951dc218ecb8939a7f95c8b387add6d3f1257b57", func := "pub-greenwood/laws.FnExactBLen", spec := "fnExactBLen", unfollowed := true, recurses := true, apart := false, narrowed := true }
def FnExactBLenUptoSaid : Prop := fnExactBLenUptoRow.holds Try.pinned (OpenSpec.upto fnExactBLenSpec)

/-- 'laws.FnExactBMax', WHERE WHAT IT READS IS OF BULK AT MOST 1048576: true; the input reads as it did. -/
def fnExactBMaxUptoRow : OpenClaim := { program := "ytlhbdmjeomffhaa", sum := "633d18c7f90277b8f4b5bc33951dc218ecb8939a7f95c8b387add6d3f1257b57", func := "pub-greenwood/laws.FnExactBMax", spec := "fnExactBMax", unfollowed := true, recurses := true, apart := false, narrowed := true }
def FnExactBMaxUptoSaid : Prop := fnExactBMaxUptoRow.holds Try.pinned (OpenSpec.upto fnExactBMaxSpec)

/-- 'laws.FnExactBGetAt', WHERE WHAT IT READS IS OF BULK AT MOST 1048576: true; the input reads as it did. -/
def fnExactBGetAtUptoRow : OpenClaim := { program := "ytlhbdmjeomffhaa", sum := "633d18c7f90277b8f4b5bc33951dc218ecb8939a7f95c8b387add6d3f1257b57", func := "pub-greenwood/laws.FnExactBGetAt", spec := "fnExactBGetAt", unfollowed := true, recurses := true, apart := false, narrowed := true }
def FnExactBGetAtUptoSaid : Prop := fnExactBGetAtUptoRow.holds Try.pinned (OpenSpec.upto fnExactBGetAtSpec)

/-- 'laws.FnExactBGetHint', WHERE WHAT IT READS IS OF BULK AT MOST 1048576: true; the input reads as it did. -/
def fnExactBGetHintUptoRow : OpenClaim := { program := "ytlhbdmjeomffhaa", sum := "633d18c7f90277b8f4b5bc33951dc218ecb8939a7f95c8b387add6d3f1257b57", func := "pub-greenwood/laws.FnExactBGetHint", spec := "fnExactBGetHint", unfollowed := true, recurses := true, apart := false, narrowed := true }
def FnExactBGetHintUptoSaid : Prop := fnExactBGetHintUptoRow.holds Try.pinned (OpenSpec.upto fnExactBGetHintSpec)

/-- 'laws.FnExactBDescend', WHERE WHAT IT READS IS OF BULK AT MOST 1048576: true; the input reads as it did. -/
def fnExactBDescendUptoRow : OpenClaim := { program := "ytlhbdmjeomffhaa", sum := "633d18c7f90277b8f4b5bc33951dc218ecb8939a7f95c8b387add6d3f1257b57", func := "pub-greenwood/laws.FnExactBDescend", spec := "fnExactBDescend", unfollowed := true, recurses := true, apart := false, narrowed := true }
def FnExactBDescendUptoSaid : Prop := fnExactBDescendUptoRow.holds Try.pinned (OpenSpec.upto fnExactBDescendSpec)

/-- 'laws.FnExactBDescendHint', WHERE WHAT IT READS IS OF BULK AT MOST 1048576: true; the input reads as it did. -/
def fnExactBDescendHintUptoRow : OpenClaim := { program := "ytlhbdmjeomffhaa", sum := "633d18c7f90277b8f4b5bc33951dc218ecb8939a7f95c8b387add6d3f1257b57", func := "pub-greenwood/laws.FnExactBDescendHint", spec := "fnExactBDescendHint", unfollowed := true, recurses := true, apart := false, narrowed := true }
def FnExactBDescendHintUptoSaid : Prop := fnExactBDescendHintUptoRow.holds Try.pinned (OpenSpec.upto fnExactBDescendHintSpec)

/-- 'laws.FnExactBSetHint', WHERE WHAT IT READS IS OF BULK AT MOST 1048576: true; the input reads as it did. -/
def fnExactBSetHintUptoRow : OpenClaim := { program := "ytlhbdmjeomffhaa", sum := "633d18c7f90277b8f4b5bc33951dc218ecb8939a7f95c8b387add6d3f1257b57", func := "pub-greenwood/laws.FnExactBSetHint", spec := "fnExactBSetHint", unfollowed := true, recurses := true, apart := false, narrowed := true }
def FnExactBSetHintUptoSaid : Prop := fnExactBSetHintUptoRow.holds Try.pinned (OpenSpec.upto fnExactBSetHintSpec)

/-- 'laws.FnExactBClear', WHERE WHAT IT READS IS OF BULK AT MOST 1048576: true; the input reads as it did. -/
def fnExactBClearUptoRow : OpenClaim := { program := "ytlhbdmjeomffhaa", sum := "633d18c7f90277b8f4b5bc33951dc218ecb8939a7f95c8b387add6d3f1257b57", func := "pub-greenwood/laws.FnExactBClear", spec := "fnExactBClear", unfollowed := true, recurses := true, apart := false, narrowed := true }
def FnExactBClearUptoSaid : Prop := fnExactBClearUptoRow.holds Try.pinned (OpenSpec.upto fnExactBClearSpec)

/-- 'laws.FnBNews', WHERE WHAT IT READS IS OF BULK AT MOST 1048576: true; the input reads as it did. -/
def fnBNewsUptoRow : OpenClaim := { program := "ytlhbdmjeomffhaa", sum := "633d18c7f90277b8f4b5bc33951dc218ecb8939a7f95c8b387add6d3f1257b57", func := "pub-greenwood/laws.FnBNews", spec := "fnBNews", unfollowed := true, recurses := true, apart := false, narrowed := true }
def FnBNewsUptoSaid : Prop := fnBNewsUptoRow.holds Try.pinned (OpenSpec.upto fnBNewsSpec)

/-- 'laws.FnBWalks', WHERE WHAT IT READS IS OF BULK AT MOST 1048576: true; the input reads as it did. -/
def fnBWalksUptoRow : OpenClaim := { program := "ytlhbdmjeomffhaa", sum := "633d18c7f90277b8f4b5bc33951dc218ecb8939a7f95c8b387add6d3f1257b57", func := "pub-greenwood/laws.FnBWalks", spec := "fnBWalks", unfollowed := true, recurses := true, apart := false, narrowed := true }
def FnBWalksUptoSaid : Prop := fnBWalksUptoRow.holds Try.pinned (OpenSpec.upto fnBWalksSpec)

end Rows
end Go.Proofs.Ytlhbdmjeomffhaa
