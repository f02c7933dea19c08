/-
  No cell of these rows narrows 'for every input' (looked for: loops, veiled, ifaces, maps, wideKeys, modest, calm, conditions, laid).
  DERIVED. THE GIVEN ROWS OF THIS SEAT. 9 by the template 'for every input the law returns true; each argument reads behind the call as it read before'; 0 by the template 'total and deterministic' (their statements: YtebiihomlhljkaaTotals.lean).
  GIVEN WITH THE SEED: the statements are not yours to turn. If you find one false, say at which input.
  Laid BY PROGRAM, IN A SANDBOX (cutbox-rows.mjs): the forced cells as the released guide's own fill.sh prints them over the translation 42b380b8f15bb161… (all of the seat's roots in one cut). By AI agents, Wed Nov 11 2026. No macro, syntax, notation, axiom, sorry.
-/
import Derived.Test.YtebiihomlhljkaaChecked
import GoSem.Claim
import GoSem.ClaimJoined
import GoSem.ClaimMapViews
import Derived.JoinedTies
import Derived.KernelRfl
namespace Go.Proofs.Ytebiihomlhljkaa
/- THE CELL 'sum', in the pinned program and in every row, IS THE sha256 OF THE DUMP (.gsa) THAT YtebiihomlhljkaaProg.lean LOADS. Nothing in Lean hashes anything: it is a label: what it is worth is what the hold of that sum in a sandbox is worth. -/
noncomputable def Try.pinned : Pinned := { name := "ytebiihomlhljkaa", sum := "42b380b8f15bb16142d2ec84b15979bb3599e1bf0253793af3318335cbf5b8db", checked := Try.checked }
namespace Rows
def none {H : Type} : Left H := { results := [], args := [] }

/-- 'laws.FnGRestores': WHATEVER THE INPUT: true; the input reads as it did. -/
def fnGRestoresSpec : ChangeSpec := { name := "fnGRestores", fn := fun _ => fun
  | [d1, d2, d3] => { results := [.lit (.bool true)], args := [d1, d2, d3] }
  | _ => none }
def fnGRestoresRow : OpenClaim := { program := "ytebiihomlhljkaa", sum := "42b380b8f15bb16142d2ec84b15979bb3599e1bf0253793af3318335cbf5b8db", func := "pub-greenwood/laws.FnGRestores", spec := "fnGRestores", unfollowed := true, recurses := true, apart := false }
def FnGRestoresSaid : Prop := fnGRestoresRow.holds Try.pinned (OpenSpec.ofChange fnGRestoresSpec)

/-- ITS FALSE NEIGHBOUR: 'it returns false'. Refute it at one input. -/
def fnGRestoresWrong : ChangeSpec := { name := "fnGRestores", fn := fun _ => fun
  | [d1, d2, d3] => { results := [.lit (.bool false)], args := [d1, d2, d3] }
  | _ => none }
def FnGRestoresWrongFalsely : Prop := fnGRestoresRow.holds Try.pinned (OpenSpec.ofChange fnGRestoresWrong)

/-- 'laws.FnExactGAscendHint': WHATEVER THE INPUT: true; the input reads as it did. -/
def fnExactGAscendHintSpec : ChangeSpec := { name := "fnExactGAscendHint", fn := fun _ => fun
  | [d1, d2, d3, d4] => { results := [.lit (.bool true)], args := [d1, d2, d3, d4] }
  | _ => none }
def fnExactGAscendHintRow : OpenClaim := { program := "ytebiihomlhljkaa", sum := "42b380b8f15bb16142d2ec84b15979bb3599e1bf0253793af3318335cbf5b8db", func := "pub-greenwood/laws.FnExactGAscendHint", spec := "fnExactGAscendHint", unfollowed := true, recurses := true, apart := false }
def FnExactGAscendHintSaid : Prop := fnExactGAscendHintRow.holds Try.pinned (OpenSpec.ofChange fnExactGAscendHintSpec)

/-- ITS FALSE NEIGHBOUR: 'it returns false'. Refute it at one input. -/
def fnExactGAscendHintWrong : ChangeSpec := { name := "fnExactGAscendHint", fn := fun _ => fun
  | [d1, d2, d3, d4] => { results := [.lit (.bool false)], args := [d1, d2, d3, d4] }
  | _ => none }
def FnExactGAscendHintWrongFalsely : Prop := fnExactGAscendHintRow.holds Try.pinned (OpenSpec.ofChange fnExactGAscendHintWrong)

/-- 'laws.FnGMuts': WHATEVER THE INPUT: true; the input reads as it did. -/
def fnGMutsSpec : ChangeSpec := { name := "fnGMuts", fn := fun _ => fun
  | [d1, d2, d3, d4] => { results := [.lit (.bool true)], args := [d1, d2, d3, d4] }
  | _ => none }
def fnGMutsRow : OpenClaim := { program := "ytebiihomlhljkaa", sum := "42b380b8f15bb16142d2ec84b15979bb3599e1bf0253793af3318335cbf5b8db", func := "pub-greenwood/laws.FnGMuts", spec := "fnGMuts", unfollowed := true, recurses := true, apart := false }
def FnGMutsSaid : Prop := fnGMutsRow.holds Try.pinned (OpenSpec.ofChange fnGMutsSpec)

/-- ITS FALSE NEIGHBOUR: 'it returns false'. Refute it at one input. -/
def fnGMutsWrong : ChangeSpec := { name := "fnGMuts", fn := fun _ => fun
  | [d1, d2, d3, d4] => { results := [.lit (.bool false)], args := [d1, d2, d3, d4] }
  | _ => none }
def FnGMutsWrongFalsely : Prop := fnGMutsRow.holds Try.pinned (OpenSpec.ofChange fnGMutsWrong)

/-- 'laws.FnExactGDeleteHint': WHATEVER THE INPUT: true; the input reads as it did. -/
def fnExactGDeleteHintSpec : ChangeSpec := { name := "fnExactGDeleteHint", fn := fun _ => fun
  | [d1, d2, d3] => { results := [.lit (.bool true)], args := [d1, d2, d3] }
  | _ => none }
def fnExactGDeleteHintRow : OpenClaim := { program := "ytebiihomlhljkaa", sum := "42b380b8f15bb16142d2ec84b15979bb3599e1bf0253793af3318335cbf5b8db", func := "pub-greenwood/laws.FnExactGDeleteHint", spec := "fnExactGDeleteHint", unfollowed := true, recurses := true, apart := false }
def FnExactGDeleteHintSaid : Prop := fnExactGDeleteHintRow.holds Try.pinned (OpenSpec.ofChange fnExactGDeleteHintSpec)

/-- ITS FALSE NEIGHBOUR: 'it returns false'. Refute it at one input. -/
def fnExactGDeleteHintWrong : ChangeSpec := { name := "fnExactGDeleteHint", fn := fun _ => fun
  | [d1, d2, d3] => { results := [.lit (.bool false)], args := [d1, d2, d3] }
  | _ => none }
def FnExactGDeleteHintWrongFalsely : Prop := fnExactGDeleteHintRow.holds Try.pinned (OpenSpec.ofChange fnExactGDeleteHintWrong)

/-- 'laws.FnExactGIter': WHATEVER THE INPUT: true; the input reads as it did. -/
def fnExactGIterSpec : ChangeSpec := { name := "fnExactGIter", fn := fun _ => fun
  | [d1, d2, d3] => { results := [.lit (.bool true)], args := [d1, d2, d3] }
  | _ => none }
def fnExactGIterRow : OpenClaim := { program := "ytebiihomlhljkaa", sum := "42b380b8f15bb16142d2ec84b15979bb3599e1bf0253793af3318335cbf5b8db", func := "pub-greenwood/laws.FnExactGIter", spec := "fnExactGIter", unfollowed := true, recurses := true, apart := false }
def FnExactGIterSaid : Prop := fnExactGIterRow.holds Try.pinned (OpenSpec.ofChange fnExactGIterSpec)

/-- ITS FALSE NEIGHBOUR: 'it returns false'. Refute it at one input. -/
def fnExactGIterWrong : ChangeSpec := { name := "fnExactGIter", fn := fun _ => fun
  | [d1, d2, d3] => { results := [.lit (.bool false)], args := [d1, d2, d3] }
  | _ => none }
def FnExactGIterWrongFalsely : Prop := fnExactGIterRow.holds Try.pinned (OpenSpec.ofChange fnExactGIterWrong)

/-- 'laws.FnExactGPops': WHATEVER THE INPUT: true; the input reads as it did. -/
def fnExactGPopsSpec : ChangeSpec := { name := "fnExactGPops", fn := fun _ => fun
  | [d1, d2, d3] => { results := [.lit (.bool true)], args := [d1, d2, d3] }
  | _ => none }
def fnExactGPopsRow : OpenClaim := { program := "ytebiihomlhljkaa", sum := "42b380b8f15bb16142d2ec84b15979bb3599e1bf0253793af3318335cbf5b8db", func := "pub-greenwood/laws.FnExactGPops", spec := "fnExactGPops", unfollowed := true, recurses := true, apart := false }
def FnExactGPopsSaid : Prop := fnExactGPopsRow.holds Try.pinned (OpenSpec.ofChange fnExactGPopsSpec)

/-- ITS FALSE NEIGHBOUR: 'it returns false'. Refute it at one input. -/
def fnExactGPopsWrong : ChangeSpec := { name := "fnExactGPops", fn := fun _ => fun
  | [d1, d2, d3] => { results := [.lit (.bool false)], args := [d1, d2, d3] }
  | _ => none }
def FnExactGPopsWrongFalsely : Prop := fnExactGPopsRow.holds Try.pinned (OpenSpec.ofChange fnExactGPopsWrong)

/-- 'laws.FnGDeleteTwo': WHATEVER THE INPUT: true; the input reads as it did. -/
def fnGDeleteTwoSpec : ChangeSpec := { name := "fnGDeleteTwo", fn := fun _ => fun
  | [d1, d2, d3] => { results := [.lit (.bool true)], args := [d1, d2, d3] }
  | _ => none }
def fnGDeleteTwoRow : OpenClaim := { program := "ytebiihomlhljkaa", sum := "42b380b8f15bb16142d2ec84b15979bb3599e1bf0253793af3318335cbf5b8db", func := "pub-greenwood/laws.FnGDeleteTwo", spec := "fnGDeleteTwo", unfollowed := true, recurses := true, apart := false }
def FnGDeleteTwoSaid : Prop := fnGDeleteTwoRow.holds Try.pinned (OpenSpec.ofChange fnGDeleteTwoSpec)

/-- ITS FALSE NEIGHBOUR: 'it returns false'. Refute it at one input. -/
def fnGDeleteTwoWrong : ChangeSpec := { name := "fnGDeleteTwo", fn := fun _ => fun
  | [d1, d2, d3] => { results := [.lit (.bool false)], args := [d1, d2, d3] }
  | _ => none }
def FnGDeleteTwoWrongFalsely : Prop := fnGDeleteTwoRow.holds Try.pinned (OpenSpec.ofChange fnGDeleteTwoWrong)

/-- 'laws.FnExactGDeleteAscend': WHATEVER THE INPUT: true; the input reads as it did. -/
def fnExactGDeleteAscendSpec : ChangeSpec := { name := "fnExactGDeleteAscend", fn := fun _ => fun
  | [d1, d2, d3, d4] => { results := [.lit (.bool true)], args := [d1, d2, d3, d4] }
  | _ => none }
def fnExactGDeleteAscendRow : OpenClaim := { program := "ytebiihomlhljkaa", sum := "42b380b8f15bb16142d2ec84b15979bb3599e1bf0253793af3318335cbf5b8db", func := "pub-greenwood/laws.FnExactGDeleteAscend", spec := "fnExactGDeleteAscend", unfollowed := true, recurses := true, apart := false }
def FnExactGDeleteAscendSaid : Prop := fnExactGDeleteAscendRow.holds Try.pinned (OpenSpec.ofChange fnExactGDeleteAscendSpec)

/-- ITS FALSE NEIGHBOUR: 'it returns false'. Refute it at one input. -/
def fnExactGDeleteAscendWrong : ChangeSpec := { name := "fnExactGDeleteAscend", fn := fun _ => fun
  | [d1, d2, d3, d4] => { results := [.lit (.bool false)], args := [d1, d2, d3, d4] }
  | _ => none }
def FnExactGDeleteAscendWrongFalsely : Prop := fnExactGDeleteAscendRow.holds Try.pinned (OpenSpec.ofChange fnExactGDeleteAscendWrong)

/-- 'laws.FnGRangeOptions': WHATEVER THE INPUT: true; the input reads as it did. -/
def fnGRangeOptionsSpec : ChangeSpec := { name := "fnGRangeOptions", fn := fun _ => fun
  | [d1, d2, d3, d4, d5] => { results := [.lit (.bool true)], args := [d1, d2, d3, d4, d5] }
  | _ => none }
def fnGRangeOptionsRow : OpenClaim := { program := "ytebiihomlhljkaa", sum := "42b380b8f15bb16142d2ec84b15979bb3599e1bf0253793af3318335cbf5b8db", func := "pub-greenwood/laws.FnGRangeOptions", spec := "fnGRangeOptions", unfollowed := true, recurses := true, apart := false }
def FnGRangeOptionsSaid : Prop := fnGRangeOptionsRow.holds Try.pinned (OpenSpec.ofChange fnGRangeOptionsSpec)

/-- ITS FALSE NEIGHBOUR: 'it returns false'. Refute it at one input. -/
def fnGRangeOptionsWrong : ChangeSpec := { name := "fnGRangeOptions", fn := fun _ => fun
  | [d1, d2, d3, d4, d5] => { results := [.lit (.bool false)], args := [d1, d2, d3, d4, d5] }
  | _ => none }
def FnGRangeOptionsWrongFalsely : Prop := fnGRangeOptionsRow.holds Try.pinned (OpenSpec.ofChange fnGRangeOptionsWrong)

/- THE SECOND FORM. 'bulk': how many values and letters a reading holds, each counted each time it is reached (what is shared counts as often as it is met; a slice's spare places count too). A statement '..UptoSaid' is the law's where the arguments, and the package variables that the reading takes, are together of bulk at most 1048576: NARROWER than '..Said'. Prove '..Said' where nothing that the law and all that it calls make is longer than what came in: it says more and counts as full. Else prove '..UptoSaid'. A law counts once. -/
mutual
def uptoBulk {H : Type} : DataW H → Nat
  | .lit (.string bytes) => bytes.length + 1
  | .lit _ => 1
  | .nil => 1
  | .ptr d => uptoBulk d + 1
  | .slice elems spare => uptoBulkAll elems + uptoBulkAll spare + 1
  | .agg parts => uptoBulkAll parts + 1
  | .iface _ d => uptoBulk d + 1
  | .map entries => uptoBulkEntries entries + 1
  | .held _ => 1
def uptoBulkAll {H : Type} : List (DataW H) → Nat
  | [] => 0
  | d :: r => uptoBulk d + uptoBulkAll r
def uptoBulkEntries {H : Type} : List (Lit × DataW H) → Nat
  | [] => 0
  | x :: r => uptoBulkEntry x + uptoBulkEntries r
def uptoBulkEntry {H : Type} : Lit × DataW H → Nat
  | (.string bytes, d) => bytes.length + uptoBulk d + 1
  | (_, d) => uptoBulk d + 1
 end
def uptoSmall : (H : Type) → List (DataW H) → Bool := fun _ ds => decide (uptoBulkAll ds ≤ 1048576)
def OpenSpec.upto (s : _root_.Go.ChangeSpec) : _root_.Go.OpenSpec := { _root_.Go.OpenSpec.ofChange s with cond := some uptoSmall }

/-- 'laws.FnGRestores', WHERE WHAT IT READS IS OF BULK AT MOST 1048576: true; the input reads as it did. -/
def fnGRestoresUptoRow : OpenClaim := { program := "ytebiihomlhljkaa", sum := "42b380b8f15bb16142d2ec84b15979bb3599e1bf0253793af3318335cbf5b8db", func := "pub-greenwood/laws.FnGRestores", spec := "fnGRestores", unfollowed := true, recurses := true, apart := false, narrowed := true }
def FnGRestoresUptoSaid : Prop := fnGRestoresUptoRow.holds Try.pinned (OpenSpec.upto fnGRestoresSpec)

/-- 'laws.FnExactGAscendHint', WHERE WHAT IT READS IS OF BULK AT MOST 1048576: true; the input reads as it did. -/
def fnExactGAscendHintUptoRow : OpenClaim := { program := "ytebiihomlhljkaa", sum := "42b380b8f15bb16142d2ec84b15979bb3599e1bf0253793af3318335cbf5b8db", func := "pub-greenwood/laws.FnExactGAscendHint", spec := "fnExactGAscendHint", unfollowed := true, recurses := true, apart := false, narrowed := true }
def FnExactGAscendHintUptoSaid : Prop := fnExactGAscendHintUptoRow.holds Try.pinned (OpenSpec.upto fnExactGAscendHintSpec)

/-- 'laws.FnGMuts', WHERE WHAT IT READS IS OF BULK AT MOST 1048576: true; the input reads as it did. -/
def fnGMutsUptoRow : OpenClaim := { program := "ytebiihomlhljkaa", sum := "42b380b8f15bb16142d2ec84b15979bb3599e1bf0253793af3318335cbf5b8db", func := "pub-greenwood/laws.FnGMuts", spec := "fnGMuts", unfollowed := true, recurses := true, apart := false, narrowed := true }
def FnGMutsUptoSaid : Prop := fnGMutsUptoRow.holds Try.pinned (OpenSpec.upto fnGMutsSpec)

/-- 'laws.FnExactGDeleteHint', WHERE WHAT IT READS IS OF BULK AT MOST 1048576: true; the input reads as it did. -/
def fnExactGDeleteHintUptoRow : OpenClaim := { program := "ytebiihomlhljkaa", sum := "42b380b8f15bb16142d2ec84b15979bb3599e1bf0253793af3318335cbf5b8db", func := "pub-greenwood/laws.FnExactGDeleteHint", spec := "fnExactGDeleteHint", unfollowed := true, recurses := true, apart := false, narrowed := true }
def FnExactGDeleteHintUptoSaid : Prop := fnExactGDeleteHintUptoRow.holds Try.pinned (OpenSpec.upto fnExactGDeleteHintSpec)

/-- 'laws.FnExactGIter', WHERE WHAT IT READS IS OF BULK AT MOST 1048576: true; the input reads as it did. -/
def fnExactGIterUptoRow : OpenClaim := { program := "ytebiihomlhljkaa", sum := "42b380b8f15bb16142d2ec84b15979bb3599e1bf0253793af3318335cbf5b8db", func := "pub-greenwood/laws.FnExactGIter", spec := "fnExactGIter", unfollowed := true, recurses := true, apart := false, narrowed := true }
def FnExactGIterUptoSaid : Prop := fnExactGIterUptoRow.holds Try.pinned (OpenSpec.upto fnExactGIterSpec)

/-- 'laws.FnExactGPops', WHERE WHAT IT READS IS OF BULK AT MOST 1048576: true; the input reads as it did. -/
def fnExactGPopsUptoRow : OpenClaim := { program := "ytebiihomlhljkaa", sum := "42b380b8f15bb16142d2ec84b15979bb3599e1bf0253793af3318335cbf5b8db", func := "pub-greenwood/laws.FnExactGPops", spec := "fnExactGPops", unfollowed := true, recurses := true, apart := false, narrowed := true }
def FnExactGPopsUptoSaid : Prop := fnExactGPopsUptoRow.holds Try.pinned (OpenSpec.upto fnExactGPopsSpec)

/-- 'laws.FnGDeleteTwo', WHERE WHAT IT READS IS OF BULK AT MOST 1048576: true; the input reads as it did. -/
def fnGDeleteTwoUptoRow : OpenClaim := { program := "ytebiihomlhljkaa", sum := "42b380b8f15bb16142d2ec84b15979bb3599e1bf0253793af3318335cbf5b8db", func := "pub-greenwood/laws.FnGDeleteTwo", spec := "fnGDeleteTwo", unfollowed := true, recurses := true, apart := false, narrowed := true }
def FnGDeleteTwoUptoSaid : Prop := fnGDeleteTwoUptoRow.holds Try.pinned (OpenSpec.upto fnGDeleteTwoSpec)

/-- 'laws.FnExactGDeleteAscend', WHERE WHAT IT READS IS OF BULK AT MOST 1048576: true; the input reads as it did. -/
def fnExactGDeleteAscendUptoRow : OpenClaim := { program := "ytebiihomlhljkaa", sum := "42b380b8f15bb16142d2ec84b15979bb3599e1bf0253793af3318335cbf5b8db", func := "pub-greenwood/laws.FnExactGDeleteAscend", spec := "fnExactGDeleteAscend", unfollowed := true, recurses := true, apart := false, narrowed := true }
def FnExactGDeleteAscendUptoSaid : Prop := fnExactGDeleteAscendUptoRow.holds Try.pinned (OpenSpec.upto fnExactGDeleteAscendSpec)

/-- 'laws.FnGRangeOptions', WHERE WHAT IT READS IS OF BULK AT MOST 1048576: true; the input reads as it did. -/
def fnGRangeOptionsUptoRow : OpenClaim := { program := "ytebiihomlhljkaa", sum := "42b380b8f15bb16142d2ec84b15979bb3599e1bf0253793af3318335cbf5b8db", func := "pub-greenwood/laws.FnGRangeOptions", spec := "fnGRangeOptions", unfollowed := true, recurses := true, apart := false, narrowed := true }
def FnGRangeOptionsUptoSaid : Prop := fnGRangeOptionsUptoRow.holds Try.pinned (OpenSpec.upto fnGRangeOptionsSpec)

end Rows
end Go.Proofs.Ytebiihomlhljkaa
