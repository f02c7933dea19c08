/-
  No cell of these rows narrows 'for every input' (looked for: loops, veiled, ifaces, maps, wideKeys, modest, calm, conditions, laid).
  DERIVED. THE GIVEN ROWS OF THIS SEAT. 6 by the template 'for every input the law returns true; each argument reads behind the call as it read before'; 0 by the template 'total and deterministic' (their statements: YtlmiafbcgfegpaaTotals.lean).
  GIVEN WITH THE SEED: the statements are not yours to turn. If you find one false, say at which input.
  Laid BY PROGRAM, IN A SANDBOX (cutbox-rows.mjs): the forced cells as the released guide's own fill.sh prints them over the translation 09cd7d546b570fc9… (all of the seat's roots in one cut). By AI agents, Wed Nov 11 2026. No macro, syntax, notation, axiom, sorry.
-/
import Derived.Test.YtlmiafbcgfegpaaChecked
import GoSem.Claim
import GoSem.ClaimJoined
import GoSem.ClaimMapViews
import Derived.JoinedTies
import Derived.KernelRfl
namespace Go.Proofs.Ytlmiafbcgfegpaa
/- THE CELL 'sum', in the pinned program and in every row, IS THE sha256 OF THE DUMP (.gsa) THAT YtlmiafbcgfegpaaProg.lean LOADS. Nothing in Lean hashes anything: it is a label: what it is worth is what the hold of that sum in a sandbox is worth. -/
noncomputable def Try.pinned : Pinned := { name := "ytlmiafbcgfegpaa", sum := "09cd7d546b570fc9e28865e0512cf96323f8f0de4bac05c7186924c349854472", checked := Try.checked }
namespace Rows
def none {H : Type} : Left H := { results := [], args := [] }

/-- 'laws.FnBWalks': WHATEVER THE INPUT: true; the input reads as it did. -/
def fnBWalksSpec : ChangeSpec := { name := "fnBWalks", fn := fun _ => fun
  | [d1, d2] => { results := [.lit (.bool true)], args := [d1, d2] }
  | _ => none }
def fnBWalksRow : OpenClaim := { program := "ytlmiafbcgfegpaa", sum := "09cd7d546b570fc9e28865e0512cf96323f8f0de4bac05c7186924c349854472", func := "pub-greenwood/laws.FnBWalks", spec := "fnBWalks", unfollowed := true, recurses := true, apart := false }
def FnBWalksSaid : Prop := fnBWalksRow.holds Try.pinned (OpenSpec.ofChange fnBWalksSpec)

/-- ITS FALSE NEIGHBOUR: 'it returns false'. Refute it at one input. -/
def fnBWalksWrong : ChangeSpec := { name := "fnBWalks", fn := fun _ => fun
  | [d1, d2] => { results := [.lit (.bool false)], args := [d1, d2] }
  | _ => none }
def FnBWalksWrongFalsely : Prop := fnBWalksRow.holds Try.pinned (OpenSpec.ofChange fnBWalksWrong)

/-- 'laws.FnExactGIter': WHATEVER THE INPUT: true; the input reads as it did. -/
def fnExactGIterSpec : ChangeSpec := { name := "fnExactGIter", fn := fun _ => fun
  | [d1, d2, d3] => { results := [.lit (.bool true)], args := [d1, d2, d3] }
  | _ => none }
def fnExactGIterRow : OpenClaim := { program := "ytlmiafbcgfegpaa", sum := "09cd7d546b570fc9e28865e0512cf96323f8f0de4bac05c7186924c349854472", func := "pub-greenwood/laws.FnExactGIter", spec := "fnExactGIter", unfollowed := true, recurses := true, apart := false }
def FnExactGIterSaid : Prop := fnExactGIterRow.holds Try.pinned (OpenSpec.ofChange fnExactGIterSpec)

/-- ITS FALSE NEIGHBOUR: 'it returns false'. Refute it at one input. -/
def fnExactGIterWrong : ChangeSpec := { name := "fnExactGIter", fn := fun _ => fun
  | [d1, d2, d3] => { results := [.lit (.bool false)], args := [d1, d2, d3] }
  | _ => none }
def FnExactGIterWrongFalsely : Prop := fnExactGIterRow.holds Try.pinned (OpenSpec.ofChange fnExactGIterWrong)

/-- 'laws.FnExactMIter': WHATEVER THE INPUT: true; the input reads as it did. -/
def fnExactMIterSpec : ChangeSpec := { name := "fnExactMIter", fn := fun _ => fun
  | [d1, d2, d3] => { results := [.lit (.bool true)], args := [d1, d2, d3] }
  | _ => none }
def fnExactMIterRow : OpenClaim := { program := "ytlmiafbcgfegpaa", sum := "09cd7d546b570fc9e28865e0512cf96323f8f0de4bac05c7186924c349854472", func := "pub-greenwood/laws.FnExactMIter", spec := "fnExactMIter", unfollowed := true, recurses := true, apart := false }
def FnExactMIterSaid : Prop := fnExactMIterRow.holds Try.pinned (OpenSpec.ofChange fnExactMIterSpec)

/-- ITS FALSE NEIGHBOUR: 'it returns false'. Refute it at one input. -/
def fnExactMIterWrong : ChangeSpec := { name := "fnExactMIter", fn := fun _ => fun
  | [d1, d2, d3] => { results := [.lit (.bool false)], args := [d1, d2, d3] }
  | _ => none }
def FnExactMIterWrongFalsely : Prop := fnExactMIterRow.holds Try.pinned (OpenSpec.ofChange fnExactMIterWrong)

/-- 'laws.FnGMerges': WHATEVER THE INPUT: true; the input reads as it did. -/
def fnGMergesSpec : ChangeSpec := { name := "fnGMerges", fn := fun _ => fun
  | [d1, d2, d3] => { results := [.lit (.bool true)], args := [d1, d2, d3] }
  | _ => none }
def fnGMergesRow : OpenClaim := { program := "ytlmiafbcgfegpaa", sum := "09cd7d546b570fc9e28865e0512cf96323f8f0de4bac05c7186924c349854472", func := "pub-greenwood/laws.FnGMerges", spec := "fnGMerges", unfollowed := true, recurses := true, apart := false }
def FnGMergesSaid : Prop := fnGMergesRow.holds Try.pinned (OpenSpec.ofChange fnGMergesSpec)

/-- ITS FALSE NEIGHBOUR: 'it returns false'. Refute it at one input. -/
def fnGMergesWrong : ChangeSpec := { name := "fnGMerges", fn := fun _ => fun
  | [d1, d2, d3] => { results := [.lit (.bool false)], args := [d1, d2, d3] }
  | _ => none }
def FnGMergesWrongFalsely : Prop := fnGMergesRow.holds Try.pinned (OpenSpec.ofChange fnGMergesWrong)

/-- 'laws.FnExactGDeleteAscend': WHATEVER THE INPUT: true; the input reads as it did. -/
def fnExactGDeleteAscendSpec : ChangeSpec := { name := "fnExactGDeleteAscend", fn := fun _ => fun
  | [d1, d2, d3, d4] => { results := [.lit (.bool true)], args := [d1, d2, d3, d4] }
  | _ => none }
def fnExactGDeleteAscendRow : OpenClaim := { program := "ytlmiafbcgfegpaa", sum := "09cd7d546b570fc9e28865e0512cf96323f8f0de4bac05c7186924c349854472", func := "pub-greenwood/laws.FnExactGDeleteAscend", spec := "fnExactGDeleteAscend", unfollowed := true, recurses := true, apart := false }
def FnExactGDeleteAscendSaid : Prop := fnExactGDeleteAscendRow.holds Try.pinned (OpenSpec.ofChange fnExactGDeleteAscendSpec)

/-- ITS FALSE NEIGHBOUR: 'it returns false'. Refute it at one input. -/
def fnExactGDeleteAscendWrong : ChangeSpec := { name := "fnExactGDeleteAscend", fn := fun _ => fun
  | [d1, d2, d3, d4] => { results := [.lit (.bool false)], args := [d1, d2, d3, d4] }
  | _ => none }
def FnExactGDeleteAscendWrongFalsely : Prop := fnExactGDeleteAscendRow.holds Try.pinned (OpenSpec.ofChange fnExactGDeleteAscendWrong)

/-- 'laws.FnGRangeOptions': WHATEVER THE INPUT: true; the input reads as it did. -/
def fnGRangeOptionsSpec : ChangeSpec := { name := "fnGRangeOptions", fn := fun _ => fun
  | [d1, d2, d3, d4, d5] => { results := [.lit (.bool true)], args := [d1, d2, d3, d4, d5] }
  | _ => none }
def fnGRangeOptionsRow : OpenClaim := { program := "ytlmiafbcgfegpaa", sum := "09cd7d546b570fc9e28865e0512cf96323f8f0de4bac05c7186924c349854472", func := "pub-greenwood/laws.FnGRangeOptions", spec := "fnGRangeOptions", unfollowed := true, recurses := true, apart := false }
def FnGRangeOptionsSaid : Prop := fnGRangeOptionsRow.holds Try.pinned (OpenSpec.ofChange fnGRangeOptionsSpec)

/-- ITS FALSE NEIGHBOUR: 'it returns false'. Refute it at one input. -/
def fnGRangeOptionsWrong : ChangeSpec := { name := "fnGRangeOptions", fn := fun _ => fun
  | [d1, d2, d3, d4, d5] => { results := [.lit (.bool false)], args := [d1, d2, d3, d4, d5] }
  | _ => none }
def FnGRangeOptionsWrongFalsely : Prop := fnGRangeOptionsRow.holds Try.pinned (OpenSpec.ofChange fnGRangeOptionsWrong)

/- THE SECOND FORM. 'bulk': how many values and letters a reading holds, each counted each time it is reached (what is shared counts as often as it is met; a slice's spare places count too). A statement '..UptoSaid' is the law's where the arguments, and the package variables that the reading takes, are together of bulk at most 1048576: NARROWER than '..Said'. Prove '..Said' where nothing that the law and all that it calls make is longer than what came in: it says more and counts as full. Else prove '..UptoSaid'. A law counts once. -/
mutual
def uptoBulk {H : Type} : DataW H → Nat
  | .lit (.string bytes) => bytes.length + 1
  | .lit _ => 1
  | .nil => 1
  | .ptr d => uptoBulk d + 1
  | .slice elems spare => uptoBulkAll elems + uptoBulkAll spare + 1
  | .agg parts => uptoBulkAll parts + 1
  | .iface _ d => uptoBulk d + 1
  | .map entries => uptoBulkEntries entries + 1
  | .held _ => 1
def uptoBulkAll {H : Type} : List (DataW H) → Nat
  | [] => 0
  | d :: r => uptoBulk d + uptoBulkAll r
def uptoBulkEntries {H : Type} : List (Lit × DataW H) → Nat
  | [] => 0
  | x :: r => uptoBulkEntry x + uptoBulkEntries r
def uptoBulkEntry {H : Type} : Lit × DataW H → Nat
  | (.string bytes, d) => bytes.length + uptoBulk d + 1
  | (_, d) => uptoBulk d + 1
 end
def uptoSmall : (H : Type) → List (DataW H) → Bool := fun _ ds => decide (uptoBulkAll ds ≤ 1048576)
def OpenSpec.upto (s : _root_.Go.ChangeSpec) : _root_.Go.OpenSpec := { _root_.Go.OpenSpec.ofChange s with cond := some uptoSmall }

/-- 'laws.FnBWalks', WHERE WHAT IT READS IS OF BULK AT MOST 1048576: true; the input reads as it did. -/
def fnBWalksUptoRow : OpenClaim := { program := "ytlmiafbcgfegpaa", sum := "09cd7d546b570fc9e28865e0512cf96323f8f0de4bac05c7186924c349854472", func := "pub-greenwood/laws.FnBWalks", spec := "fnBWalks", unfollowed := true, recurses := true, apart := false, narrowed := true }
def FnBWalksUptoSaid : Prop := fnBWalksUptoRow.holds Try.pinned (OpenSpec.upto fnBWalksSpec)

/-- 'laws.FnExactGIter', WHERE WHAT IT READS IS OF BULK AT MOST 1048576: true; the input reads as it did. -/
def fnExactGIterUptoRow : OpenClaim := { program := "ytlmiafbcgfegpaa", sum := "09cd7d546b570fc9e28865e0512cf96323f8f0de4bac05c7186924c349854472", func := "pub-greenwood/laws.FnExactGIter", spec := "fnExactGIter", unfollowed := true, recurses := true, apart := false, narrowed := true }
def FnExactGIterUptoSaid : Prop := fnExactGIterUptoRow.holds Try.pinned (OpenSpec.upto fnExactGIterSpec)

/-- 'laws.FnExactMIter', WHERE WHAT IT READS IS OF BULK AT MOST 1048576: true; the input reads as it did. -/
def fnExactMIterUptoRow : OpenClaim := { program := "ytlmiafbcgfegpaa", sum := "09cd7d546b570fc9e28865e0512cf96323f8f0de4bac05c7186924c349854472", func := "pub-greenwood/laws.FnExactMIter", spec := "fnExactMIter", unfollowed := true, recurses := true, apart := false, narrowed := true }
def FnExactMIterUptoSaid : Prop := fnExactMIterUptoRow.holds Try.pinned (OpenSpec.upto fnExactMIterSpec)

/-- 'laws.FnGMerges', WHERE WHAT IT READS IS OF BULK AT MOST 1048576: true; the input reads as it did. -/
def fnGMergesUptoRow : OpenClaim := { program := "ytlmiafbcgfegpaa", sum := "09cd7d546b570fc9e28865e0512cf96323f8f0de4bac05c7186924c349854472", func := "pub-greenwood/laws.FnGMerges", spec := "fnGMerges", unfollowed := true, recurses := true, apart := false, narrowed := true }
def FnGMergesUptoSaid : Prop := fnGMergesUptoRow.holds Try.pinned (OpenSpec.upto fnGMergesSpec)

/-- 'laws.FnExactGDeleteAscend', WHERE WHAT IT READS IS OF BULK AT MOST 1048576: true; the input reads as it did. -/
def fnExactGDeleteAscendUptoRow : OpenClaim := { program := "ytlmiafbcgfegpaa", sum := "09cd7d546b570fc9e28865e0512cf96323f8f0de4bac05c7186924c349854472", func := "pub-greenwood/laws.FnExactGDeleteAscend", spec := "fnExactGDeleteAscend", unfollowed := true, recurses := true, apart := false, narrowed := true }
def FnExactGDeleteAscendUptoSaid : Prop := fnExactGDeleteAscendUptoRow.holds Try.pinned (OpenSpec.upto fnExactGDeleteAscendSpec)

/-- 'laws.FnGRangeOptions', WHERE WHAT IT READS IS OF BULK AT MOST 1048576: true; the input reads as it did. -/
def fnGRangeOptionsUptoRow : OpenClaim := { program := "ytlmiafbcgfegpaa", sum := "09cd7d546b570fc9e28865e0512cf96323f8f0de4bac05c7186924c349854472", func := "pub-greenwood/laws.FnGRangeOptions", spec := "fnGRangeOptions", unfollowed := true, recurses := true, apart := false, narrowed := true }
def FnGRangeOptionsUptoSaid : Prop := fnGRangeOptionsUptoRow.holds Try.pinned (OpenSpec.upto fnGRangeOptionsSpec)

end Rows
end Go.Proofs.Ytlmiafbcgfegpaa
