/-
  No cell of these rows narrows 'for every input' (looked for: loops, veiled, ifaces, maps, wideKeys, modest, calm, conditions, laid).
  DERIVED. THE GIVEN ROWS OF THIS SEAT. 11 by the template 'for every input the law returns true; each argument reads behind the call as it read before'; 0 by the template 'total and deterministic' (their statements: YtkhpbcckaenmcaaTotals.lean).
  GIVEN WITH THE SEED: the statements are not yours to turn. If you find one false, say at which input.
  Laid BY PROGRAM, IN A SANDBOX (cutbox-rows.mjs): the forced cells as the released guide's own fill.sh prints them over the translation ef061a76713e21a1… (all of the seat's roots in one cut). By AI agents, Wed Nov 11 2026. No macro, syntax, notation, axiom, sorry.
-/
import Derived.Test.YtkhpbcckaenmcaaChecked
import GoSem.Claim
import GoSem.ClaimJoined
import GoSem.ClaimMapViews
import Derived.JoinedTies
import Derived.KernelRfl
namespace Go.Proofs.Ytkhpbcckaenmcaa
/- THE CELL 'sum', in the pinned program and in every row, IS THE sha256 OF THE DUMP (.gsa) THAT YtkhpbcckaenmcaaProg.lean LOADS. Nothing in Lean hashes anything: it is a label: what it is worth is what the hold of that sum in a sandbox is worth. -/
noncomputable def Try.pinned : Pinned := { name := "ytkhpbcckaenmcaa", sum := "ef061a76713e21a18e90eedccc31dbe1ded87f03bf566767a67999ff22e2f921", checked := Try.checked }
namespace Rows
def none {H : Type} : Left H := { results := [], args := [] }

/-- 'laws.FnExactMMaxMut': WHATEVER THE INPUT: true; the input reads as it did. -/
def fnExactMMaxMutSpec : ChangeSpec := { name := "fnExactMMaxMut", fn := fun _ => fun
  | [d1, d2] => { results := [.lit (.bool true)], args := [d1, d2] }
  | _ => none }
def fnExactMMaxMutRow : OpenClaim := { program := "ytkhpbcckaenmcaa", sum := "ef061a76713e21a18e90eedccc31dbe1ded87f03bf566767a67999ff22e2f921", func := "pub-greenwood/laws.FnExactMMaxMut", spec := "fnExactMMaxMut", unfollowed := true, recurses := true, apart := false }
def FnExactMMaxMutSaid : Prop := fnExactMMaxMutRow.holds Try.pinned (OpenSpec.ofChange fnExactMMaxMutSpec)

/-- ITS FALSE NEIGHBOUR: 'it returns false'. Refute it at one input. -/
def fnExactMMaxMutWrong : ChangeSpec := { name := "fnExactMMaxMut", fn := fun _ => fun
  | [d1, d2] => { results := [.lit (.bool false)], args := [d1, d2] }
  | _ => none }
def FnExactMMaxMutWrongFalsely : Prop := fnExactMMaxMutRow.holds Try.pinned (OpenSpec.ofChange fnExactMMaxMutWrong)

/-- 'laws.FnExactMValues': WHATEVER THE INPUT: true; the input reads as it did. -/
def fnExactMValuesSpec : ChangeSpec := { name := "fnExactMValues", fn := fun _ => fun
  | [d1, d2] => { results := [.lit (.bool true)], args := [d1, d2] }
  | _ => none }
def fnExactMValuesRow : OpenClaim := { program := "ytkhpbcckaenmcaa", sum := "ef061a76713e21a18e90eedccc31dbe1ded87f03bf566767a67999ff22e2f921", func := "pub-greenwood/laws.FnExactMValues", spec := "fnExactMValues", unfollowed := true, recurses := true, apart := false }
def FnExactMValuesSaid : Prop := fnExactMValuesRow.holds Try.pinned (OpenSpec.ofChange fnExactMValuesSpec)

/-- ITS FALSE NEIGHBOUR: 'it returns false'. Refute it at one input. -/
def fnExactMValuesWrong : ChangeSpec := { name := "fnExactMValues", fn := fun _ => fun
  | [d1, d2] => { results := [.lit (.bool false)], args := [d1, d2] }
  | _ => none }
def FnExactMValuesWrongFalsely : Prop := fnExactMValuesRow.holds Try.pinned (OpenSpec.ofChange fnExactMValuesWrong)

/-- 'laws.FnExactMGetMut': WHATEVER THE INPUT: true; the input reads as it did. -/
def fnExactMGetMutSpec : ChangeSpec := { name := "fnExactMGetMut", fn := fun _ => fun
  | [d1, d2, d3] => { results := [.lit (.bool true)], args := [d1, d2, d3] }
  | _ => none }
def fnExactMGetMutRow : OpenClaim := { program := "ytkhpbcckaenmcaa", sum := "ef061a76713e21a18e90eedccc31dbe1ded87f03bf566767a67999ff22e2f921", func := "pub-greenwood/laws.FnExactMGetMut", spec := "fnExactMGetMut", unfollowed := true, recurses := true, apart := false }
def FnExactMGetMutSaid : Prop := fnExactMGetMutRow.holds Try.pinned (OpenSpec.ofChange fnExactMGetMutSpec)

/-- ITS FALSE NEIGHBOUR: 'it returns false'. Refute it at one input. -/
def fnExactMGetMutWrong : ChangeSpec := { name := "fnExactMGetMut", fn := fun _ => fun
  | [d1, d2, d3] => { results := [.lit (.bool false)], args := [d1, d2, d3] }
  | _ => none }
def FnExactMGetMutWrongFalsely : Prop := fnExactMGetMutRow.holds Try.pinned (OpenSpec.ofChange fnExactMGetMutWrong)

/-- 'laws.FnExactMScan': WHATEVER THE INPUT: true; the input reads as it did. -/
def fnExactMScanSpec : ChangeSpec := { name := "fnExactMScan", fn := fun _ => fun
  | [d1, d2, d3] => { results := [.lit (.bool true)], args := [d1, d2, d3] }
  | _ => none }
def fnExactMScanRow : OpenClaim := { program := "ytkhpbcckaenmcaa", sum := "ef061a76713e21a18e90eedccc31dbe1ded87f03bf566767a67999ff22e2f921", func := "pub-greenwood/laws.FnExactMScan", spec := "fnExactMScan", unfollowed := true, recurses := true, apart := false }
def FnExactMScanSaid : Prop := fnExactMScanRow.holds Try.pinned (OpenSpec.ofChange fnExactMScanSpec)

/-- ITS FALSE NEIGHBOUR: 'it returns false'. Refute it at one input. -/
def fnExactMScanWrong : ChangeSpec := { name := "fnExactMScan", fn := fun _ => fun
  | [d1, d2, d3] => { results := [.lit (.bool false)], args := [d1, d2, d3] }
  | _ => none }
def FnExactMScanWrongFalsely : Prop := fnExactMScanRow.holds Try.pinned (OpenSpec.ofChange fnExactMScanWrong)

/-- 'laws.FnMSorted': WHATEVER THE INPUT: true; the input reads as it did. -/
def fnMSortedSpec : ChangeSpec := { name := "fnMSorted", fn := fun _ => fun
  | [d1, d2] => { results := [.lit (.bool true)], args := [d1, d2] }
  | _ => none }
def fnMSortedRow : OpenClaim := { program := "ytkhpbcckaenmcaa", sum := "ef061a76713e21a18e90eedccc31dbe1ded87f03bf566767a67999ff22e2f921", func := "pub-greenwood/laws.FnMSorted", spec := "fnMSorted", unfollowed := true, recurses := true, apart := false }
def FnMSortedSaid : Prop := fnMSortedRow.holds Try.pinned (OpenSpec.ofChange fnMSortedSpec)

/-- ITS FALSE NEIGHBOUR: 'it returns false'. Refute it at one input. -/
def fnMSortedWrong : ChangeSpec := { name := "fnMSorted", fn := fun _ => fun
  | [d1, d2] => { results := [.lit (.bool false)], args := [d1, d2] }
  | _ => none }
def FnMSortedWrongFalsely : Prop := fnMSortedRow.holds Try.pinned (OpenSpec.ofChange fnMSortedWrong)

/-- 'laws.FnExactMAscend': WHATEVER THE INPUT: true; the input reads as it did. -/
def fnExactMAscendSpec : ChangeSpec := { name := "fnExactMAscend", fn := fun _ => fun
  | [d1, d2, d3, d4] => { results := [.lit (.bool true)], args := [d1, d2, d3, d4] }
  | _ => none }
def fnExactMAscendRow : OpenClaim := { program := "ytkhpbcckaenmcaa", sum := "ef061a76713e21a18e90eedccc31dbe1ded87f03bf566767a67999ff22e2f921", func := "pub-greenwood/laws.FnExactMAscend", spec := "fnExactMAscend", unfollowed := true, recurses := true, apart := false }
def FnExactMAscendSaid : Prop := fnExactMAscendRow.holds Try.pinned (OpenSpec.ofChange fnExactMAscendSpec)

/-- ITS FALSE NEIGHBOUR: 'it returns false'. Refute it at one input. -/
def fnExactMAscendWrong : ChangeSpec := { name := "fnExactMAscend", fn := fun _ => fun
  | [d1, d2, d3, d4] => { results := [.lit (.bool false)], args := [d1, d2, d3, d4] }
  | _ => none }
def FnExactMAscendWrongFalsely : Prop := fnExactMAscendRow.holds Try.pinned (OpenSpec.ofChange fnExactMAscendWrong)

/-- 'laws.FnExactMIter': WHATEVER THE INPUT: true; the input reads as it did. -/
def fnExactMIterSpec : ChangeSpec := { name := "fnExactMIter", fn := fun _ => fun
  | [d1, d2, d3] => { results := [.lit (.bool true)], args := [d1, d2, d3] }
  | _ => none }
def fnExactMIterRow : OpenClaim := { program := "ytkhpbcckaenmcaa", sum := "ef061a76713e21a18e90eedccc31dbe1ded87f03bf566767a67999ff22e2f921", func := "pub-greenwood/laws.FnExactMIter", spec := "fnExactMIter", unfollowed := true, recurses := true, apart := false }
def FnExactMIterSaid : Prop := fnExactMIterRow.holds Try.pinned (OpenSpec.ofChange fnExactMIterSpec)

/-- ITS FALSE NEIGHBOUR: 'it returns false'. Refute it at one input. -/
def fnExactMIterWrong : ChangeSpec := { name := "fnExactMIter", fn := fun _ => fun
  | [d1, d2, d3] => { results := [.lit (.bool false)], args := [d1, d2, d3] }
  | _ => none }
def FnExactMIterWrongFalsely : Prop := fnExactMIterRow.holds Try.pinned (OpenSpec.ofChange fnExactMIterWrong)

/-- 'laws.FnExactMDeleteAt': WHATEVER THE INPUT: true; the input reads as it did. -/
def fnExactMDeleteAtSpec : ChangeSpec := { name := "fnExactMDeleteAt", fn := fun _ => fun
  | [d1, d2, d3] => { results := [.lit (.bool true)], args := [d1, d2, d3] }
  | _ => none }
def fnExactMDeleteAtRow : OpenClaim := { program := "ytkhpbcckaenmcaa", sum := "ef061a76713e21a18e90eedccc31dbe1ded87f03bf566767a67999ff22e2f921", func := "pub-greenwood/laws.FnExactMDeleteAt", spec := "fnExactMDeleteAt", unfollowed := true, recurses := true, apart := false }
def FnExactMDeleteAtSaid : Prop := fnExactMDeleteAtRow.holds Try.pinned (OpenSpec.ofChange fnExactMDeleteAtSpec)

/-- ITS FALSE NEIGHBOUR: 'it returns false'. Refute it at one input. -/
def fnExactMDeleteAtWrong : ChangeSpec := { name := "fnExactMDeleteAt", fn := fun _ => fun
  | [d1, d2, d3] => { results := [.lit (.bool false)], args := [d1, d2, d3] }
  | _ => none }
def FnExactMDeleteAtWrongFalsely : Prop := fnExactMDeleteAtRow.holds Try.pinned (OpenSpec.ofChange fnExactMDeleteAtWrong)

/-- 'laws.FnMSieve': WHATEVER THE INPUT: true; the input reads as it did. -/
def fnMSieveSpec : ChangeSpec := { name := "fnMSieve", fn := fun _ => fun
  | [d1, d2, d3, d4] => { results := [.lit (.bool true)], args := [d1, d2, d3, d4] }
  | _ => none }
def fnMSieveRow : OpenClaim := { program := "ytkhpbcckaenmcaa", sum := "ef061a76713e21a18e90eedccc31dbe1ded87f03bf566767a67999ff22e2f921", func := "pub-greenwood/laws.FnMSieve", spec := "fnMSieve", unfollowed := true, recurses := true, apart := false }
def FnMSieveSaid : Prop := fnMSieveRow.holds Try.pinned (OpenSpec.ofChange fnMSieveSpec)

/-- ITS FALSE NEIGHBOUR: 'it returns false'. Refute it at one input. -/
def fnMSieveWrong : ChangeSpec := { name := "fnMSieve", fn := fun _ => fun
  | [d1, d2, d3, d4] => { results := [.lit (.bool false)], args := [d1, d2, d3, d4] }
  | _ => none }
def FnMSieveWrongFalsely : Prop := fnMSieveRow.holds Try.pinned (OpenSpec.ofChange fnMSieveWrong)

/-- 'laws.FnMGets': WHATEVER THE INPUT: true; the input reads as it did. -/
def fnMGetsSpec : ChangeSpec := { name := "fnMGets", fn := fun _ => fun
  | [d1, d2, d3] => { results := [.lit (.bool true)], args := [d1, d2, d3] }
  | _ => none }
def fnMGetsRow : OpenClaim := { program := "ytkhpbcckaenmcaa", sum := "ef061a76713e21a18e90eedccc31dbe1ded87f03bf566767a67999ff22e2f921", func := "pub-greenwood/laws.FnMGets", spec := "fnMGets", unfollowed := true, recurses := true, apart := false }
def FnMGetsSaid : Prop := fnMGetsRow.holds Try.pinned (OpenSpec.ofChange fnMGetsSpec)

/-- ITS FALSE NEIGHBOUR: 'it returns false'. Refute it at one input. -/
def fnMGetsWrong : ChangeSpec := { name := "fnMGets", fn := fun _ => fun
  | [d1, d2, d3] => { results := [.lit (.bool false)], args := [d1, d2, d3] }
  | _ => none }
def FnMGetsWrongFalsely : Prop := fnMGetsRow.holds Try.pinned (OpenSpec.ofChange fnMGetsWrong)

/-- 'laws.FnMPopAll': WHATEVER THE INPUT: true; the input reads as it did. -/
def fnMPopAllSpec : ChangeSpec := { name := "fnMPopAll", fn := fun _ => fun
  | [d1, d2, d3] => { results := [.lit (.bool true)], args := [d1, d2, d3] }
  | _ => none }
def fnMPopAllRow : OpenClaim := { program := "ytkhpbcckaenmcaa", sum := "ef061a76713e21a18e90eedccc31dbe1ded87f03bf566767a67999ff22e2f921", func := "pub-greenwood/laws.FnMPopAll", spec := "fnMPopAll", unfollowed := true, recurses := true, apart := false }
def FnMPopAllSaid : Prop := fnMPopAllRow.holds Try.pinned (OpenSpec.ofChange fnMPopAllSpec)

/-- ITS FALSE NEIGHBOUR: 'it returns false'. Refute it at one input. -/
def fnMPopAllWrong : ChangeSpec := { name := "fnMPopAll", fn := fun _ => fun
  | [d1, d2, d3] => { results := [.lit (.bool false)], args := [d1, d2, d3] }
  | _ => none }
def FnMPopAllWrongFalsely : Prop := fnMPopAllRow.holds Try.pinned (OpenSpec.ofChange fnMPopAllWrong)

/- THE SECOND FORM. 'bulk': how many values and letters a reading holds, each counted each time it is reached (what is shared counts as often as it is met; a slice's spare places count too). A statement '..UptoSaid' is the law's where the arguments, and the package variables that the reading takes, are together of bulk at most 1048576: NARROWER than '..Said'. Prove '..Said' where nothing that the law and all that it calls make is longer than what came in: it says more and counts as full. Else prove '..UptoSaid'. A law counts once. -/
mutual
def uptoBulk {H : Type} : DataW H → Nat
  | .lit (.string bytes) => bytes.length + 1
  | .lit _ => 1
  | .nil => 1
  | .ptr d => uptoBulk d + 1
  | .slice elems spare => uptoBulkAll elems + uptoBulkAll spare + 1
  | .agg parts => uptoBulkAll parts + 1
  | .iface _ d => uptoBulk d + 1
  | .map entries => uptoBulkEntries entries + 1
  | .held _ => 1
def uptoBulkAll {H : Type} : List (DataW H) → Nat
  | [] => 0
  | d :: r => uptoBulk d + uptoBulkAll r
def uptoBulkEntries {H : Type} : List (Lit × DataW H) → Nat
  | [] => 0
  | x :: r => uptoBulkEntry x + uptoBulkEntries r
def uptoBulkEntry {H : Type} : Lit × DataW H → Nat
  | (.string bytes, d) => bytes.length + uptoBulk d + 1
  | (_, d) => uptoBulk d + 1
 end
def uptoSmall : (H : Type) → List (DataW H) → Bool := fun _ ds => decide (uptoBulkAll ds ≤ 1048576)
def OpenSpec.upto (s : _root_.Go.ChangeSpec) : _root_.Go.OpenSpec := { _root_.Go.OpenSpec.ofChange s with cond := some uptoSmall }

/-- 'laws.FnExactMMaxMut', WHERE WHAT IT READS IS OF BULK AT MOST 1048576: true; the input reads as it did. -/
def fnExactMMaxMutUptoRow : OpenClaim := { program := "ytkhpbcckaenmcaa", sum := "ef061a76713e21a18e90eedccc31dbe1ded87f03bf566767a67999ff22e2f921", func := "pub-greenwood/laws.FnExactMMaxMut", spec := "fnExactMMaxMut", unfollowed := true, recurses := true, apart := false, narrowed := true }
def FnExactMMaxMutUptoSaid : Prop := fnExactMMaxMutUptoRow.holds Try.pinned (OpenSpec.upto fnExactMMaxMutSpec)

/-- 'laws.FnExactMValues', WHERE WHAT IT READS IS OF BULK AT MOST 1048576: true; the input reads as it did. -/
def fnExactMValuesUptoRow : OpenClaim := { program := "ytkhpbcckaenmcaa", sum := "ef061a76713e21a18e90eedccc31dbe1ded87f03bf566767a67999ff22e2f921", func := "pub-greenwood/laws.FnExactMValues", spec := "fnExactMValues", unfollowed := true, recurses := true, apart := false, narrowed := true }
def FnExactMValuesUptoSaid : Prop := fnExactMValuesUptoRow.holds Try.pinned (OpenSpec.upto fnExactMValuesSpec)

/-- 'laws.FnExactMGetMut', WHERE WHAT IT READS IS OF BULK AT MOST 1048576: true; the input reads as it did. -/
def fnExactMGetMutUptoRow : OpenClaim := { program := "ytkhpbcckaenmcaa", sum := "ef061a76713e21a18e90eedccc31dbe1ded87f03bf566767a67999ff22e2f921", func := "pub-greenwood/laws.FnExactMGetMut", spec := "fnExactMGetMut", unfollowed := true, recurses := true, apart := false, narrowed := true }
def FnExactMGetMutUptoSaid : Prop := fnExactMGetMutUptoRow.holds Try.pinned (OpenSpec.upto fnExactMGetMutSpec)

/-- 'laws.FnExactMScan', WHERE WHAT IT READS IS OF BULK AT MOST 1048576: true; the input reads as it did. -/
def fnExactMScanUptoRow : OpenClaim := { program := "ytkhpbcckaenmcaa", sum := "ef061a76713e21a18e90eedccc31dbe1ded87f03bf566767a67999ff22e2f921", func := "pub-greenwood/laws.FnExactMScan", spec := "fnExactMScan", unfollowed := true, recurses := true, apart := false, narrowed := true }
def FnExactMScanUptoSaid : Prop := fnExactMScanUptoRow.holds Try.pinned (OpenSpec.upto fnExactMScanSpec)

/-- 'laws.FnMSorted', WHERE WHAT IT READS IS OF BULK AT MOST 1048576: true; the input reads as it did. -/
def fnMSortedUptoRow : OpenClaim := { program := "ytkhpbcckaenmcaa", sum := "ef061a76713e21a18e90eedccc31dbe1ded87f03bf566767a67999ff22e2f921", func := "pub-greenwood/laws.FnMSorted", spec := "fnMSorted", unfollowed := true, recurses := true, apart := false, narrowed := true }
def FnMSortedUptoSaid : Prop := fnMSortedUptoRow.holds Try.pinned (OpenSpec.upto fnMSortedSpec)

/-- 'laws.FnExactMAscend', WHERE WHAT IT READS IS OF BULK AT MOST 1048576: true; the input reads as it did. -/
def fnExactMAscendUptoRow : OpenClaim := { program := "ytkhpbcckaenmcaa", sum := "ef061a76713e21a18e90eedccc31dbe1ded87f03bf566767a67999ff22e2f921", func := "pub-greenwood/laws.FnExactMAscend", spec := "fnExactMAscend", unfollowed := true, recurses := true, apart := false, narrowed := true }
def FnExactMAscendUptoSaid : Prop := fnExactMAscendUptoRow.holds Try.pinned (OpenSpec.upto fnExactMAscendSpec)

/-- 'laws.FnExactMIter', WHERE WHAT IT READS IS OF BULK AT MOST 1048576: true; the input reads as it did. -/
def fnExactMIterUptoRow : OpenClaim := { program := "ytkhpbcckaenmcaa", sum := "ef061a76713e21a18e90eedccc31dbe1ded87f03bf566767a67999ff22e2f921", func := "pub-greenwood/laws.FnExactMIter", spec := "fnExactMIter", unfollowed := true, recurses := true, apart := false, narrowed := true }
def FnExactMIterUptoSaid : Prop := fnExactMIterUptoRow.holds Try.pinned (OpenSpec.upto fnExactMIterSpec)

/-- 'laws.FnExactMDeleteAt', WHERE WHAT IT READS IS OF BULK AT MOST 1048576: true; the input reads as it did. -/
def fnExactMDeleteAtUptoRow : OpenClaim := { program := "ytkhpbcckaenmcaa", sum := "ef061a76713e21a18e90eedccc31dbe1ded87f03bf566767a67999ff22e2f921", func := "pub-greenwood/laws.FnExactMDeleteAt", spec := "fnExactMDeleteAt", unfollowed := true, recurses := true, apart := false, narrowed := true }
def FnExactMDeleteAtUptoSaid : Prop := fnExactMDeleteAtUptoRow.holds Try.pinned (OpenSpec.upto fnExactMDeleteAtSpec)

/-- 'laws.FnMSieve', WHERE WHAT IT READS IS OF BULK AT MOST 1048576: true; the input reads as it did. -/
def fnMSieveUptoRow : OpenClaim := { program := "ytkhpbcckaenmcaa", sum := "ef061a76713e21a18e90eedccc31dbe1ded87f03bf566767a67999ff22e2f921", func := "pub-greenwood/laws.FnMSieve", spec := "fnMSieve", unfollowed := true, recurses := true, apart := false, narrowed := true }
def FnMSieveUptoSaid : Prop := fnMSieveUptoRow.holds Try.pinned (OpenSpec.upto fnMSieveSpec)

/-- 'laws.FnMGets', WHERE WHAT IT READS IS OF BULK AT MOST 1048576: true; the input reads as it did. -/
def fnMGetsUptoRow : OpenClaim := { program := "ytkhpbcckaenmcaa", sum := "ef061a76713e21a18e90eedccc31dbe1ded87f03bf566767a67999ff22e2f921", func := "pub-greenwood/laws.FnMGets", spec := "fnMGets", unfollowed := true, recurses := true, apart := false, narrowed := true }
def FnMGetsUptoSaid : Prop := fnMGetsUptoRow.holds Try.pinned (OpenSpec.upto fnMGetsSpec)

/-- 'laws.FnMPopAll', WHERE WHAT IT READS IS OF BULK AT MOST 1048576: true; the input reads as it did. -/
def fnMPopAllUptoRow : OpenClaim := { program := "ytkhpbcckaenmcaa", sum := "ef061a76713e21a18e90eedccc31dbe1ded87f03bf566767a67999ff22e2f921", func := "pub-greenwood/laws.FnMPopAll", spec := "fnMPopAll", unfollowed := true, recurses := true, apart := false, narrowed := true }
def FnMPopAllUptoSaid : Prop := fnMPopAllUptoRow.holds Try.pinned (OpenSpec.upto fnMPopAllSpec)

end Rows
end Go.Proofs.Ytkhpbcckaenmcaa
