/-
  No cell of these rows narrows 'for every input' (looked for: loops, veiled, ifaces, maps, wideKeys, modest, calm, conditions, laid).
  DERIVED. THE GIVEN ROWS OF THIS SEAT. 12 by the template 'for every input the law returns true; each argument reads behind the call as it read before'; 0 by the template 'total and deterministic' (their statements: YthcgddidkoejbaaTotals.lean).
  GIVEN WITH THE SEED: the statements are not yours to turn. If you find one false, say at which input.
  Laid BY PROGRAM, IN A SANDBOX (cutbox-rows.mjs): the forced cells as the released guide's own fill.sh prints them over the translation 3b1915c5c3c82784… (all of the seat's roots in one cut). By AI agents, Wed Nov 11 2026. No macro, syntax, notation, axiom, sorry.
-/
import Derived.Test.YthcgddidkoejbaaChecked
import GoSem.Claim
import GoSem.ClaimJoined
import GoSem.ClaimMapViews
import Derived.JoinedTies
import Derived.KernelRfl
namespace Go.Proofs.Ythcgddidkoejbaa
/- THE CELL 'sum', in the pinned program and in every row, IS THE sha256 OF THE DUMP (.gsa) THAT YthcgddidkoejbaaProg.lean LOADS. Nothing in Lean hashes anything: it is a label: what it is worth is what the hold of that sum in a sandbox is worth. -/
noncomputable def Try.pinned : Pinned := { name := "ythcgddidkoejbaa", sum := "3b1915c5c3c82784ce4f02ea8971b2b63f74db838165304835b049af9131d932", checked := Try.checked }
namespace Rows
def none {H : Type} : Left H := { results := [], args := [] }

/-- 'laws.FnExactGMin': WHATEVER THE INPUT: true; the input reads as it did. -/
def fnExactGMinSpec : ChangeSpec := { name := "fnExactGMin", fn := fun _ => fun
  | [d1, d2] => { results := [.lit (.bool true)], args := [d1, d2] }
  | _ => none }
def fnExactGMinRow : OpenClaim := { program := "ythcgddidkoejbaa", sum := "3b1915c5c3c82784ce4f02ea8971b2b63f74db838165304835b049af9131d932", func := "pub-greenwood/laws.FnExactGMin", spec := "fnExactGMin", unfollowed := true, recurses := true, apart := false }
def FnExactGMinSaid : Prop := fnExactGMinRow.holds Try.pinned (OpenSpec.ofChange fnExactGMinSpec)

/-- ITS FALSE NEIGHBOUR: 'it returns false'. Refute it at one input. -/
def fnExactGMinWrong : ChangeSpec := { name := "fnExactGMin", fn := fun _ => fun
  | [d1, d2] => { results := [.lit (.bool false)], args := [d1, d2] }
  | _ => none }
def FnExactGMinWrongFalsely : Prop := fnExactGMinRow.holds Try.pinned (OpenSpec.ofChange fnExactGMinWrong)

/-- 'laws.FnGLast': WHATEVER THE INPUT: true; the input reads as it did. -/
def fnGLastSpec : ChangeSpec := { name := "fnGLast", fn := fun _ => fun
  | [d1, d2] => { results := [.lit (.bool true)], args := [d1, d2] }
  | _ => none }
def fnGLastRow : OpenClaim := { program := "ythcgddidkoejbaa", sum := "3b1915c5c3c82784ce4f02ea8971b2b63f74db838165304835b049af9131d932", func := "pub-greenwood/laws.FnGLast", spec := "fnGLast", unfollowed := true, recurses := true, apart := false }
def FnGLastSaid : Prop := fnGLastRow.holds Try.pinned (OpenSpec.ofChange fnGLastSpec)

/-- ITS FALSE NEIGHBOUR: 'it returns false'. Refute it at one input. -/
def fnGLastWrong : ChangeSpec := { name := "fnGLast", fn := fun _ => fun
  | [d1, d2] => { results := [.lit (.bool false)], args := [d1, d2] }
  | _ => none }
def FnGLastWrongFalsely : Prop := fnGLastRow.holds Try.pinned (OpenSpec.ofChange fnGLastWrong)

/-- 'laws.FnGHeight': WHATEVER THE INPUT: true; the input reads as it did. -/
def fnGHeightSpec : ChangeSpec := { name := "fnGHeight", fn := fun _ => fun
  | [d1, d2] => { results := [.lit (.bool true)], args := [d1, d2] }
  | _ => none }
def fnGHeightRow : OpenClaim := { program := "ythcgddidkoejbaa", sum := "3b1915c5c3c82784ce4f02ea8971b2b63f74db838165304835b049af9131d932", func := "pub-greenwood/laws.FnGHeight", spec := "fnGHeight", unfollowed := true, recurses := true, apart := false }
def FnGHeightSaid : Prop := fnGHeightRow.holds Try.pinned (OpenSpec.ofChange fnGHeightSpec)

/-- ITS FALSE NEIGHBOUR: 'it returns false'. Refute it at one input. -/
def fnGHeightWrong : ChangeSpec := { name := "fnGHeight", fn := fun _ => fun
  | [d1, d2] => { results := [.lit (.bool false)], args := [d1, d2] }
  | _ => none }
def FnGHeightWrongFalsely : Prop := fnGHeightRow.holds Try.pinned (OpenSpec.ofChange fnGHeightWrong)

/-- 'laws.FnExactGSet': WHATEVER THE INPUT: true; the input reads as it did. -/
def fnExactGSetSpec : ChangeSpec := { name := "fnExactGSet", fn := fun _ => fun
  | [d1, d2] => { results := [.lit (.bool true)], args := [d1, d2] }
  | _ => none }
def fnExactGSetRow : OpenClaim := { program := "ythcgddidkoejbaa", sum := "3b1915c5c3c82784ce4f02ea8971b2b63f74db838165304835b049af9131d932", func := "pub-greenwood/laws.FnExactGSet", spec := "fnExactGSet", unfollowed := true, recurses := true, apart := false }
def FnExactGSetSaid : Prop := fnExactGSetRow.holds Try.pinned (OpenSpec.ofChange fnExactGSetSpec)

/-- ITS FALSE NEIGHBOUR: 'it returns false'. Refute it at one input. -/
def fnExactGSetWrong : ChangeSpec := { name := "fnExactGSet", fn := fun _ => fun
  | [d1, d2] => { results := [.lit (.bool false)], args := [d1, d2] }
  | _ => none }
def FnExactGSetWrongFalsely : Prop := fnExactGSetRow.holds Try.pinned (OpenSpec.ofChange fnExactGSetWrong)

/-- 'laws.FnExactGScan': WHATEVER THE INPUT: true; the input reads as it did. -/
def fnExactGScanSpec : ChangeSpec := { name := "fnExactGScan", fn := fun _ => fun
  | [d1, d2, d3] => { results := [.lit (.bool true)], args := [d1, d2, d3] }
  | _ => none }
def fnExactGScanRow : OpenClaim := { program := "ythcgddidkoejbaa", sum := "3b1915c5c3c82784ce4f02ea8971b2b63f74db838165304835b049af9131d932", func := "pub-greenwood/laws.FnExactGScan", spec := "fnExactGScan", unfollowed := true, recurses := true, apart := false }
def FnExactGScanSaid : Prop := fnExactGScanRow.holds Try.pinned (OpenSpec.ofChange fnExactGScanSpec)

/-- ITS FALSE NEIGHBOUR: 'it returns false'. Refute it at one input. -/
def fnExactGScanWrong : ChangeSpec := { name := "fnExactGScan", fn := fun _ => fun
  | [d1, d2, d3] => { results := [.lit (.bool false)], args := [d1, d2, d3] }
  | _ => none }
def FnExactGScanWrongFalsely : Prop := fnExactGScanRow.holds Try.pinned (OpenSpec.ofChange fnExactGScanWrong)

/-- 'laws.FnExactGGetMut': WHATEVER THE INPUT: true; the input reads as it did. -/
def fnExactGGetMutSpec : ChangeSpec := { name := "fnExactGGetMut", fn := fun _ => fun
  | [d1, d2, d3] => { results := [.lit (.bool true)], args := [d1, d2, d3] }
  | _ => none }
def fnExactGGetMutRow : OpenClaim := { program := "ythcgddidkoejbaa", sum := "3b1915c5c3c82784ce4f02ea8971b2b63f74db838165304835b049af9131d932", func := "pub-greenwood/laws.FnExactGGetMut", spec := "fnExactGGetMut", unfollowed := true, recurses := true, apart := false }
def FnExactGGetMutSaid : Prop := fnExactGGetMutRow.holds Try.pinned (OpenSpec.ofChange fnExactGGetMutSpec)

/-- ITS FALSE NEIGHBOUR: 'it returns false'. Refute it at one input. -/
def fnExactGGetMutWrong : ChangeSpec := { name := "fnExactGGetMut", fn := fun _ => fun
  | [d1, d2, d3] => { results := [.lit (.bool false)], args := [d1, d2, d3] }
  | _ => none }
def FnExactGGetMutWrongFalsely : Prop := fnExactGGetMutRow.holds Try.pinned (OpenSpec.ofChange fnExactGGetMutWrong)

/-- 'laws.FnExactGClear': WHATEVER THE INPUT: true; the input reads as it did. -/
def fnExactGClearSpec : ChangeSpec := { name := "fnExactGClear", fn := fun _ => fun
  | [d1, d2, d3] => { results := [.lit (.bool true)], args := [d1, d2, d3] }
  | _ => none }
def fnExactGClearRow : OpenClaim := { program := "ythcgddidkoejbaa", sum := "3b1915c5c3c82784ce4f02ea8971b2b63f74db838165304835b049af9131d932", func := "pub-greenwood/laws.FnExactGClear", spec := "fnExactGClear", unfollowed := true, recurses := true, apart := false }
def FnExactGClearSaid : Prop := fnExactGClearRow.holds Try.pinned (OpenSpec.ofChange fnExactGClearSpec)

/-- ITS FALSE NEIGHBOUR: 'it returns false'. Refute it at one input. -/
def fnExactGClearWrong : ChangeSpec := { name := "fnExactGClear", fn := fun _ => fun
  | [d1, d2, d3] => { results := [.lit (.bool false)], args := [d1, d2, d3] }
  | _ => none }
def FnExactGClearWrongFalsely : Prop := fnExactGClearRow.holds Try.pinned (OpenSpec.ofChange fnExactGClearWrong)

/-- 'laws.FnGMerges': WHATEVER THE INPUT: true; the input reads as it did. -/
def fnGMergesSpec : ChangeSpec := { name := "fnGMerges", fn := fun _ => fun
  | [d1, d2, d3] => { results := [.lit (.bool true)], args := [d1, d2, d3] }
  | _ => none }
def fnGMergesRow : OpenClaim := { program := "ythcgddidkoejbaa", sum := "3b1915c5c3c82784ce4f02ea8971b2b63f74db838165304835b049af9131d932", func := "pub-greenwood/laws.FnGMerges", spec := "fnGMerges", unfollowed := true, recurses := true, apart := false }
def FnGMergesSaid : Prop := fnGMergesRow.holds Try.pinned (OpenSpec.ofChange fnGMergesSpec)

/-- ITS FALSE NEIGHBOUR: 'it returns false'. Refute it at one input. -/
def fnGMergesWrong : ChangeSpec := { name := "fnGMerges", fn := fun _ => fun
  | [d1, d2, d3] => { results := [.lit (.bool false)], args := [d1, d2, d3] }
  | _ => none }
def FnGMergesWrongFalsely : Prop := fnGMergesRow.holds Try.pinned (OpenSpec.ofChange fnGMergesWrong)

/-- 'laws.FnGStride': WHATEVER THE INPUT: true; the input reads as it did. -/
def fnGStrideSpec : ChangeSpec := { name := "fnGStride", fn := fun _ => fun
  | [d1, d2, d3] => { results := [.lit (.bool true)], args := [d1, d2, d3] }
  | _ => none }
def fnGStrideRow : OpenClaim := { program := "ythcgddidkoejbaa", sum := "3b1915c5c3c82784ce4f02ea8971b2b63f74db838165304835b049af9131d932", func := "pub-greenwood/laws.FnGStride", spec := "fnGStride", unfollowed := true, recurses := true, apart := false }
def FnGStrideSaid : Prop := fnGStrideRow.holds Try.pinned (OpenSpec.ofChange fnGStrideSpec)

/-- ITS FALSE NEIGHBOUR: 'it returns false'. Refute it at one input. -/
def fnGStrideWrong : ChangeSpec := { name := "fnGStride", fn := fun _ => fun
  | [d1, d2, d3] => { results := [.lit (.bool false)], args := [d1, d2, d3] }
  | _ => none }
def FnGStrideWrongFalsely : Prop := fnGStrideRow.holds Try.pinned (OpenSpec.ofChange fnGStrideWrong)

/-- 'laws.FnExactGAscend': WHATEVER THE INPUT: true; the input reads as it did. -/
def fnExactGAscendSpec : ChangeSpec := { name := "fnExactGAscend", fn := fun _ => fun
  | [d1, d2, d3, d4] => { results := [.lit (.bool true)], args := [d1, d2, d3, d4] }
  | _ => none }
def fnExactGAscendRow : OpenClaim := { program := "ythcgddidkoejbaa", sum := "3b1915c5c3c82784ce4f02ea8971b2b63f74db838165304835b049af9131d932", func := "pub-greenwood/laws.FnExactGAscend", spec := "fnExactGAscend", unfollowed := true, recurses := true, apart := false }
def FnExactGAscendSaid : Prop := fnExactGAscendRow.holds Try.pinned (OpenSpec.ofChange fnExactGAscendSpec)

/-- ITS FALSE NEIGHBOUR: 'it returns false'. Refute it at one input. -/
def fnExactGAscendWrong : ChangeSpec := { name := "fnExactGAscend", fn := fun _ => fun
  | [d1, d2, d3, d4] => { results := [.lit (.bool false)], args := [d1, d2, d3, d4] }
  | _ => none }
def FnExactGAscendWrongFalsely : Prop := fnExactGAscendRow.holds Try.pinned (OpenSpec.ofChange fnExactGAscendWrong)

/-- 'laws.FnGLoadsAny': WHATEVER THE INPUT: true; the input reads as it did. -/
def fnGLoadsAnySpec : ChangeSpec := { name := "fnGLoadsAny", fn := fun _ => fun
  | [d1, d2] => { results := [.lit (.bool true)], args := [d1, d2] }
  | _ => none }
def fnGLoadsAnyRow : OpenClaim := { program := "ythcgddidkoejbaa", sum := "3b1915c5c3c82784ce4f02ea8971b2b63f74db838165304835b049af9131d932", func := "pub-greenwood/laws.FnGLoadsAny", spec := "fnGLoadsAny", unfollowed := true, recurses := true, apart := false }
def FnGLoadsAnySaid : Prop := fnGLoadsAnyRow.holds Try.pinned (OpenSpec.ofChange fnGLoadsAnySpec)

/-- ITS FALSE NEIGHBOUR: 'it returns false'. Refute it at one input. -/
def fnGLoadsAnyWrong : ChangeSpec := { name := "fnGLoadsAny", fn := fun _ => fun
  | [d1, d2] => { results := [.lit (.bool false)], args := [d1, d2] }
  | _ => none }
def FnGLoadsAnyWrongFalsely : Prop := fnGLoadsAnyRow.holds Try.pinned (OpenSpec.ofChange fnGLoadsAnyWrong)

/-- 'laws.FnGPlaces': WHATEVER THE INPUT: true; the input reads as it did. -/
def fnGPlacesSpec : ChangeSpec := { name := "fnGPlaces", fn := fun _ => fun
  | [d1, d2, d3] => { results := [.lit (.bool true)], args := [d1, d2, d3] }
  | _ => none }
def fnGPlacesRow : OpenClaim := { program := "ythcgddidkoejbaa", sum := "3b1915c5c3c82784ce4f02ea8971b2b63f74db838165304835b049af9131d932", func := "pub-greenwood/laws.FnGPlaces", spec := "fnGPlaces", unfollowed := true, recurses := true, apart := false }
def FnGPlacesSaid : Prop := fnGPlacesRow.holds Try.pinned (OpenSpec.ofChange fnGPlacesSpec)

/-- ITS FALSE NEIGHBOUR: 'it returns false'. Refute it at one input. -/
def fnGPlacesWrong : ChangeSpec := { name := "fnGPlaces", fn := fun _ => fun
  | [d1, d2, d3] => { results := [.lit (.bool false)], args := [d1, d2, d3] }
  | _ => none }
def FnGPlacesWrongFalsely : Prop := fnGPlacesRow.holds Try.pinned (OpenSpec.ofChange fnGPlacesWrong)

/- THE SECOND FORM. 'bulk': how many values and letters a reading holds, each counted each time it is reached (what is shared counts as often as it is met; a slice's spare places count too). A statement '..UptoSaid' is the law's where the arguments, and the package variables that the reading takes, are together of bulk at most 1048576: NARROWER than '..Said'. Prove '..Said' where nothing that the law and all that it calls make is longer than what came in: it says more and counts as full. Else prove '..UptoSaid'. A law counts once. -/
mutual
def uptoBulk {H : Type} : DataW H → Nat
  | .lit (.string bytes) => bytes.length + 1
  | .lit _ => 1
  | .nil => 1
  | .ptr d => uptoBulk d + 1
  | .slice elems spare => uptoBulkAll elems + uptoBulkAll spare + 1
  | .agg parts => uptoBulkAll parts + 1
  | .iface _ d => uptoBulk d + 1
  | .map entries => uptoBulkEntries entries + 1
  | .held _ => 1
def uptoBulkAll {H : Type} : List (DataW H) → Nat
  | [] => 0
  | d :: r => uptoBulk d + uptoBulkAll r
def uptoBulkEntries {H : Type} : List (Lit × DataW H) → Nat
  | [] => 0
  | x :: r => uptoBulkEntry x + uptoBulkEntries r
def uptoBulkEntry {H : Type} : Lit × DataW H → Nat
  | (.string bytes, d) => bytes.length + uptoBulk d + 1
  | (_, d) => uptoBulk d + 1
 end
def uptoSmall : (H : Type) → List (DataW H) → Bool := fun _ ds => decide (uptoBulkAll ds ≤ 1048576)
def OpenSpec.upto (s : _root_.Go.ChangeSpec) : _root_.Go.OpenSpec := { _root_.Go.OpenSpec.ofChange s with cond := some uptoSmall }

/-- 'laws.FnExactGMin', WHERE WHAT IT READS IS OF BULK AT MOST 1048576: true; the input reads as it did. -/
def fnExactGMinUptoRow : OpenClaim := { program := "ythcgddidkoejbaa", sum := "3b1915c5c3c82784ce4f02ea8971b2b63f74db838165304835b049af9131d932", func := "pub-greenwood/laws.FnExactGMin", spec := "fnExactGMin", unfollowed := true, recurses := true, apart := false, narrowed := true }
def FnExactGMinUptoSaid : Prop := fnExactGMinUptoRow.holds Try.pinned (OpenSpec.upto fnExactGMinSpec)

/-- 'laws.FnGLast', WHERE WHAT IT READS IS OF BULK AT MOST 1048576: true; the input reads as it did. -/
def fnGLastUptoRow : OpenClaim := { program := "ythcgddidkoejbaa", sum := "3b1915c5c3c82784ce4f02ea8971b2b63f74db838165304835b049af9131d932", func := "pub-greenwood/laws.FnGLast", spec := "fnGLast", unfollowed := true, recurses := true, apart := false, narrowed := true }
def FnGLastUptoSaid : Prop := fnGLastUptoRow.holds Try.pinned (OpenSpec.upto fnGLastSpec)

/-- 'laws.FnGHeight', WHERE WHAT IT READS IS OF BULK AT MOST 1048576: true; the input reads as it did. -/
def fnGHeightUptoRow : OpenClaim := { program := "ythcgddidkoejbaa", sum := "3b1915c5c3c82784ce4f02ea8971b2b63f74db838165304835b049af9131d932", func := "pub-greenwood/laws.FnGHeight", spec := "fnGHeight", unfollowed := true, recurses := true, apart := false, narrowed := true }
def FnGHeightUptoSaid : Prop := fnGHeightUptoRow.holds Try.pinned (OpenSpec.upto fnGHeightSpec)

/-- 'laws.FnExactGSet', WHERE WHAT IT READS IS OF BULK AT MOST 1048576: true; the input reads as it did. -/
def fnExactGSetUptoRow : OpenClaim := { program := "ythcgddidkoejbaa", sum := "3b1915c5c3c82784ce4f02ea8971b2b63f74db838165304835b049af9131d932", func := "pub-greenwood/laws.FnExactGSet", spec := "fnExactGSet", unfollowed := true, recurses := true, apart := false, narrowed := true }
def FnExactGSetUptoSaid : Prop := fnExactGSetUptoRow.holds Try.pinned (OpenSpec.upto fnExactGSetSpec)

/-- 'laws.FnExactGScan', WHERE WHAT IT READS IS OF BULK AT MOST 1048576: true; the input reads as it did. -/
def fnExactGScanUptoRow : OpenClaim := { program := "ythcgddidkoejbaa", sum := "3b1915c5c3c82784ce4f02ea8971b2b63f74db838165304835b049af9131d932", func := "pub-greenwood/laws.FnExactGScan", spec := "fnExactGScan", unfollowed := true, recurses := true, apart := false, narrowed := true }
def FnExactGScanUptoSaid : Prop := fnExactGScanUptoRow.holds Try.pinned (OpenSpec.upto fnExactGScanSpec)

/-- 'laws.FnExactGGetMut', WHERE WHAT IT READS IS OF BULK AT MOST 1048576: true; the input reads as it did. -/
def fnExactGGetMutUptoRow : OpenClaim := { program := "ythcgddidkoejbaa", sum := "3b1915c5c3c82784ce4f02ea8971b2b63f74db838165304835b049af9131d932", func := "pub-greenwood/laws.FnExactGGetMut", spec := "fnExactGGetMut", unfollowed := true, recurses := true, apart := false, narrowed := true }
def FnExactGGetMutUptoSaid : Prop := fnExactGGetMutUptoRow.holds Try.pinned (OpenSpec.upto fnExactGGetMutSpec)

/-- 'laws.FnExactGClear', WHERE WHAT IT READS IS OF BULK AT MOST 1048576: true; the input reads as it did. -/
def fnExactGClearUptoRow : OpenClaim := { program := "ythcgddidkoejbaa", sum := "3b1915c5c3c82784ce4f02ea8971b2b63f74db838165304835b049af9131d932", func := "pub-greenwood/laws.FnExactGClear", spec := "fnExactGClear", unfollowed := true, recurses := true, apart := false, narrowed := true }
def FnExactGClearUptoSaid : Prop := fnExactGClearUptoRow.holds Try.pinned (OpenSpec.upto fnExactGClearSpec)

/-- 'laws.FnGMerges', WHERE WHAT IT READS IS OF BULK AT MOST 1048576: true; the input reads as it did. -/
def fnGMergesUptoRow : OpenClaim := { program := "ythcgddidkoejbaa", sum := "3b1915c5c3c82784ce4f02ea8971b2b63f74db838165304835b049af9131d932", func := "pub-greenwood/laws.FnGMerges", spec := "fnGMerges", unfollowed := true, recurses := true, apart := false, narrowed := true }
def FnGMergesUptoSaid : Prop := fnGMergesUptoRow.holds Try.pinned (OpenSpec.upto fnGMergesSpec)

/-- 'laws.FnGStride', WHERE WHAT IT READS IS OF BULK AT MOST 1048576: true; the input reads as it did. -/
def fnGStrideUptoRow : OpenClaim := { program := "ythcgddidkoejbaa", sum := "3b1915c5c3c82784ce4f02ea8971b2b63f74db838165304835b049af9131d932", func := "pub-greenwood/laws.FnGStride", spec := "fnGStride", unfollowed := true, recurses := true, apart := false, narrowed := true }
def FnGStrideUptoSaid : Prop := fnGStrideUptoRow.holds Try.pinned (OpenSpec.upto fnGStrideSpec)

/-- 'laws.FnExactGAscend', WHERE WHAT IT READS IS OF BULK AT MOST 1048576: true; the input reads as it did. -/
def fnExactGAscendUptoRow : OpenClaim := { program := "ythcgddidkoejbaa", sum := "3b1915c5c3c82784ce4f02ea8971b2b63f74db838165304835b049af9131d932", func := "pub-greenwood/laws.FnExactGAscend", spec := "fnExactGAscend", unfollowed := true, recurses := true, apart := false, narrowed := true }
def FnExactGAscendUptoSaid : Prop := fnExactGAscendUptoRow.holds Try.pinned (OpenSpec.upto fnExactGAscendSpec)

/-- 'laws.FnGLoadsAny', WHERE WHAT IT READS IS OF BULK AT MOST 1048576: true; the input reads as it did. -/
def fnGLoadsAnyUptoRow : OpenClaim := { program := "ythcgddidkoejbaa", sum := "3b1915c5c3c82784ce4f02ea8971b2b63f74db838165304835b049af9131d932", func := "pub-greenwood/laws.FnGLoadsAny", spec := "fnGLoadsAny", unfollowed := true, recurses := true, apart := false, narrowed := true }
def FnGLoadsAnyUptoSaid : Prop := fnGLoadsAnyUptoRow.holds Try.pinned (OpenSpec.upto fnGLoadsAnySpec)

/-- 'laws.FnGPlaces', WHERE WHAT IT READS IS OF BULK AT MOST 1048576: true; the input reads as it did. -/
def fnGPlacesUptoRow : OpenClaim := { program := "ythcgddidkoejbaa", sum := "3b1915c5c3c82784ce4f02ea8971b2b63f74db838165304835b049af9131d932", func := "pub-greenwood/laws.FnGPlaces", spec := "fnGPlaces", unfollowed := true, recurses := true, apart := false, narrowed := true }
def FnGPlacesUptoSaid : Prop := fnGPlacesUptoRow.holds Try.pinned (OpenSpec.upto fnGPlacesSpec)

end Rows
end Go.Proofs.Ythcgddidkoejbaa
