/-
  Pieces set aside while others are worked on; the facts of a node that lies beside. Conditions: none.
-/
import Derived.Test.YtegnpimlfphncaaYb
import Derived.Test.YtegnpimlfphncaaCb
set_option linter.unusedVariables false
set_option linter.unusedSimpArgs false
set_option linter.unusedSectionVars false
set_option maxRecDepth 100000
namespace Go.Proofs.Ytegnpimlfphncaa
open Go
section
variable {P : Program} {Q : Ex → List AV → H → Prop} {h h0 : H} {G0 : PA → Prop} {l : List Ck}
theorem HT.re {f : FuncId} {args args' : List AV} {tup : Bool} {ss : List Sh} {R : SV ss → H → Prop} (ha : args'.map AV.val = args.map AV.val) (hc : HT P f args' tup ss h R) : HT P f args tup ss h R := by unfold HT; rw [← ha]; exact hc
theorem Bes.st {c : Ck} {G : PA → Prop} (d : Bes c h G) : ∃ F, St h F [c] h ∧ dj G F := by
  obtain ⟨F, hF, hd⟩ := d
  exact ⟨F, St.start (star_one hF), hd.symm⟩
end
section
variable {I : Type} {L : Lay I} {iso : Int} {h : H} {G : PA → Prop}
end
end Go.Proofs.Ytegnpimlfphncaa
