/-
  The thin package over the tree of items. Conditions: none.
-/
import Derived.Test.YtegnpimlfphncaaPgR
import Derived.Test.YtegnpimlfphncaaYim
import Derived.Test.YtegnpimlfphncaaYja
import Derived.Test.YtegnpimlfphncaaTk
set_option linter.unusedVariables false
set_option linter.unusedSimpArgs false
set_option linter.unusedSectionVars false
set_option maxRecDepth 100000
namespace Go.Proofs.Ytegnpimlfphncaa
open Go
section
variable {h : H}
section
variable {ls : Value} {o : List Int}
theorem c_Items {a0 : PA} {iso : Int} {dg : Nat} {l : List IV} (hl : l.length ≤ 4294967296) {G : PA → Prop} (hG : Star [TG.MpC ls o iso dg a0 l] h G) :
    HT Try.prog fn_tg_Items [.c (.addr a0)] false [.c .sl] h fun x h' => ∃ post, (∃ s : SlT, x = (s, ()) ∧ OwnL LT s l ∧ post = [SlC s LT.sz (LT.flat l), TG.MpC ls o iso dg a0 l]) ∧ St h G post h' := by
  apply hc_tg_Items
  unfold M_tg_Items
  refine st_callT (St.start hG) [.mp a0] (fun G hG => TG.c_items (m := false) hl hG) ?_
  rintro _ _ h2 ⟨s, rfl, hs, rfl⟩ S
  dsimp only [List.cons_append, List.nil_append] at S
  exact rt_1 rfl ⟨_, ⟨s, rfl, hs, rfl⟩, S⟩
end
end
end Go.Proofs.Ytegnpimlfphncaa
