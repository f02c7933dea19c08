/-
  The tree of interfaces: Less. Conditions: none.
-/
import Derived.Test.YtlhbdmjeomffhaaPgA
import Derived.Test.YtlhbdmjeomffhaaZma
set_option linter.unusedVariables false
set_option linter.unusedSimpArgs false
set_option linter.unusedSectionVars false
set_option maxRecDepth 100000
namespace Go.Proofs.Ytlhbdmjeomffhaa.TB
open Go Go.Proofs.Ytlhbdmjeomffhaa
section
variable {ls : Value} {oc : Ck} {o : List Int} {h h0 : H} {G0 : PA → Prop} {r : List Ck}
theorem c_Less {a0 : PA} {x y : KV} (hls : Lss ls oc o) {G : PA → Prop} (hl : Bes (RdC (a0.1, a0.2 + 6) ls) h G) (hoc : Bes oc h G) (hG : Star [] h G) :
    HT Try.prog fn_tb_Less [.c (.addr a0), .c (.raw (anyV x)), .c (.raw (anyV y))] false [.c .bool] h fun r h' => ∃ post, (r = (ltO o x y, ()) ∧ post = []) ∧ St h G post h' := by
  apply hc_tb_Less
  unfold M_tb_Less
  have S := St.start hG
  refine w_less hls (hl.now S).rd ?_
  refine st_less S hls (hoc.now S).ex x y fun _ S => ?_
  exact rt_1 rfl ⟨_, ⟨rfl, rfl⟩, S⟩
end
end Go.Proofs.Ytlhbdmjeomffhaa.TB
