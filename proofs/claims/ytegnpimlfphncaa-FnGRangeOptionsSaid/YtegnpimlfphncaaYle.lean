/-
  The tree of items: Less. Conditions: none.
-/
import Derived.Test.YtegnpimlfphncaaPgA
import Derived.Test.YtegnpimlfphncaaYma
import Derived.Test.YtegnpimlfphncaaYc
set_option linter.unusedVariables false
set_option linter.unusedSimpArgs false
set_option linter.unusedSectionVars false
set_option maxRecDepth 100000
namespace Go.Proofs.Ytegnpimlfphncaa.TG
open Go Go.Proofs.Ytegnpimlfphncaa
section
variable {ls : Value} {oc : Ck} {o : List Int} {h h0 : H} {G0 : PA → Prop} {r : List Ck}
theorem c_Less {a0 : PA} {x y : KV} (hls : Lss ls oc o) {G : PA → Prop} (hl : Bes (RdC (a0.1, a0.2 + 6) ls) h G) (hoc : Bes oc h G) (hG : Star [] h G) :
    HT Try.prog fn_tg_Less [.c (.addr a0), .agg [.int .i64 x.1, .int .i64 x.2], .agg [.int .i64 y.1, .int .i64 y.2]] false [.c .bool] h fun r h' => ∃ post, (r = (ltO o x y, ()) ∧ post = []) ∧ St h G post h' := by
  apply hc_tg_Less
  unfold M_tg_Less
  refine st_alloc (St.start hG) fun n0 _ S => ?_
  refine st_alloc S fun n1 _ S => ?_
  refine w_less hls (hl.now S).rd (ld_int S rfl (ld_int S rfl (ld_int S rfl (ld_int S rfl ?_))))
  refine st_less S hls (hoc.now S).ex x y fun _ S => ?_
  exact rt_1 rfl ⟨_, ⟨rfl, rfl⟩, S.drop.drop⟩
end
end Go.Proofs.Ytegnpimlfphncaa.TG
