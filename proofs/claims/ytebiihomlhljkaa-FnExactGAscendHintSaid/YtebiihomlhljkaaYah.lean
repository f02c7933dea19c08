/-
  The tree of items: Ascend with a hint. Conditions: none.
-/
import Derived.Test.YtebiihomlhljkaaPgR
import Derived.Test.YtebiihomlhljkaaYal
import Derived.Test.YtebiihomlhljkaaYhs
set_option linter.unusedVariables false
set_option linter.unusedSimpArgs false
set_option linter.unusedSectionVars false
set_option maxRecDepth 100000
namespace Go.Proofs.Ytebiihomlhljkaa.TG
open Go Go.Proofs.Ytebiihomlhljkaa

section
variable {ls : Value} {oc : Ck} {o : List Int} {hp : Option PA} {h h0 : H} {G0 : PA → Prop} {r : List Ck}
theorem c_AscendHint {a0 : PA} {iso : Int} {dg N : Nat} {l acc : List KV} {x : KV} {f : Value} {K : List KV → Ck} {go : List KV → KV → Bool} (hh : HsOK hp) (hls : Lss ls oc o) (hcb : Cbk Try.prog f argO K go N) (hll : l.length ≤ 4294967295) (hl : acc.length + l.length ≤ N) {G : PA → Prop} (hoc : Bes oc h G) (hG : Star [K acc, MpC ls o iso dg a0 l, HtC hp] h G) :
    HT Try.prog fn_tg_AscendHint [.c (.addr a0), .agg [.int .i64 x.1, .int .i64 x.2], .c (.raw f), .c (.ptr hp)] true [] h fun _ h' => ∃ post, (post = [K (run go acc (fromO o l x)).1, MpC ls o iso dg a0 l, HtC hp]) ∧ St h G post h' := by
  apply hc_tg_AscendHint
  unfold M_tg_AscendHint
  refine st_alloc (St.start hG) fun n0 _ S => ?_
  refine ld_int S rfl (ld_int S rfl ?_)
  refine st_callF S [.ck (K acc), .mp a0, .ck (HtC hp)] (fun G hG hsub => c_ascend (m := false) hh hls hcb hll hl (hoc.step S hsub) hG) ?_
  rintro _ _ h2 rfl S
  dsimp only [List.cons_append, List.nil_append] at S
  exact rt_n rfl rfl ⟨_, rfl, S.only [.ck (K (run go acc (fromO o l x)).1), .mp a0, .ck (HtC hp)]⟩
end
end Go.Proofs.Ytebiihomlhljkaa.TG
