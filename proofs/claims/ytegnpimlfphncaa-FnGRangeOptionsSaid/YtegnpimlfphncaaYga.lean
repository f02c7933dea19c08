/-
  The tree of items: an item sought. Conditions: none.
-/
import Derived.Test.YtegnpimlfphncaaPgA
import Derived.Test.YtegnpimlfphncaaYra
import Derived.Test.YtegnpimlfphncaaYc
set_option linter.unusedVariables false
set_option linter.unusedSimpArgs false
set_option linter.unusedSectionVars false
set_option maxRecDepth 100000
namespace Go.Proofs.Ytegnpimlfphncaa.TG
open Go Go.Proofs.Ytegnpimlfphncaa
section
variable {ls : Value} {oc : Ck} {o : List Int} {hp : Option PA} {h h0 : H} {G0 : PA → Prop} {r : List Ck}
theorem c_find {c : Ck} (hh : HsOK hp) (hls : Lss ls c o) {a0 a1 p : PA} {x : KV} {xs : List KV} {cap dep : Nat} {kp : Option PA} {G : PA → Prop} (hr : Bes (RdC (a1.1, a1.2 + 2) (.slice (some p.val) xs.length cap)) h G) (hx : Bes (RsC p (L.flat xs)) h G) (hk : Bes (RdC (a1.1, a1.2 + 3) (.pointer (kp.map PA.val))) h G) (hl : Bes (RdC (a0.1, a0.2 + 6) ls) h G) (hc : Bes c h G)
    (hs : Srt (ltO o) xs) (h1 : 0 < xs.length) (hn : xs.length ≤ 255) (hd : dep ≤ 4294967296) (hG : Star [HtC hp] h G) :
    HT Try.prog fn_tg_find [.c (.addr a0), .c (.addr a1), .agg [.int .i64 x.1, .int .i64 x.2], .c (.ptr hp), .c (.int .i64 dep)] true [.c (.int .i64), .c .bool] h fun r h' => ∃ post, (r = ((pos (ltO o) xs x : Int), (fnd (ltO o) xs x).isSome, ()) ∧ post = [HtC hp]) ∧ St h G post h' := by
  apply hc_tg_find
  unfold M_tg_find
  refine st_alloc (St.start hG) fun n0 _ S => ?_
  rcases hh with rfl | hF
  · refine w_true rfl ?_
    repeat (first | refine ld_int S rfl ?_ | refine st_alloc S fun _ _ S => ?_ | refine w_true (b := true) rfl ?_ | refine w_false (b := false) rfl ?_ )
    refine st_callF S [.ck (HtC none)] (fun G' hG' hsub => c_bsearch hls (hr.step S hsub) (hx.step S hsub) (hl.step S hsub) (hc.step S hsub) hs (by omega) hG') ?_
    rintro _ _ _ ⟨rfl, rfl⟩ S
    dsimp only [List.cons_append, List.nil_append] at S
    exact rt_n rfl rfl ⟨_, ⟨rfl, rfl⟩, S.only [.ck (HtC none)]⟩
  · cases hp with
    | none =>
      refine w_true rfl ?_
      repeat (first | refine ld_int S rfl ?_ | refine st_alloc S fun _ _ S => ?_ | refine w_true (b := true) rfl ?_ | refine w_false (b := false) rfl ?_ )
      refine st_callF S [.ck (HtC none)] (fun G' hG' hsub => c_bsearch hls (hr.step S hsub) (hx.step S hsub) (hl.step S hsub) (hc.step S hsub) hs (by omega) hG') ?_
      rintro _ _ _ ⟨rfl, rfl⟩ S
      dsimp only [List.cons_append, List.nil_append] at S
      exact rt_n rfl rfl ⟨_, ⟨rfl, rfl⟩, S.only [.ck (HtC none)]⟩
    | some a =>
      refine w_false rfl ?_
      repeat (first | refine ld_int S rfl ?_ | refine st_alloc S fun _ _ S => ?_ | refine w_true (b := true) rfl ?_ | refine w_false (b := false) rfl ?_ )
      refine st_callF S [.ck (HtC (some a))] (fun G' hG' hsub => hF hls dep (hr.step S hsub) (hx.step S hsub) (hk.step S hsub) (hl.step S hsub) (hc.step S hsub) hs h1 hn hd hG') ?_
      rintro _ _ _ ⟨rfl, rfl⟩ S
      dsimp only [List.cons_append, List.nil_append] at S
      exact rt_n rfl rfl ⟨_, ⟨rfl, rfl⟩, S.only [.ck (HtC (some a))]⟩
end
end Go.Proofs.Ytegnpimlfphncaa.TG
