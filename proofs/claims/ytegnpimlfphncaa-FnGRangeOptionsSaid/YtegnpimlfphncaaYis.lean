/-
  The thin package over the tree of items. Conditions: none.
-/
import Derived.Test.YtegnpimlfphncaaPgR
import Derived.Test.YtegnpimlfphncaaYim
import Derived.Test.YtegnpimlfphncaaYja
import Derived.Test.YtegnpimlfphncaaTk
set_option linter.unusedVariables false
set_option linter.unusedSimpArgs false
set_option linter.unusedSectionVars false
set_option maxRecDepth 100000
namespace Go.Proofs.Ytegnpimlfphncaa
open Go
def M_impl_GItems (a00p : Option PA) (a00l : Nat) (a00c : Nat) (a01 : Int) (a02 : Bool) (a1p : Option PA) (a1l : Nat) (a1c : Nat) : M :=
 .alloc ty_impl_Make [.sl (a00p) (a00l) (a00c), .int .i64 (a01), .bool (a02)] fun n0 =>
 .load (n0, 0) (.sl) fun s1 =>
 .load (n0, 1) (.int .i64) fun i2 =>
 .load (n0, 2) (.bool) fun b3 =>
 .call fn_impl_grow [.agg [.sl (s1.fst) (s1.snd.fst) (s1.snd.snd), .int .i64 (i2), .bool (b3)], .c (.sl (a1p) (a1l) (a1c))] false [.c (.ptr)] fun r4 =>
 .call fn_tg_Items [.c (.ptr (r4.fst))] false [.c (.sl)] fun r5 =>
 .done .ret [.c (.sl (r5.fst.fst) (r5.fst.snd.fst) (r5.fst.snd.snd))]
theorem den_impl_GItems (a00p : Option PA) (a00l : Nat) (a00c : Nat) (a01 : Int) (a02 : Bool) (a1p : Option PA) (a1l : Nat) (a1c : Nat) : denFn Try.prog Try.f16 [.agg [.sl a00p a00l a00c, .int .i64 a01, .bool a02], .c (.sl a1p a1l a1c)] = M_impl_GItems a00p a00l a00c a01 a02 a1p a1l a1c := by kernel_rfl
theorem hc_impl_GItems (a00p : Option PA) (a00l : Nat) (a00c : Nat) (a01 : Int) (a02 : Bool) (a1p : Option PA) (a1l : Nat) (a1c : Nat) {h : H} {R : Value → H → Prop} (hw : wp Try.prog (M_impl_GItems a00p a00l a00c a01 a02 a1p a1l a1c) (Ret R) h) : HC Try.prog fn_impl_GItems (List.map AV.val [.agg [.sl a00p a00l a00c, .int .i64 a01, .bool a02], .c (.sl a1p a1l a1c)]).toArray h R :=
  den_calls hmix Try.func16 (of_decide_eq_true rfl) (by rw [den_impl_GItems]; exact hw)
section
variable {h : H}
section
variable {ls : Value} {o : List Int}
theorem c_Items {a0 : PA} {iso : Int} {dg : Nat} {l : List IV} (hl : l.length ≤ 4294967296) {G : PA → Prop} (hG : Star [TG.MpC ls o iso dg a0 l] h G) :
    HT Try.prog fn_tg_Items [.c (.addr a0)] false [.c .sl] h fun x h' => ∃ post, (∃ s : SlT, x = (s, ()) ∧ OwnL LT s l ∧ post = [SlC s LT.sz (LT.flat l), TG.MpC ls o iso dg a0 l]) ∧ St h G post h' := by
  apply hc_tg_Items
  unfold M_tg_Items
  refine st_callT (St.start hG) [.mp a0] (fun G hG => TG.c_items (m := false) hl hG) ?_
  rintro _ _ h2 ⟨s, rfl, hs, rfl⟩ S
  dsimp only [List.cons_append, List.nil_append] at S
  exact rt_1 rfl ⟨_, ⟨s, rfl, hs, rfl⟩, S⟩
end
theorem c_GItems {c : Ck} {o : List Int} {op : Option PA} {on oc : Nat} (hr : Rdr c (op, on, oc) LN o) (hl : o.length ≤ 2147483647) {d : Int} {nl : Bool} (hd : d ≤ 128) {xs : List IV} {sp : Option PA} {n cap : Nat} (hx : Rdr c (sp, n, cap) LT xs) (hxl : xs.length ≤ 2147483647) {G : PA → Prop} (hG : Star [c] h G) :
    HT Try.prog fn_impl_GItems [.agg [.sl op on oc, .int .i64 d, .bool nl], .c (.sl sp n cap)] false [.c .sl] h fun r h' => ∃ post, (∃ s : SlT, r = (s, ()) ∧ OwnL LT s (treeO o xs) ∧ post = [c, SlC s LT.sz (LT.flat (treeO o xs))]) ∧ St h G post h' := by
  apply hc_impl_GItems
  unfold M_impl_GItems
  have htl := treeO_len o xs
  refine st_alloc (St.start hG) fun n0 _ S => ?_
  (refine ld_sl S op on oc rfl (ld_int S rfl (ld_bool S rfl ?_)))
  (refine st_callT S [.ck c] (fun G hG => c_grow hr hl hd hx hxl hG) ?_; rintro _ _ _ ⟨m, f, rfl, rfl⟩ S; dsimp only [List.cons_append, List.nil_append] at S)
  refine st_callV S [.mp (m, 0)] (args' := [.c (.addr (m, 0))]) rfl (fun G hG => c_Items (by omega) hG) ?_
  rintro _ _ _ ⟨s, rfl, hs, rfl⟩ S
  dsimp only [List.cons_append, List.nil_append] at S
  exact rt_1 rfl ⟨_, ⟨s, rfl, hs, rfl⟩, S.only [.ck c, .sl s]⟩
end
end Go.Proofs.Ytegnpimlfphncaa
