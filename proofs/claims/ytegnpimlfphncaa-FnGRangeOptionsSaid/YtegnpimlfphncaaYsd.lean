/-
  The map tg: Set and NewMap, said of the whole map. Conditions: none.
-/
import Derived.Test.YtegnpimlfphncaaPgA
import Derived.Test.YtegnpimlfphncaaYsc
set_option linter.unusedVariables false
set_option linter.unusedSimpArgs false
set_option linter.unusedSectionVars false
set_option maxRecDepth 100000
namespace Go.Proofs.Ytegnpimlfphncaa.TG
open Go Go.Proofs.Ytegnpimlfphncaa
section
variable {ls : Value} {oc : Ck} {o : List Int} {hp : Option PA} {h h0 : H} {G0 : PA → Prop} {r : List Ck}
set_option maxHeartbeats 1000000 in
theorem c_setEmpty {a0 : PA} {iso : Int} {ctr : Option PA} {dg mn mx : Nat} {k : Int} {v : Int} (hg : mn = 0 ∧ mx = 0 ∧ dg = 31 ∨ mn = dg ∧ mx = 2 * dg + 1 ∧ Good mn mx) {G : PA → Prop} (hG : Star [Ow a0 (mapC ls iso ctr none 0 mn mx false false) 0, HtC hp] h G) :
    HT Try.prog fn_tg_setHint [.c (.addr a0), .agg [.int .i64 k, .int .i64 v], .c (.ptr hp)] true [.agg [.int .i64, .int .i64], .c .bool] h fun x h' => ∃ post, SetM ls o hp iso dg a0 [] k v x post ∧ St h G post h' := by
  apply hc_tg_setHint
  unfold M_tg_setHint
  have S := St.start hG
  refine st_alloc S fun n0 _ S => ?_
  refine st_alloc S fun n1 _ S => ?_
  repeat (first | refine w_nonnil ?_ | refine ld_int S rfl ?_ | refine ld_some S rfl ?_ | refine ld_ptr S _ rfl ?_ | refine st_store S (lt_ble rfl) fun _ S => ?_ | refine st_alloc S fun _ _ S => ?_ | refine st_held S rfl ?_ | refine w_true (b := true) rfl ?_ )
  have hg2 : Good dg (2 * dg + 1) := by
    rcases hg with ⟨_, _, rfl⟩ | ⟨rfl, rfl, hg⟩
    · exact ⟨rfl, by omega, by omega⟩
    · exact hg
  refine st_callT S [.ow a0] (R := fun x post => post = [Ow a0 (mapC ls iso ctr none 0 dg (2 * dg + 1) false false) 0]) (fun G hG => ?_) ?_
  · rcases hg with ⟨rfl, rfl, rfl⟩ | ⟨rfl, rfl, hg⟩
    · exact c_init0 (d := 0) (by omega) hG
    · exact c_init1 hg hG
  rintro _ _ h4 rfl S
  dsimp only [List.cons_append, List.nil_append] at S
  refine st_callT S [] (fun G hG => c_newLeaf (S.rd rfl) hG) ?_
  rintro _ _ h5 ⟨nb, rfl, rfl⟩ S
  dsimp only [List.cons_append, List.nil_append] at S
  repeat (first | refine w_nonnil ?_ | refine ld_int S rfl ?_ | refine ld_some S rfl ?_ | refine ld_ptr S _ rfl ?_ | refine st_store S (lt_ble rfl) fun _ S => ?_ | refine st_alloc S fun _ _ S => ?_ | refine st_held S rfl ?_ | refine w_true (b := true) rfl ?_ )
  refine w_bind (fun vs h' => vs = [] ∧ ∃ p c, 1 ≤ c ∧ St h G [Ow p (L.flat [(k, v)]) ((c - 1) * L.sz), Ow (nb, 0) (nodeC iso 0 (some p, 1, c) none) 0, Ow a0 (mapC ls iso ctr (some (nb, 0)) 0 dg (2 * dg + 1) false false) 0, Ow (n1, 0) (L.cells (0, 0)) 0, HtC hp] h') ?_ ?_
  · repeat (first | refine w_nonnil ?_ | refine ld_int S rfl ?_ | refine ld_some S rfl ?_ | refine ld_ptr S _ rfl ?_ | refine st_store S (lt_ble rfl) fun _ S => ?_ | refine st_alloc S fun _ _ S => ?_ | refine st_held S rfl ?_ | refine w_true (b := true) rfl ?_ )
    refine w_both ?_ ?_
    · repeat (first | refine w_nonnil ?_ | refine ld_int S rfl ?_ | refine ld_some S rfl ?_ | refine ld_ptr S _ rfl ?_ | refine st_store S (lt_ble rfl) fun _ S => ?_ | refine st_alloc S fun _ _ S => ?_ | refine st_held S rfl ?_ | refine w_true (b := true) rfl ?_ )
      refine st_app (L := L) (n := 0) (c := 0) (k := 1) (xs := []) (ys := [(k, v)]) S rfl rfl rfl (Nat.le_refl _) rfl rfl (S.rsl (L.flat [(k, v)]) 1 1 2 (fun i v h => by rw [Nat.zero_add]; exact h) rfl) ⟨by omega, by omega⟩ fun p c _ hc S => ?_
      repeat (first | refine w_nonnil ?_ | refine ld_int S rfl ?_ | refine ld_some S rfl ?_ | refine ld_ptr S _ rfl ?_ | refine st_store S (lt_ble rfl) fun _ S => ?_ | refine st_alloc S fun _ _ S => ?_ | refine st_held S rfl ?_ | refine w_true (b := true) rfl ?_ )
      exact ⟨rfl, p, c, hc, S.only [.ow p, .ow (nb, 0), .ow a0, .ow (n1, 0), .ck (HtC hp)]⟩
    · repeat (first | refine w_nonnil ?_ | refine ld_int S rfl ?_ | refine ld_some S rfl ?_ | refine ld_ptr S _ rfl ?_ | refine st_store S (lt_ble rfl) fun _ S => ?_ | refine st_alloc S fun _ _ S => ?_ | refine st_held S rfl ?_ | refine w_true (b := true) rfl ?_ )
      refine st_app (L := L) (n := 0) (c := 0) (k := 1) (xs := []) (ys := [(k, v)]) S rfl rfl rfl (Nat.le_refl _) rfl rfl (S.rsl (L.flat [(k, v)]) 1 1 2 (fun i v h => by rw [Nat.zero_add]; exact h) rfl) ⟨by omega, by omega⟩ fun p c _ hc S => ?_
      repeat (first | refine w_nonnil ?_ | refine ld_int S rfl ?_ | refine ld_some S rfl ?_ | refine ld_ptr S _ rfl ?_ | refine st_store S (lt_ble rfl) fun _ S => ?_ | refine st_alloc S fun _ _ S => ?_ | refine st_held S rfl ?_ | refine w_true (b := true) rfl ?_ )
      exact ⟨rfl, p, c, hc, S.only [.ow p, .ow (nb, 0), .ow a0, .ow (n1, 0), .ck (HtC hp)]⟩
  rintro _ h13 ⟨rfl, p, c, hc, S⟩
  refine ⟨(), rfl, ?_⟩
  repeat (first | refine w_nonnil ?_ | refine ld_int S rfl ?_ | refine ld_some S rfl ?_ | refine ld_ptr S _ rfl ?_ | refine st_store S (lt_ble rfl) fun _ S => ?_ | refine st_alloc S fun _ _ S => ?_ | refine st_held S rfl ?_ | refine w_true (b := true) rfl ?_ )
  have S := shut_leaf L iso (xs := [(k, v)]) (cnt := 1) (S.ats [.ow (nb, 0), .ow p]) rfl rfl rfl rfl hc rfl
  have S := shut_map (o := o) (n := 0) (ctr := ctr) (l := [(k, v)]) (t := [(k, v)]) (S.ats [.ow a0, .tr nb]) rfl rfl (List.pairwise_singleton _ _) (show 1 ≤ 2 * dg + 1 by omega) (Nat.le_refl _) hg2
  exact rt_n rfl rfl ⟨_, ⟨rfl, rfl⟩, S.only [.mp a0, .ck (HtC hp)]⟩
theorem c_setHint {a0 : PA} {iso : Int} {dg : Nat} {k : Int} {v : Int} {l : List KV} (hh : HsOK hp) (hls : Lss ls oc o) (hl : l.length < 4294967295) {G : PA → Prop} (hoc : Bes oc h G) (hG : Star [MpC ls o iso dg a0 l, HtC hp] h G) :
    HT Try.prog fn_tg_setHint [.c (.addr a0), .agg [.int .i64 k, .int .i64 v], .c (.ptr hp)] true [.agg [.int .i64, .int .i64], .c .bool] h fun x h' => ∃ post, SetM ls o hp iso dg a0 l k v x post ∧ St h G post h' := by
  obtain ⟨F1, F2, hm, g2, g3, g4⟩ := hG
  have hGF : ∀ x, un F1 F2 x ↔ G x := fun x => (g4 x).symm
  rcases hm with ⟨ctr, mn, mx, rfl, hg, hs⟩ | ⟨ctr, n, b, t, rfl, hsr, hv, hi, hg, hs⟩
  · exact c_setEmpty hg ((Star.append hs g2 g3).iff hGF)
  · have A : ∀ (n : Nat) (u : BT KV n), Val dg (2 * dg + 1) n u → 1 ≤ (itemsB n u).length → Srt (ltO o) (flatB n u) → (flatB n u).length < 4294967295 → NF o (2 * dg + 1) (k, v) n u → SetT ls oc o hp a0 dg iso n u k v :=
      fun n u hv hi hs hl hnf => c_setTree hh hls hg hv hi hs hl fun hn => absurd hnf hn
    exact c_setTree hh hls hg hv hi hsr hl (fun _ u hv hi he hnf => A (n + 1) u hv hi (by rw [he]; exact hsr) (by rw [he]; exact hl) hnf) h ctr b G hoc ((Star.append hs g2 g3).iff hGF)
def setR (o : List Int) (l : List KV) (x : KV) : SV [.agg [.int .i64, .int .i64], .c .bool] := (((old o l x).1, (old o l x).2, ()), (fnd (ltO o) l x).isSome, ())
theorem c_SetHint {a0 : PA} {iso : Int} {dg : Nat} {x : KV} {l : List KV} (hh : HsOK hp) (hls : Lss ls oc o) (hl : l.length < 4294967295) {G : PA → Prop} (hoc : Bes oc h G) (hG : Star [MpC ls o iso dg a0 l, HtC hp] h G) :
    HT Try.prog fn_tg_SetHint [.c (.addr a0), .agg [.int .i64 x.1, .int .i64 x.2], .c (.ptr hp)] true [.agg [.int .i64, .int .i64], .c .bool] h fun r h' => ∃ post, (r = setR o l x ∧ post = [MpC ls o iso dg a0 (put (ltO o) l x), HtC hp]) ∧ St h G post h' := by
  apply hc_tg_SetHint
  unfold M_tg_SetHint
  have S := St.start hG
  repeat (first | refine ld_int S rfl ?_ | refine st_store S (lt_ble rfl) fun _ S => ?_ | refine st_alloc S fun _ _ S => ?_ )
  refine st_callF S [.mp a0, .ck (HtC hp)] (fun G' hG' hsub => c_setHint hh hls hl (hoc.step S hsub) hG') ?_
  rintro _ _ _ ⟨rfl, rfl⟩ S
  dsimp only [List.cons_append, List.nil_append] at S
  repeat (first | refine ld_int S rfl ?_ | refine st_store S (lt_ble rfl) fun _ S => ?_ | refine st_alloc S fun _ _ S => ?_ )
  exact rt_n rfl rfl ⟨_, ⟨rfl, rfl⟩, S.only [.mp a0, .ck (HtC hp)]⟩
theorem c_Set {a0 : PA} {iso : Int} {dg : Nat} {x : KV} {l : List KV} (hls : Lss ls oc o) (hl : l.length < 4294967295) {G : PA → Prop} (hoc : Bes oc h G) (hG : Star [MpC ls o iso dg a0 l] h G) :
    HT Try.prog fn_tg_Set [.c (.addr a0), .agg [.int .i64 x.1, .int .i64 x.2]] true [.agg [.int .i64, .int .i64], .c .bool] h fun r h' => ∃ post, (r = setR o l x ∧ post = [MpC ls o iso dg a0 (put (ltO o) l x)]) ∧ St h G post h' := by
  apply hc_tg_Set
  unfold M_tg_Set
  have S := St.start hG
  repeat (first | refine ld_int S rfl ?_ | refine st_store S (lt_ble rfl) fun _ S => ?_ | refine st_alloc S fun _ _ S => ?_ )
  have S : St h G (HtC none :: _) _ := St.em_in S
  refine st_callF S [.mp a0, .ck (HtC none)] (fun G' hG' hsub => c_SetHint .no hls hl (hoc.step S hsub) hG') ?_
  rintro _ _ _ ⟨rfl, rfl⟩ S
  dsimp only [List.cons_append, List.nil_append] at S
  repeat (first | refine ld_int S rfl ?_ | refine st_store S (lt_ble rfl) fun _ S => ?_ | refine st_alloc S fun _ _ S => ?_ )
  exact rt_n rfl rfl ⟨_, ⟨rfl, rfl⟩, S.only [.mp a0]⟩
theorem c_newIsoID {a : PA} {n : Int} (hn : 0 ≤ n) (hn2 : n < 4294967296) {G : PA → Prop} (hG : Star [Ow a [.int .u64 n] 0] h G) :
    HT Try.prog fn_newIsoID [.c (.ptr (some a))] false [.c (.int .u64)] h fun r h' => ∃ post, (r = (n + 1, ()) ∧ post = [Ow a [.int .u64 (n + 1)] 0]) ∧ St h G post h' := by
  refine hc_newIsoID a ?_
  unfold M_newIsoID
  refine ld_int (St.start hG) rfl (w_guard (inU64 (by omega) (by omega)) ?_)
  refine st_store (St.start hG) (lt_ble rfl) fun _ S => ?_
  refine ld_int S rfl ?_
  exact rt_1 rfl ⟨_, ⟨rfl, rfl⟩, S⟩
theorem c_New {d : Int} {nl : Bool} (hls : Lss ls oc o) (hd : d ≤ 128) {G : PA → Prop} (hG : Star [] h G) :
    HT Try.prog fn_NewBTreeGOptions [.c (.raw ls), .agg [.int .i64 d, .bool nl]] false [.c .ptr] h fun x h' => ∃ post, (∃ n, x = (some (n, 0), ()) ∧ post = [MpC ls o 1 (dgOf d) (n, 0) []]) ∧ St h G post h' := by
  apply hc_NewBTreeGOptions
  unfold M_NewBTreeGOptions
  have S := St.start hG
  refine st_alloc S fun n0 _ S => ?_
  refine st_alloc S fun n1 _ S => ?_
  refine st_alloc S fun n2 _ S => ?_
  refine st_store S (lt_ble rfl) fun _ S => ?_
  refine ld_some S rfl ?_
  refine st_callT S [.ow (n2, 0)] (fun G hG => c_newIsoID (n := 0) (by decide) (by decide) hG) ?_
  rintro _ _ _ ⟨rfl, rfl⟩ S
  dsimp only [List.cons_append, List.nil_append] at S
  refine st_store S (lt_ble rfl) fun _ S => ?_
  refine st_store S (lt_ble rfl) fun _ S => ?_
  refine ld_int S rfl ?_
  have S := (S.at (.ow (n1, 0))).re (n1, 0) (mapC ls 1 (some (n2, 0)) none 0 0 0 false false) 0 rfl (by
    simp only [List.map, List.set, hls.1]; rfl) rfl
  refine st_callT S [.ow (n1, 0)] (fun G hG => c_init0 hd hG) ?_
  rintro _ _ _ rfl S
  dsimp only [List.cons_append, List.nil_append] at S
  have S := shut_map0 (o := o) S (.inr ⟨rfl, rfl, dgOf_good hd⟩)
  exact rt_1 rfl ⟨_, ⟨n1, rfl, rfl⟩, S.only [.mp (n1, 0)]⟩
end
end Go.Proofs.Ytegnpimlfphncaa.TG
