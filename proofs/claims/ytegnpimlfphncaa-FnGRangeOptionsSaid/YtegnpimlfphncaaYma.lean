/-
  The map tg: isoLoad, newNode, updateCount. Conditions: none.
-/
import Derived.Test.YtegnpimlfphncaaPgA
import Derived.Test.YtegnpimlfphncaaYia
set_option linter.unusedVariables false
set_option linter.unusedSimpArgs false
set_option linter.unusedSectionVars false
set_option maxRecDepth 100000
namespace Go.Proofs.Ytegnpimlfphncaa.TG
open Go Go.Proofs.Ytegnpimlfphncaa
section
variable {h h0 : H} {G0 : PA → Prop} {l : List Ck}
def mapC (ls : Value) (iso : Int) (ctr root : Option PA) (cnt : Int) (mn mx : Nat) (cv icv : Bool) : List Value :=
  [.int .u64 iso, .pointer (ctr.map PA.val), .pointer (root.map PA.val), .int .i64 cnt, .bool cv, .bool icv, ls, .int .i64 0, .int .i64 0, .int .i64 mx, .int .i64 mn]
def HtC : Option PA → Ck
  | none => EmC
  | some a => ExC (fun x : List Bool × List Int => x.1.length = 8 ∧ x.2.length = 8 ∧ ∀ i ∈ x.2, 0 ≤ i ∧ i ≤ 255) (fun x => Ow a (x.1.map Value.bool ++ x.2.map (Value.int .u8)) 0)
def FindT (hp : Option PA) : Prop := ∀ {h : H} {c : Ck} {ls : Value} {o : List Int} (_ : Lss ls c o) {a0 a1 p : PA} {x : KV} {xs : List KV} {cap : Nat} {G : PA → Prop} {kp : Option PA} (dep : Nat),
  Bes (RdC (a1.1, a1.2 + 2) (.slice (some p.val) xs.length cap)) h G → Bes (RsC p (L.flat xs)) h G → Bes (RdC (a1.1, a1.2 + 3) (.pointer (kp.map PA.val))) h G → Bes (RdC (a0.1, a0.2 + 6) ls) h G → Bes c h G →
  Srt (ltO o) xs → 0 < xs.length → xs.length ≤ 255 → dep ≤ 4294967296 → Star [HtC hp] h G →
  HT Try.prog fn_tg_hintsearch [.c (.addr a0), .c (.addr a1), .agg [.int .i64 x.1, .int .i64 x.2], .c (.ptr hp), .c (.int .i64 dep)] true [.c (.int .i64), .c .bool] h fun r h' => ∃ post, (r = ((pos (ltO o) xs x : Int), (fnd (ltO o) xs x).isSome, ()) ∧ post = [HtC hp]) ∧ St h G post h'
def HsOK (hp : Option PA) : Prop := hp = none ∨ FindT hp
theorem HsOK.no : HsOK none := .inl rfl
theorem c_isoLoad {a0 pn : PA} {b : Nat} {iso : Int} {m : Bool} (h1 : rd h pn = some (kptr b)) (h2 : rd h (b, 0) = some (.int .u64 iso)) (h3 : rd h (a0.1, a0.2) = some (.int .u64 iso)) :
    HT Try.prog fn_tg_isoLoad [.c (.addr a0), .c (.addr pn), .c (.bool m)] false [.c .ptr] h fun x h' => x = (some (b, 0), ()) ∧ h' = h := by
  apply hc_tg_isoLoad
  unfold M_tg_isoLoad
  have e : (iso != iso) = false := by simp
  refine w_bnd (w_ite (fun _ => w_ptr (some (b, 0)) h1 (w_nonnil (w_int iso h2 (w_int iso h3 (bd_n rfl ?_))))) (fun _ => bd_n rfl ?_))
  · rw [e]
    exact w_bnd (w_false rfl (bd_n rfl (w_ptr (some (b, 0)) h1 (rt_1 rfl ⟨rfl, rfl⟩))))
  · exact w_bnd (w_false rfl (bd_n rfl (w_ptr (some (b, 0)) h1 (rt_1 rfl ⟨rfl, rfl⟩))))
theorem c_newLeaf {a0 : PA} {iso : Int} (hi : rd h (a0.1, a0.2) = some (.int .u64 iso)) {G : PA → Prop} (hG : Star [] h G) :
    HT Try.prog fn_tg_newNode [.c (.addr a0), .c (.bool true)] false [.c .ptr] h fun x h' => ∃ post, (∃ n, x = (some (n, 0), ()) ∧ post = [Ow (n, 0) (nodeC iso 0 (none, 0, 0) none) 0]) ∧ St h G post h' := by
  apply hc_tg_newNode
  unfold M_tg_newNode
  refine w_int iso hi ?_
  refine st_alloc (St.start hG) fun n h1 S => ?_
  repeat (first | refine w_int _ (S.cnt _) ?_ | refine st_alloc S fun _ _ S => ?_ | refine w_bnd ?_ | refine bd_n rfl ?_ | refine w_false (b := false) rfl ?_ )
  exact rt_1 rfl ⟨_, ⟨n, rfl, rfl⟩, S⟩
theorem c_newBranch {a0 : PA} {iso : Int} (hi : rd h (a0.1, a0.2) = some (.int .u64 iso)) {G : PA → Prop} (hG : Star [] h G) :
    HT Try.prog fn_tg_newNode [.c (.addr a0), .c (.bool false)] false [.c .ptr] h fun x h' => ∃ post, (∃ n m, x = (some (n, 0), ()) ∧ post = [Ow (n, 0) (nodeC iso 0 (none, 0, 0) (some (m, 0))) 0, Ow (m, 0) (hdC (none, 0, 0)) 0]) ∧ St h G post h' := by
  apply hc_tg_newNode
  unfold M_tg_newNode
  refine w_int iso hi ?_
  refine st_alloc (St.start hG) fun n h1 S => ?_
  refine w_bnd (w_true rfl ?_)
  refine st_alloc S fun m _ S => ?_
  repeat (first | refine w_int _ (S.cnt _) ?_ | refine st_store S (lt_ble rfl) fun _ S => ?_ | refine st_alloc S fun _ _ S => ?_ | refine w_bnd ?_ | refine bd_n rfl ?_ | refine w_true (b := true) rfl ?_ )
  exact rt_1 rfl ⟨_, ⟨n, m, rfl, rfl⟩, S.only [.ow (n, 0), .ow (m, 0)]⟩
theorem c_updateLeaf {b : Nat} {iso c0 : Int} {p : PA} {n c : Nat} {G : PA → Prop} (hG : Star [Ow (b, 0) [.int .u64 iso, .int .i64 c0, .slice (some p.val) n c, .pointer none] 0] h G) :
    HT Try.prog fn_ng_updateCount [.c (.addr (b, 0))] true [] h fun x h' => ∃ post, post = [Ow (b, 0) (nodeC iso n (some p, n, c) none) 0] ∧ St h G post h' := by
  apply hc_ng_updateCount
  unfold M_ng_updateCount
  have S := St.start hG
  repeat (first | refine ld_sls S rfl ?_ | refine st_store S (lt_ble rfl) fun _ S => ?_ | refine w_bnd ?_ | refine bd_n rfl ?_ | refine w_false (b := false) rfl ?_ | (refine w_callT (c_leafp (kp := none) (S.rd rfl)) ?_; rintro _ _ ⟨rfl, rfl⟩) | (refine w_callT (c_leafp (kp := some _) (S.rd rfl)) ?_; rintro _ _ ⟨rfl, rfl⟩) | (refine w_callT (c_leafp (S.rd rfl)) ?_; rintro _ _ ⟨rfl, rfl⟩) )
  exact rt_n rfl rfl ⟨_, rfl, S⟩
theorem st_find {Q : Ex → List AV → H → Prop} {hp : Option PA} (hh : HsOK hp) {ls : Value} {oc : Ck} {o : List Int} (hls : Lss ls oc o) {r : List Ck} (s : St h0 G0 (HtC hp :: r) h) (hoc : Bes oc h0 G0) {a0 p : PA} {b n0 n10 cap dep : Nat} {x : KV} {xs : List KV} {kp : Option PA}
    (hf : ∀ G B, Star r h B → dj G B → Bes (RdC (b, 0 + 2) (.slice (some p.val) xs.length cap)) h G ∧ Bes (RsC p (L.flat xs)) h G ∧ Bes (RdC (b, 0 + 3) (.pointer (kp.map PA.val))) h G ∧ Bes (RdC (a0.1, a0.2 + 6) ls) h G)
    (hn : rd h (n10, 0) = some (.pointer (some (PA.val (b, 0))))) (hi : rd h (n0, 0) = some (.int .i64 x.1)) (hi2 : rd h (n0, 1) = some (.int .i64 x.2)) (hs : Srt (ltO o) xs) (h1 : 0 < xs.length) (hl : xs.length ≤ 255) (hd : dep ≤ 4294967296)
    {k : SV [.c .bool, .c (.int .i64)] → M} (hw : ∀ h', St h0 G0 (HtC hp :: r) h' → wp Try.prog (k ((fnd (ltO o) xs x).isSome, (pos (ltO o) xs x : Int), ())) Q h') :
    wp Try.prog (.bind none (.ite (hp.isNone)
      (.load (n10, 0) (.ptr) fun q11 =>
        .load (n0, 0) (.int .i64) fun i12 =>
        .load (n0, 1) (.int .i64) fun i13 =>
        .call fn_tg_bsearch [.c (.addr a0), .c (.ptr (q11)), .agg [.int .i64 (i12), .int .i64 (i13)]] true [.c (.int .i64), .c (.bool)] fun r14 =>
        .done .normal [.c (.bool (r14.snd.fst)), .c (.int .i64 (r14.fst))])
      (.load (n10, 0) (.ptr) fun q15 =>
        .load (n0, 0) (.int .i64) fun i16 =>
        .load (n0, 1) (.int .i64) fun i17 =>
        .call fn_tg_hintsearch [.c (.addr a0), .c (.ptr (q15)), .agg [.int .i64 (i16), .int .i64 (i17)], .c (.ptr (hp)), .c (.int .i64 (dep))] true [.c (.int .i64), .c (.bool)] fun r18 =>
        .done .normal [.c (.bool (r18.snd.fst)), .c (.int .i64 (r18.fst))])) [.c (.bool), .c (.int .i64)] k) Q h := by
  refine w_bnd ?_
  cases hp with
  | none =>
    refine w_true rfl (w_ptr (some (b, 0)) hn (w_int x.1 hi (w_int x.2 hi2 ?_)))
    refine st_callS s [.ck (HtC none)] (fun G B hG hB hd hsub => c_bsearch hls (a1 := (b, 0)) (hf G B hB hd).1 (hf G B hB hd).2.1 (hf G B hB hd).2.2.2 (hoc.step s hsub) hs (by omega) hG) ?_
    rintro _ _ h' ⟨rfl, rfl⟩ S
    exact bd_n rfl (hw h' S)
  | some a =>
    have hF : FindT (some a) := hh.resolve_left (by simp)
    refine w_false rfl (w_ptr (some (b, 0)) hn (w_int x.1 hi (w_int x.2 hi2 ?_)))
    refine st_callS s [.ck (HtC (some a))] (fun G B hG hB hdj hsub => hF hls (a1 := (b, 0)) dep (hf G B hB hdj).1 (hf G B hB hdj).2.1 (hf G B hB hdj).2.2.1 (hf G B hB hdj).2.2.2 (hoc.step s hsub) hs h1 hl hd hG) ?_
    rintro _ _ h' ⟨rfl, rfl⟩ S
    exact bd_n rfl (hw h' S)
end
end Go.Proofs.Ytegnpimlfphncaa.TG
