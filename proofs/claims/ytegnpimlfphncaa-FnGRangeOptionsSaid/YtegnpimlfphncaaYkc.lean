/-
  The tree of items: items of a leaf deleted one by one, as DeleteRange does. Conditions: none.
-/
import Derived.Test.YtegnpimlfphncaaPgQ
import Derived.Test.YtegnpimlfphncaaYdg
import Derived.Test.YtegnpimlfphncaaQc
import Derived.Test.YtegnpimlfphncaaYef
set_option linter.unusedVariables false
set_option linter.unusedSimpArgs false
set_option linter.unusedSectionVars false
set_option maxRecDepth 100000
namespace Go.Proofs.Ytegnpimlfphncaa.TG
open Go Go.Proofs.Ytegnpimlfphncaa
def stopO (o : List Int) (mi : Bool) (mk x : KV) : Bool := if mi then ltO o mk x else !ltO o x mk
def msF (n13 n0 n2 : Nat) : Value := .func (.func fn_tg_DeleteRangeReuse_1) #[] #[.pointer (some (PA.val (n13, 0))), .pointer (some (PA.val (n0, 0))), .pointer (some (PA.val (n2, 0)))]
section
variable {h h0 : H} {G0 : PA → Prop} {l : List Ck} {Q : Ex → List AV → H → Prop} {ls : Value} {oc : Ck} {o : List Int}
theorem stop_mono {mi : Bool} {mk x a : KV} (hs : stopO o mi mk x = true) (hx : ltO o x a = true) : stopO o mi mk a = true := by
  unfold stopO at *
  cases mi with
  | true => exact (ordO o).tr _ _ _ hs hx
  | false =>
    simp only [Bool.false_eq_true, if_false, Bool.not_eq_true'] at *
    cases hq : ltO o a mk with
    | false => rfl
    | true => rw [(ordO o).tr _ _ _ hx hq] at hs; cases hs
theorem stop_no {mi : Bool} {mk x : KV} (hx : ltO o x mk = true) : stopO o mi mk x = false := by
  unfold stopO
  cases mi with
  | true => exact (ordO o).asym hx
  | false => simp [hx]
theorem c_stop {mi : Bool} {mk x : KV} {a0 : PA} {n13 n0 n2 : Nat} (hls : Lss ls oc o) (h1 : rd h (n13, 0) = some (.bool mi)) (h2 : rd h (n0, 0) = some (.pointer (some a0.val))) (h3 : rd h (a0.1, a0.2 + 6) = some ls) (h4 : rd h (n2, 0) = some (.int .i64 mk.1)) (h5 : rd h (n2, 1) = some (.int .i64 mk.2)) (hc : ∃ F, oc.p h F) :
    callOf Try.prog (msF n13 n0 n2) (List.map AV.val [.agg [.int .i64 x.1, .int .i64 x.2]]).toArray h (TR false [.c .bool] fun r h' => r = (stopO o mi mk x, ()) ∧ ∀ G, Star [] h G → St h G [] h') := by
  refine ⟨by kernel_rfl, ?_⟩
  have e : (#[] ++ (List.map AV.val [.agg [.int .i64 x.1, .int .i64 x.2]]).toArray ++ #[.pointer (some (PA.val (n13, 0))), .pointer (some (PA.val (n0, 0))), .pointer (some (PA.val (n2, 0)))] : Array Value) = (List.map AV.val [.agg [.int .i64 x.1, .int .i64 x.2], .c (.addr (n13, 0)), .c (.addr (n0, 0)), .c (.addr (n2, 0))]).toArray := by simp; exact ⟨rfl, rfl, rfl⟩
  rw [e]
  apply hc_tg_DeleteRangeReuse_1
  unfold M_tg_DeleteRangeReuse_1
  obtain ⟨F, hF⟩ := hc
  have hG : Star [] h none' := fun x hx => hx
  have b1 : Bes (RdC (n13, 0) (.bool mi)) h none' := .mk h1 (fun hn => hn)
  have b2 : Bes (RdC (n0, 0) (.pointer (some a0.val))) h none' := .mk h2 (fun hn => hn)
  have b3 : Bes (RdC (a0.1, a0.2 + 6) ls) h none' := .mk h3 (fun hn => hn)
  have b4 : Bes (RdC (n2, 0) (.int .i64 mk.1)) h none' := .mk h4 (fun hn => hn)
  have b5 : Bes (RdC (n2, 1) (.int .i64 mk.2)) h none' := .mk h5 (fun hn => hn)
  have b6 : Bes oc h none' := ⟨F, hF, fun _ _ hn => hn⟩
  have fin : ∀ {h' : H} {l : List Ck}, St h none' l h' → ∀ G, Star [] h G → St h G [] h' := fun S G hG => by
    obtain ⟨_, g3⟩ := S
    exact ⟨⟨none', fun x hx => hx, fun x hx => hx.elim⟩, g3.mono fun _ _ hn => hn.elim⟩
  refine st_alloc (St.start hG) fun n _ S => ?_
  refine w_bool mi (b1.now S).rd ?_
  cases mi with
  | true =>
    refine w_true rfl (w_ptr (some a0) (b2.now S).rd (w_nonnil (w_less hls (b3.now S).rd (w_int _ (b4.now S).rd (w_int _ (b5.now S).rd (ld_int S rfl (ld_int S rfl ?_)))))))
    refine st_less S hls (b6.now S).ex mk x fun _ S => rt_1 rfl ⟨rfl, fin S⟩
  | false =>
    refine w_false rfl (w_ptr (some a0) (b2.now S).rd (w_nonnil (w_less hls (b3.now S).rd (ld_int S rfl (ld_int S rfl (w_int _ (b4.now S).rd (w_int _ (b5.now S).rd ?_)))))))
    refine st_less S hls (b6.now S).ex x mk fun _ S => rt_1 rfl ⟨rfl, fin S⟩
theorem st_stop {mi : Bool} {mk x : KV} {a0 : PA} {n13 n0 n2 : Nat} (s : St h0 G0 l h) (hls : Lss ls oc o) (h1 : rd h (n13, 0) = some (.bool mi)) (h2 : rd h (n0, 0) = some (.pointer (some a0.val))) (h3 : rd h (a0.1, a0.2 + 6) = some ls) (h4 : rd h (n2, 0) = some (.int .i64 mk.1)) (h5 : rd h (n2, 1) = some (.int .i64 mk.2)) (hc : ∃ F, oc.p h F) {k : SV [.c .bool] → M}
    (hw : ∀ h', St h0 G0 l h' → wp Try.prog (k (stopO o mi mk x, ())) Q h') : wp Try.prog (.callv (msF n13 n0 n2) [.agg [.int .i64 x.1, .int .i64 x.2]] false [.c .bool] k) Q h := by
  refine w_callOf (c_stop (x := x) hls h1 h2 h3 h4 h5 hc) fun v h' ⟨y, e, hy, hS⟩ => ⟨y, e, ?_⟩
  subst hy
  exact hw h' (St.then (l := []) (l' := []) (m := l) s hS)
end
def ndC (iso : Int) (s : Nd) : Ck := TrC L iso s.1 s.2.1 s.2.2
def tsL (iso : Int) (q : List El) : List Ck := (q.filterMap fun e => e.2).map (ndC iso)
def cntQ (q : List El) : Int := ((q.flatMap flE).length : Int)
structure Qv (o : List Int) (dg : Nat) (ext : Bool) (l cur : List KV) (q : List El) : Prop where
  hp : Hpq (ltE o) q
  pm : ext = true → (cur ++ q.flatMap flE).Perm l
  inf : ∀ e ∈ q, flE e <:+: l
  val : ∀ e ∈ q, ∀ s : Nd, e.2 = some s → Val dg (2 * dg + 1) s.1 s.2.2
  no : ext = false → q = []
def QuC (ls : Value) (o : List Int) (iso : Int) (dg : Nat) (ext : Bool) (la : PA) (l cur : List KV) : Ck := ExC (fun x : SlT × List El => OwC x.1 x.2 ∧ Qv o dg ext l cur x.2) fun x =>
  StC [Ow la (listC (if ext then ls else Value.nilFunc) (cntQ x.2) 0 x.1) 0, SlC x.1 LE.sz (LE.flat x.2), StC (tsL iso x.2)]
instance pk_qu {ls : Value} {o : List Int} {iso : Int} {dg : Nat} {ext : Bool} {la : PA} {l cur : List KV} {r : List Ck} : Pk (.mp la) (QuC ls o iso dg ext la l cur :: r) (QuC ls o iso dg ext la l cur) r := ⟨.refl _⟩
section
variable {h h0 : H} {G0 : PA → Prop} {r : List Ck} {ls : Value} {oc : Ck} {o : List Int} {iso : Int} {dg : Nat} {ext : Bool} {la : PA} {l cur : List KV}
theorem open_qu (s : St h0 G0 (QuC ls o iso dg ext la l cur :: r) h) : ∃ (t : SlT) (q : List El), OwC t q ∧ Qv o dg ext l cur q ∧ St h0 G0 (Ow la (listC (if ext then ls else Value.nilFunc) (cntQ q) 0 t) 0 :: SlC t LE.sz (LE.flat q) :: StC (tsL iso q) :: r) h := by
  obtain ⟨x, ⟨h1, h2⟩, s⟩ := s.ex_out
  exact ⟨x.1, x.2, h1, h2, s.st_out⟩
theorem shut_qu {t : SlT} {q : List El} (s : St h0 G0 (Ow la (listC (if ext then ls else Value.nilFunc) (cntQ q) 0 t) 0 :: SlC t LE.sz (LE.flat q) :: StC (tsL iso q) :: r) h) (h1 : OwC t q) (h2 : Qv o dg ext l cur q) : St h0 G0 (QuC ls o iso dg ext la l cur :: r) h :=
  St.ex_in (α := SlT × List El) (t, q) ⟨h1, h2⟩ (St.st_in (m := [_, _, _]) s)
theorem qu_no {cur' : List KV} (s : St h0 G0 (QuC ls o iso dg false la l cur :: r) h) : St h0 G0 (QuC ls o iso dg false la l cur' :: r) h := by
  obtain ⟨t, q, h1, h2, s⟩ := open_qu s
  exact shut_qu s h1 ⟨h2.hp, fun h => (by cases h), h2.inf, h2.val, h2.no⟩
theorem st_perm {A B : List Ck} (hp : A.Perm B) (s : St h0 G0 (StC A :: r) h) : St h0 G0 (StC B :: r) h := St.st_in (m := B) (s.st_out.perm (hp.append_right r))
def elC (iso : Int) (e : El) : Ck := match e.2 with
  | none => EmC
  | some s => ndC iso s
theorem el_in {e : El} (q : List El) (s : St h0 G0 (StC (tsL iso q) :: elC iso e :: r) h) : St h0 G0 (StC (tsL iso (q ++ [e])) :: r) h := by
  obtain ⟨x, x2⟩ := e
  have e1 : tsL iso (q ++ [(x, x2)]) = tsL iso q ++ tsL iso [(x, x2)] := by simp [tsL]
  rw [e1]
  cases x2 with
  | none =>
    have e2 : tsL iso [(x, (none : Option Nd))] = [] := rfl
    rw [e2, List.append_nil]
    exact s.pull1.drop
  | some u => exact st_joi (st_eno (c := ndC iso u) s.pull1).pull1
theorem c_lappQ {e : El} {cur' : List KV} (hls : Lss ls oc o) (hpm : (flE e ++ cur').Perm cur) (hin : flE e <:+: l) (hvE : ∀ s : Nd, e.2 = some s → Val dg (2 * dg + 1) s.1 s.2.2) (hll : l.length ≤ 4294967295) {G : PA → Prop} (hoc : Bes oc h G) (hG : Star [QuC ls o iso dg true la l cur, elC iso e] h G) :
    HT Try.prog fn_lg_append [.c (.addr la), .agg [.int .i64 e.1.1, .int .i64 e.1.2], .c (.ptr (ptE e))] true [] h fun _ h' => ∃ post, post = [QuC ls o iso dg true la l cur'] ∧ St h G post h' := by
  obtain ⟨t, q, h1, h2, S⟩ := open_qu (St.start hG)
  have S : St h G (Ow la (listC ls (cntQ q) 0 t) 0 :: SlC t LE.sz (LE.flat q) :: StC (tsL iso q) :: elC iso e :: []) h := S
  have hpl := (h2.pm rfl).length_eq
  have hpl2 := hpm.length_eq
  rw [List.length_append] at hpl hpl2
  have hqf : ∀ q : List El, q.length ≤ (q.flatMap flE).length := fun q => by
    induction q with
    | nil => simp
    | cons a q ih => simp only [List.length_cons, List.flatMap_cons, List.length_append, flE]; omega
  have hq0 := hqf q
  obtain ⟨G1, hG1, hB, hsub, hback⟩ := St.cutB (A := [Ow la (listC ls (cntQ q) 0 t) 0, SlC t LE.sz (LE.flat q)]) (B := [StC (tsL iso q), elC iso e]) S
  refine HT.mono (c_lappend (x := e) hls h1 h2.hp (by omega) (hoc.step (St.start hG) hsub) (fun s hs => ?_) (by unfold cntQ; omega) (by unfold cntQ; omega) hG1) ?_
  · have hb := hB (elC iso e) (by simp)
    have e1 : elC iso e = ndC iso s := by unfold elC; rw [hs]
    rw [e1] at hb
    obtain ⟨_, _, _, _, _, _, b1, _⟩ := Bes.nd (show Bes (TrC L iso s.1 s.2.1 s.2.2) h G1 from hb)
    exact b1
  · rintro _ h' ⟨post, ⟨t', q', g1, g2, g3, rfl⟩, S'⟩
    have S' := hback _ h' S'
    have S' : St h G [Ow la (listC ls (cntQ q + (flE e).length) 0 t') 0, SlC t' LE.sz (LE.flat q'), StC (tsL iso q), elC iso e] h' := S'
    have S' := el_in q (S'.perm (List.perm_append_comm (l₁ := [_, _]) (l₂ := [_, _])))
    have S' := st_perm (B := tsL iso q') (List.Perm.map _ (List.Perm.filterMap _ g3.symm)) S'
    have hc : cntQ q + (flE e).length = cntQ q' := by
      unfold cntQ
      rw [(List.Perm.flatMap_right flE g3).length_eq]
      simp
    rw [hc] at S'
    refine ⟨_, rfl, shut_qu (ext := true) (by simpa using S'.pull2.pull2) g1 ⟨g2, fun _ => ?_, fun a ha => ?_, fun a ha => ?_, fun h => by cases h⟩⟩
    · refine List.Perm.trans ?_ (h2.pm rfl)
      refine ((List.Perm.flatMap_right flE g3).append_left cur').trans ?_
      rw [List.flatMap_append, List.flatMap_cons, List.flatMap_nil, List.append_nil]
      refine List.Perm.trans ?_ (hpm.append_right _)
      rw [List.append_assoc]
      refine (List.perm_append_comm (l₁ := cur')).trans ?_
      rw [List.append_assoc]
      refine (List.perm_append_comm (l₁ := q.flatMap flE)).trans ?_
      rw [List.append_assoc]
    · rcases List.mem_append.1 (g3.subset ha) with ha | ha
      · exact h2.inf a ha
      · obtain rfl := List.mem_singleton.1 ha
        exact hin
    · rcases List.mem_append.1 (g3.subset ha) with ha | ha
      · exact h2.val a ha
      · obtain rfl := List.mem_singleton.1 ha
        exact hvE
end
end Go.Proofs.Ytegnpimlfphncaa.TG
set_option linter.unusedVariables false
set_option linter.unusedSimpArgs false
set_option linter.unusedSectionVars false
set_option maxRecDepth 100000
namespace Go.Proofs.Ytegnpimlfphncaa.TG
open Go Go.Proofs.Ytegnpimlfphncaa
def kp (o : List Int) (st : KV → Bool) (pv a : KV) : Bool := ltO o a pv || st a
structure Stm (o : List Int) (st : KV → Bool) (mk : KV) : Prop where
  mono : ∀ x a, st x = true → ltO o x a = true → st a = true
  no : ∀ x, ltO o x mk = true → st x = false
section
variable {o : List Int} {st : KV → Bool} {mk pv x : KV} {A B dn rm : List KV}
theorem kp_split (h1 : ∀ a ∈ dn, ltO o a pv = true) (h2 : ∀ a ∈ rm, ltO o a pv = false) : (dn ++ rm).filter (kp o st pv) = dn ++ rm.filter st := by
  rw [List.filter_append, List.filter_eq_self.2 (fun a ha => by simp [kp, h1 a ha])]
  congr 1
  exact List.filter_congr fun a ha => by simp [kp, h2 a ha]
theorem all_stop (hm : Stm o st mk) (hs : Srt (ltO o) (x :: rm)) (hx : st x = true) : (x :: rm).filter st = x :: rm :=
  List.filter_eq_self.2 fun a ha => (List.mem_cons.1 ha).elim (fun h => h ▸ hx) fun h => hm.mono x a hx ((List.pairwise_cons.1 hs).1 a h)
theorem none_stop {mid : List KV} {y : KV} (hm : Stm o st mk) (hs : Srt (ltO o) (A ++ (mid ++ y :: B))) (hy : ltO o y mk = true) : ∀ a ∈ mid, st a = false := fun a ha =>
  hm.no a ((ordO o).tr _ _ _ ((srt_append.1 (srt_append.1 hs).2.1).2.2 a ha y (by simp)) hy)
theorem filter_cut {f : KV → Bool} {P mid S : List KV} (h : ∀ a ∈ mid, f a = false) : (P ++ (mid ++ S)).filter f = (P ++ S).filter f := by
  simp only [List.filter_append]
  have e : mid.filter f = [] := List.filter_eq_nil_iff.2 fun a ha => by simp [h a ha]
  rw [e, List.nil_append]
theorem perm_cut (A P mid S B : List KV) : (mid ++ (A ++ ((P ++ S) ++ B))).Perm (A ++ ((P ++ (mid ++ S)) ++ B)) := by
  have e1 : A ++ ((P ++ S) ++ B) = (A ++ P) ++ (S ++ B) := by simp
  have e2 : A ++ ((P ++ (mid ++ S)) ++ B) = (A ++ P) ++ (mid ++ (S ++ B)) := by simp
  rw [e1, e2]
  exact List.perm_append_comm_assoc _ _ _
end
def Zp.Gr (Cp : List KV → Prop) {n : Nat} : {r : Nat} → Zp n r → Prop
  | _, .top => True
  | r, .dn z x => Zp.Gr Cp z ∧ (∀ (j : Nat) (a : KV) (u : BT KV r), x.D[j]? = some a → x.B[j]? = some u → Cp (a :: flatB r u)) ∧ ∀ u ∈ x.B, Gd Cp (fun _ => True) r u
structure Rt (Cp : List KV → Prop) {r : Nat} (u : BT KV (r + 1)) (i : Nat) : Prop where
  pr : ∀ (j : Nat) (a : KV) (v : BT KV r), i ≤ j → u.1[j]? = some a → u.2[j + 1]? = some v → Cp (a :: flatB r v)
  kd : ∀ (j : Nat) (v : BT KV r), i < j → u.2[j]? = some v → Gd Cp (fun _ => True) r v
def cutB {r : Nat} (u : BT KV (r + 1)) (i : Nat) : BT KV (r + 1) := (u.1.eraseIdx i, u.2.eraseIdx (i + 1))
section
variable {o : List Int} {Cp : List KV → Prop} {Ob : KV → Prop} {b0 mn mx n : Nat} {pv : KV}
theorem gd_put : ∀ {r : Nat} {z : Zp n r} {b : Nat} {u : BT KV r}, z.Ok b0 mn mx b → z.Gr Cp → (∀ a ∈ z.lf, ¬ Ob a) → Gd Cp Ob r u → Gd Cp Ob n (z.put u)
  | _, .top, _, _, _, _, _, hu => hu
  | r, .dn z x, b, u, ho, ⟨g1, g2, g3⟩, hn, hu => by
    obtain ⟨o1, o2, o3⟩ := ho
    have hn : ∀ a ∈ z.lf ++ x.lf, ¬ Ob a := hn
    have hal := o2.ac
    have hal' : (x.A.map (flatB r)).length = x.C.length := by rw [List.length_map]; exact hal
    refine gd_put (z := z) o1 g1 (fun a ha => hn a (List.mem_append.2 (.inl ha))) (u := x.put u) ⟨fun j a w ha hw hob => ?_, fun w hw => ?_⟩
    · have ha : (x.C ++ x.D)[j]? = some a := ha
      have hw : (x.A ++ u :: x.B)[j + 1]? = some w := hw
      by_cases hj : j < x.C.length
      · rw [List.getElem?_append_left hj] at ha
        exact absurd hob (hn a (List.mem_append.2 (.inr (pre_its hal' (List.mem_of_getElem? ha)))))
      · rw [List.getElem?_append_right (by omega)] at ha
        rw [List.getElem?_append_right (by omega), show j + 1 - x.A.length = (j - x.C.length) + 1 by omega, List.getElem?_cons_succ] at hw
        exact g2 _ a w ha hw
    · have hw : w ∈ x.A ++ u :: x.B := hw
      rcases List.mem_append.1 hw with hw | hw
      · obtain ⟨j, hj⟩ := List.mem_iff_getElem?.1 hw
        refine gd_no (o2.kv w (List.mem_append.2 (.inl hw))).1 fun a ha => hn a (List.mem_append.2 (.inr (pre_has (l := j) (w := flatB r w) hal' (by rw [List.getElem?_map, hj]; rfl) ha)))
      · rcases List.mem_cons.1 hw with rfl | hw
        · exact hu
        · exact gd_mono (o2.kv w (List.mem_append.2 (.inr hw))).1 (fun _ _ _ => trivial) (g3 w hw)
theorem rt_up {r : Nat} {z : Zp n (r + 1)} {x : Fm r} {u : BT KV r} (hx : x.Ok mn mx) (h : (Zp.dn z x).Gr Cp) : z.Gr Cp ∧ Rt Cp (x.put u) x.A.length := by
  obtain ⟨g1, g2, g3⟩ := h
  have hac := hx.ac
  refine ⟨g1, fun j a v hj ha hv => ?_, fun j v hj hv => ?_⟩
  · have ha : (x.C ++ x.D)[j]? = some a := ha
    have hv : (x.A ++ u :: x.B)[j + 1]? = some v := hv
    rw [List.getElem?_append_right (by omega)] at ha
    rw [List.getElem?_append_right (by omega), show j + 1 - x.A.length = (j - x.C.length) + 1 by omega, List.getElem?_cons_succ] at hv
    exact g2 _ a v ha hv
  · have hv : (x.A ++ u :: x.B)[j]? = some v := hv
    rw [List.getElem?_append_right (by omega), show j - x.A.length = (j - x.A.length - 1) + 1 by omega, List.getElem?_cons_succ] at hv
    exact g3 v (List.mem_of_getElem? hv)
theorem kid_rg {r : Nat} {xs : List KV} {ts : List (BT KV r)} (hl : ts.length = xs.length + 1) (hs : Srt (ltO o) (flatB (r + 1) ((xs, ts) : BT KV (r + 1)))) {i j : Nat} {a c : KV} {v : BT KV r} (ha : xs[i]? = some a) (hj : i < j) (hv : ts[j]? = some v) (hc : c ∈ flatB r v) : ltO o a c = true := by
  have hi := (List.getElem?_eq_some_iff.1 ha).1
  have hj2 := (List.getElem?_eq_some_iff.1 hv).1
  have e := weave_at (xs := xs) (ts := ts.map (flatB r)) (i := j) (by omega) (m := flatB r v) (by rw [List.getElem?_map, hv]; rfl)
  have hs : Srt (ltO o) (weave xs (ts.map (flatB r))) := hs
  rw [e] at hs
  refine (srt_append.1 hs).2.2 a (pre_its (by simp; omega) ?_) c (List.mem_append.2 (.inl hc))
  exact List.mem_of_getElem? (i := i) (by rw [List.getElem?_take_of_lt hj]; exact ha)
theorem rt_found {r : Nat} {xs : List KV} {ts : List (BT KV r)} (hv : Val mn mx (r + 1) ((xs, ts) : BT KV (r + 1))) (hs : Srt (ltO o) (flatB (r + 1) ((xs, ts) : BT KV (r + 1)))) {y : KV} (hf : fnd (ltO o) xs pv = some y) (hg : Gd Cp (fun a => ltO o a pv = false) (r + 1) ((xs, ts) : BT KV (r + 1))) : Rt Cp ((xs, ts) : BT KV (r + 1)) (pos (ltO o) xs pv) := by
  have hl : ts.length = xs.length + 1 := hv.2.1
  have hsi : Srt (ltO o) xs := srt_items (by rw [List.length_map]; exact hl) (show Srt (ltO o) (weave xs (ts.map (flatB r))) from hs)
  obtain ⟨h1, h2, h3⟩ := fnd_some_lt hf
  refine ⟨fun j a v hj ha hw => hg.1 j a v ha hw ?_, fun j v hj hw => gd_mono (hv.2.2 v (List.mem_of_getElem? hw)).1 (fun a ha _ => ?_) (hg.2 v (List.mem_of_getElem? hw))⟩
  · have := pos_spec (ordO o) hsi pv j a ha
    show ltO o a pv = false
    cases hq : ltO o a pv with
    | false => rfl
    | true => exact absurd (this.2 hq) (by omega)
  · have h4 := kid_rg hl hs h2 hj hw ha
    show ltO o a pv = false
    cases hq : ltO o a pv with
    | false => rfl
    | true =>
      have : ltO o y pv = true := (ordO o).tr _ _ _ h4 hq
      have h5 : fnd (ltO o) xs pv = some y := hf
      unfold fnd at h5
      rw [h2] at h5
      simp only at h5
      split at h5
      · cases h5
      · exact absurd ((pos_spec (ordO o) hsi pv _ y h2).2 this) (by omega)
theorem gr_dn {r i : Nat} {z : Zp n (r + 1)} {x : Fm r} {xs : List KV} {ts : List (BT KV r)} {v : BT KV r} (hv : Val mn mx (r + 1) ((xs, ts) : BT KV (r + 1))) (hs : Srt (ltO o) (flatB (r + 1) ((xs, ts) : BT KV (r + 1)))) (hf : fnd (ltO o) xs pv = none) (hi : i = pos (ltO o) xs pv) (hw : ts[i]? = some v)
    (hD : x.D = xs.drop i) (hB : x.B = ts.drop (i + 1)) (hz : z.Gr Cp) (hg : Gd Cp (fun a => ltO o a pv = false) (r + 1) ((xs, ts) : BT KV (r + 1))) : (Zp.dn z x).Gr Cp ∧ Gd Cp (fun a => ltO o a pv = false) r v := by
  have hl : ts.length = xs.length + 1 := hv.2.1
  have hsi : Srt (ltO o) xs := srt_items (by rw [List.length_map]; exact hl) (show Srt (ltO o) (weave xs (ts.map (flatB r))) from hs)
  subst hi
  have hge : ∀ j a, pos (ltO o) xs pv ≤ j → xs[j]? = some a → ltO o a pv = false := fun j a hj ha => by
    have := pos_spec (ordO o) hsi pv j a ha
    cases hq : ltO o a pv with
    | false => rfl
    | true => exact absurd (this.2 hq) (by omega)
  refine ⟨⟨hz, fun j a w ha hw => ?_, fun w hw => ?_⟩, hg.2 v (List.mem_of_getElem? hw)⟩
  · rw [hD, List.getElem?_drop] at ha
    rw [hB, List.getElem?_drop] at hw
    exact hg.1 _ a w ha (by rw [← hw]; congr 1; omega) (hge _ a (by omega) ha)
  · rw [hB] at hw
    obtain ⟨j, hj⟩ := List.mem_iff_getElem?.1 hw
    rw [List.getElem?_drop] at hj
    have hj2 := (List.getElem?_eq_some_iff.1 hj).1
    refine gd_mono (hv.2.2 w (List.mem_of_getElem? hj)).1 (fun a ha _ => ?_) (hg.2 w (List.mem_of_getElem? hj))
    have hx := List.getElem?_eq_getElem (show pos (ltO o) xs pv < xs.length by omega)
    have h4 := kid_rg hl hs hx (by omega) hj ha
    show ltO o a pv = false
    cases hq : ltO o a pv with
    | false => rfl
    | true => have := hge _ _ (Nat.le_refl _) hx; rw [(ordO o).tr _ _ _ h4 hq] at this; cases this
theorem rt_gd {r i : Nat} {xs : List KV} {ts : List (BT KV r)} {x : KV} (hv : Val mn mx (r + 1) ((xs, ts) : BT KV (r + 1))) (hs : Srt (ltO o) (flatB (r + 1) ((xs, ts) : BT KV (r + 1)))) (hx : xs[i]? = some x) (h : Rt Cp ((xs, ts) : BT KV (r + 1)) i) : Gd Cp (fun a => ltO o a x = false) (r + 1) ((xs, ts) : BT KV (r + 1)) := by
  have hl : ts.length = xs.length + 1 := hv.2.1
  have hi := (List.getElem?_eq_some_iff.1 hx).1
  have hsi : Srt (ltO o) xs := srt_items (by rw [List.length_map]; exact hl) (show Srt (ltO o) (weave xs (ts.map (flatB r))) from hs)
  refine ⟨fun j a v ha hw hob => ?_, fun v hw => ?_⟩
  · by_cases hj : i ≤ j
    · exact h.pr j a v hj ha hw
    · have hji : j < i := by omega
      have : ltO o a x = true := by
        obtain ⟨p1, p2⟩ := List.getElem?_eq_some_iff.1 ha
        obtain ⟨p3, p4⟩ := List.getElem?_eq_some_iff.1 hx
        rw [← p2, ← p4]
        exact List.pairwise_iff_getElem.1 hsi j i p1 p3 hji
      have hob : ltO o a x = false := hob
      rw [this] at hob; cases hob
  · obtain ⟨j, hj⟩ := List.mem_iff_getElem?.1 hw
    by_cases hij : i < j
    · exact gd_mono (hv.2.2 v hw).1 (fun _ _ _ => trivial) (h.kd j v hij hj)
    · refine gd_no (hv.2.2 v hw).1 fun a ha hob => ?_
      obtain ⟨v2, hv2⟩ : ∃ v2, ts[i + 1]? = some v2 := ⟨_, List.getElem?_eq_getElem (by omega)⟩
      have e := weave_at (xs := xs) (ts := ts.map (flatB r)) (i := j) (by omega) (m := flatB r v) (by rw [List.getElem?_map, hj]; rfl)
      have hs : Srt (ltO o) (weave xs (ts.map (flatB r))) := hs
      rw [e] at hs
      have h2 := (srt_append.1 (srt_append.1 hs).2.1).2.2 a ha x (by
        obtain ⟨p1, p2⟩ := List.getElem?_eq_some_iff.1 hx
        have : x ∈ xs.drop j := List.mem_of_getElem? (i := i - j) (by rw [List.getElem?_drop, show j + (i - j) = i by omega]; exact hx)
        have hle : (xs.drop j).length ≤ ((ts.map (flatB r)).drop (j + 1)).length := by simp; omega
        generalize xs.drop j = X at this hle
        generalize (ts.map (flatB r)).drop (j + 1) = T at hle
        clear e hs hx
        induction X generalizing T with
        | nil => cases this
        | cons c X ih =>
          cases T with
          | nil => simp at hle
          | cons t T =>
            show x ∈ c :: (t ++ post X T)
            rcases List.mem_cons.1 this with rfl | hm
            · simp
            · exact List.mem_cons_of_mem _ (List.mem_append.2 (.inr (ih hm T (by simpa using hle)))))
      have hob : ltO o a x = false := hob
      rw [h2] at hob; cases hob
theorem rt_cut {r i : Nat} {u : BT KV (r + 1)} (h : Rt Cp u i) : Rt Cp (cutB u i) i := by
  refine ⟨fun j a v hj ha hw => ?_, fun j v hj hw => ?_⟩
  · have ha : (u.1.eraseIdx i)[j]? = some a := ha
    have hw : (u.2.eraseIdx (i + 1))[j + 1]? = some v := hw
    rw [List.getElem?_eraseIdx_of_ge (by omega)] at ha
    rw [List.getElem?_eraseIdx_of_ge (by omega)] at hw
    exact h.pr _ a v (by omega) ha hw
  · have hw : (u.2.eraseIdx (i + 1))[j]? = some v := hw
    rw [List.getElem?_eraseIdx_of_ge (by omega)] at hw
    exact h.kd _ v (by omega) hw
theorem gd_cut {r i : Nat} {u : BT KV (r + 1)} (hlo : ∀ (j : Nat) (a : KV), j < i → u.1[j]? = some a → ¬ Ob a) (h : Gd Cp Ob (r + 1) u) : Gd Cp Ob (r + 1) (cutB u i) := by
  refine ⟨fun j a v ha hw ho => ?_, fun v hw => ?_⟩
  · have ha : (u.1.eraseIdx i)[j]? = some a := ha
    have hw : (u.2.eraseIdx (i + 1))[j + 1]? = some v := hw
    by_cases hj : j < i
    · rw [List.getElem?_eraseIdx_of_lt hj] at ha
      exact absurd ho (hlo j a hj ha)
    · rw [List.getElem?_eraseIdx_of_ge (by omega)] at ha
      rw [List.getElem?_eraseIdx_of_ge (by omega)] at hw
      exact h.1 _ a v ha hw ho
  · exact h.2 v (List.mem_of_mem_eraseIdx (show v ∈ u.2.eraseIdx (i + 1) from hw))
theorem cut_flat {r i : Nat} {u : BT KV (r + 1)} {a : KV} {v : BT KV r} (hl : u.2.length = u.1.length + 1) (ha : u.1[i]? = some a) (hv : u.2[i + 1]? = some v) :
    ∃ P, flatB (r + 1) u = P ++ ((a :: flatB r v) ++ post (u.1.drop (i + 1)) ((u.2.map (flatB r)).drop (i + 1 + 1))) ∧ flatB (r + 1) (cutB u i) = P ++ post (u.1.drop (i + 1)) ((u.2.map (flatB r)).drop (i + 1 + 1)) ∧
      (cutB u i).1.drop i = u.1.drop (i + 1) ∧ ((cutB u i).2.map (flatB r)).drop (i + 1) = (u.2.map (flatB r)).drop (i + 1 + 1) := by
  obtain ⟨xs, ts⟩ := u
  have hi := (List.getElem?_eq_some_iff.1 ha).1
  have hl : ts.length = xs.length + 1 := hl
  have hi : i < xs.length := hi
  obtain ⟨w, hw⟩ : ∃ w, ts[i]? = some w := ⟨_, List.getElem?_eq_getElem (by omega)⟩
  have e := weave_at (xs := xs) (ts := ts.map (flatB r)) (i := i) (by omega) (m := flatB r w) (by rw [List.getElem?_map, hw]; rfl)
  rw [post_cons ha (by rw [List.getElem?_map, hv]; rfl : (ts.map (flatB r))[i + 1]? = some (flatB r v))] at e
  have d1 : (xs.eraseIdx i).drop i = xs.drop (i + 1) := by
    rw [List.eraseIdx_eq_take_drop_succ, List.drop_left' (by simp; omega)]
  have d2 : ((ts.eraseIdx (i + 1)).map (flatB r)).drop (i + 1) = (ts.map (flatB r)).drop (i + 1 + 1) := by
    rw [List.eraseIdx_eq_take_drop_succ, List.map_append, List.drop_left' (by simp; omega), List.map_drop]
  have e2 := weave_at (xs := xs.eraseIdx i) (ts := (ts.eraseIdx (i + 1)).map (flatB r)) (i := i) (by rw [List.length_eraseIdx]; split <;> omega) (m := flatB r w) (by rw [List.getElem?_map, List.getElem?_eraseIdx_of_lt (by omega), hw]; rfl)
  rw [d1, d2] at e2
  have t1 : (xs.eraseIdx i).take i = xs.take i := by rw [List.eraseIdx_eq_take_drop_succ, List.take_left' (by simp; omega)]
  have t2 : ((ts.eraseIdx (i + 1)).map (flatB r)).take i = (ts.map (flatB r)).take i := by
    rw [← List.map_take, ← List.map_take]
    congr 1
    rw [List.eraseIdx_eq_take_drop_succ, List.take_append_of_le_length (by simp; omega), List.take_take, Nat.min_eq_left (by omega)]
  rw [t1, t2] at e2
  refine ⟨pre ((ts.map (flatB r)).take i) (xs.take i) ++ flatB r w, ?_, ?_, d1, d2⟩
  · show weave xs (ts.map (flatB r)) = _
    rw [e]; simp
  · show weave (xs.eraseIdx i) ((ts.eraseIdx (i + 1)).map (flatB r)) = _
    rw [e2]; simp
end
structure Lw (o : List Int) (st : KV → Bool) (FL : List KV) (Cp : List KV → Prop) (b0 dg rnd : Nat) {n : Nat} (z : Zp n 0) (b : Nat) (xs : List KV) (i : Nat) : Prop where
  lu : Lu o b0 dg rnd z b (xs : BT KV 0)
  le : i ≤ xs.length
  fn : FL = (z.lf ++ xs.take i) ++ (xs.drop i ++ z.rg).filter st
  gr : z.Gr Cp
structure Bw (o : List Int) (st : KV → Bool) (FL : List KV) (Cp : List KV → Prop) (b0 dg rnd R : Nat) {n r : Nat} (z : Zp n (r + 1)) (b : Nat) (u : BT KV (r + 1)) (i : Nat) : Prop where
  lu : Lu o b0 dg rnd z b u
  lt : i < u.1.length
  fn : ∃ A, flatB (r + 1) u = A ++ post (u.1.drop i) ((u.2.map (flatB r)).drop (i + 1)) ∧ FL = (z.lf ++ A) ++ (post (u.1.drop i) ((u.2.map (flatB r)).drop (i + 1)) ++ z.rg).filter st
  rm : (post (u.1.drop i) ((u.2.map (flatB r)).drop (i + 1))).length + z.rg.length ≤ R
  gr : z.Gr Cp
  rt : Rt Cp u i
structure Pw (o : List Int) (st : KV → Bool) (FL : List KV) (Cp : List KV → Prop) (b0 dg rnd : Nat) {n r : Nat} (z : Zp n r) (b : Nat) (u : BT KV r) (pv : KV) : Prop where
  lu : Lu o b0 dg rnd z b u
  lo : ∀ a ∈ z.lf, ltO o a pv = true
  hi : ∀ a ∈ z.rg, ltO o pv a = true
  fn : FL = (z.all u).filter (kp o st pv)
  gr : z.Gr Cp
  gd : Gd Cp (fun a => ltO o a pv = false) r u
def Nw (o : List Int) (st : KV → Bool) (FL : List KV) (Cp : List KV → Prop) (b0 dg rnd r1 : Nat) (pv : KV) {n : Nat} : (r : Nat) → Zp n r → Nat → BT KV r → Bool → Nat → Nat → Prop
  | 0, z, b, u, _, i, k => Lw o st FL Cp b0 dg rnd z b u i ∧ z.rg.length < k
  | r + 1, z, b, u, fd, i, k => (fd = true ∧ Bw o st FL Cp b0 dg rnd k z b u i) ∨ (fd = false ∧ r + 1 = r1 ∧ Pw o st FL Cp b0 dg rnd z b u pv ∧ fnd (ltO o) u.1 pv = none ∧ i = pos (ltO o) u.1 pv)
end Go.Proofs.Ytegnpimlfphncaa.TG
set_option linter.unusedVariables false
set_option linter.unusedSimpArgs false
set_option linter.unusedSectionVars false
set_option maxRecDepth 100000
namespace Go.Proofs.Ytegnpimlfphncaa.TG
open Go Go.Proofs.Ytegnpimlfphncaa
def Stp (h0 : H) (G0 : PA → Prop) (f : Value) (st : KV → Bool) (a0 : PA) (ls : Value) : Prop :=
  ∀ (Q : Ex → List AV → H → Prop) (h : H) (l : List Ck) (x : KV) (k : SV [.c .bool] → M), St h0 G0 l h → rd h (a0.1, a0.2 + 6) = some ls → (∀ h', St h0 G0 l h' → wp Try.prog (k (st x, ())) Q h') → wp Try.prog (.callv f [.agg [.int .i64 x.1, .int .i64 x.2]] false [.c .bool] k) Q h
def Apn (oc : Ck) (K : List KV → Ck) (iso : Int) (dg : Nat) (l : List KV) (la : PA) (ext : Bool) : Prop :=
  (ext = true → ∀ (h : H) (G : PA → Prop) (cur cur' : List KV) (e : El), (flE e ++ cur').Perm cur → flE e <:+: l → (∀ s : Nd, e.2 = some s → Val dg (2 * dg + 1) s.1 s.2.2) → Bes oc h G → Star [K cur, elC iso e] h G →
    HT Try.prog fn_lg_append [.c (.addr la), .agg [.int .i64 e.1.1, .int .i64 e.1.2], .c (.ptr (ptE e))] true [] h fun _ h' => ∃ post, post = [K cur'] ∧ St h G post h') ∧
  (ext = false → ∀ (h0 : H) (G0 : PA → Prop) (r : List Ck) (h : H) (cur cur' : List KV), St h0 G0 (K cur :: r) h → St h0 G0 (K cur' :: r) h)
def rtM (la : PA) (n3 : Nat) : M := .nonnil ((some la)) fun p265 => .load p265 (.raw) fun v266 => .load (p265.fst, p265.snd + 1) (.int .i64) fun i267 => .load (p265.fst, p265.snd + 2) (.int .i64) fun i268 => .load (p265.fst, p265.snd + 3) (.sl) fun s269 => .store (n3, 0) (.raw (v266)) <| .store (n3, 1) (.int .i64 (i267)) <| .store (n3, 2) (.int .i64 (i268)) <| .store (n3, 3) (.sl (s269.fst) (s269.snd.fst) (s269.snd.snd)) <| .load (n3, 0) (.raw) fun v270 => .load (n3, 1) (.int .i64) fun i271 => .load (n3, 2) (.int .i64) fun i272 => .load (n3, 3) (.sl) fun s273 => .done .ret [.agg [.raw (v270), .int .i64 (i271), .int .i64 (i272), .sl (s273.fst) (s273.snd.fst) (s273.snd.snd)]]
def Rtn (K : List KV → Ck) (Rf : List KV → AV → List Ck → Prop) (la : PA) (n3 : Nat) : Prop :=
  ∀ (Q : Ex → List AV → H → Prop) (h0 h : H) (G0 : PA → Prop) (r : List Ck) (cur : List KV), St h0 G0 (K cur :: r) h → (∀ h' v post, Rf cur v post → St h0 G0 (StC post :: r) h' → wp Try.prog (.done .ret [v]) Q h') → wp Try.prog (rtM la n3) Q h
section
variable {h h0 : H} {G0 : PA → Prop} {r : List Ck} {Q : Ex → List AV → H → Prop} {oc : Ck} {K : List KV → Ck} {iso : Int} {dg : Nat} {l : List KV} {la : PA} {ext : Bool} {o : List Int} {b0 rnd n : Nat}
theorem w_apx {x : KV} {cur cur' : List KV} {k : SV [] → M} (hap : Apn oc K iso dg l la ext) (he : ext = true) (hoc : Bes oc h0 G0) (hp : (x :: cur').Perm cur) (hx : x ∈ l) (S : St h0 G0 (K cur :: r) h) (hw : ∀ h', St h0 G0 (K cur' :: r) h' → wp Try.prog (k ()) Q h') :
    wp Try.prog (.call fn_lg_append [.c (.ptr (some la)), .agg [.int .i64 x.1, .int .i64 x.2], .c (.ptr none)] true [] k) Q h := by
  have S := (St.em_in S).pull1
  obtain ⟨A, B, rfl⟩ := List.append_of_mem hx
  refine st_callF S [.ck (K cur), .ck EmC] (fun G' hG' hsub => HT.re (args' := [.c (.addr la), .agg [.int .i64 x.1, .int .i64 x.2], .c (.ptr (ptE (x, none)))]) rfl <| hap.1 he h G' cur cur' (x, none) (by exact hp) ⟨A, B, by simp [flE]⟩ (fun s hs => by cases hs) (hoc.step S hsub) hG') ?_
  rintro _ _ _ rfl S
  exact hw _ S
theorem Zp.sub_all {r : Nat} (z : Zp n r) {u v : BT KV r} {mid : List KV} {P T : List KV} (hu : flatB r u = P ++ (mid ++ T)) (hv : flatB r v = P ++ T) : (mid ++ z.all v).Perm (z.all u) := by
  unfold Zp.all
  rw [hu, hv]
  exact perm_cut _ _ _ _ _
end
section
variable {h h0 : H} {G0 : PA → Prop} {Q : Ex → List AV → H → Prop} {ls : Value} {oc : Ck} {o : List Int} {K : List KV → Ck} {Rf : List KV → AV → List Ck → Prop} {st : KV → Bool} {f : Value} {FL l : List KV} {Cp : List KV → Prop} {b0 dg rnd n n0 n2 n3 nv : Nat} {iso : Int} {ctr : Option PA} {a0 nh ps la : PA} {pv mk : KV} {cs : Nat} {ext : Bool}
set_option maxHeartbeats 4000000 in
theorem w_bulkr {z : Zp n 0} {b i c : Nat} {p : PA} {xs : List KV} (hn0 : Bes (RdC (n0, 0) (.pointer (some a0.val))) h0 G0) (hoc : Bes oc h0 G0) (hst : Stp h0 G0 f st a0 ls) (hap : Apn oc K iso dg l la ext) (hrt : Rtn K Rf la n3) (hsm : Stm o st mk) (hl : Lim b0 dg rnd) (hsb : ∀ a ∈ z.all (r := 0) xs, a ∈ l) (lv : Lw o st FL Cp b0 dg rnd z b xs i) (hc : xs.length ≤ c) (hcs : (z.stk b).length ≤ cs) (hn : n ≤ 4294967294)
    (S : St h0 G0 [K (z.all (r := 0) xs), Ow a0 (mapC ls iso ctr (some (b0, 0)) (z.all (r := 0) xs).length dg (2 * dg + 1) false false) 0, Ow (nv, 0) (L.cells pv) 0, HtC (some nh), Ow ps (LFr.flat (z.stk b)) ((cs - (z.stk b).length) * LFr.sz), ZsC iso z xs.length, ZrC iso z b, Ow (b, 0) (nodeC iso xs.length (some p, xs.length, c) none) 0, Ow p (L.flat xs) ((c - xs.length) * L.sz)] h)
    (hret : ∀ h' (xs : List KV) (v : AV) (post : List Ck), Lu o b0 dg rnd z b (xs : BT KV 0) → FL = z.all (r := 0) xs → xs.length ≤ c → Rf FL v post → St h0 G0 [StC post, Ow a0 (mapC ls iso ctr (some (b0, 0)) (z.all (r := 0) xs).length dg (2 * dg + 1) false false) 0, Ow (nv, 0) (L.cells pv) 0, HtC (some nh), Ow ps (LFr.flat (z.stk b)) ((cs - (z.stk b).length) * LFr.sz), ZsC iso z xs.length, ZrC iso z b, Ow (b, 0) (nodeC iso xs.length (some p, xs.length, c) none) 0, Ow p (L.flat xs) ((c - xs.length) * L.sz)] h' → wp Try.prog (.done .ret [v]) Q h')
    (hnx : ∀ h' (xs : List KV), Lw o st FL Cp b0 dg rnd z b xs i → xs.length ≤ c → (∀ a ∈ z.all (r := 0) xs, a ∈ l) → St h0 G0 [K (z.all (r := 0) xs), Ow a0 (mapC ls iso ctr (some (b0, 0)) (z.all (r := 0) xs).length dg (2 * dg + 1) false false) 0, Ow (nv, 0) (L.cells pv) 0, HtC (some nh), Ow ps (LFr.flat (z.stk b)) ((cs - (z.stk b).length) * LFr.sz), ZsC iso z xs.length, ZrC iso z b, Ow (b, 0) (nodeC iso xs.length (some p, xs.length, c) none) 0, Ow p (L.flat xs) ((c - xs.length) * L.sz)] h' → wp Try.prog (.done .normal []) Q h') :
    wp Try.prog (.ite (decide ((↑xs.length : Int) - (i : Int) - (dg : Int) > 1)) (.bind (some 4) (.loop [.c (.int .i64), .c (.bool)] [.c (.int .i64 (0)), .c (.ff)] fun y216 => .ite (decide (y216.fst < (↑xs.length : Int) - (i : Int) - (dg : Int))) (.nonnil (some (b, 0)) fun p217 => .load (p217.fst, p217.snd + 2) (.sl) fun s218 => .guard (InK IntKind.i64 ((i : Int) + y216.fst)) <| .nonnil (s218.fst) fun p219 => .guard (((0 : Int) ≤ (i : Int) + y216.fst) ∧ (((i : Int) + y216.fst : Int) < (↑s218.snd.fst : Int))) <| .load (p219.fst, p219.snd + mulN ((i : Int) + y216.fst).toNat 2) (.int .i64) fun i220 => .load (p219.fst, p219.snd + mulN ((i : Int) + y216.fst).toNat 2 + 1) (.int .i64) fun i221 => .callv (f) [.agg [.int .i64 (i220), .int .i64 (i221)]] false [.c (.bool)] fun r222 => .ite (r222.fst) (.done (.exit 4) [.c (.int .i64 (y216.fst)), .c (.bool (r222.fst))]) (.bind none (.ite (ext) (.nonnil (some (b, 0)) fun p223 => .load (p223.fst, p223.snd + 2) (.sl) fun s224 => .guard (InK IntKind.i64 ((i : Int) + y216.fst)) <| .nonnil (s224.fst) fun p225 => .guard (((0 : Int) ≤ (i : Int) + y216.fst) ∧ (((i : Int) + y216.fst : Int) < (↑s224.snd.fst : Int))) <| .load (p225.fst, p225.snd + mulN ((i : Int) + y216.fst).toNat 2) (.int .i64) fun i226 => .load (p225.fst, p225.snd + mulN ((i : Int) + y216.fst).toNat 2 + 1) (.int .i64) fun i227 => .call fn_lg_append [.c (.ptr ((some la))), .agg [.int .i64 (i226), .int .i64 (i227)], .c (.ptr none)] true [] fun r228 => .done .normal []) (.done .normal [])) [] fun x229 => .guard (InK IntKind.i64 (y216.fst + 1)) <| .done .normal [.c (.int .i64 (y216.fst + 1)), .c (.bool (r222.fst))])) (.done (.exit 4) [.c (.int .i64 (y216.fst)), .c (.bool (y216.snd.fst))])) [.c (.int .i64), .c (.bool)] fun x230 => .nonnil (some (b, 0)) fun p231 => .load (p231.fst, p231.snd + 2) (.sl) fun s232 => .guard (((0 : Int) ≤ (i : Int)) ∧ (((i : Int) : Int) ≤ (↑s232.snd.fst : Int))) <| .nonnil (some (b, 0)) fun p233 => .load (p233.fst, p233.snd + 2) (.sl) fun s234 => .guard (InK IntKind.i64 ((i : Int) + x230.fst)) <| .guard (((0 : Int) ≤ (i : Int) + x230.fst) ∧ (((i : Int) + x230.fst : Int) ≤ (↑s234.snd.fst : Int))) <| .copy 2 ((slBase s232.fst s232.snd.snd (Int.toNat (i : Int)) 2), s232.snd.fst - Int.toNat (i : Int), s232.snd.snd - Int.toNat (i : Int)) ((slBase s234.fst s234.snd.snd ((i : Int) + x230.fst).toNat 2), s234.snd.fst - ((i : Int) + x230.fst).toNat, s234.snd.snd - ((i : Int) + x230.fst).toNat) fun m235 => .nonnil (some (b, 0)) fun p236 => .load (p236.fst, p236.snd + 2) (.sl) fun s237 => .guard (InK IntKind.i64 ((↑s237.snd.fst : Int) - x230.fst)) <| .bind (some 6) (.loop [.c (.int .i64)] [.c (.int .i64 ((↑s237.snd.fst : Int) - x230.fst))] fun y238 => .nonnil (some (b, 0)) fun p239 => .load (p239.fst, p239.snd + 2) (.sl) fun s240 => .ite (decide (y238.fst < (↑s240.snd.fst : Int))) (.nonnil (some (b, 0)) fun p241 => .load (p241.fst, p241.snd + 2) (.sl) fun s242 => .load (n0, 0) (.ptr) fun q243 => .nonnil (q243) fun p244 => .load (p244.fst, p244.snd + 7) (.int .i64) fun i245 => .load (p244.fst, p244.snd + 8) (.int .i64) fun i246 => .nonnil (s242.fst) fun p247 => .guard (((0 : Int) ≤ y238.fst) ∧ ((y238.fst : Int) < (↑s242.snd.fst : Int))) <| .store (p247.fst, p247.snd + mulN (Int.toNat y238.fst) 2) (.int .i64 (i245)) <| .store (p247.fst, p247.snd + mulN (Int.toNat y238.fst) 2 + 1) (.int .i64 (i246)) <| .guard (InK IntKind.i64 (y238.fst + 1)) <| .done .normal [.c (.int .i64 (y238.fst + 1))]) (.done (.exit 6) [])) [] fun x248 => .nonnil (some (b, 0)) fun p249 => .load (p249.fst, p249.snd + 2) (.sl) fun s250 => .nonnil (some (b, 0)) fun p251 => .load (p251.fst, p251.snd + 2) (.sl) fun s252 => .guard (InK IntKind.i64 ((↑s252.snd.fst : Int) - x230.fst)) <| .guard (((0 : Int) ≤ (↑s252.snd.fst : Int) - x230.fst) ∧ (((↑s252.snd.fst : Int) - x230.fst : Int) ≤ (↑s250.snd.snd : Int))) <| .nonnil (some (b, 0)) fun p253 => .store (p253.fst, p253.snd + 2) (.sl (slBase s250.fst s250.snd.snd 0 2) (((↑s252.snd.fst : Int) - x230.fst).toNat - 0) (s250.snd.snd - 0)) <| .bind (some 8) (.loop [.c (.int .i64)] [.c (.int .i64 (0))] fun y254 => .ite (decide (y254.fst < (↑(z.stk b).length : Int))) (.nonnil ((some ps)) fun p255 => .guard (((0 : Int) ≤ y254.fst) ∧ ((y254.fst : Int) < (↑(z.stk b).length : Int))) <| .load (p255.fst, p255.snd + mulN (Int.toNat y254.fst) 2) (.ptr) fun q256 => .nonnil (q256) fun p257 => .load (p257.fst, p257.snd + 1) (.int .i64) fun i258 => .guard (InK IntKind.i64 (i258 - x230.fst)) <| .nonnil (q256) fun p259 => .store (p259.fst, p259.snd + 1) (.int .i64 (i258 - x230.fst)) <| .guard (InK IntKind.i64 (y254.fst + 1)) <| .done .normal [.c (.int .i64 (y254.fst + 1))]) (.done (.exit 8) [])) [] fun x260 => .load (n0, 0) (.ptr) fun q261 => .nonnil (q261) fun p262 => .load (p262.fst, p262.snd + 3) (.int .i64) fun i263 => .guard (InK IntKind.i64 (i263 - x230.fst)) <| .nonnil (q261) fun p264 => .store (p264.fst, p264.snd + 3) (.int .i64 (i263 - x230.fst)) <| .ite (x230.snd.fst) (.nonnil ((some la)) fun p265 => .load p265 (.raw) fun v266 => .load (p265.fst, p265.snd + 1) (.int .i64) fun i267 => .load (p265.fst, p265.snd + 2) (.int .i64) fun i268 => .load (p265.fst, p265.snd + 3) (.sl) fun s269 => .store (n3, 0) (.raw (v266)) <| .store (n3, 1) (.int .i64 (i267)) <| .store (n3, 2) (.int .i64 (i268)) <| .store (n3, 3) (.sl (s269.fst) (s269.snd.fst) (s269.snd.snd)) <| .load (n3, 0) (.raw) fun v270 => .load (n3, 1) (.int .i64) fun i271 => .load (n3, 2) (.int .i64) fun i272 => .load (n3, 3) (.sl) fun s273 => .done .ret [.agg [.raw (v270), .int .i64 (i271), .int .i64 (i272), .sl (s273.fst) (s273.snd.fst) (s273.snd.snd)]]) (.done .normal [])) (.done .normal [])) Q h := by
  obtain ⟨lu, le, fn, gr⟩ := lv
  have h1 := hl.one
  have hbig := hl.big
  have hrl := hl.rnd
  have hxl : xs.length ≤ 2 * dg + 1 := lu.val
  have htop := lu.top
  have hal : ∀ ys : List KV, (z.all (r := 0) ys).length = z.lf.length + (ys.length + z.rg.length) := fun ys => z.all_len (r := 0) ys
  rw [hal] at htop
  have hall := hal xs
  have hsl := z.len b
  have htk : ∀ D : List KV, (xs.take i ++ D).take i = xs.take i := fun D => List.take_left' (by simp; omega)
  have hdk : ∀ D : List KV, (xs.take i ++ D).drop i = D := fun D => List.drop_left' (by simp; omega)
  have hsub : ∀ j, i + j ≤ xs.length → ∀ a ∈ z.all (r := 0) (xs.take i ++ xs.drop (i + j)), a ∈ l := fun j hj a ha => hsb a (by
    have ha : a ∈ z.lf ++ ((xs.take i ++ xs.drop (i + j)) ++ z.rg) := ha
    show a ∈ z.lf ++ (xs ++ z.rg)
    simp only [List.mem_append] at ha ⊢
    rcases ha with h | (h | h) | h
    · exact .inl h
    · exact .inr (.inl (List.mem_of_mem_take h))
    · exact .inr (.inl (List.mem_of_mem_drop h))
    · exact .inr (.inr h))
  by_cases hbk : i + dg + 1 < xs.length
  case neg => exact w_false (decide_eq_false (by omega)) (hnx _ xs ⟨lu, le, fn, gr⟩ hc hsb S)
  refine w_true (decide_eq_true (by omega)) ?_
  refine w_mid' (some 4) (fun (x : SV [.c (.int .i64), .c .bool]) h' => ∃ (j : Nat) (fl : Bool), x = ((j : Int), fl, ()) ∧ i + j + dg ≤ xs.length ∧ FL = (z.lf ++ xs.take i) ++ (xs.drop (i + j) ++ z.rg).filter st ∧ (fl = true → FL = z.all (r := 0) (xs.take i ++ xs.drop (i + j))) ∧
      St h0 G0 [K (z.all (r := 0) (xs.take i ++ xs.drop (i + j))), Ow a0 (mapC ls iso ctr (some (b0, 0)) (z.all (r := 0) xs).length dg (2 * dg + 1) false false) 0, Ow (nv, 0) (L.cells pv) 0, HtC (some nh), Ow ps (LFr.flat (z.stk b)) ((cs - (z.stk b).length) * LFr.sz), ZsC iso z xs.length, ZrC iso z b, Ow (b, 0) (nodeC iso xs.length (some p, xs.length, c) none) 0, Ow p (L.flat xs) ((c - xs.length) * L.sz)] h') ?_ ?_
  · refine w_lp (fun r y h' => ∃ (j : Nat), y = ((j : Int), false, ()) ∧ i + j + dg + r = xs.length ∧ FL = (z.lf ++ xs.take i) ++ (xs.drop (i + j) ++ z.rg).filter st ∧
      St h0 G0 [K (z.all (r := 0) (xs.take i ++ xs.drop (i + j))), Ow a0 (mapC ls iso ctr (some (b0, 0)) (z.all (r := 0) xs).length dg (2 * dg + 1) false false) 0, Ow (nv, 0) (L.cells pv) 0, HtC (some nh), Ow ps (LFr.flat (z.stk b)) ((cs - (z.stk b).length) * LFr.sz), ZsC iso z xs.length, ZrC iso z b, Ow (b, 0) (nodeC iso xs.length (some p, xs.length, c) none) 0, Ow p (L.flat xs) ((c - xs.length) * L.sz)] h') (xs.length - (i + dg)) rfl ⟨0, rfl, by omega, by simpa using fn, by simpa using S⟩ ?_
    clear S
    rintro r _ _ ⟨j, rfl, hj, hfn, S⟩
    by_cases hr : r = 0
    · exact w_false (decide_eq_false (by (first | omega | ((try dsimp only [Sh.T, Sh1.T]); omega)))) (ln_e (md_e rfl ⟨j, false, rfl, by omega, hfn, (fun h => by cases h), S⟩))
    · have hlt : i + j < xs.length := by omega
      have hx := List.getElem?_eq_getElem hlt
      have e : ((i : Int) + (j : Int)).toNat = i + j := by omega
      have hdr : xs.drop (i + j) = xs[i + j] :: xs.drop (i + j + 1) := List.drop_eq_getElem_cons hlt
      refine w_true (decide_eq_true (by (first | omega | ((try dsimp only [Sh.T, Sh1.T]); omega)))) ?_
      refine w_nonnil (ld_sls S rfl (w_guard (inK64 (by (first | omega | ((try dsimp only [Sh.T, Sh1.T]); omega))) (by (first | omega | ((try dsimp only [Sh.T, Sh1.T]); omega)))) (w_nonnil (w_guard ⟨by (first | omega | ((try dsimp only [Sh.T, Sh1.T]); omega)), by (first | omega | ((try dsimp only [Sh.T, Sh1.T]); omega))⟩ ?_))))
      dsimp only
      rw [e]
      refine ld_it S hx ?_
      refine hst _ _ _ xs[i + j] _ S (S.rd rfl) fun _ S => ?_
      cases hs : st xs[i + j] with
      | true =>
        refine w_true rfl (ln_e (md_e rfl ⟨j, true, rfl, by omega, hfn, fun _ => ?_, S⟩))
        obtain ⟨_, lu'⟩ := lu.cut hl (show i + j ≤ xs.length by omega) (by omega)
        have hsr : Srt (ltO o) (z.lf ++ ((xs.take i ++ xs.drop (i + j)) ++ z.rg)) := lu'.srt
        rw [hdr, List.append_assoc, ← List.append_assoc z.lf] at hsr
        have e0 : (xs[i + j] :: (xs.drop (i + j + 1) ++ z.rg)).filter st = xs[i + j] :: (xs.drop (i + j + 1) ++ z.rg) := all_stop hsm (srt_append.1 hsr).2.1 hs
        rw [hfn, hdr, List.cons_append, e0]
        show _ = z.lf ++ ((xs.take i ++ xs[i + j] :: xs.drop (i + j + 1)) ++ z.rg)
        simp only [List.append_assoc, List.cons_append]
      | false =>
        refine w_false rfl ?_
        rw [hdr, List.cons_append, List.filter_cons_of_neg (by simp [hs])] at hfn
        refine w_mid' none (fun _ h' => St h0 G0 [K (z.all (r := 0) (xs.take i ++ xs.drop (i + (j + 1)))), Ow a0 (mapC ls iso ctr (some (b0, 0)) (z.all (r := 0) xs).length dg (2 * dg + 1) false false) 0, Ow (nv, 0) (L.cells pv) 0, HtC (some nh), Ow ps (LFr.flat (z.stk b)) ((cs - (z.stk b).length) * LFr.sz), ZsC iso z xs.length, ZrC iso z b, Ow (b, 0) (nodeC iso xs.length (some p, xs.length, c) none) 0, Ow p (L.flat xs) ((c - xs.length) * L.sz)] h') ?_ ?_
        · cases he : ext with
          | false => exact w_false rfl (md_n rfl (hap.2 he _ _ _ _ _ _ S))
          | true =>
            refine w_true rfl (w_nonnil (ld_sls S rfl (w_guard (inK64 (by (first | omega | ((try dsimp only [Sh.T, Sh1.T]); omega))) (by (first | omega | ((try dsimp only [Sh.T, Sh1.T]); omega)))) (w_nonnil (w_guard ⟨by (first | omega | ((try dsimp only [Sh.T, Sh1.T]); omega)), by (first | omega | ((try dsimp only [Sh.T, Sh1.T]); omega))⟩ ?_)))))
            try dsimp only
            try rw [e]
            refine ld_it S hx ?_
            rw [hdr] at S
            refine w_apx (cur' := z.all (r := 0) (xs.take i ++ xs.drop (i + (j + 1)))) hap he hoc ?_ (hsub j (by omega) _ (by rw [hdr]; exact List.mem_append.2 (.inr (List.mem_append.2 (.inl (List.mem_append.2 (.inr List.mem_cons_self))))))) S fun _ S => md_n rfl S
            exact z.sub_all (r := 0) (mid := [xs[i + j]]) (P := xs.take i) (T := xs.drop (i + j + 1)) rfl rfl
        clear S
        rintro _ _ S
        exact w_guard (inK64 (by (first | omega | ((try dsimp only [Sh.T, Sh1.T]); omega))) (by (first | omega | ((try dsimp only [Sh.T, Sh1.T]); omega)))) (ln_n rfl (r - 1) ⟨j + 1, rfl, by omega, hfn, S⟩ (by omega))
  clear S
  rintro _ _ ⟨j, fl, rfl, hj, hfn, hfl, S⟩
  obtain ⟨hlen', lu'⟩ := lu.cut hl (show i + j ≤ xs.length by omega) (by omega)
  have e : ((i : Int) + (j : Int)).toNat = i + j := by omega
  refine w_nonnil (ld_sls S rfl (w_guard ⟨by (first | omega | ((try dsimp only [Sh.T, Sh1.T]); omega)), by (first | omega | ((try dsimp only [Sh.T, Sh1.T]); omega))⟩ (w_nonnil (ld_sls S rfl (w_guard (inK64 (by (first | omega | ((try dsimp only [Sh.T, Sh1.T]); omega))) (by (first | omega | ((try dsimp only [Sh.T, Sh1.T]); omega)))) (w_guard ⟨by (first | omega | ((try dsimp only [Sh.T, Sh1.T]); omega)), by (first | omega | ((try dsimp only [Sh.T, Sh1.T]); omega))⟩ ?_))))))
  dsimp only
  rw [e]
  simp only [Int.toNat_natCast]
  refine st_copyB (L := L) (ys := xs) (n := xs.length) (c := c) (a := i) (b := i + j) S rfl rfl (by omega) (by omega) hc fun _ S => ?_
  obtain ⟨ws, hws⟩ : ∃ ws, ws = (xs.take i ++ ((xs.drop (i + j)).take (xs.length - (i + j)) ++ xs.drop (i + (xs.length - (i + j))))) := ⟨_, rfl⟩
  rw [← hws] at S
  have hwl : ws.length = xs.length := by rw [hws]; exact cp_len rfl (by omega) (by omega)
  have hwt : ws.take (xs.length - j) = xs.take i ++ xs.drop (i + j) := by
    rw [hws, ← List.append_assoc, List.take_of_length_le (l := xs.drop (i + j)) (by simp), List.take_left' (by simp; omega)]
  clear hws
  refine w_nonnil (ld_sls S rfl (w_guard (inK64 (by (first | omega | ((try dsimp only [Sh.T, Sh1.T]); omega))) (by (first | omega | ((try dsimp only [Sh.T, Sh1.T]); omega)))) ?_))
  refine w_mid' (some 6) (fun (_ : SV []) h' => ∃ zs : List KV, zs.length = xs.length ∧ zs.take (xs.length - j) = xs.take i ++ xs.drop (i + j) ∧
      St h0 G0 [K (z.all (r := 0) (xs.take i ++ xs.drop (i + j))), Ow a0 (mapC ls iso ctr (some (b0, 0)) (z.all (r := 0) xs).length dg (2 * dg + 1) false false) 0, Ow (nv, 0) (L.cells pv) 0, HtC (some nh), Ow ps (LFr.flat (z.stk b)) ((cs - (z.stk b).length) * LFr.sz), ZsC iso z xs.length, ZrC iso z b, Ow (b, 0) (nodeC iso xs.length (some p, xs.length, c) none) 0, Ow p (L.flat zs) ((c - xs.length) * L.sz)] h') ?_ ?_
  · refine w_lp (fun r y h' => ∃ (k : Nat) (zs : List KV), y = ((k : Int), ()) ∧ k + r = xs.length ∧ xs.length - j ≤ k ∧ zs.length = xs.length ∧ zs.take (xs.length - j) = xs.take i ++ xs.drop (i + j) ∧
      St h0 G0 [K (z.all (r := 0) (xs.take i ++ xs.drop (i + j))), Ow a0 (mapC ls iso ctr (some (b0, 0)) (z.all (r := 0) xs).length dg (2 * dg + 1) false false) 0, Ow (nv, 0) (L.cells pv) 0, HtC (some nh), Ow ps (LFr.flat (z.stk b)) ((cs - (z.stk b).length) * LFr.sz), ZsC iso z xs.length, ZrC iso z b, Ow (b, 0) (nodeC iso xs.length (some p, xs.length, c) none) 0, Ow p (L.flat zs) ((c - xs.length) * L.sz)] h') j rfl
      ⟨xs.length - j, ws, Prod.ext (by show (xs.length : Int) - (j : Int) = ((xs.length - j : Nat) : Int); omega) rfl, by omega, Nat.le_refl _, hwl, hwt, S⟩ ?_
    clear S
    rintro r _ _ ⟨k, zs, rfl, hk, hkj, hzl, hzt, S⟩
    refine w_nonnil (ld_sls S rfl ?_)
    by_cases hkl : k < xs.length
    · refine w_true (lt_t (by (first | omega | ((try dsimp only [Sh.T, Sh1.T]); omega)))) (w_nonnil (ld_sls S rfl (w_ptr (some a0) (hn0.now S).rd (w_nonnil (ld_int S rfl (ld_int S rfl (w_nonnil (w_guard ⟨by (first | omega | ((try dsimp only [Sh.T, Sh1.T]); omega)), by (first | omega | ((try dsimp only [Sh.T, Sh1.T]); omega))⟩ ?_))))))))
      dsimp only
      rw [Int.toNat_natCast]
      refine st_it S (by omega) fun _ S => ?_
      refine w_guard (inK64 (by (first | omega | ((try dsimp only [Sh.T, Sh1.T]); omega))) (by (first | omega | ((try dsimp only [Sh.T, Sh1.T]); omega)))) (ln_n rfl (r - 1) ⟨k + 1, _, rfl, by omega, by omega, by rw [List.length_set]; exact hzl, by rw [List.take_set_of_le (by omega)]; exact hzt, S⟩ (by omega))
    · exact w_false (lt_f (by (first | omega | ((try dsimp only [Sh.T, Sh1.T]); omega)))) (ln_e (md_e rfl ⟨zs, hzl, hzt, S⟩))
  clear S
  rintro _ _ ⟨zs, hzl, hzt, S⟩
  refine w_nonnil (ld_sls S rfl (w_nonnil (ld_sls S rfl (w_guard (inK64 (by (first | omega | ((try dsimp only [Sh.T, Sh1.T]); omega))) (by (first | omega | ((try dsimp only [Sh.T, Sh1.T]); omega)))) (w_guard ⟨by (first | omega | ((try dsimp only [Sh.T, Sh1.T]); omega)), by (first | omega | ((try dsimp only [Sh.T, Sh1.T]); omega))⟩ (w_nonnil ?_))))))
  refine st_store S (lt_ble rfl) fun _ S => ?_
  have S := (S.at (.ow (b, 0))).re (b, 0) (nodeC iso xs.length (some p, xs.length - j, c) none) 0 rfl (by simp [nodeC, Cell.val, slBase_zero]) rfl
  have S := (S.at (.ow p)).re p (L.flat (xs.take i ++ xs.drop (i + j)) ++ L.flat (zs.drop (xs.length - j))) _ rfl (by rw [← L.flat_append, ← hzt, List.take_append_drop]) rfl
  have S := S.shrink
  have S := S.re p (L.flat (xs.take i ++ xs.drop (i + j))) ((c - (xs.length - j)) * L.sz) rfl rfl (by rw [L.flat_length, List.length_drop, hzl, ← Nat.add_mul]; congr 1; omega)
  have S := zp_in (S.ats [.ow (b, 0), .kd none])
  have S := (S.at (.ow ps)).pull1
  refine w_mid' (some 8) (fun (_ : SV []) h' => St h0 G0 [K (z.all (r := 0) (xs.take i ++ xs.drop (i + j))), Ow a0 (mapC ls iso ctr (some (b0, 0)) (z.all (r := 0) xs).length dg (2 * dg + 1) false false) 0, Ow (nv, 0) (L.cells pv) 0, HtC (some nh), Ow ps (LFr.flat (z.stk b)) ((cs - (z.stk b).length) * LFr.sz), ZsC iso z (xs.length - j), ZrC iso z b, Ow (b, 0) (nodeC iso (xs.length - j) (some p, xs.length - j, c) none) 0, Ow p (L.flat (xs.take i ++ xs.drop (i + j))) ((c - (xs.length - j)) * L.sz)] h') ?_ ?_
  · refine w_dec (k := j) (gs := z.stk b) (fs := z.sp xs.length ++ [(b, xs.length, (some p, xs.length - j, c), none)]) rfl rfl (by rw [List.map_append]; exact z.ids b xs.length) (fun e he => ?_) (by omega) S fun _ S => md_e rfl ?_
    · rcases List.mem_append.1 he with he | he
      · have := z.cnts _ e he
        omega
      · simp only [List.mem_cons, List.not_mem_nil, or_false] at he
        subst he
        dsimp only
        omega
    · rw [List.map_append, z.spd j xs.length (by omega)] at S
      have S := zp_ou (m := xs.length - j) (b := b) (cnt := xs.length - j) (s := (some p, xs.length - j, c)) (kp := none) S
      exact S.ats [.ck (K (z.all (r := 0) (xs.take i ++ xs.drop (i + j)))), .ow a0, .ow (nv, 0), .ck (HtC (some nh)), .ow ps, .kd none, .fo [], .ow (b, 0), .ow p]
  clear S
  rintro _ _ S
  refine w_ptr (some a0) (hn0.now S).rd (w_nonnil (ld_int S rfl (w_guard (inK64 (by (first | omega | ((try dsimp only [Sh.T, Sh1.T]); omega))) (by (first | omega | ((try dsimp only [Sh.T, Sh1.T]); omega)))) (w_nonnil (st_store S (lt_ble rfl) fun _ S => ?_)))))
  have S := (S.at (.ow a0)).re a0 (mapC ls iso ctr (some (b0, 0)) (z.all (r := 0) (xs.take i ++ xs.drop (i + j))).length dg (2 * dg + 1) false false) 0 rfl (by rw [hal, hal, hlen']; simp [mapC, Cell.val]; omega) rfl
  have S := S.ats [.ck (K (z.all (r := 0) (xs.take i ++ xs.drop (i + j)))), .ow a0, .ow (nv, 0), .ck (HtC (some nh)), .ow ps, .kd none, .fo [], .ow (b, 0), .ow p]
  rw [← hlen'] at S
  cases fl with
  | true =>
    refine w_true rfl (hrt _ _ _ _ _ _ S fun h' v post hR S => hret h' _ v post lu' (hfl rfl) (by omega) (by rw [hfl rfl]; exact hR) S)
  | false =>
    exact w_false rfl (hnx _ _ ⟨lu', by omega, by rw [htk, hdk]; exact hfn, gr⟩ (by omega) (hsub j (by omega)) S)
end
end Go.Proofs.Ytegnpimlfphncaa.TG
set_option linter.unusedVariables false
set_option linter.unusedSimpArgs false
set_option linter.unusedSectionVars false
set_option maxRecDepth 100000
namespace Go.Proofs.Ytegnpimlfphncaa.TG
open Go Go.Proofs.Ytegnpimlfphncaa
section
variable {h h0 : H} {G0 : PA → Prop} {Q : Ex → List AV → H → Prop} {ls : Value} {oc : Ck} {o : List Int} {K : List KV → Ck} {Rf : List KV → AV → List Ck → Prop} {st : KV → Bool} {f : Value} {FL l : List KV} {Cp : List KV → Prop} {b0 dg rnd n n0 n2 n3 nv : Nat} {iso : Int} {ctr : Option PA} {a0 nh ps la : PA} {pv mk : KV} {cs : Nat} {ext : Bool}
theorem fold_mq {m r b : Nat} {z : Zp n r} {u : BT KV r} {l : List Ck} {Pt : (n : Nat) → BT KV n → Prop} (hl : Lim b0 dg rnd) (lu : Lu o b0 dg rnd z b u) (hm : m = (flatB r u).length) (hP : Pt n (z.put u)) (S : St h0 G0 (TrC L iso r b u :: ZsC iso z m :: ZrC iso z b :: Ow a0 (mapC ls iso ctr (some (b0, 0)) (z.all u).length dg (2 * dg + 1) false false) 0 :: l) h) : St h0 G0 (MqC ls o iso dg a0 (z.all u) Pt :: l) h :=
  shut_mq (zp_all lu.ok hm S).pull1 rfl (Zp.flat lu.ok u) lu.srt (Zp.val lu.ok lu.val lu.mn) (Zp.its lu.ok lu.one) ⟨rfl, hl.one, hl.big⟩ hP
theorem mq_mono {r : List Ck} {l : List KV} {Pt Pt' : (n : Nat) → BT KV n → Prop} (hm : ∀ n (t : BT KV n), flatB n t = l → Val dg (2 * dg + 1) n t → Pt n t → Pt' n t) (s : St h0 G0 (MqC ls o iso dg a0 l Pt :: r) h) : St h0 G0 (MqC ls o iso dg a0 l Pt' :: r) h := by
  rcases open_mq s with ⟨ctr, mn, mx, rfl, hg, s⟩ | ⟨ctr, n, b, t, rfl, hs, hv, hi, hg, hP, s⟩
  · exact shut_mq0 s hg
  · exact shut_mq s rfl rfl hs hv hi hg (hm n t rfl hv hP)
abbrev Rs (h0 : H) (G0 : PA → Prop) (Q : Ex → List AV → H → Prop) (ls : Value) (o : List Int) (K : List KV → Ck) (st : KV → Bool) (f : Value) (FL l : List KV) (Cp : List KV → Prop) (dg rnd nv : Nat) (iso : Int) (a0 nh la : PA) (ext : Bool) : Prop :=
  ∀ h' (cs : Nat) (ps : PA) (cur : List KV) (x : KV), FL = cur.filter (kp o st x) → cur.length < rnd → (∀ a ∈ cur, a ∈ l) →
    St h0 G0 [K cur, MqC ls o iso dg a0 cur (fun n t => Gd Cp (fun a => ltO o a x = false) n t), Ow (nv, 0) (L.cells x) 0, HtC (some nh), SlC (some ps, 0, cs) LFr.sz []] h' →
    wp Try.prog (.done (.exit 1000) [.c (.sl (some ps) 0 cs), .c (.addr (nv, 0)), .c (.addr nh), .c (.raw f), .c (.ptr (some la)), .c (.bool ext)]) Q h'
theorem w_delrs {r : Nat} {z : Zp n r} {b : Nat} {u : BT KV r} {A B : List KV} (hls : Lss ls oc o) (hoc : Bes oc h0 G0) (hC : Icl Cp) (hl : Lim b0 dg rnd) (lu : Lu o b0 dg rnd z b u) (hall : z.all u = A ++ pv :: B) (hfn : FL = A ++ (pv :: B).filter st) (hx : st pv = false) (gd : Gd Cp (fun a => ltO o a pv = false) n (z.put u)) (hsb : ∀ a ∈ A ++ B, a ∈ l) (hcs : (z.stk b).length ≤ cs)
    (S : St h0 G0 [K (A ++ B), Ow a0 (mapC ls iso ctr (some (b0, 0)) (z.all u).length dg (2 * dg + 1) false false) 0, Ow (nv, 0) (L.cells pv) 0, HtC (some nh), Ow ps (LFr.flat (z.stk b)) ((cs - (z.stk b).length) * LFr.sz), ZsC iso z (flatB r u).length, ZrC iso z b, TrC L iso r b u] h) (hrs : Rs h0 G0 Q ls o K st f FL l Cp dg rnd nv iso a0 nh la ext) :
    wp Try.prog (.call fn_tg_deleteHint [.c (.ptr (some a0)), .agg [.int .i64 pv.1, .int .i64 pv.2], .c (.addr nh)] true [.agg [.int .i64, .int .i64], .c (.bool)] fun r353 =>
      .guard (((0 : Int) ≤ 0) ∧ ((0 : Int) ≤ (cs : Int))) <|
      .done (.exit 1000) [.c (.sl (slBase (some ps) cs 0 2) (0) (cs - 0)), .c (.addr (nv, 0)), .c (.addr nh), .c (.raw f), .c (.ptr (some la)), .c (.bool ext)]) Q h := by
  have hsr := lu.srt
  have htop := lu.top
  have hrl := hl.rnd
  have S := fold_mq (Pt := fun n t => Gd Cp (fun a => ltO o a pv = false) n t) hl lu rfl gd (S.ats [.tr b, .kd none, .fo [], .ow a0])
  rw [hall] at S hsr htop
  refine st_callF S [.mp a0, .ck (HtC (some nh))] (fun G' hG' hsub => HT.re (args' := [.c (.addr a0), .agg [.int .i64 pv.1, .int .i64 pv.2], .c (.ptr (some nh))]) rfl <| c_deleteHintG (k := pv) hC (.inr (hs_ok nh)) hls (by omega) (hoc.step S hsub) hG') ?_
  rintro _ _ _ ⟨rfl, rfl⟩ S
  dsimp only [List.cons_append, List.nil_append] at S
  refine w_guard ⟨by omega, by omega⟩ ?_
  obtain ⟨hd, _⟩ := del_at2 hsr
  rw [hd] at S
  rw [slBase_zero]
  have S := ((S.at (.ow ps)).close_sl (n := (z.stk b).length) (c := cs) (sz := LFr.sz) hcs (by rw [LFr.flat_length]))
  have S := sl_none S
  obtain ⟨g1, g2, g3⟩ := srt_append.1 hsr
  have g4 := (List.pairwise_cons.1 g2).1
  have S := mq_mono (Pt' := fun n t => Gd Cp (fun a => ltO o a pv = false) n t) (fun n t hf hv hg => gd_mono hv (fun a ha hq => by
    rw [hf] at ha
    rcases List.mem_append.1 ha with ha | ha
    · have := g3 a ha pv (by simp)
      rw [this] at hq; cases hq
    · exact g4 a ha) hg) (S.at (.mp a0))
  refine hrs _ _ _ _ pv ?_ (by simp at htop ⊢; omega) hsb (S.ats [.ck (K (A ++ B)), .mp a0, .ow (nv, 0), .ck (HtC (some nh))])
  rw [hfn, List.filter_cons_of_neg (by simp [hx]), kp_split (fun a ha => g3 a ha pv (by simp)) (fun a ha => (ordO o).asym (g4 a ha))]
set_option maxHeartbeats 4000000 in
theorem w_singler {z : Zp n 0} {b i c : Nat} {p : PA} {xs : List KV} (hn0 : Bes (RdC (n0, 0) (.pointer (some a0.val))) h0 G0) (hls : Lss ls oc o) (hoc : Bes oc h0 G0) (hst : Stp h0 G0 f st a0 ls) (hap : Apn oc K iso dg l la ext) (hrt : Rtn K Rf la n3) (hsm : Stm o st mk) (hC : Icl Cp) (hl : Lim b0 dg rnd) (hsb : ∀ a ∈ z.all (r := 0) xs, a ∈ l) (lv : Lw o st FL Cp b0 dg rnd z b xs i) (hc : xs.length ≤ c) (hcs : (z.stk b).length ≤ cs) (hn : n ≤ 4294967294)
    (S : St h0 G0 [K (z.all (r := 0) xs), Ow a0 (mapC ls iso ctr (some (b0, 0)) (z.all (r := 0) xs).length dg (2 * dg + 1) false false) 0, Ow (nv, 0) (L.cells pv) 0, HtC (some nh), Ow ps (LFr.flat (z.stk b)) ((cs - (z.stk b).length) * LFr.sz), ZsC iso z xs.length, ZrC iso z b, Ow (b, 0) (nodeC iso xs.length (some p, xs.length, c) none) 0, Ow p (L.flat xs) ((c - xs.length) * L.sz)] h)
    (hret : ∀ h' (xs : List KV) (v : AV) (post : List Ck), Lu o b0 dg rnd z b (xs : BT KV 0) → FL = z.all (r := 0) xs → xs.length ≤ c → Rf FL v post → St h0 G0 [StC post, Ow a0 (mapC ls iso ctr (some (b0, 0)) (z.all (r := 0) xs).length dg (2 * dg + 1) false false) 0, Ow (nv, 0) (L.cells pv) 0, HtC (some nh), Ow ps (LFr.flat (z.stk b)) ((cs - (z.stk b).length) * LFr.sz), ZsC iso z xs.length, ZrC iso z b, Ow (b, 0) (nodeC iso xs.length (some p, xs.length, c) none) 0, Ow p (L.flat xs) ((c - xs.length) * L.sz)] h' → wp Try.prog (.done .ret [v]) Q h')
    (hrs : Rs h0 G0 Q ls o K st f FL l Cp dg rnd nv iso a0 nh la ext)
    (hnx : ∀ h' (xs : List KV), Lw o st FL Cp b0 dg rnd z b xs xs.length → xs.length ≤ c → (∀ a ∈ z.all (r := 0) xs, a ∈ l) → St h0 G0 [K (z.all (r := 0) xs), Ow a0 (mapC ls iso ctr (some (b0, 0)) (z.all (r := 0) xs).length dg (2 * dg + 1) false false) 0, Ow (nv, 0) (L.cells pv) 0, HtC (some nh), Ow ps (LFr.flat (z.stk b)) ((cs - (z.stk b).length) * LFr.sz), ZsC iso z xs.length, ZrC iso z b, Ow (b, 0) (nodeC iso xs.length (some p, xs.length, c) none) 0, Ow p (L.flat xs) ((c - xs.length) * L.sz)] h' → wp Try.prog (.done (.exit 10) [.c (.sl (some ps) (z.stk b).length cs)]) Q h') :
    wp Try.prog (.loop [.c (.sl), .c (.int .i64)] [.c (.sl ((some ps)) ((z.stk b).length) (cs)), .c (.int .i64 ((i : Int)))] fun y275 => .nonnil (some (b, 0)) fun p276 => .load (p276.fst, p276.snd + 2) (.sl) fun s277 => .ite (decide (y275.snd.fst < (↑s277.snd.fst : Int))) (.nonnil (some (b, 0)) fun p278 => .load (p278.fst, p278.snd + 2) (.sl) fun s279 => .nonnil (s279.fst) fun p280 => .guard (((0 : Int) ≤ y275.snd.fst) ∧ ((y275.snd.fst : Int) < (↑s279.snd.fst : Int))) <| .load (p280.fst, p280.snd + mulN (Int.toNat y275.snd.fst) 2) (.int .i64) fun i281 => .load (p280.fst, p280.snd + mulN (Int.toNat y275.snd.fst) 2 + 1) (.int .i64) fun i282 => .callv (f) [.agg [.int .i64 (i281), .int .i64 (i282)]] false [.c (.bool)] fun r283 => .ite (r283.fst) (.nonnil ((some la)) fun p284 => .load p284 (.raw) fun v285 => .load (p284.fst, p284.snd + 1) (.int .i64) fun i286 => .load (p284.fst, p284.snd + 2) (.int .i64) fun i287 => .load (p284.fst, p284.snd + 3) (.sl) fun s288 => .store (n3, 0) (.raw (v285)) <| .store (n3, 1) (.int .i64 (i286)) <| .store (n3, 2) (.int .i64 (i287)) <| .store (n3, 3) (.sl (s288.fst) (s288.snd.fst) (s288.snd.snd)) <| .load (n3, 0) (.raw) fun v289 => .load (n3, 1) (.int .i64) fun i290 => .load (n3, 2) (.int .i64) fun i291 => .load (n3, 3) (.sl) fun s292 => .done .ret [.agg [.raw (v289), .int .i64 (i290), .int .i64 (i291), .sl (s292.fst) (s292.snd.fst) (s292.snd.snd)]]) (.nonnil (some (b, 0)) fun p293 => .load (p293.fst, p293.snd + 2) (.sl) fun s294 => .load (n0, 0) (.ptr) fun q295 => .nonnil (q295) fun p296 => .load (p296.fst, p296.snd + 10) (.int .i64) fun i297 => .ite (decide ((↑s294.snd.fst : Int) > i297)) (.bind none (.ite (ext) (.nonnil (some (b, 0)) fun p298 => .load (p298.fst, p298.snd + 2) (.sl) fun s299 => .nonnil (s299.fst) fun p300 => .guard (((0 : Int) ≤ y275.snd.fst) ∧ ((y275.snd.fst : Int) < (↑s299.snd.fst : Int))) <| .load (p300.fst, p300.snd + mulN (Int.toNat y275.snd.fst) 2) (.int .i64) fun i301 => .load (p300.fst, p300.snd + mulN (Int.toNat y275.snd.fst) 2 + 1) (.int .i64) fun i302 => .call fn_lg_append [.c (.ptr ((some la))), .agg [.int .i64 (i301), .int .i64 (i302)], .c (.ptr none)] true [] fun r303 => .done .normal []) (.done .normal [])) [] fun x304 => .nonnil (some (b, 0)) fun p305 => .load (p305.fst, p305.snd + 2) (.sl) fun s306 => .guard (((0 : Int) ≤ y275.snd.fst) ∧ ((y275.snd.fst : Int) ≤ (↑s306.snd.fst : Int))) <| .nonnil (some (b, 0)) fun p307 => .load (p307.fst, p307.snd + 2) (.sl) fun s308 => .guard (InK IntKind.i64 (y275.snd.fst + 1)) <| .guard (((0 : Int) ≤ y275.snd.fst + 1) ∧ ((y275.snd.fst + 1 : Int) ≤ (↑s308.snd.fst : Int))) <| .copy 2 ((slBase s306.fst s306.snd.snd (Int.toNat y275.snd.fst) 2), s306.snd.fst - Int.toNat y275.snd.fst, s306.snd.snd - Int.toNat y275.snd.fst) ((slBase s308.fst s308.snd.snd (y275.snd.fst + 1).toNat 2), s308.snd.fst - (y275.snd.fst + 1).toNat, s308.snd.snd - (y275.snd.fst + 1).toNat) fun m309 => .nonnil (some (b, 0)) fun p310 => .load (p310.fst, p310.snd + 2) (.sl) fun s311 => .nonnil (some (b, 0)) fun p312 => .load (p312.fst, p312.snd + 2) (.sl) fun s313 => .guard (InK IntKind.i64 ((↑s313.snd.fst : Int) - 1)) <| .load (n0, 0) (.ptr) fun q314 => .nonnil (q314) fun p315 => .load (p315.fst, p315.snd + 7) (.int .i64) fun i316 => .load (p315.fst, p315.snd + 8) (.int .i64) fun i317 => .nonnil (s311.fst) fun p318 => .guard (((0 : Int) ≤ (↑s313.snd.fst : Int) - 1) ∧ (((↑s313.snd.fst : Int) - 1 : Int) < (↑s311.snd.fst : Int))) <| .store (p318.fst, p318.snd + mulN ((↑s313.snd.fst : Int) - 1).toNat 2) (.int .i64 (i316)) <| .store (p318.fst, p318.snd + mulN ((↑s313.snd.fst : Int) - 1).toNat 2 + 1) (.int .i64 (i317)) <| .nonnil (some (b, 0)) fun p319 => .load (p319.fst, p319.snd + 2) (.sl) fun s320 => .nonnil (some (b, 0)) fun p321 => .load (p321.fst, p321.snd + 2) (.sl) fun s322 => .guard (InK IntKind.i64 ((↑s322.snd.fst : Int) - 1)) <| .guard (((0 : Int) ≤ (↑s322.snd.fst : Int) - 1) ∧ (((↑s322.snd.fst : Int) - 1 : Int) ≤ (↑s320.snd.snd : Int))) <| .nonnil (some (b, 0)) fun p323 => .store (p323.fst, p323.snd + 2) (.sl (slBase s320.fst s320.snd.snd 0 2) (((↑s322.snd.fst : Int) - 1).toNat - 0) (s320.snd.snd - 0)) <| .bind (some 12) (.loop [.c (.int .i64)] [.c (.int .i64 (0))] fun y324 => .ite (decide (y324.fst < (↑y275.fst.snd.fst : Int))) (.nonnil (y275.fst.fst) fun p325 => .guard (((0 : Int) ≤ y324.fst) ∧ ((y324.fst : Int) < (↑y275.fst.snd.fst : Int))) <| .load (p325.fst, p325.snd + mulN (Int.toNat y324.fst) 2) (.ptr) fun q326 => .nonnil (q326) fun p327 => .load (p327.fst, p327.snd + 1) (.int .i64) fun i328 => .guard (InK IntKind.i64 (i328 - 1)) <| .nonnil (q326) fun p329 => .store (p329.fst, p329.snd + 1) (.int .i64 (i328 - 1)) <| .guard (InK IntKind.i64 (y324.fst + 1)) <| .done .normal [.c (.int .i64 (y324.fst + 1))]) (.done (.exit 12) [])) [] fun x330 => .load (n0, 0) (.ptr) fun q331 => .nonnil (q331) fun p332 => .load (p332.fst, p332.snd + 3) (.int .i64) fun i333 => .guard (InK IntKind.i64 (i333 - 1)) <| .nonnil (q331) fun p334 => .store (p334.fst, p334.snd + 3) (.int .i64 (i333 - 1)) <| .guard (InK IntKind.i64 (y275.snd.fst - 1)) <| .guard (InK IntKind.i64 (y275.snd.fst - 1 + 1)) <| .done .normal [.c (.sl (y275.fst.fst) (y275.fst.snd.fst) (y275.fst.snd.snd)), .c (.int .i64 (y275.snd.fst - 1 + 1))]) (.nonnil (some (b, 0)) fun p335 => .load (p335.fst, p335.snd + 2) (.sl) fun s336 => .nonnil (s336.fst) fun p337 => .guard (((0 : Int) ≤ y275.snd.fst) ∧ ((y275.snd.fst : Int) < (↑s336.snd.fst : Int))) <| .load (p337.fst, p337.snd + mulN (Int.toNat y275.snd.fst) 2) (.int .i64) fun i338 => .load (p337.fst, p337.snd + mulN (Int.toNat y275.snd.fst) 2 + 1) (.int .i64) fun i339 => .store ((nv, 0) : PA) (.int .i64 (i338)) <| .store (((nv, 0) : PA).fst, ((nv, 0) : PA).snd + 1) (.int .i64 (i339)) <| .bind none (.ite (ext) (.nonnil (some (b, 0)) fun p340 => .load (p340.fst, p340.snd + 2) (.sl) fun s341 => .nonnil (s341.fst) fun p342 => .guard (((0 : Int) ≤ y275.snd.fst) ∧ ((y275.snd.fst : Int) < (↑s341.snd.fst : Int))) <| .load (p342.fst, p342.snd + mulN (Int.toNat y275.snd.fst) 2) (.int .i64) fun i343 => .load (p342.fst, p342.snd + mulN (Int.toNat y275.snd.fst) 2 + 1) (.int .i64) fun i344 => .call fn_lg_append [.c (.ptr ((some la))), .agg [.int .i64 (i343), .int .i64 (i344)], .c (.ptr none)] true [] fun r345 => .done .normal []) (.done .normal [])) [] fun x346 => .load (n0, 0) (.ptr) fun q347 => .nonnil (some (b, 0)) fun p348 => .load (p348.fst, p348.snd + 2) (.sl) fun s349 => .nonnil (s349.fst) fun p350 => .guard (((0 : Int) ≤ y275.snd.fst) ∧ ((y275.snd.fst : Int) < (↑s349.snd.fst : Int))) <| .load (p350.fst, p350.snd + mulN (Int.toNat y275.snd.fst) 2) (.int .i64) fun i351 => .load (p350.fst, p350.snd + mulN (Int.toNat y275.snd.fst) 2 + 1) (.int .i64) fun i352 => .call fn_tg_deleteHint [.c (.ptr (q347)), .agg [.int .i64 (i351), .int .i64 (i352)], .c (.addr nh)] true [.agg [.int .i64, .int .i64], .c (.bool)] fun r353 => .guard (((0 : Int) ≤ 0) ∧ ((0 : Int) ≤ (↑y275.fst.snd.snd : Int))) <| .done (.exit 1000) [.c (.sl (slBase y275.fst.fst y275.fst.snd.snd 0 2) (0) (y275.fst.snd.snd - 0)), .c (.addr ((nv, 0) : PA)), .c (.addr nh), .c (.raw (f)), .c (.ptr ((some la))), .c (.bool (ext))]))) (.done (.exit 10) [.c (.sl (y275.fst.fst) (y275.fst.snd.fst) (y275.fst.snd.snd))])) Q h := by
  have h1 := hl.one
  have hbig := hl.big
  have hrl := hl.rnd
  have hal : ∀ ys : List KV, (z.all (r := 0) ys).length = z.lf.length + (ys.length + z.rg.length) := fun ys => z.all_len (r := 0) ys
  have hsl := z.len b
  refine w_lp (fun r y h' => ∃ (xs : List KV), y = ((some ps, (z.stk b).length, cs), (i : Int), ()) ∧ Lw o st FL Cp b0 dg rnd z b xs i ∧ (∀ a ∈ z.all (r := 0) xs, a ∈ l) ∧ xs.length - i = r ∧ xs.length ≤ c ∧
      St h0 G0 [K (z.all (r := 0) xs), Ow a0 (mapC ls iso ctr (some (b0, 0)) (z.all (r := 0) xs).length dg (2 * dg + 1) false false) 0, Ow (nv, 0) (L.cells pv) 0, HtC (some nh), Ow ps (LFr.flat (z.stk b)) ((cs - (z.stk b).length) * LFr.sz), ZsC iso z xs.length, ZrC iso z b, Ow (b, 0) (nodeC iso xs.length (some p, xs.length, c) none) 0, Ow p (L.flat xs) ((c - xs.length) * L.sz)] h') (xs.length - i) rfl ⟨xs, rfl, lv, hsb, rfl, hc, S⟩ ?_
  clear S lv hc hsb
  rintro r _ _ ⟨xs, rfl, lv, hsb, hr, hc, S⟩
  obtain ⟨lu, le, fn, gr⟩ := lv
  have hxl : xs.length ≤ 2 * dg + 1 := lu.val
  have htop := lu.top
  have hall := hal xs
  rw [hal] at htop
  refine w_nonnil (ld_sls S rfl ?_)
  by_cases hlt : i < xs.length
  case neg =>
    obtain rfl : i = xs.length := by omega
    exact w_false (lt_f (by (first | omega | ((try dsimp only [Sh.T, Sh1.T]); omega)))) (ln_e (hnx _ xs ⟨lu, le, fn, gr⟩ hc hsb S))
  have hx := List.getElem?_eq_getElem hlt
  have hdr : xs.drop i = xs[i] :: xs.drop (i + 1) := List.drop_eq_getElem_cons hlt
  have hall2 : z.all (r := 0) xs = (z.lf ++ xs.take i) ++ xs[i] :: (xs.drop (i + 1) ++ z.rg) := by
    show z.lf ++ (xs ++ z.rg) = _
    conv => lhs; rw [← List.take_append_drop i xs, hdr]
    simp only [List.append_assoc, List.cons_append]
  refine w_true (lt_t (by (first | omega | ((try dsimp only [Sh.T, Sh1.T]); omega)))) (w_nonnil (ld_sls S rfl (w_nonnil (w_guard ⟨by (first | omega | ((try dsimp only [Sh.T, Sh1.T]); omega)), by (first | omega | ((try dsimp only [Sh.T, Sh1.T]); omega))⟩ ?_))))
  dsimp only
  rw [Int.toNat_natCast]
  refine ld_it S hx ?_
  refine hst _ _ _ xs[i] _ S (S.rd rfl) fun _ S => ?_
  rw [hdr, List.cons_append] at fn
  cases hs : st xs[i] with
  | true =>
    have hsr := lu.srt
    rw [hall2] at hsr
    rw [all_stop hsm (srt_append.1 hsr).2.1 hs, ← hall2] at fn
    exact w_true rfl (hrt _ _ _ _ _ _ S fun h' v post hR S => ln_r (hret h' _ v post lu fn hc (by rw [fn]; exact hR) S))
  | false =>
  have hxl2 : xs[i] ∈ l := hsb _ (by rw [hall2]; simp)
  refine w_false rfl (w_nonnil (ld_sls S rfl (w_ptr (some a0) (hn0.now S).rd (w_nonnil (ld_int S rfl ?_)))))
  by_cases hgt : dg < xs.length
  · obtain ⟨hlen', lu'⟩ := lu.cut (i := i) (j := 1) hl (by omega) (by omega)
    have hsb' : ∀ a ∈ z.all (r := 0) (xs.take i ++ xs.drop (i + 1)), a ∈ l := fun a ha => hsb a (by
      rw [hall2]
      have ha : a ∈ z.lf ++ ((xs.take i ++ xs.drop (i + 1)) ++ z.rg) := ha
      simp only [List.mem_append, List.mem_cons] at ha ⊢
      rcases ha with h | (h | h) | h
      · exact .inl (.inl h)
      · exact .inl (.inr h)
      · exact .inr (.inr (.inl h))
      · exact .inr (.inr (.inr h)))
    refine w_true (decide_eq_true (by (first | omega | ((try dsimp only [Sh.T, Sh1.T]); omega)))) ?_
    refine w_mid' none (fun _ h' => St h0 G0 [K (z.all (r := 0) (xs.take i ++ xs.drop (i + 1))), Ow a0 (mapC ls iso ctr (some (b0, 0)) (z.all (r := 0) xs).length dg (2 * dg + 1) false false) 0, Ow (nv, 0) (L.cells pv) 0, HtC (some nh), Ow ps (LFr.flat (z.stk b)) ((cs - (z.stk b).length) * LFr.sz), ZsC iso z xs.length, ZrC iso z b, Ow (b, 0) (nodeC iso xs.length (some p, xs.length, c) none) 0, Ow p (L.flat xs) ((c - xs.length) * L.sz)] h') ?_ ?_
    · cases he : ext with
      | false => exact w_false rfl (md_n rfl (hap.2 he _ _ _ _ _ _ S))
      | true =>
        refine w_true rfl (w_nonnil (ld_sls S rfl (w_nonnil (w_guard ⟨by (first | omega | ((try dsimp only [Sh.T, Sh1.T]); omega)), by (first | omega | ((try dsimp only [Sh.T, Sh1.T]); omega))⟩ ?_))))
        try dsimp only
        try rw [Int.toNat_natCast]
        refine ld_it S hx ?_
        refine w_apx (cur' := z.all (r := 0) (xs.take i ++ xs.drop (i + 1))) hap he hoc ?_ hxl2 S fun _ S => md_n rfl S
        exact z.sub_all (r := 0) (mid := [xs[i]]) (P := xs.take i) (T := xs.drop (i + 1)) (by show xs = _; rw [List.singleton_append, ← hdr, List.take_append_drop]) rfl
    clear S
    rintro _ _ S
    refine w_nonnil (ld_sls S rfl (w_guard ⟨by (first | omega | ((try dsimp only [Sh.T, Sh1.T]); omega)), by (first | omega | ((try dsimp only [Sh.T, Sh1.T]); omega))⟩ (w_nonnil (ld_sls S rfl (w_guard (inK64 (by (first | omega | ((try dsimp only [Sh.T, Sh1.T]); omega))) (by (first | omega | ((try dsimp only [Sh.T, Sh1.T]); omega)))) (w_guard ⟨by (first | omega | ((try dsimp only [Sh.T, Sh1.T]); omega)), by (first | omega | ((try dsimp only [Sh.T, Sh1.T]); omega))⟩ ?_))))))
    dsimp only
    rw [toNat_succ]
    try simp only [Int.toNat_natCast]
    refine st_cpdel (L := L) (ys := xs) (n := xs.length) (i := i) S rfl rfl hlt hc fun _ zs hzl hzd S => ?_
    have hzd := hzd (0, 0)
    refine w_nonnil (ld_sls S rfl (w_nonnil (ld_sls S rfl (w_guard (inK64 (by (first | omega | ((try dsimp only [Sh.T, Sh1.T]); omega))) (by (first | omega | ((try dsimp only [Sh.T, Sh1.T]); omega)))) (w_ptr (some a0) (hn0.now S).rd (w_nonnil (ld_int S rfl (ld_int S rfl (w_nonnil (w_guard ⟨by (first | omega | ((try dsimp only [Sh.T, Sh1.T]); omega)), by (first | omega | ((try dsimp only [Sh.T, Sh1.T]); omega))⟩ ?_))))))))))
    dsimp only
    rw [toNat_pred]
    refine st_it S (by omega) fun _ S => ?_
    rw [hzd] at S
    refine w_nonnil (ld_sls S rfl (w_nonnil (ld_sls S rfl (w_guard (inK64 (by (first | omega | ((try dsimp only [Sh.T, Sh1.T]); omega))) (by (first | omega | ((try dsimp only [Sh.T, Sh1.T]); omega)))) (w_guard ⟨by (first | omega | ((try dsimp only [Sh.T, Sh1.T]); omega)), by (first | omega | ((try dsimp only [Sh.T, Sh1.T]); omega))⟩ (w_nonnil ?_))))))
    refine st_store S (lt_ble rfl) fun _ S => ?_
    have hee : xs.eraseIdx i = xs.take i ++ xs.drop (i + 1) := List.eraseIdx_eq_take_drop_succ ..
    have S := (S.at (.ow (b, 0))).re (b, 0) (nodeC iso xs.length (some p, xs.length - 1, c) none) 0 rfl (by simp [nodeC, Cell.val, slBase_zero]) rfl
    have S := (S.at (.ow p)).re p (L.flat (xs.take i ++ xs.drop (i + 1)) ++ L.flat [(0, 0)]) _ rfl (by rw [hee, L.flat_append]) rfl
    have S := S.shrink
    have S := S.re p (L.flat (xs.take i ++ xs.drop (i + 1))) ((c - (xs.length - 1)) * L.sz) rfl rfl (by rw [L.flat_length, ← Nat.add_mul]; congr 1; show 1 + _ = _; omega)
    have S := zp_in (S.ats [.ow (b, 0), .kd none])
    have S := (S.at (.ow ps)).pull1
    refine w_mid' (some 12) (fun (_ : SV []) h' => St h0 G0 [K (z.all (r := 0) (xs.take i ++ xs.drop (i + 1))), Ow a0 (mapC ls iso ctr (some (b0, 0)) (z.all (r := 0) xs).length dg (2 * dg + 1) false false) 0, Ow (nv, 0) (L.cells pv) 0, HtC (some nh), Ow ps (LFr.flat (z.stk b)) ((cs - (z.stk b).length) * LFr.sz), ZsC iso z (xs.length - 1), ZrC iso z b, Ow (b, 0) (nodeC iso (xs.length - 1) (some p, xs.length - 1, c) none) 0, Ow p (L.flat (xs.take i ++ xs.drop (i + 1))) ((c - (xs.length - 1)) * L.sz)] h') ?_ ?_
    · refine w_dec (k := 1) (gs := z.stk b) (fs := z.sp xs.length ++ [(b, xs.length, (some p, xs.length - 1, c), none)]) rfl rfl (by rw [List.map_append]; exact z.ids b xs.length) (fun e he => ?_) (by omega) S fun _ S => md_e rfl ?_
      · rcases List.mem_append.1 he with he | he
        · have := z.cnts _ e he
          omega
        · simp only [List.mem_cons, List.not_mem_nil, or_false] at he
          subst he
          dsimp only
          omega
      · rw [List.map_append, z.spd 1 xs.length (by omega)] at S
        have S := zp_ou (m := xs.length - 1) (b := b) (cnt := xs.length - 1) (s := (some p, xs.length - 1, c)) (kp := none) S
        exact S.ats [.ck (K (z.all (r := 0) (xs.take i ++ xs.drop (i + 1)))), .ow a0, .ow (nv, 0), .ck (HtC (some nh)), .ow ps, .kd none, .fo [], .ow (b, 0), .ow p]
    clear S
    rintro _ _ S
    refine w_ptr (some a0) (hn0.now S).rd (w_nonnil (ld_int S rfl (w_guard (inK64 (by (first | omega | ((try dsimp only [Sh.T, Sh1.T]); omega))) (by (first | omega | ((try dsimp only [Sh.T, Sh1.T]); omega)))) (w_nonnil (st_store S (lt_ble rfl) fun _ S => ?_)))))
    have S := (S.at (.ow a0)).re a0 (mapC ls iso ctr (some (b0, 0)) (z.all (r := 0) (xs.take i ++ xs.drop (i + 1))).length dg (2 * dg + 1) false false) 0 rfl (by rw [hal, hal, hlen']; simp [mapC, Cell.val]; omega) rfl
    have S := S.ats [.ck (K (z.all (r := 0) (xs.take i ++ xs.drop (i + 1)))), .ow a0, .ow (nv, 0), .ck (HtC (some nh)), .ow ps, .kd none, .fo [], .ow (b, 0), .ow p]
    rw [← hlen'] at S
    refine w_guard (inK64 (by (first | omega | ((try dsimp only [Sh.T, Sh1.T]); omega))) (by (first | omega | ((try dsimp only [Sh.T, Sh1.T]); omega)))) (w_guard (inK64 (by (first | omega | ((try dsimp only [Sh.T, Sh1.T]); omega))) (by (first | omega | ((try dsimp only [Sh.T, Sh1.T]); omega)))) ?_)
    rw [List.filter_cons_of_neg (by simp [hs])] at fn
    refine ln_n rfl (r - 1) ⟨xs.take i ++ xs.drop (i + 1), Prod.ext rfl (Prod.ext (by show (i : Int) - 1 + 1 = i; omega) rfl), ⟨lu', by omega, ?_, gr⟩, hsb', by omega, by omega, S⟩ (by omega)
    rw [List.take_left' (by simp; omega), List.drop_left' (by simp; omega)]
    exact fn
  · refine w_false (decide_eq_false (by (first | omega | ((try dsimp only [Sh.T, Sh1.T]); omega)))) (w_nonnil (ld_sls S rfl (w_nonnil (w_guard ⟨by (first | omega | ((try dsimp only [Sh.T, Sh1.T]); omega)), by (first | omega | ((try dsimp only [Sh.T, Sh1.T]); omega))⟩ ?_))))
    try dsimp only
    refine ld_it S hx ?_
    refine st_store S (lt_ble rfl) fun _ S => ?_
    refine st_store S (lt_ble rfl) fun _ S => ?_
    have S := (S.at (.ow (nv, 0))).re (nv, 0) (L.cells xs[i]) 0 rfl rfl rfl
    have S := S.ats [.ck (K (z.all (r := 0) xs)), .ow a0, .ow (nv, 0), .ck (HtC (some nh)), .ow ps, .kd none, .fo [], .ow (b, 0), .ow p]
    refine w_mid' none (fun _ h' => St h0 G0 [K ((z.lf ++ xs.take i) ++ (xs.drop (i + 1) ++ z.rg)), Ow a0 (mapC ls iso ctr (some (b0, 0)) (z.all (r := 0) xs).length dg (2 * dg + 1) false false) 0, Ow (nv, 0) (L.cells xs[i]) 0, HtC (some nh), Ow ps (LFr.flat (z.stk b)) ((cs - (z.stk b).length) * LFr.sz), ZsC iso z xs.length, ZrC iso z b, Ow (b, 0) (nodeC iso xs.length (some p, xs.length, c) none) 0, Ow p (L.flat xs) ((c - xs.length) * L.sz)] h') ?_ ?_
    · cases he : ext with
      | false => exact w_false rfl (md_n rfl (hap.2 he _ _ _ _ _ _ S))
      | true =>
        refine w_true rfl (w_nonnil (ld_sls S rfl (w_nonnil (w_guard ⟨by (first | omega | ((try dsimp only [Sh.T, Sh1.T]); omega)), by (first | omega | ((try dsimp only [Sh.T, Sh1.T]); omega))⟩ ?_))))
        try dsimp only
        try rw [Int.toNat_natCast]
        refine ld_it S hx ?_
        refine w_apx (cur' := (z.lf ++ xs.take i) ++ (xs.drop (i + 1) ++ z.rg)) hap he hoc ?_ hxl2 S fun _ S => md_n rfl S
        rw [hall2]
        exact List.perm_middle.symm
    clear S
    rintro _ _ S
    refine w_ptr (some a0) (hn0.now S).rd (w_nonnil (ld_sls S rfl (w_nonnil (w_guard ⟨by (first | omega | ((try dsimp only [Sh.T, Sh1.T]); omega)), by (first | omega | ((try dsimp only [Sh.T, Sh1.T]); omega))⟩ ?_))))
    try dsimp only
    try rw [Int.toNat_natCast]
    refine ld_it S hx ?_
    have S := shut_leaf L iso (xs := xs) (S.ats [.ow (b, 0), .ow p]) rfl rfl rfl rfl hc rfl
    have S := S.ats [.ck (K ((z.lf ++ xs.take i) ++ (xs.drop (i + 1) ++ z.rg))), .ow a0, .ow (nv, 0), .ck (HtC (some nh)), .ow ps, .kd none, .fo [], .tr b]
    have hsr : Srt (ltO o) (z.lf ++ (xs ++ z.rg)) := lu.srt
    refine w_delrs (u := (xs : BT KV 0)) hls hoc hC hl lu hall2 fn hs (gd_put lu.ok gr (fun a ha hq => ?_) trivial) (fun a ha => hsb a ?_) hcs S (fun h' cs ps cur x e1 e2 e3 S => ln_e (hrs h' cs ps cur x e1 e2 e3 S))
    · have := (srt_append.1 hsr).2.2 a ha xs[i] (List.mem_append.2 (.inl (List.getElem_mem hlt)))
      rw [this] at hq; cases hq
    · rw [hall2]
      rcases List.mem_append.1 ha with ha | ha
      · exact List.mem_append.2 (.inl ha)
      · exact List.mem_append.2 (.inr (List.mem_cons_of_mem _ ha))
end
end Go.Proofs.Ytegnpimlfphncaa.TG
