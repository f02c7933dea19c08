/-
  The reading of a whole function is right. Conditions: none.
-/
import Derived.Test.YtkhpbcckaenmcaaDecF
import Derived.Deep.LoopGhost
namespace Go.Proofs.Ytkhpbcckaenmcaa
open Go

/-- What a function hands back, read from its frame. -/
def resOne (tmps : Array Value) : ResultVar → Sem Value
  | .tmp t => pure (tmps.getD t undef)
  | .cell a t => do loadVar t (← asAddr (tmps.getD a undef))

theorem lay_lay : ∀ (ts : List Nat) (vs : List AV) (r : Regs) (t : Nat) (x : AV), lay r ts vs t = some x → (∃ i : Nat, ts[i]? = some t ∧ vs[i]? = some x) ∨ r t = some x
  | [], _, r, t, x, h => .inr (by simpa [lay] using h)
  | _ :: _, [], r, t, x, h => .inr (by simpa [lay] using h)
  | u :: ts, v :: vs, r, t, x, h => by
    simp only [lay, upd] at h
    split at h
    · rename_i hb
      obtain rfl := Nat.eq_of_beq_eq_true hb
      exact .inl ⟨0, by simp, by simpa using h⟩
    · rcases lay_lay ts vs r t x h with ⟨i, h1, h2⟩ | h1
      · exact .inl ⟨i + 1, by simpa using h1, by simpa using h2⟩
      · exact .inr h1

theorem memN_iff {x : Nat} : ∀ {l : List Nat}, memN x l = true ↔ x ∈ l
  | [] => by simp [memN]
  | y :: l => by
    simp only [memN]
    split
    · rename_i hb
      obtain rfl := Nat.eq_of_beq_eq_true hb
      simp
    · rename_i hb
      have hne : x ≠ y := fun h => by subst h; rw [Nat.beq_refl] at hb; cases hb
      rw [memN_iff]; simp [hne]

section
variable {P : Program} {n : Nat} {r : Regs} {a : Act}

theorem outs_val (hr : Rel n r a) : ∀ {ts : List Nat} {vs : List AV}, outs r ts = some vs → ts.map (fun t => a.tmps.getD t undef) = vs.map AV.val
  | [], vs, h => by simp [outs] at h; subst h; rfl
  | t :: ts, vs, h => by
    simp only [outs] at h
    split at h
    · rename_i v vs' h1 h2
      simp at h; subst h
      simp only [List.map_cons, hr.val t v h1, outs_val hr h2]
    · cases h

/-- Behind a joint: what was handed on lies there; all else is as before, or forgotten. -/
theorem Rel.joint {r0 : Regs} {a0 : Act} (h0 : Rel n r0 a0) (hr : Rel n r a) {ws ts : List Nat} {vs us : List AV} (ho : outs r ts = some vs) (hu : us.map AV.val = vs.map AV.val)
    (hsame : ∀ t, t ∉ ws → a.tmps.getD t undef = a0.tmps.getD t undef) : Rel n (lay (forget r0 ws) ts us) a := by
  refine ⟨fun t x hx => ?_, hr.size, hr.defers⟩
  rcases lay_lay ts us _ t x hx with ⟨i, h1, h2⟩ | h1
  · have hv := outs_val hr ho
    rw [← hu] at hv
    have := congrArg (fun l => l[i]?) hv
    simp only [List.getElem?_map, h1, h2, Option.map_some, Option.some.injEq] at this
    exact this
  · simp only [forget] at h1
    split at h1
    · cases h1
    · rename_i hm
      have hnot : t ∉ ws := fun hh => by rw [memN_iff.2 hh] at hm; cases hm
      rw [hsame t hnot]
      exact h0.val t x h1
end


theorem Rel.of_tmps {n : Nat} {r : Regs} {a : Act} (h : Rel n r a) : a = { tmps := a.tmps, defers := [] } := by
  cases a; simp [← h.defers]

theorem jointOf_drop {id : Nat} : ∀ {J : Joints} {j : Nat} {x : List Nat × List Nat}, jointOf (dropJ id J) j = some x → j ≠ id ∧ jointOf J j = some x
  | [], j, x, h => by simp [dropJ, jointOf] at h
  | (i, y) :: J, j, x, h => by
    simp only [dropJ] at h
    split at h
    · rename_i hb
      obtain rfl := Nat.eq_of_beq_eq_true hb
      obtain ⟨h1, h2⟩ := jointOf_drop h
      refine ⟨h1, ?_⟩
      have hf : Nat.beq i j = false := by
        cases hq : Nat.beq i j with
        | false => rfl
        | true => exact absurd (Nat.eq_of_beq_eq_true hq).symm h1
      simp only [jointOf, hf]
      exact h2
    · rename_i hb
      simp only [jointOf] at h ⊢
      split at h
      · rename_i hq
        obtain rfl := Nat.eq_of_beq_eq_true hq
        refine ⟨fun h' => ?_, by simpa [Nat.beq_refl] using h⟩
        subst h'
        rw [Nat.beq_refl] at hb
        cases hb
      · rename_i hq
        obtain ⟨h1, h2⟩ := jointOf_drop h
        exact ⟨h1, h2⟩

def RetOk (P : Program) (rs : List ResultVar) (a : Act) (w : World) (vs : List AV) : Prop := (rs.mapM (resOne a.tmps)).run P w = .ok (vs.map AV.val) w

theorem ret_sound {P : Program} {n : Nat} {r : Regs} {a : Act} {QM : Ex → List AV → H → Prop} {w : World} (hr : Rel n r a) : ∀ {rs : List ResultVar} {k : List AV → M}, wp P (retLoads P r rs k) QM w.heap →
    ∃ vs, RetOk P rs a w vs ∧ wp P (k vs) QM w.heap
  | [], k, hw => ⟨[], by simp [RetOk], hw⟩
  | .tmp t :: rs, k, hw => by
    simp only [retLoads] at hw
    split at hw
    · rename_i v hv
      obtain ⟨vs, h1, hw⟩ := ret_sound hr hw
      refine ⟨v :: vs, ?_, hw⟩
      have e : (resOne a.tmps (.tmp t)).run P w = .ok v.val w := by
        show Result.ok (a.tmps.getD t undef) w = _
        rw [hr.val t v hv]
      simp only [RetOk, List.mapM_cons, Sem.run_bind, e, Result.andThen_ok] at h1 ⊢
      rw [h1]
      rfl
    · exact hw.elim
  | .cell x t :: rs, k, hw => by
    simp only [retLoads] at hw
    let o : Oper := { dst := none, op := .load t (.tmp x), type := 0, pos := "", after := #[], guard := none }
    obtain ⟨p, v, h1, h2, hw⟩ := load_sound (o := o) rfl hr hw
    obtain ⟨vs, h3, hw⟩ := ret_sound hr hw
    refine ⟨v :: vs, ?_, hw⟩
    have e := h2 w h1
    have e2 : (resOne a.tmps (.cell x t)).run P w = .ok v.val w := by
      have e : ((Instr.loadAt t (a.tmps.getD x undef)) >>= fun v => (pure (Next.value v) : Sem Next)).run P w = .ok (.value v.val) w := e
      simp only [resOne, Instr.loadAt, Sem.run_bind] at e ⊢
      cases hq : a.tmps.getD x undef with
      | pointer ad =>
        rw [hq] at e
        cases ad with
        | none => simp [Instr.sureAddr, stuck] at e
        | some ad =>
          simp only [Instr.sureAddr, asAddr, Sem.run_pure, Result.andThen_ok] at e ⊢
          cases hl : (loadVar t ad).run P w with
          | ok u w' => rw [hl] at e; simp at e; obtain ⟨rfl, rfl⟩ := e; rfl
          | halt u w' => rw [hl] at e; simp at e
      | _ => rw [hq] at e; simp [Instr.sureAddr, stuck] at e
    simp only [RetOk, List.mapM_cons, Sem.run_bind, e2, Result.andThen_ok] at h3 ⊢
    rw [h3]
    rfl

def OnlyNormal (Q : Exit → Act → World → Prop) : Exit → Act → World → Prop
  | .normal, a, w => Q .normal a w
  | _, _, _ => False

theorem region_sound {P : Program} (hm : P.follows .mixedOrders = true) {n id : Nat} {ops : Array Oper} {draw : Bool} {r : Regs} {k : Regs → M} {a : Act} {w w0 : World} {QM : Ex → List AV → H → Prop} {Qc : Exit → Act → World → Prop}
    (hr : Rel n r a) (hx : Ext w0 w) (hw : wp P (runR P n ops draw r k) QM w.heap)
    (hk : ∀ r' a' w', Rel n r' a' → Ext w0 w' → Same (ops.toList.filterMap (·.dst)) a a' → wp P (k r') QM w'.heap → Qc .normal a' w') : (Code.region id ops draw).wp P Qc a w := by
  unfold runR at hw
  split at hw
  · refine wp_region_list (seq_sound (ws := ops.toList.filterMap (·.dst)) (a0 := a) ops.toList (fun o ho d hd => List.mem_filterMap.2 ⟨o, ho, hd⟩) (Same.refl _ _) hr hx hk hw)
  · split at hw
    · rename_i hs
      simp only [Bool.and_eq_true] at hs
      obtain ⟨hs, hap, hins⟩ := hs
      refine Code.wp_mono (Q := OnlyNormal Qc) (fun e a w h => by cases e <;> first | exact h | exact h.elim) ?_
      refine wp_region_any hm (any_of_game _ _ [] _ _ ?_)
      refine draw_sound (Q := OnlyNormal Qc) (n := n) (QM := QM) (w0 := w0) (ws := ops.toList.filterMap (·.dst)) (a0 := a) (k := k) (done := 0) (Region.noSelect_spec hs) hap ?_ (fun _ _ _ h => h)
        (fun j o ho d hd => List.mem_filterMap.2 ⟨o, List.mem_of_getElem? (by simpa using ho), hd⟩) (fun r' a' w' h1 h2 h3 h4 => hk r' a' w' h1 h2 h3 h4) ops.size ?_ (Same.refl _ _) ?_ (by intro x hx; cases hx) hr (w := { w with drawn := w.drawn + 1 }) (hx.trans ⟨rfl, rfl, rfl⟩) hw
      · intro j o ho e he _
        simp only [insideAll, List.all_eq_true] at hins
        have := hins o (List.mem_of_getElem? (by simpa using ho)) e (by simpa using he)
        exact Nat.le_of_ble_eq_true this
      · exact ⟨by simp, fun i hi => by rw [has_zero]; simp [hi]⟩
      · intro j hj
        exfalso
        rcases Nat.lt_or_ge j ops.size with h | h
        · simp [h] at hj
        · simp [h] at hj
    · exact hw.elim

theorem den_sound {P : Program} (hm : P.follows .mixedOrders = true) {fn : Func} {body : Code} : ∀ (c : Code) {r : Regs} {J : Joints} {after : List Nat} {k : Regs → M} {QM : Ex → List AV → H → Prop}
    {Qc : Exit → Act → World → Prop} {a : Act} {w w0 : World}, Rel fn.ntmps r a → Ext w0 w → wp P (den P fn body c r J after k) QM w.heap →
    (∀ r' a' w', Rel fn.ntmps r' a' → Ext w0 w' → Same (writesC c) a a' → wp P (k r') QM w'.heap → Qc .normal a' w') →
    (∀ id x vs r' a' w', jointOf J id = some x → outs r' x.1 = some vs → Rel fn.ntmps r' a' → Ext w0 w' → Same (writesC c) a a' → QM (.exit id) vs w'.heap → Qc (.exit id) a' w') →
    (∀ vs a' w', a'.defers = [] → Ext w0 w' → RetOk P fn.results.toList a' w' vs → QM .ret vs w'.heap → Qc .ret a' w') → c.wp P Qc a w
  | .skip, r, J, after, k, QM, Qc, a, w, w0, hr, hx, hw, hk, _, _ => wp_skip (hk r a w hr hx (Same.refl _ _) hw)
  | .label _, r, J, after, k, QM, Qc, a, w, w0, hr, hx, hw, hk, _, _ => wp_label (hk r a w hr hx (Same.refl _ _) hw)
  | .region id ops draw, r, J, after, k, QM, Qc, a, w, w0, hr, hx, hw, hk, _, _ => by
    simp only [den] at hw
    split at hw
    · exact region_sound hm hr hx hw hk
    · split at hw
      · rename_i ss hss
        simp only [wp] at hw
        refine region_sound hm hr hx hw (fun r' a' w' hr' hx' hs hw' => ?_)
        split at hw'
        · rename_i vs hvs
          obtain ⟨x, hxv, hw'⟩ := hw'
          exact hk _ a' w' (Rel.joint hr hr' hvs hxv hs) hx' hs hw'
        · exact hw'.elim
      · exact hw.elim
  | .seq x y, r, J, after, k, QM, Qc, a, w, w0, hr, hx, hw, hk, he, hret => by
    refine wp_seq (den_sound hm x hr hx hw (fun r' a' w' hr' hx' hs hw' => ?_) (fun id z vs r' a' w' h1 h2 h3 h4 h5 h6 => ?_) (fun vs a' w' h1 h2 h3 h4 => hret vs a' w' h1 h2 h3 h4))
    · exact den_sound hm y hr' hx' hw' (fun r2 a2 w2 g1 g2 g3 g4 => hk r2 a2 w2 g1 g2 (hs.trans g3) g4) (fun id z vs r2 a2 w2 h1 h2 h3 h4 h5 h6 => he id z vs r2 a2 w2 h1 h2 h3 h4 (hs.trans h5) h6) hret
    · exact he id z vs r' a' w' h1 h2 h3 h4 (h5.mono (fun t ht => List.mem_append.2 (.inl ht))) h6
  | .cond c x y, r, J, after, k, QM, Qc, a, w, w0, hr, hx, hw, hk, he, hret => by
    have sx : ∀ {a'}, Same (writesC x) a a' → Same (writesC (.cond c x y)) a a' := fun h => h.mono (fun t ht => List.mem_append.2 (.inl ht))
    have sy : ∀ {a'}, Same (writesC y) a a' → Same (writesC (.cond c x y)) a a' := fun h => h.mono (fun t ht => List.mem_append.2 (.inr ht))
    obtain ⟨v, hv, hw⟩ := ev_wp hw
    have hc := hr.eval hv
    split at hw
    · exact wp_cond_true hc (den_sound hm x hr hx hw (fun r2 a2 w2 g1 g2 g3 g4 => hk r2 a2 w2 g1 g2 (sx g3) g4) (fun id z vs r2 a2 w2 h1 h2 h3 h4 h5 h6 => he id z vs r2 a2 w2 h1 h2 h3 h4 (sx h5) h6) hret)
    · exact wp_cond_false hc (den_sound hm y hr hx hw (fun r2 a2 w2 g1 g2 g3 g4 => hk r2 a2 w2 g1 g2 (sy g3) g4) (fun id z vs r2 a2 w2 h1 h2 h3 h4 h5 h6 => he id z vs r2 a2 w2 h1 h2 h3 h4 (sy h5) h6) hret)
    · rename_i t
      split at hw
      · refine wp_cond_split hc (fun ht => ?_) (fun ht => ?_)
        · exact den_sound hm x hr hx (hw.1 ht) (fun r2 a2 w2 g1 g2 g3 g4 => hk r2 a2 w2 g1 g2 (sx g3) g4) (fun id z vs r2 a2 w2 h1 h2 h3 h4 h5 h6 => he id z vs r2 a2 w2 h1 h2 h3 h4 (sx h5) h6) hret
        · exact den_sound hm y hr hx (hw.2 ht) (fun r2 a2 w2 g1 g2 g3 g4 => hk r2 a2 w2 g1 g2 (sy g3) g4) (fun id z vs r2 a2 w2 h1 h2 h3 h4 h5 h6 => he id z vs r2 a2 w2 h1 h2 h3 h4 (sy h5) h6) hret
      · dsimp only at hw
        split at hw
        · rename_i ss hss
          simp only [wp] at hw
          refine wp_cond_split hc (fun ht => ?_) (fun ht => ?_)
          · refine den_sound hm x hr hx (hw.1 ht) (fun r' a' w' hr' hx' hs hw' => ?_) (fun id z vs r2 a2 w2 h1 h2 h3 h4 h5 h6 => he id z vs r2 a2 w2 h1 h2 h3 h4 (sx h5) h6) hret
            split at hw'
            · rename_i vs hvs
              obtain ⟨u, hu, hw'⟩ := hw'
              exact hk _ a' w' (Rel.joint hr hr' hvs hu (sx hs)) hx' (sx hs) hw'
            · exact hw'.elim
          · refine den_sound hm y hr hx (hw.2 ht) (fun r' a' w' hr' hx' hs hw' => ?_) (fun id z vs r2 a2 w2 h1 h2 h3 h4 h5 h6 => he id z vs r2 a2 w2 h1 h2 h3 h4 (sy h5) h6) hret
            split at hw'
            · rename_i vs hvs
              obtain ⟨u, hu, hw'⟩ := hw'
              exact hk _ a' w' (Rel.joint hr hr' hvs hu (sy hs)) hx' (sy hs) hw'
            · exact hw'.elim
        · exact hw.elim
    · exact hw.elim
  | .block id x, r, J, after, k, QM, Qc, a, w, w0, hr, hx, hw, hk, he, hret => by
    simp only [den] at hw
    split at hw
    · refine wp_block (den_sound hm x hr hx hw hk (fun i z vs r2 a2 w2 h1 h2 h3 h4 h5 h6 => ?_) hret)
      obtain ⟨g1, g2⟩ := jointOf_drop h1
      show (if i = id then Qc .normal a2 w2 else Qc (.exit i) a2 w2)
      rw [if_neg g1]
      exact he i z vs r2 a2 w2 g2 h2 h3 h4 h5 h6
    · split at hw
      · rename_i ss hss
        simp only [wp] at hw
        refine wp_block (den_sound hm x hr hx hw (fun r' a' w' hr' hx' hs hw' => ?_) (fun i z vs r2 a2 w2 h1 h2 h3 h4 h5 h6 => ?_) (fun vs a' w' h1 h2 h3 h4 => hret vs a' w' h1 h2 h3 h4))
        · split at hw'
          · rename_i vs hvs
            obtain ⟨u, hu, hw'⟩ := hw'
            exact hk _ a' w' (Rel.joint hr hr' hvs hu hs) hx' hs hw'
          · exact hw'.elim
        · show (if i = id then Qc .normal a2 w2 else Qc (.exit i) a2 w2)
          by_cases hi : i = id
          · subst hi
            rw [if_pos rfl]
            simp only [jointOf, Nat.beq_refl, Option.some.injEq] at h1
            subst h1
            simp only [if_true] at h6
            obtain ⟨u, hu, h6⟩ := h6
            exact hk _ a2 w2 (Rel.joint hr h3 h2 hu h5) h4 h5 h6
          · rw [if_neg hi]
            simp only [hi, if_false] at h6
            have hf : Nat.beq id i = false := by
              cases hq : Nat.beq id i with
              | false => rfl
              | true => exact absurd (Nat.eq_of_beq_eq_true hq).symm hi
            simp only [jointOf, hf] at h1
            exact he i z vs r2 a2 w2 h1 h2 h3 h4 h5 h6
      · exact hw.elim
  | .loop x, r, J, after, k, QM, Qc, a, w, w0, hr, hx, hw, hk, he, hret => by
    simp only [den] at hw
    split at hw
    · rename_i ss vs hss hvs
      obtain ⟨I, μ, ⟨x0, hx0, hI0⟩, hround⟩ := hw
      refine wp_loop_ghost (fun m a' w' => ∃ u : SV ss, Rel fn.ntmps (lay (forget r (writesC x)) _ (SV.list ss u)) a' ∧ Ext w0 w' ∧ Same (writesC x) a a' ∧ I u w'.heap ∧ μ u w'.heap = m) (μ x0 w.heap)
        ⟨x0, Rel.joint hr hr hvs hx0 (Same.refl _ _), hx, Same.refl _ _, hI0, rfl⟩ ?_
      rintro m a1 w1 ⟨u, hr1, hx1, hs1, hI1, rfl⟩
      have st : ∀ {a'}, Same (writesC x) a1 a' → Same (writesC x) a a' := fun h t ht => by rw [h t ht, hs1 t ht]
      refine den_sound hm x hr1 hx1 (hround u w1.heap hI1) (fun r' a' w' hr' hx' hs hw' => ?_) (fun i z vs r2 a2 w2 h1 h2 h3 h4 h5 h6 => ?_) (fun vs a' w' h1 h2 h3 h4 => hret vs a' w' h1 h2 h3 h4)
      · split at hw'
        · rename_i vs' hvs'
          obtain ⟨y, hy, hI, hlt⟩ := hw'
          exact ⟨μ y w'.heap, hlt, y, Rel.joint hr hr' hvs' hy (st hs), hx', st hs, hI, rfl⟩
        · exact hw'.elim
      · exact he i z vs r2 a2 w2 h1 h2 h3 h4 (st h5) h6
    · exact hw.elim
  | .exit id, r, J, after, k, QM, Qc, a, w, w0, hr, hx, hw, _, he, _ => by
    simp only [den] at hw
    split at hw
    · rename_i vs hvs
      obtain ⟨z, hz, hvs⟩ := Option.bind_eq_some_iff.1 hvs
      exact wp_exit (he id z vs r a w hz hvs hr hx (Same.refl _ _) hw)
    · exact hw.elim
  | .scope x, r, J, after, k, QM, Qc, a, w, w0, hr, hx, hw, hk, he, hret => by
    exact wp_scope_straight (den_sound hm x hr hx hw hk he hret)
  | .ret, r, J, after, k, QM, Qc, a, w, w0, hr, hx, hw, _, _, hret => by
    obtain ⟨vs, h1, hw⟩ := ret_sound hr hw
    exact wp_ret (hret vs a w hr.defers hx h1 hw)
  | .rangeFunc _ _ _ _, _, _, _, _, _, _, _, _, _, _, _, hw, _, _, _ => hw.elim
  | .goto _, _, _, _, _, _, _, _, _, _, _, _, hw, _, _, _ => hw.elim
  | .refuse _, _, _, _, _, _, _, _, _, _, _, _, hw, _, _, _ => hw.elim

/-- What a call hands back. -/
def retV : List AV → Value
  | [v] => v.val
  | vs => .tuple (vs.map AV.val).toArray

theorem results_ret {P : Program} {fn : Func} {a : Act} {w : World} {vs : List AV} (h : RetOk P fn.results.toList a w vs) : (results fn a.tmps).run P w = .ok (retV vs) w := by
  have e : (fn.results.mapM (resOne a.tmps)).run P w = .ok (vs.map AV.val).toArray w := by
    rw [Array.mapM_eq_mapM_toList]
    simp only [Sem.run_map]
    rw [show (fn.results.toList.mapM (resOne a.tmps)).run P w = _ from h]
    rfl
  have e2 : results fn a.tmps = (do let vs ← fn.results.mapM (resOne a.tmps); pure (if h : vs.size = 1 then vs[0] else .tuple vs)) := by
    unfold results
    congr 1
  rw [e2]
  simp only [Sem.run_bind, e, Result.andThen_ok, Sem.run_pure]
  match vs with
  | [] => rfl
  | [v] => rfl
  | _ :: _ :: _ => simp [retV]

/-- The post of a body. -/
def Ret (R : Value → H → Prop) : Ex → List AV → H → Prop
  | .ret, vs, h => R (retV vs) h
  | _, _, _ => False

/-- A function's reading is right. -/
theorem den_calls {P : Program} (hm : P.follows .mixedOrders = true) {f : FuncId} {fn : Func} (hf : P.funcs[f]? = some fn) {args : List AV} (hn : args.length ≤ fn.ntmps) {h : H} {R : Value → H → Prop}
    (hw : wp P (denFn P fn args) (Ret R) h) : HC P f (args.map AV.val).toArray h R := by
  intro w hwh
  subst hwh
  unfold denFn at hw
  split at hw
  · rename_i c hb
    refine calls_of_wp hf hb ?_
    have hr : Rel fn.ntmps (fun t => args[t]?) { tmps := (args.map AV.val).toArray ++ Array.replicate (fn.ntmps - (args.map AV.val).toArray.size) undef, defers := [] } := by
      refine ⟨fun t v hv => ?_, by simp; omega, rfl⟩
      have hlt : t < args.length := (List.getElem?_eq_some_iff.1 hv).1
      simp only [Array.getD_eq_getD_getElem?]
      rw [Array.getElem?_append_left (by simpa using hlt)]
      simp [hv]
    refine den_sound hm c (w0 := w) hr (Ext.refl w) hw (fun r' a' w' hr' hx' _ hw' => ?_) (fun id x vs r' a' w' hj _ _ _ _ _ => by simp [jointOf] at hj) (fun vs a' w' hd hx' ho hq => ?_)
    · obtain ⟨vs, ho, hq⟩ := ret_sound hr' hw'
      exact ⟨hr'.defers, retV vs, results_ret ho, retV vs, rfl, hx', hq⟩
    · exact ⟨hd, retV vs, results_ret ho, retV vs, rfl, hx', hq⟩
  · exact hw.elim

end Go.Proofs.Ytkhpbcckaenmcaa
