/-
  The reading of a region is right, in whatever order its operations come. Conditions: none.
-/
import Derived.Test.YtkhpbcckaenmcaaDecE
namespace Go.Proofs.Ytkhpbcckaenmcaa
open Go

section
variable {P : Program} {n : Nat} {r : Regs} {a : Act} {QM : Ex → List AV → H → Prop} {o : Oper}

theorem Rel.put (hr : Rel n r a) {d : Nat} {v : Option AV} {u : Value} (hd : d + 1 ≤ n) (hv : ∀ x, v = some x → u = x.val) : Rel n (upd r d v) (a.put (some d) u) := by
  refine ⟨fun t x hx => ?_, by simpa [Act.put] using hr.size, hr.defers⟩
  simp only [upd] at hx
  have hs : d < a.tmps.size := by have := hr.size; omega
  split at hx
  · rename_i hb
    obtain rfl := Nat.eq_of_beq_eq_true hb
    simp only [Act.put, Array.getD_eq_getD_getElem?]
    rw [Array.getElem?_setIfInBounds_self_of_lt hs]
    exact hv x hx
  · rename_i hb
    have hne : t ≠ d := fun h => by subst h; rw [Nat.beq_refl] at hb; cases hb
    simp only [Act.put, Array.getD_eq_getD_getElem?]
    rw [Array.getElem?_setIfInBounds_ne (Ne.symm hne), ← Array.getD_eq_getD_getElem?]
    exact hr.val t x hx

theorem putR_wp {dst : Option Tmp} {v : Option AV} {k : Regs → M} {h : H} {u : Value} (hr : Rel n r a) (hv : ∀ x, v = some x → u = x.val) (hw : wp P (putR n r dst v k) QM h) :
    ∃ r', Rel n r' (a.put dst u) ∧ wp P (k r') QM h := by
  unfold putR at hw
  split at hw
  · exact ⟨r, hr, hw⟩
  · rename_i d
    split at hw
    · rename_i hb
      exact ⟨_, hr.put (Nat.le_of_ble_eq_true hb) hv, hw⟩
    · exact hw.elim

theorem Rel.upd_same (hr : Rel n r a) {d : Nat} {x y : AV} (hd : r d = some x) (hv : y.val = x.val) : Rel n (upd r d (some y)) a := by
  refine ⟨fun t z hz => ?_, hr.size, hr.defers⟩
  simp only [upd] at hz
  split at hz
  · rename_i hb
    obtain rfl := Nat.eq_of_beq_eq_true hb
    simp at hz; subst hz
    rw [hv]; exact hr.val _ _ hd
  · exact hr.val t z hz

theorem yielded_of {ops : Array Oper} (hr : Rel n r a) {j d : Nat} {x : AV} {b : Bool} (hd : (ops[j]?).bind (·.dst) = some d) (hx : r d = some x) (hb : x.val = .bool b) : yielded ops a.tmps j = some b := by
  have h1 := hr.val d x hx
  rw [hb, Array.getD_eq_getD_getElem?] at h1
  unfold yielded
  rw [hd]
  simp only [Option.bind_some]
  cases hq : a.tmps[d]? with
  | none => rw [hq] at h1; simp [undef] at h1
  | some u => rw [hq] at h1; simp at h1; subst h1; rfl

theorem guarded_wp {ops : Array Oper} {yes no : Regs → M} {h : H} (hr : Rel n r a) (hw : wp P (guarded ops.toList o r yes no) QM h) :
    ∃ r', Rel n r' a ∧ ((Region.wanted o (yielded ops a.tmps) = true ∧ wp P (yes r') QM h) ∨ (Region.wanted o (yielded ops a.tmps) = false ∧ wp P (no r') QM h)) := by
  unfold guarded at hw
  split at hw
  · rename_i hg
    exact ⟨r, hr, .inl ⟨by simp [Region.wanted, hg], hw⟩⟩
  · rename_i j want hg
    split at hw
    · exact hw.elim
    · rename_i d hd
      have hd' : (ops[j]?).bind (·.dst) = some d := by simpa using hd
      split at hw
      · rename_i hx
        have hy := yielded_of hr hd' hx (b := true) rfl
        cases want
        · exact ⟨r, hr, .inr ⟨by simp [Region.wanted, hg, hy], hw⟩⟩
        · exact ⟨r, hr, .inl ⟨by simp [Region.wanted, hg, hy], hw⟩⟩
      · rename_i hx
        have hy := yielded_of hr hd' hx (b := false) rfl
        cases want
        · exact ⟨r, hr, .inl ⟨by simp [Region.wanted, hg, hy], hw⟩⟩
        · exact ⟨r, hr, .inr ⟨by simp [Region.wanted, hg, hy], hw⟩⟩
      · rename_i b hx
        have hy := yielded_of hr hd' hx (b := b) rfl
        obtain ⟨h1, h2⟩ := hw
        cases b
        · have h2 := h2 rfl
          have hr' : Rel n (upd r d (some (.c .ff))) a := hr.upd_same hx rfl
          cases want
          · exact ⟨_, hr', .inl ⟨by simp [Region.wanted, hg, hy], h2⟩⟩
          · exact ⟨_, hr', .inr ⟨by simp [Region.wanted, hg, hy], h2⟩⟩
        · have h1 := h1 rfl
          have hr' : Rel n (upd r d (some (.c .tt))) a := hr.upd_same hx rfl
          cases want
          · exact ⟨_, hr', .inr ⟨by simp [Region.wanted, hg, hy], h1⟩⟩
          · exact ⟨_, hr', .inl ⟨by simp [Region.wanted, hg, hy], h1⟩⟩
      · rename_i vs hx
        have hy : yielded ops a.tmps j = none := by
          have h1 := hr.val d _ hx
          rw [show (AV.tup vs).val = .tuple (vs.map compVal).toArray from rfl, Array.getD_eq_getD_getElem?] at h1
          unfold yielded
          rw [hd']
          simp only [Option.bind_some]
          cases hq : a.tmps[d]? with
          | none => rfl
          | some u => rw [hq] at h1; simp at h1; subst h1; rfl
        exact ⟨r, hr, .inr ⟨by simp [Region.wanted, hg, hy], hw⟩⟩
      · exact hw.elim

/-- One operation that only reads. -/
theorem one_reads {k : List (PA × List Cell) → Regs → M} {h : H} (hr : Rel n r a) (hk : isEff o = false) (hw : wp P (oneOp P n o r k) QM h) :
    ∃ (got : List (PA × List Cell)) (v : Value) (r' : Regs), (∀ g ∈ got, rds h g.1 (g.2.map Cell.val)) ∧
      (∀ w, (∀ g ∈ got, rds w.heap g.1 (g.2.map Cell.val)) → (execOp a.eval o).run P w = .ok (.value v) w) ∧ Rel n r' (a.put o.dst v) ∧ wp P (k got r') QM h := by
  unfold oneOp at hw
  split at hw
  · obtain ⟨v, hy, hw⟩ := pure_sound hr hw
    obtain ⟨r', hr', hw⟩ := putR_wp hr (u := v.val) (by simp) hw
    exact ⟨[], v.val, r', by simp, fun w _ => hy w, hr', hw⟩
  · split at hw
    · rename_i t x ho
      obtain ⟨p, v, h1, h2, hw⟩ := load_sound ho hr hw
      obtain ⟨r', hr', hw⟩ := putR_wp hr (u := v.val) (by simp) hw
      exact ⟨[(p, cellsAV v)], v.val, r', by simpa using h1, fun w hh => h2 w (by simpa using hh), hr', hw⟩
    · exact hw.elim
  · rename_i hkd
    simp [isEff, hkd] at hk

/-- One operation, whatever it does. -/
theorem one_sound {k : List (PA × List Cell) → Regs → M} {K : Act → World → Prop} {Qc : Exit → Act → World → Prop} {w : World} (hr : Rel n r a)
    (hK : ∀ got r' v w', Ext w w' → Rel n r' (a.put o.dst v) → wp P (k got r') QM w'.heap → K (a.put o.dst v) w') (hw : wp P (oneOp P n o r k) QM w.heap) : o.wp P a w K Qc := by
  by_cases he : isEff o = true
  · unfold oneOp at hw
    split at hw
    · rename_i hkd; simp [isEff, hkd] at he
    · rename_i hkd; simp [isEff, hkd] at he
    · refine eff_sound hr (fun v w' hx hw' => ?_) hw
      obtain ⟨r', hr', hw'⟩ := putR_wp (u := (v.map AV.val).getD undef) hr (by intro x hx; subst hx; rfl) hw'
      exact hK _ r' _ w' hx hr' hw'
  · obtain ⟨got, v, r', h1, h2, hr', hw'⟩ := one_reads hr (by simpa using he) hw
    exact Oper.wp_value (h2 w h1) (hK got r' v w (Ext.refl w) hr' hw')

/-- The slots that are not written are as they were in 'a0'. -/
def Same (ws : List Nat) (a0 a : Act) : Prop := ∀ t, t ∉ ws → a.tmps.getD t undef = a0.tmps.getD t undef

theorem Same.refl (ws : List Nat) (a : Act) : Same ws a a := fun _ _ => rfl
theorem Same.put {ws : List Nat} {a0 a : Act} {d : Option Tmp} {v : Value} (h : Same ws a0 a) (hd : ∀ x, d = some x → x ∈ ws) : Same ws a0 (a.put d v) := by
  intro t ht
  cases d with
  | none => exact h t ht
  | some x =>
    have hne : x ≠ t := fun e => ht (e ▸ hd x rfl)
    have := h t ht
    simp only [Act.put, Array.getD_eq_getD_getElem?] at this ⊢
    rw [Array.getElem?_setIfInBounds_ne hne]
    exact this
theorem Same.trans {ws us : List Nat} {a b c : Act} (h : Same ws a b) (g : Same us b c) : Same (ws ++ us) a c := fun t ht => by
  rw [g t (fun hh => ht (List.mem_append.2 (.inr hh))), h t (fun hh => ht (List.mem_append.2 (.inl hh)))]
theorem Same.mono {ws us : List Nat} {a b : Act} (h : Same ws a b) (hs : ∀ x ∈ ws, x ∈ us) : Same us a b := fun t ht => h t (fun hh => ht (hs t hh))

theorem seq_sound {ops : Array Oper} {Q : Exit → Act → World → Prop} {w0 : World} {ws : List Nat} {a0 : Act} : ∀ (rest : List Oper) {r : Regs} {a : Act} {k : Regs → M} {w : World}, (∀ o ∈ rest, ∀ d, o.dst = some d → d ∈ ws) → Same ws a0 a → Rel n r a → Ext w0 w →
    (∀ r' a' w', Rel n r' a' → Ext w0 w' → Same ws a0 a' → wp P (k r') QM w'.heap → Q .normal a' w') → wp P (seqOps P n ops.toList rest r k) QM w.heap → wpList P ops Q rest a w
  | [], r, a, k, w, _, hs, hr, hx, hk, hw => hk _ _ _ hr hx hs hw
  | o :: rest, r, a, k, w, hws, hs, hr, hx, hk, hw => by
    have hws' : ∀ o ∈ rest, ∀ d, o.dst = some d → d ∈ ws := fun o' ho' => hws o' (List.mem_cons_of_mem _ ho')
    have hd := hws o (List.mem_cons_self ..)
    obtain ⟨r', hr', h⟩ := guarded_wp hr hw
    unfold wpList
    rcases h with ⟨h1, hw⟩ | ⟨h1, hw⟩
    · rw [if_pos h1]
      refine .inl (one_sound hr' (fun got r2 v w' hx' hr2 hw' => seq_sound rest hws' (hs.put hd) hr2 (hx.trans hx') hk hw') hw)
    · rw [if_neg (by simp [h1])]
      obtain ⟨r2, hr2, hw⟩ := putR_wp (u := undef) hr' (by intro x hx; cases hx; rfl) hw
      exact seq_sound rest hws' (hs.put hd) hr2 hx hk hw
end

/-! ### Whatever order is drawn -/
section
variable {P : Program} {ops : Array Oper} {Q : Exit → Act → World → Prop}

abbrev Held := List (Nat × PA × List Cell)
def heldOk (held : Held) (w : World) : Prop := ∀ x ∈ held, rds w.heap x.2.1 (x.2.2.map Cell.val)
def keep (ops : Array Oper) (j : Nat) (held : Held) : Held := held.filter fun x => !((ops[j]?).map fun o => has (waitsM ops.toList o) x.1).getD false

theorem has_bit (i j : Nat) : has (bit i) j = decide (i = j) := by
  show Nat.testBit (2 ^ i) j = _
  exact Nat.testBit_two_pow
theorem has_lor (a b i : Nat) : has (Nat.lor a b) i = (has a i || has b i) := Nat.testBit_or a b i
theorem has_land (a b i : Nat) : has (Nat.land a b) i = (has a i && has b i) := Nat.testBit_and a b i
theorem has_zero (i : Nat) : has 0 i = false := Nat.zero_testBit i

theorem predsL_iff : ∀ {l : List Edge} {i : Nat}, has (predsL l) i = true ↔ ∃ e ∈ l, Region.binds .any e = true ∧ e.on = i
  | [], i => by simp [predsL, has_zero]
  | e :: r, i => by
    simp only [predsL]
    split
    · rename_i hb
      rw [has_lor, has_bit, Bool.or_eq_true, predsL_iff]
      constructor
      · rintro (h | ⟨x, h1, h2⟩)
        · exact ⟨e, by simp, hb, of_decide_eq_true h⟩
        · exact ⟨x, by simp [h1], h2⟩
      · rintro ⟨x, h1, h2, h3⟩
        rcases List.mem_cons.1 h1 with rfl | h1
        · exact .inl (decide_eq_true h3)
        · exact .inr ⟨x, h1, h2, h3⟩
    · rename_i hb
      rw [predsL_iff]
      constructor
      · rintro ⟨x, h1, h2⟩
        exact ⟨x, by simp [h1], h2⟩
      · rintro ⟨x, h1, h2, h3⟩
        rcases List.mem_cons.1 h1 with rfl | h1
        · rw [h2] at hb; cases hb
        · exact ⟨x, h1, h2, h3⟩
theorem preds_iff {o : Oper} {i : Nat} : has (preds o) i = true ↔ ∃ e ∈ o.after, Region.binds .any e = true ∧ e.on = i := by
  unfold preds
  rw [predsL_iff]
  simp

def game (P : Program) (ops : Array Oper) (Q : Exit → Act → World → Prop) : Nat → Array Bool → Held → Act → World → Prop
  | 0, listed, _, a, w => Region.ready .any ops listed = [] ∧ Q .normal a w
  | f + 1, listed, held, a, w => (Region.ready .any ops listed = [] → Q .normal a w) ∧
    ∀ j ∈ Region.ready .any ops listed, wpOp P ops Q j (fun a' w' => heldOk (keep ops j held) w' ∧ game P ops Q f (listed.setIfInBounds j true) (keep ops j held) a' w') a w

theorem any_of_game : ∀ (f : Nat) (listed : Array Bool) (held : Held) (a : Act) (w : World), game P ops Q f listed held a w → wpAny P .any ops Q f listed a w
  | 0, _, _, _, _, h => h
  | f + 1, _, _, _, _, h => ⟨h.1, fun i hi => wpOp_mono (fun a' w' h' => any_of_game f _ _ a' w' h'.2) (h.2 i hi)⟩

theorem keep_sub {j : Nat} {held : Held} : ∀ x ∈ keep ops j held, x ∈ held := fun _ hx => (List.mem_filter.1 hx).1

theorem game_mono : ∀ (f : Nat) (listed : Array Bool) (h1 h2 : Held) (a : Act) (w : World), (∀ x ∈ h2, x ∈ h1) → game P ops Q f listed h1 a w → game P ops Q f listed h2 a w
  | 0, _, _, _, _, _, _, h => h
  | f + 1, _, h1, h2, _, _, hs, h => ⟨h.1, fun j hj => wpOp_mono (fun a' w' ⟨g1, g2⟩ => by
      have hs' : ∀ x ∈ keep ops j h2, x ∈ keep ops j h1 := fun x hx => by
        obtain ⟨m1, m2⟩ := List.mem_filter.1 hx
        exact List.mem_filter.2 ⟨hs x m1, m2⟩
      exact ⟨fun x hx => g1 x (hs' x hx), game_mono f _ _ _ a' w' hs' g2⟩) (h.2 j hj)⟩

theorem game_done {listed : Array Bool} {held : Held} {a : Act} {w : World} (hr : Region.ready .any ops listed = []) (h : Q .normal a w) : ∀ f, game P ops Q f listed held a w
  | 0 => ⟨hr, h⟩
  | _ + 1 => ⟨fun _ => h, by rw [hr]; simp⟩

/-- Whatever is listed, all that it waits for is listed too. -/
def Closed (ops : Array Oper) (listed : Array Bool) : Prop :=
  ∀ j, listed.getD j false = true → ∀ o, ops[j]? = some o → ∀ e ∈ o.after, Region.binds .any e = true → listed.getD e.on false = true

theorem ready_spec {listed : Array Bool} {j : Nat} (hj : j ∈ Region.ready .any ops listed) : listed.getD j true = false ∧ ∃ o, ops[j]? = some o ∧ ∀ e ∈ o.after, Region.binds .any e = true → listed.getD e.on false = true :=
  mem_ready.1 hj

theorem Closed.set {listed : Array Bool} {j : Nat} (hc : Closed ops listed) (hj : j ∈ Region.ready .any ops listed) : Closed ops (listed.setIfInBounds j true) := by
  obtain ⟨h0, o, ho, ha⟩ := ready_spec hj
  intro k hk ok hok e he hb
  by_cases hkj : k = j
  · subst hkj
    rw [ho] at hok
    obtain rfl := Option.some.inj hok
    exact getD_set_true (ha e he hb)
  · refine getD_set_true (hc k ?_ ok hok e he hb)
    rw [← getD_set_ne false (Ne.symm hkj)]
    exact hk

theorem predsIn_has {m : Nat} : ∀ {l : List Oper} {k i : Nat}, has (predsIn m l k) i = true → ∃ (j : Nat) (o : Oper), l[j]? = some o ∧ has m (k + j) = true ∧ has (preds o) i = true
  | [], k, i, h => by simp [predsIn, has_zero] at h
  | o :: r, k, i, h => by
    simp only [predsIn] at h
    split at h
    · rename_i hm
      rw [has_lor, Bool.or_eq_true] at h
      rcases h with h | h
      · exact ⟨0, o, by simp, by simpa using hm, h⟩
      · obtain ⟨j, p, h1, h2, h3⟩ := predsIn_has h
        exact ⟨j + 1, p, by simpa using h1, by rw [show k + (j + 1) = k + 1 + j by omega]; exact h2, h3⟩
    · obtain ⟨j, p, h1, h2, h3⟩ := predsIn_has h
      exact ⟨j + 1, p, by simpa using h1, by rw [show k + (j + 1) = k + 1 + j by omega]; exact h2, h3⟩

theorem close_listed {listed : Array Bool} (hc : Closed ops listed) : ∀ (f m : Nat), (∀ i, has m i = true → listed.getD i false = true) → ∀ i, has (closeM ops.toList f m) i = true → listed.getD i false = true
  | 0, m, hm, i, h => hm i h
  | f + 1, m, hm, i, h => by
    simp only [closeM] at h
    split at h
    · exact hm i h
    · refine close_listed hc f _ (fun j hj => ?_) i h
      rw [has_lor, Bool.or_eq_true] at hj
      rcases hj with hj | hj
      · exact hm j hj
      · obtain ⟨u, o, h1, h2, h3⟩ := predsIn_has hj
        rw [Nat.zero_add] at h2
        obtain ⟨e, he, hb, rfl⟩ := preds_iff.1 h3
        exact hc u (hm u h2) o (by simpa using h1) e he hb

theorem waits_listed {listed : Array Bool} (hc : Closed ops listed) {j i : Nat} {o : Oper} (_ho : ops[j]? = some o) (hp : ∀ e ∈ o.after, Region.binds .any e = true → listed.getD e.on false = true)
    (h : has (waitsM ops.toList o) i = true) : listed.getD i false = true :=
  close_listed hc _ _ (fun k hk => by obtain ⟨e, he, hb, rfl⟩ := preds_iff.1 hk; exact hp e he hb) i h

theorem game_first {i : Nat} {oi : Oper} {v : Value} {got : List (PA × List Cell)} (hi : ops[i]? = some oi) (hsel : ∀ (j : Nat) (o : Oper) cs b, ops[j]? = some o → o.op ≠ .select cs b)
    (hQ : ∀ c a w, Q (.panic c) (a.put oi.dst v) w → Q (.panic c) a w) :
    ∀ (f : Nat) (listed : Array Bool) (held : Held) (a : Act) (w : World), Closed ops listed →
      (∀ j oj, ops[j]? = some oj → j ≠ i → listed.getD j true = false → has (waitsM ops.toList oj) i = false → oi.apart ops oj = true) →
      i ∈ Region.ready .any ops listed → YieldsIf P ops (fun w => ∀ g ∈ got, rds w.heap g.1 (g.2.map Cell.val)) oi v a →
      (∀ g ∈ got, rds w.heap g.1 (g.2.map Cell.val)) → heldOk held w →
      game P ops Q f (listed.setIfInBounds i true) (got.map (fun g => (i, g.1, g.2)) ++ held) (a.put oi.dst v) w → game P ops Q (f + 1) listed held a w := by
  intro f
  induction f with
  | zero =>
    intro listed held a w _ _ hr hy hg hh H
    refine ⟨fun h => (by rw [h] at hr; cases hr), fun j hj => ?_⟩
    by_cases hji : j = i
    · subst hji
      exact hy.wpOp hi hg ⟨fun x hx => hh x (keep_sub x hx), H⟩
    · have := ready_mono hj hji
      rw [H.1] at this
      cases this
  | succ f ih =>
    intro listed held a w hc hfree hr hy hg hh H
    refine ⟨fun h => (by rw [h] at hr; cases hr), fun j hj => ?_⟩
    by_cases hji : j = i
    · subst hji
      refine hy.wpOp hi hg ⟨fun x hx => hh x (keep_sub x hx), game_mono _ _ _ _ _ _ (fun x hx => ?_) H⟩
      exact List.mem_append.2 (.inr (keep_sub x hx))
    · have h1 := H.2 j (ready_mono hj hji)
      obtain ⟨hjun, oj, hoj, hall⟩ := ready_spec hj
      have hnw : has (waitsM ops.toList oj) i = false := by
        cases hwt : has (waitsM ops.toList oj) i with
        | false => rfl
        | true =>
          have h1 := waits_listed hc hoj hall hwt
          have h0 := (ready_spec hr).1
          rcases Nat.lt_or_ge i listed.size with h' | h'
          · simp [h'] at h0 h1; rw [h0] at h1; cases h1
          · simp [Array.getElem?_eq_none h'] at h1
      have hkeep : keep ops j (got.map (fun g => (i, g.1, g.2)) ++ held) = got.map (fun g => (i, g.1, g.2)) ++ keep ops j held := by
        simp only [keep, List.filter_append]
        congr 1
        rw [List.filter_eq_self]
        intro x hx
        obtain ⟨g, _, rfl⟩ := List.mem_map.1 hx
        simp [hnw, hoj]
      rw [hkeep] at h1
      have h2 := wpOp_putIf hoj (hfree j oj hoj hji hjun hnw) (fun cs b => hsel i oi cs b hi) (fun cs b => hsel j oj cs b hoj) hQ hy h1
      have hfree' : ∀ k ok, ops[k]? = some ok → k ≠ i → (listed.setIfInBounds j true).getD k true = false →
          has (waitsM ops.toList ok) i = false → oi.apart ops ok = true := fun k ok hk hki hun hno => by
        refine hfree k ok hk hki ?_ hno
        by_cases hjk : j = k
        · subst hjk; exact hjun
        · rw [getD_set_ne true hjk] at hun; exact hun
      refine wpOp_mono (fun a' w' ⟨hy', hg', H'⟩ => ?_) h2
      have hgot : ∀ g ∈ got, rds w'.heap g.1 (g.2.map Cell.val) := fun g hgm =>
        hg' (i, g.1, g.2) (List.mem_append.2 (.inl (List.mem_map.2 ⟨g, hgm, rfl⟩)))
      have hheld : heldOk (keep ops j held) w' := fun x hx => hg' x (List.mem_append.2 (.inr hx))
      refine ⟨hheld, ih (listed.setIfInBounds j true) (keep ops j held) a' w' (hc.set hj) hfree' (ready_mono hr (Ne.symm hji)) hy' hgot hheld ?_⟩
      rw [Array.setIfInBounds_comm _ _ hji]
      exact H'

/-- The one that may come up now. -/
theorem game_only {j : Nat} {listed : Array Bool} {held : Held} {a : Act} {w : World} {f : Nat} (hr : Region.ready .any ops listed = [j])
    (h : wpOp P ops Q j (fun a' w' => heldOk (keep ops j held) w' ∧ game P ops Q f (listed.setIfInBounds j true) (keep ops j held) a' w') a w) : game P ops Q (f + 1) listed held a w :=
  ⟨fun h0 => (by rw [hr] at h0; cases h0), fun i hi => (by rw [hr] at hi; obtain rfl := List.mem_singleton.1 hi; exact h)⟩

theorem heldAll_wp {QM : Ex → List AV → H → Prop} {h : H} : ∀ {l : List (PA × List Cell)} {k : M}, wp P (heldAll l k) QM h → (∀ x ∈ l, rds h x.1 (x.2.map Cell.val)) ∧ wp P k QM h := by
  have go : ∀ (cs : List Cell) (p : PA) (k : M), wp P (heldAll.go p cs k) QM h → rds h p (cs.map Cell.val) ∧ wp P k QM h := by
    intro cs
    induction cs with
    | nil => exact fun p k hw => ⟨fun j v hj => by simp at hj, hw⟩
    | cons c cs ih =>
      intro p k hw
      obtain ⟨h1, hw⟩ := hw
      obtain ⟨h2, hw⟩ := ih _ _ hw
      refine ⟨fun j v hj => ?_, hw⟩
      cases j with
      | zero => simp at hj; subst hj; exact h1
      | succ j =>
        have := h2 j v (by simpa using hj)
        simp only [Nat.add_assoc, Nat.add_comm 1] at this
        exact this
  intro l
  induction l with
  | nil => exact fun hw => ⟨by simp, hw⟩
  | cons x l ih =>
    intro k hw
    obtain ⟨p, cs⟩ := x
    obtain ⟨h1, hw⟩ := go cs p _ hw
    obtain ⟨h2, hw⟩ := ih hw
    exact ⟨by simpa using ⟨h1, by simpa using h2⟩, hw⟩

theorem pickFree_spec {ops : List Oper} : ∀ {l : List Nat} {i : Nat}, pickFree ops l = some i → i ∈ l ∧ ∃ o, ops[i]? = some o ∧ isEff o = false
  | [], i, h => by simp [pickFree] at h
  | j :: l, i, h => by
    simp only [pickFree] at h
    split at h
    · rename_i o ho
      split at h
      · rename_i h1
        simp at h; subst h
        exact ⟨by simp, o, ho, h1⟩
      · obtain ⟨h1, h2⟩ := pickFree_spec h
        exact ⟨by simp [h1], h2⟩
    · obtain ⟨h1, h2⟩ := pickFree_spec h
      exact ⟨by simp [h1], h2⟩

/-- 'done' as bits and as a list say the same. -/
def Bits (ops : Array Oper) (listed : Array Bool) (done : Nat) : Prop := listed.size = ops.size ∧ ∀ i, i < ops.size → listed.getD i false = has done i

theorem Bits.set {listed : Array Bool} {done i : Nat} (hb : Bits ops listed done) (_hi : i < ops.size) : Bits ops (listed.setIfInBounds i true) (Nat.lor done (bit i)) := by
  refine ⟨by simpa using hb.1, fun j hj => ?_⟩
  rw [has_lor, has_bit, ← hb.2 j hj]
  by_cases hij : i = j
  · subst hij
    have hs := hb.1
    simp [hs, hj]
  · rw [getD_set_ne false hij]
    simp [hij]

theorem readyM_eq {done : Nat} : ∀ (l : List Oper) (k : Nat), readyM done l k = ((List.range' k l.length).filter fun i => !has done i && ((l[i - k]?).map fun o => Nat.beq (Nat.land (preds o) done) (preds o)).getD false)
  | [], k => rfl
  | o :: r, k => by
    simp only [readyM, List.length_cons, List.range'_succ, List.filter_cons, Nat.sub_self, List.getElem?_cons_zero, Option.map_some, Option.getD_some]
    have e : (List.range' (k + 1) r.length).filter (fun i => !has done i && (((o :: r)[i - k]?).map fun o => Nat.beq (Nat.land (preds o) done) (preds o)).getD false) = readyM done r (k + 1) := by
      rw [readyM_eq r (k + 1)]
      refine List.filter_congr (fun i hi => ?_)
      have h1 : k + 1 ≤ i := (List.mem_range'_1.1 hi).1
      rw [show i - k = (i - (k + 1)) + 1 by omega, List.getElem?_cons_succ]
    rw [e]
    split
    · rename_i h1 h2; rw [h1, h2]; rfl
    · rename_i hn
      cases h1 : has done k with
      | true => simp
      | false =>
        cases h2 : Nat.beq (Nat.land (preds o) done) (preds o) with
        | true => exact absurd h2 (by simpa [h1] using hn)
        | false => rfl

theorem ready_eq {listed : Array Bool} {done : Nat} (hb : Bits ops listed done) (hin : ∀ (j : Nat) (o : Oper), ops[j]? = some o → ∀ e ∈ o.after, Region.binds .any e = true → e.on < ops.size) :
    Region.ready .any ops listed = readyM done ops.toList 0 := by
  rw [readyM_eq, Region.ready, List.range_eq_range']
  have : ops.size = ops.toList.length := by simp
  rw [← this]
  refine List.filter_congr (fun i hi => ?_)
  have hlt : i < ops.size := by have := (List.mem_range'_1.1 hi).2; omega
  have h1 : listed.getD i true = has done i := by
    rw [← hb.2 i hlt]
    have : i < listed.size := by rw [hb.1]; exact hlt
    simp [this]
  rw [h1, Nat.sub_zero]
  congr 1
  simp only [Array.getElem?_toList]
  cases ho : ops[i]? with
  | none => rfl
  | some o =>
    simp only [Option.map_some, Option.getD_some]
    rw [Bool.eq_iff_iff, Array.all_eq_true']
    constructor
    · intro h
      have hall : Nat.land (preds o) done = preds o := Nat.eq_of_testBit_eq fun j => ?_
      · rw [hall]; exact Nat.beq_refl _
      show has (Nat.land (preds o) done) j = has (preds o) j
      rw [has_land]
      cases hp : has (preds o) j with
      | false => rfl
      | true =>
        obtain ⟨e, he, hbd, rfl⟩ := preds_iff.1 hp
        have := h e he
        simp only [hbd, Bool.not_true, Bool.false_or] at this
        rw [hb.2 _ (hin i o ho e he hbd)] at this
        simp [this]
    · intro h e he
      have hq := Nat.eq_of_beq_eq_true h
      cases hbd : Region.binds .any e with
      | false => rfl
      | true =>
        have hp : has (preds o) e.on = true := preds_iff.2 ⟨e, he, hbd, rfl⟩
        have h2 : has (Nat.land (preds o) done) e.on = true := by rw [hq]; exact hp
        rw [has_land, hp, Bool.true_and] at h2
        simp only [Bool.not_true, Bool.false_or]
        rw [hb.2 _ (hin i o ho e he hbd)]
        exact h2

theorem allOf_wp {QM : Ex → List AV → H → Prop} {h : H} : ∀ {l : List M}, wp P (allOf l) QM h → l ≠ [] ∧ ∀ m ∈ l, wp P m QM h
  | [], hw => hw.elim
  | [x], hw => ⟨by simp, by simpa [allOf] using hw⟩
  | x :: y :: r, hw => by
    obtain ⟨h1, h2⟩ : wp P x QM h ∧ wp P (allOf (y :: r)) QM h := hw
    refine ⟨by simp, fun m hm => ?_⟩
    rcases List.mem_cons.1 hm with rfl | hm
    · exact h1
    · exact (allOf_wp h2).2 m hm

theorem close_sub {ops : List Oper} {i : Nat} : ∀ (f m : Nat), has m i = true → has (closeM ops f m) i = true
  | 0, _, h => h
  | f + 1, m, h => by
    simp only [closeM]
    split
    · exact h
    · exact close_sub f _ (by rw [has_lor, h]; rfl)
theorem apart_of {i j : Nat} {x y : Oper} (ha : apartAll ops = true) (hx : isEff x = false) (hi : ops[i]? = some x) (hj : ops[j]? = some y) (hne : j ≠ i) (h1 : has (waitsM ops.toList x) j = false)
    (h2 : has (waitsM ops.toList y) i = false) : x.apart ops y = true := by
  simp only [apartAll, List.all_eq_true] at ha
  have mi : (x, i) ∈ ops.toList.zipIdx := by rw [List.mem_zipIdx_iff_getElem?]; simpa using hi
  have mj : (y, j) ∈ ops.toList.zipIdx := by rw [List.mem_zipIdx_iff_getElem?]; simpa using hj
  have := ha (x, i) mi (y, j) mj
  simp only [Bool.or_eq_true] at this
  rcases this with (((((h | h) | h) | h) | h) | h) | h
  · exact absurd (Nat.eq_of_beq_eq_true h).symm hne
  · unfold waitsM at h1; rw [close_sub _ _ h] at h1; cases h1
  · unfold waitsM at h2; rw [close_sub _ _ h] at h2; cases h2
  · rw [hx] at h; simp at h
  · exact h
  · rw [h] at h1; cases h1
  · rw [h] at h2; cases h2

theorem Oper.wp_false {o : Oper} {a : Act} {w : World} (h : o.wp P a w (fun _ _ => False) (fun _ _ _ => False)) : False := by
  unfold Oper.wp at h
  generalize (execOp a.eval o).run P w = res at h
  cases res with
  | ok nx w' =>
    cases nx <;> simp only [Oper.upon] at h
    case enter f args =>
      obtain ⟨e, w'', fr, hR, _⟩ := h []
      cases e with
      | returned v => exact hR
      | panicked c => exact hR
      | outgrown => obtain ⟨_, _, hq⟩ := hR; exact hq
    case row row args =>
      obtain ⟨v, w'', hR, _⟩ := h default []
      exact hR
  | halt x w' => cases x <;> simp only [Oper.upon] at h

theorem draw_sound {n : Nat} {QM : Ex → List AV → H → Prop} {w0 : World} (hsel : ∀ (j : Nat) (o : Oper) cs b, ops[j]? = some o → o.op ≠ .select cs b)
    (hap : apartAll ops = true) (hin : ∀ (j : Nat) (o : Oper), ops[j]? = some o → ∀ e ∈ o.after, Region.binds .any e = true → e.on < ops.size)
    (hQ : ∀ c a w, ¬ Q (.panic c) a w) {ws : List Nat} {a0 : Act} (hws : ∀ (j : Nat) (o : Oper), ops[j]? = some o → ∀ d, o.dst = some d → d ∈ ws) {k : Regs → M}
    (hk : ∀ r' a' w', Rel n r' a' → Ext w0 w' → Same ws a0 a' → wp P (k r') QM w'.heap → Q .normal a' w') :
    ∀ (f : Nat) {listed : Array Bool} {done : Nat} {held : Held} {r : Regs} {a : Act} {w : World}, Bits ops listed done → Same ws a0 a → Closed ops listed → heldOk held w → Rel n r a → Ext w0 w →
      wp P (drawOps P n ops.toList (f + 1) done held r k) QM w.heap → game P ops Q f listed held a w
  | f, listed, done, held, r, a, w, hbits, hs, hc, hh, hr, hx, hw => by
    have hreq := ready_eq hbits hin
    unfold drawOps at hw
    split at hw
    · rename_i hready
      exact game_done (hreq.trans hready) (hk _ _ _ hr hx hs hw) f
    · rename_i i0 more hready
      have hlt : ∀ {i : Nat} {o : Oper}, ops[i]? = some o → i < ops.size := fun ho => (Array.getElem?_eq_some_iff.1 ho).1
      split at hw
      · rename_i i hp
        obtain ⟨hmem, o, ho, he⟩ := pickFree_spec hp
        rw [← hready, ← hreq] at hmem
        simp only [ho] at hw
        have ho' : ops[i]? = some o := by simpa using ho
        obtain ⟨r', hr', hg⟩ := guarded_wp hr hw
        have hfree : ∀ j oj, ops[j]? = some oj → j ≠ i → listed.getD j true = false → has (waitsM ops.toList oj) i = false → o.apart ops oj = true := by
          intro j oj hj hne hun hno
          refine apart_of hap he ho' hj hne ?_ hno
          cases hwt : has (waitsM ops.toList o) j with
          | false => rfl
          | true =>
            obtain ⟨_, o2, ho2, hall⟩ := ready_spec hmem
            rw [ho'] at ho2
            obtain rfl := Option.some.inj ho2
            have h1 := waits_listed hc ho' hall hwt
            have : j < listed.size := by rw [hbits.1]; exact hlt hj
            simp [this] at hun h1
            rw [hun] at h1; cases h1
        cases f with
        | zero =>
          rcases hg with ⟨_, hw⟩ | ⟨_, hw⟩
          · obtain ⟨_, _, _, _, _, _, hw⟩ := one_reads hr' he hw
            exact hw.elim
          · obtain ⟨_, _, hw⟩ := putR_wp (u := undef) hr' (by intro x hx; cases hx; rfl) hw
            exact hw.elim
        | succ f =>
          rcases hg with ⟨hwant, hw⟩ | ⟨hwant, hw⟩
          · obtain ⟨got, v, r2, h1, h2, hr2, hw⟩ := one_reads hr' he hw
            refine game_first ho' hsel (fun c a w h => (hQ c _ w h).elim) f listed held a w hc hfree hmem (.inl ⟨hwant, h2⟩) h1 hh ?_
            refine draw_sound hsel hap hin hQ hws hk f (hbits.set (hlt ho')) (hs.put (hws _ _ ho')) (hc.set hmem) ?_ hr2 hx hw
            intro x hxm
            rcases List.mem_append.1 hxm with hxm | hxm
            · obtain ⟨g, hgm, rfl⟩ := List.mem_map.1 hxm
              exact h1 g hgm
            · exact hh x hxm
          · obtain ⟨r2, hr2, hw⟩ := putR_wp (u := undef) hr' (by intro x hx; cases hx; rfl) hw
            refine game_first (got := []) ho' hsel (fun c a w h => (hQ c _ w h).elim) f listed held a w hc hfree hmem (.inr ⟨hwant, rfl⟩) (by simp) hh ?_
            exact draw_sound hsel hap hin hQ hws hk f (hbits.set (hlt ho')) (hs.put (hws _ _ ho')) (hc.set hmem) hh hr2 hx hw
      · obtain ⟨_, hall⟩ := allOf_wp hw
        cases f with
        | zero =>
          have hw := hall _ (List.mem_map.2 ⟨i0, by simp, rfl⟩)
          split at hw
          · rename_i o ho
            have ho' : ops[i0]? = some o := by simpa using ho
            obtain ⟨r', hr', hg⟩ := guarded_wp hr hw
            rcases hg with ⟨_, hw⟩ | ⟨_, hw⟩
            · refine (Oper.wp_false (one_sound (K := fun _ _ => False) (Qc := fun _ _ _ => False) hr' (fun got r2 v w' _ _ hw' => ?_) hw)).elim
              exact (heldAll_wp hw').2
            · obtain ⟨_, _, hw⟩ := putR_wp (u := undef) hr' (by intro x hx; cases hx; rfl) hw
              exact hw.elim
          · exact hw.elim
        | succ f =>
          refine ⟨fun h0 => (by rw [hreq, hready] at h0; cases h0), fun i0 hmem => ?_⟩
          have hw := hall _ (List.mem_map.2 ⟨i0, (by rw [hreq, hready] at hmem; exact hmem), rfl⟩)
          split at hw
          · rename_i o ho
            have ho' : ops[i0]? = some o := by simpa using ho
            obtain ⟨r', hr', hg⟩ := guarded_wp hr hw
            unfold wpOp
            simp only [ho']
            rcases hg with ⟨hwant, hw⟩ | ⟨hwant, hw⟩
            · rw [if_pos hwant]
              refine .inl (one_sound hr' (fun got r2 v w' hx' hr2 hw' => ?_) hw)
              obtain ⟨h1, hw'⟩ := heldAll_wp hw'
              have hke : keep ops i0 held = held.filter fun x => !has (waitsM ops.toList o) x.1 := by simp [keep, ho']
              have h1' : heldOk (keep ops i0 held) w' := fun x hxm => h1 x.2 (List.mem_map.2 ⟨x, hke ▸ hxm, rfl⟩)
              refine ⟨h1', ?_⟩
              rw [hke] at h1' ⊢
              exact draw_sound hsel hap hin hQ hws hk f (hbits.set (hlt ho')) (hs.put (hws _ _ ho')) (hc.set hmem) h1' hr2 (hx.trans hx') hw'
            · rw [if_neg (by simp [hwant])]
              obtain ⟨r2, hr2, hw⟩ := putR_wp (u := undef) hr' (by intro x hx; cases hx; rfl) hw
              have h1' : heldOk (keep ops i0 held) w := fun x hxm => hh x (keep_sub x hxm)
              refine ⟨h1', game_mono _ _ _ _ _ _ keep_sub (draw_sound hsel hap hin hQ hws hk f (hbits.set (hlt ho')) (hs.put (hws _ _ ho')) (hc.set hmem) hh hr2 hx hw)⟩
          · exact hw.elim
end

end Go.Proofs.Ytkhpbcckaenmcaa
