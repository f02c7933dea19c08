/-
  What a heap holds, what a change leaves as it was, and one step lemma for each form of a typed program. Conditions: none.
-/
import Derived.Test.YtkhpbcckaenmcaaDecG
namespace Go.Proofs.Ytkhpbcckaenmcaa
open Go


/-! ### Reading behind a change -/
theorem rd_lt {h : H} {a : PA} {v : Value} (hr : rd h a = some v) : a.1 < h.size := by
  unfold rd at hr
  split at hr
  · rename_i c e f hb
    exact (Array.getElem?_eq_some_iff.1 hb).1
  · cases hr
theorem size_wr (h : H) (a : PA) (v : Value) : (wr h a v).size = h.size := by simp [wr]
theorem rd_wr_self {h : H} {a : PA} (v : Value) (hs : (rd h a).isSome = true) : rd (wr h a v) a = some v := by
  unfold rd at hs
  unfold rd wr
  simp only [Array.getElem?_modify, if_true]
  split at hs
  · rename_i c e f hb
    simp only [hb, Option.map_some]
    have : a.2 < c.size := by
      rcases Nat.lt_or_ge a.2 c.size with h1 | h1
      · exact h1
      · simp [Array.getElem?_eq_none h1] at hs
    rw [Array.getElem?_setIfInBounds_self_of_lt this]
  · cases hs
theorem rd_wr_ne {h : H} {a b : PA} (v : Value) (hne : b ≠ a) : rd (wr h a v) b = rd h b := by
  unfold rd wr
  by_cases hb : b.1 = a.1
  · have h2 : a.2 ≠ b.2 := fun h2 => hne (by ext <;> simp_all)
    rw [hb]
    simp only [Array.getElem?_modify, if_true]
    cases hq : h[a.1]? with
    | none => rfl
    | some ob => cases ob <;> simp; rw [Array.getElem?_setIfInBounds_ne h2]
  · simp only [Array.getElem?_modify, if_neg (Ne.symm hb)]
theorem fz_wr (h : H) (a b : PA) (v : Value) : fz (wr h a v) b = fz h b := by
  unfold fz wr
  by_cases hb : b.1 = a.1
  · rw [hb]
    simp only [Array.getElem?_modify, if_true]
    cases hq : h[a.1]? with
    | none => rfl
    | some ob => cases ob <;> simp
  · simp only [Array.getElem?_modify, if_neg (Ne.symm hb)]
theorem blk_wr {h : H} {a : PA} {b : Nat} (v : Value) (hne : b ≠ a.1) : (wr h a v)[b]? = h[b]? := by
  unfold wr
  simp only [Array.getElem?_modify, if_neg (Ne.symm hne)]
theorem size_new (h : H) (t : TypeId) (vs : List Value) : (newCells h t vs).size = h.size + 1 := by simp [newCells]
theorem rd_new_old {h : H} {a : PA} (t : TypeId) (vs : List Value) (ha : a.1 < h.size) : rd (newCells h t vs) a = rd h a := by
  unfold rd newCells
  rw [Array.getElem?_push_lt ha, Array.getElem?_eq_getElem ha]
theorem rd_new_self (h : H) (t : TypeId) (vs : List Value) (i : Nat) : rd (newCells h t vs) (h.size, i) = vs[i]? := by
  unfold rd newCells
  simp
theorem fz_new_old {h : H} {a : PA} (t : TypeId) (vs : List Value) (ha : a.1 < h.size) : fz (newCells h t vs) a = fz h a := by
  unfold fz newCells
  rw [Array.getElem?_push_lt ha, Array.getElem?_eq_getElem ha]
theorem fz_new_self (h : H) (t : TypeId) (vs : List Value) (i : Nat) : fz (newCells h t vs) (h.size, i) = false := by
  unfold fz newCells
  simp
theorem blk_new {h : H} {b : Nat} (t : TypeId) (vs : List Value) (hb : b < h.size) : (newCells h t vs)[b]? = h[b]? := by
  unfold newCells
  rw [Array.getElem?_push_lt hb, Array.getElem?_eq_getElem hb]

theorem wok_wr {h : H} {a b : PA} {v : Value} (hk : wok h b) : wok (wr h a v) b := by
  refine ⟨?_, by rw [fz_wr]; exact hk.2⟩
  by_cases hb : b = a
  · subst hb; rw [rd_wr_self v hk.1]; rfl
  · rw [rd_wr_ne v hb]; exact hk.1

/-! ### What a change may touch -/
/-- Of what was there, only F may have changed. -/
structure Fr (F : PA → Prop) (h h' : H) : Prop where
  size : h.size ≤ h'.size
  rd : ∀ a, a.1 < h.size → ¬ F a → rd h' a = rd h a
  fz : ∀ a, a.1 < h.size → fz h' a = fz h a
  some : ∀ a, a.1 < h.size → (Go.Proofs.Ytkhpbcckaenmcaa.rd h a).isSome = true → (Go.Proofs.Ytkhpbcckaenmcaa.rd h' a).isSome = true
  blk : ∀ b, b < h.size → (∀ o, ¬ F (b, o)) → h'[b]? = h[b]?

theorem Fr.refl (F : PA → Prop) (h : H) : Fr F h h := ⟨Nat.le_refl _, fun _ _ _ => rfl, fun _ _ => rfl, fun _ _ h => h, fun _ _ _ => rfl⟩
theorem Fr.trans {F : PA → Prop} {a b c : H} (h : Fr F a b) (g : Fr F b c) : Fr F a c :=
  ⟨Nat.le_trans h.size g.size, fun x hx hn => (g.rd x (Nat.lt_of_lt_of_le hx h.size) hn).trans (h.rd x hx hn),
   fun x hx => (g.fz x (Nat.lt_of_lt_of_le hx h.size)).trans (h.fz x hx), fun x hx hs => g.some x (Nat.lt_of_lt_of_le hx h.size) (h.some x hx hs),
   fun x hx hn => (g.blk x (Nat.lt_of_lt_of_le hx h.size) hn).trans (h.blk x hx hn)⟩
theorem Fr.mono {F G : PA → Prop} {h h' : H} (f : Fr F h h') (hs : ∀ a, a.1 < h.size → F a → G a) : Fr G h h' :=
  ⟨f.size, fun a ha hn => f.rd a ha (fun hf => hn (hs a ha hf)), f.fz, f.some, fun b hb hn => f.blk b hb (fun o hf => hn o (hs (b, o) hb hf))⟩
/-- One change behind another, whose places are ours or new. -/
theorem Fr.then {F G : PA → Prop} {a b c : H} (h : Fr F a b) (g : Fr G b c) (hs : ∀ x, x.1 < a.size → G x → F x) : Fr F a c :=
  ⟨Nat.le_trans h.size g.size, fun x hx hn => (g.rd x (Nat.lt_of_lt_of_le hx h.size) (fun hg => hn (hs x hx hg))).trans (h.rd x hx hn),
   fun x hx => (g.fz x (Nat.lt_of_lt_of_le hx h.size)).trans (h.fz x hx), fun x hx hs => g.some x (Nat.lt_of_lt_of_le hx h.size) (h.some x hx hs),
   fun x hx hn => (g.blk x (Nat.lt_of_lt_of_le hx h.size) (fun o hg => hn o (hs (x, o) hx hg))).trans (h.blk x hx hn)⟩
theorem Fr.wr {F : PA → Prop} {h : H} {a : PA} (v : Value) (ha : F a) : Fr F h (wr h a v) :=
  ⟨by rw [size_wr]; exact Nat.le_refl _, fun b _ hn => rd_wr_ne v (fun e => hn (e ▸ ha)), fun b _ => fz_wr h a b v,
   fun b _ hs => by
    by_cases hb : b = a
    · subst hb; rw [rd_wr_self v hs]; rfl
    · rw [rd_wr_ne v hb]; exact hs,
   fun b _ hn => blk_wr v (fun e => hn a.2 (e ▸ ha))⟩
theorem Fr.new {F : PA → Prop} (h : H) (t : TypeId) (vs : List Value) : Fr F h (newCells h t vs) :=
  ⟨by rw [size_new]; omega, fun a ha _ => rd_new_old t vs ha, fun a ha => fz_new_old t vs ha, fun a ha hs => by rw [rd_new_old t vs ha]; exact hs, fun b hb _ => blk_new t vs hb⟩
theorem Fr.wok {F : PA → Prop} {h h' : H} (f : Fr F h h') {a : PA} (ha : wok h a) : wok h' a := by
  have hl : a.1 < h.size := by
    obtain ⟨v, hv⟩ := Option.isSome_iff_exists.1 ha.1
    exact rd_lt hv
  exact ⟨f.some a hl ha.1, (f.fz a hl).trans ha.2⟩
theorem wok_lt {h : H} {a : PA} (ha : wok h a) : a.1 < h.size := by
  obtain ⟨v, hv⟩ := Option.isSome_iff_exists.1 ha.1
  exact rd_lt hv

/-- The places a, a + 1, .. -/
def rng (a : PA) (m : Nat) : PA → Prop := fun x => x.1 = a.1 ∧ a.2 ≤ x.2 ∧ x.2 < a.2 + m
def none' : PA → Prop := fun _ => False
def un (F G : PA → Prop) : PA → Prop := fun x => F x ∨ G x
def dj (F G : PA → Prop) : Prop := ∀ x, F x → G x → False

theorem Fr.wrs {F : PA → Prop} : ∀ (vs : List Value) (h : H) (a : PA), (∀ x, rng a vs.length x → F x) → Fr F h (wrs h a vs)
  | [], h, _, _ => Fr.refl _ h
  | v :: vs, h, a, hF => by
    refine (Fr.wr v (hF a ⟨rfl, Nat.le_refl _, by simp⟩)).trans (Fr.wrs vs _ _ (fun x hx => hF x ?_))
    obtain ⟨h1, h2, h3⟩ := hx
    exact ⟨h1, by simp at h2; omega, by simp at h3 ⊢; omega⟩
theorem rd_wrs_out : ∀ (vs : List Value) (h : H) (a b : PA), ¬ rng a vs.length b → rd (wrs h a vs) b = rd h b
  | [], _, _, _, _ => rfl
  | v :: vs, h, a, b, hb => by
    show rd (wrs (wr h a v) (a.1, a.2 + 1) vs) b = _
    rw [rd_wrs_out vs _ _ b (fun hx => hb ?_), rd_wr_ne v (fun e => hb ?_)]
    · subst e; exact ⟨rfl, Nat.le_refl _, by simp⟩
    · obtain ⟨h1, h2, h3⟩ := hx
      exact ⟨h1, by simp at h2; omega, by simp at h3 ⊢; omega⟩
theorem rd_wrs_in : ∀ (vs : List Value) (h : H) (a : PA), (∀ j, j < vs.length → (rd h (a.1, a.2 + j)).isSome = true) → ∀ (j : Nat) (v : Value), vs[j]? = some v → rd (wrs h a vs) (a.1, a.2 + j) = some v
  | [], _, _, _, j, v, hj => by simp at hj
  | u :: vs, h, a, hs, j, v, hj => by
    show rd (wrs (wr h a u) (a.1, a.2 + 1) vs) (a.1, a.2 + j) = some v
    cases j with
    | zero =>
      simp at hj; subst hj
      rw [rd_wrs_out vs _ _ _ (fun hx => by have := hx.2.1; simp only at this; omega)]
      exact rd_wr_self u (hs 0 (by simp))
    | succ j =>
      have := rd_wrs_in vs (wr h a u) (a.1, a.2 + 1) (fun i hi => ?_) j v (by simpa using hj)
      · simp only [Nat.add_assoc, Nat.add_comm 1] at this
        exact this
      · rw [rd_wr_ne u (fun e => by have := congrArg Prod.snd e; simp at this; omega)]
        have := hs (i + 1) (by simp; omega)
        simp only [Nat.add_assoc, Nat.add_comm 1]
        exact this

/-! ### One step for each form -/
section
variable {P : Program} {Q : Ex → List AV → H → Prop} {h : H}
theorem w_done {e : Ex} {vs : List AV} (hq : Q e vs h) : wp P (.done e vs) Q h := hq
theorem w_guard {p : Prop} {k : M} (hp : p) (hw : wp P k Q h) : wp P (.guard p k) Q h := ⟨hp, hw⟩
theorem w_nonnil {a : PA} {k : PA → M} (hw : wp P (k a) Q h) : wp P (.nonnil (some a) k) Q h := ⟨a, rfl, hw⟩
theorem w_nonnil' {p : Option PA} {k : PA → M} (a : PA) (hp : p = some a) (hw : wp P (k a) Q h) : wp P (.nonnil p k) Q h := ⟨a, hp, hw⟩
theorem w_int {a : PA} {kd : IntKind} {k : Int → M} (x : Int) (hr : rd h a = some (.int kd x)) (hw : wp P (k x) Q h) : wp P (.load a (.int kd) k) Q h := ⟨x, hr, hw⟩
theorem w_bool {a : PA} {k : Bool → M} (x : Bool) (hr : rd h a = some (.bool x)) (hw : wp P (k x) Q h) : wp P (.load a .bool k) Q h := ⟨x, hr, hw⟩
theorem w_ptr {a : PA} {k : Option PA → M} (x : Option PA) (hr : rd h a = some (.pointer (x.map PA.val))) (hw : wp P (k x) Q h) : wp P (.load a .ptr k) Q h := ⟨x, hr, hw⟩
theorem w_sl {a : PA} {k : SlT → M} (x : SlT) (hr : rd h a = some (.slice (x.1.map PA.val) x.2.1 x.2.2)) (hw : wp P (k x) Q h) : wp P (.load a .sl k) Q h := ⟨x, hr, hw⟩
theorem w_str {a : PA} {k : ByteArray → M} (x : ByteArray) (hr : rd h a = some (.string x)) (hw : wp P (k x) Q h) : wp P (.load a .str k) Q h := ⟨x, hr, hw⟩
theorem w_raw {a : PA} {k : Value → M} (x : Value) (hr : rd h a = some (Cell.raw x).val) (hw : wp P (k x) Q h) : wp P (.load a .raw k) Q h := ⟨x, hr, hw⟩
theorem w_held {a : PA} {c : Cell} {k : M} (hr : rd h a = some c.val) (hw : wp P k Q h) : wp P (.held a c k) Q h := ⟨hr, hw⟩
theorem w_store {a : PA} {c : Cell} {k : M} (hk : wok h a) (hw : wp P k Q (wr h a c.val)) : wp P (.store a c k) Q h := ⟨hk, hw⟩
theorem w_alloc {t : TypeId} {cs : List Cell} {k : Nat → M} (hw : wp P (k h.size) Q (newCells h t (cs.map Cell.val))) : wp P (.alloc t cs k) Q h := hw
theorem w_ite {b : Bool} {x y : M} (h1 : b = true → wp P x Q h) (h2 : b = false → wp P y Q h) : wp P (.ite b x y) Q h := ⟨h1, h2⟩
theorem w_both {x y : M} (h1 : wp P x Q h) (h2 : wp P y Q h) : wp P (.both x y) Q h := ⟨h1, h2⟩
theorem w_true {b : Bool} {x y : M} (hb : b = true) (h1 : wp P x Q h) : wp P (.ite b x y) Q h := ⟨fun _ => h1, fun e => (by rw [hb] at e; cases e)⟩
theorem w_false {b : Bool} {x y : M} (hb : b = false) (h1 : wp P y Q h) : wp P (.ite b x y) Q h := ⟨fun e => (by rw [hb] at e; cases e), fun _ => h1⟩
/-- A call, by the callee's contract. -/
theorem w_call {f : FuncId} {args : List AV} {tup : Bool} {ss : List Sh} {k : SV ss → M} {R : Value → H → Prop} (hc : HC P f (args.map AV.val).toArray h R)
    (hw : ∀ v h', R v h' → ∃ x : SV ss, v = retVal tup ss x ∧ wp P (k x) Q h') : wp P (.call f args tup ss k) Q h := hc.mono hw
end

theorem callOf_mono {P : Program} {f : Value} {args : Array Value} {h : H} {R R' : Value → H → Prop} (hc : callOf P f args h R) (hr : ∀ v h', R v h' → R' v h') : callOf P f args h R' := by
  unfold callOf at hc ⊢
  split at hc
  · exact ⟨hc.1, hc.2.mono hr⟩
  · exact hc.elim

theorem wp_mono {P : Program} : ∀ {m : M} {Q Q' : Ex → List AV → H → Prop} {h : H}, wp P m Q h → (∀ e vs h', Q e vs h' → Q' e vs h') → wp P m Q' h
  | .fail, _, _, _, hw, _ => hw
  | .done e vs, _, _, _, hw, hq => hq _ _ _ hw
  | .guard p k, _, _, _, hw, hq => ⟨hw.1, wp_mono hw.2 hq⟩
  | .nonnil p k, _, _, _, hw, hq => let ⟨a, h1, h2⟩ := hw; ⟨a, h1, wp_mono h2 hq⟩
  | .load a s k, _, _, _, hw, hq => let ⟨x, h1, h2⟩ := hw; ⟨x, h1, wp_mono h2 hq⟩
  | .held a c k, _, _, _, hw, hq => ⟨hw.1, wp_mono hw.2 hq⟩
  | .store a c k, _, _, _, hw, hq => ⟨hw.1, wp_mono hw.2 hq⟩
  | .alloc t cs k, _, _, _, hw, hq => wp_mono (m := k _) hw hq
  | .ite b x y, _, _, _, hw, hq => ⟨fun hb => wp_mono (hw.1 hb) hq, fun hb => wp_mono (hw.2 hb) hq⟩
  | .both x y, _, _, _, hw, hq => ⟨wp_mono hw.1 hq, wp_mono hw.2 hq⟩
  | .call f args tup ss k, _, _, _, hw, hq => HC.mono hw fun _ _ ⟨x, h1, h2⟩ => ⟨x, h1, wp_mono h2 hq⟩
  | .callv f args tup ss k, _, _, _, hw, hq => callOf_mono hw fun _ _ ⟨x, h1, h2⟩ => ⟨x, h1, wp_mono h2 hq⟩
  | .append e sz byt z d s k, Q, Q', h, hw, hq => by
    obtain ⟨news, h1, h2, h3, h4⟩ := hw
    refine ⟨news, h1, h2, h3, ?_⟩
    split at h4
    · rename_i hc
      rw [if_pos hc]
      rcases h4 with ⟨h5, h6⟩ | ⟨p, h5, h6, h7⟩
      · exact .inl ⟨h5, wp_mono h6 hq⟩
      · exact .inr ⟨p, h5, h6, wp_mono h7 hq⟩
    · rename_i hc
      rw [if_neg hc]
      obtain ⟨olds, h5, h6, h7, h8⟩ := h4
      exact ⟨olds, h5, h6, h7, fun nc g1 g2 => wp_mono (h8 nc g1 g2) hq⟩
  | .copy sz d s k, Q, Q', h, hw, hq => by
    obtain ⟨vs, h1, h2, h3⟩ := hw
    exact ⟨vs, h1, h2, wp_mono h3 hq⟩
  | .make e sz byt z len cap k, Q, Q', h, hw, hq => by
    obtain ⟨h1, h2, h3, h4, h5⟩ := hw
    exact ⟨h1, h2, h3, h4, wp_mono h5 hq⟩
  | .bind l m ss k, Q, Q', h, hw, hq => by
    simp only [wp] at hw ⊢
    refine wp_mono hw fun e vs h' hh => ?_
    cases e with
    | normal => obtain ⟨x, h1, h2⟩ := hh; exact ⟨x, h1, wp_mono h2 hq⟩
    | exit i =>
      cases l with
      | none => exact hq _ _ _ hh
      | some j =>
        dsimp only at hh ⊢
        split at hh
        · rename_i hij
          rw [if_pos hij]
          obtain ⟨x, h1, h2⟩ := hh
          exact ⟨x, h1, wp_mono h2 hq⟩
        · rename_i hij
          rw [if_neg hij]
          exact hq _ _ _ hh
    | goto i => exact hq _ _ _ hh
    | ret => exact hq _ _ _ hh
  | .loop ss init body, Q, Q', h, hw, hq => by
    obtain ⟨I, μ, h1, h2⟩ := hw
    refine ⟨I, μ, h1, fun x h1 hI => wp_mono (h2 x h1 hI) fun e vs h' hh => ?_⟩
    cases e with
    | normal => exact hh
    | exit i => exact hq _ _ _ hh
    | goto i => exact hq _ _ _ hh
    | ret => exact hq _ _ _ hh

section
variable {P : Program} {Q : Ex → List AV → H → Prop} {h : H}
/-- What a piece before a joint must bring about. -/
def Jo (l : Option Nat) (R : List AV → H → Prop) (Q : Ex → List AV → H → Prop) : Ex → List AV → H → Prop
  | .normal, vs, h => R vs h
  | .exit i, vs, h => (∃ j, l = some j ∧ i = j ∧ R vs h) ∨ (l ≠ some i ∧ Q (.exit i) vs h)
  | e, vs, h => Q e vs h
theorem w_bind {l : Option Nat} {m : M} {ss : List Sh} {k : SV ss → M} (R : List AV → H → Prop) (hm : wp P m (Jo l R Q) h)
    (hk : ∀ vs h', R vs h' → ∃ x : SV ss, (SV.list ss x).map AV.val = vs.map AV.val ∧ wp P (k x) Q h') : wp P (.bind l m ss k) Q h := by
  simp only [wp]
  refine wp_mono hm fun e vs h' hh => ?_
  cases e with
  | normal => exact hk vs h' hh
  | exit i =>
    rcases hh with ⟨j, rfl, rfl, hR⟩ | ⟨hne, hq⟩
    · dsimp only; rw [if_pos rfl]; exact hk vs h' hR
    · cases l with
      | none => exact hq
      | some j =>
        dsimp only
        rw [if_neg (fun e => hne (by rw [e]))]
        exact hq
  | goto i => exact hh
  | ret => exact hh
/-- A loop, by what holds at each round's head and what every round lowers. -/
theorem w_loop {ss : List Sh} {init : List AV} {body : SV ss → M} (I : SV ss → H → Prop) (μ : SV ss → H → Nat) (x0 : SV ss) (h0 : (SV.list ss x0).map AV.val = init.map AV.val) (hI : I x0 h)
    (hr : ∀ x h1, I x h1 → wp P (body x) (fun e vs h' => match e with
        | .normal => ∃ y, (SV.list ss y).map AV.val = vs.map AV.val ∧ I y h' ∧ μ y h' < μ x h1
        | _ => Q e vs h') h1) : wp P (.loop ss init body) Q h := ⟨I, μ, ⟨x0, h0, hI⟩, hr⟩
theorem w_callv {f : FuncId} {first cap : Array Value} {args : List AV} {tup : Bool} {ss : List Sh} {k : SV ss → M} {R : Value → H → Prop}
    (hb : (P.funcs[f]?).map (fun fn => fn.body.isSome && fn.name != "runtime.NumGoroutine") = some true) (hc : HC P f (first ++ (args.map AV.val).toArray ++ cap) h R)
    (hw : ∀ v h', R v h' → ∃ x : SV ss, v = retVal tup ss x ∧ wp P (k x) Q h') : wp P (.callv (.func (.func f) first cap) args tup ss k) Q h := ⟨hb, hc.mono hw⟩
theorem w_callOf {fv : Value} {args : List AV} {tup : Bool} {ss : List Sh} {k : SV ss → M} {R : Value → H → Prop}
    (hc : callOf P fv (args.map AV.val).toArray h R)
    (hw : ∀ v h', R v h' → ∃ x : SV ss, v = retVal tup ss x ∧ wp P (k x) Q h') : wp P (.callv fv args tup ss k) Q h := callOf_mono hc hw
theorem w_make {e : TypeId} {sz byt : Nat} {z : List Cell} {len cap : Int} {k : SlT → M} (h0 : 0 ≤ len) (h1 : len ≤ cap) (h2 : (byt : Int) * cap ≤ 281474976710656) (h3 : cap ≤ 9223372036854775807)
    (hw : wp P (k (some (h.size, 0), len.toNat, cap.toNat)) Q (newCells h e (madeCells (z.map Cell.val).toArray (cap.toNat * sz)).toList)) : wp P (.make e sz byt z len cap k) Q h := ⟨h0, h1, h2, h3, hw⟩
end

theorem inK64 {n : Int} (h1 : -9223372036854775808 ≤ n) (h2 : n ≤ 9223372036854775807) : InK .i64 n := by
  show IntKind.i64.wrap n = n
  rw [IntKind.wrap_i64]; omega

/-! ### Memory that is ours -/
/-- The cells vs lie from a on, k spare ones behind them; all may be written. -/
structure Own (h : H) (a : PA) (vs : List Value) (k : Nat) : Prop where
  rd : rds h a vs
  ok : oks h a (vs.length + k)

theorem Own.fr {h h' : H} {a : PA} {vs : List Value} {k : Nat} {F : PA → Prop} (o : Own h a vs k) (f : Fr F h h') (hd : ∀ x, rng a (vs.length + k) x → ¬ F x) : Own h' a vs k := by
  refine ⟨fun j v hj => ?_, fun j hj => f.wok (o.ok j hj)⟩
  have hl : j < vs.length := (List.getElem?_eq_some_iff.1 hj).1
  have := o.rd j v hj
  rw [f.rd _ (rd_lt this) (hd _ ⟨rfl, Nat.le_add_right _ _, by simp; omega⟩)]
  exact this
theorem Own.lt {h : H} {a : PA} {vs : List Value} {k : Nat} (o : Own h a vs k) {x : PA} (hx : rng a (vs.length + k) x) : x.1 < h.size := by
  obtain ⟨h1, h2, h3⟩ := hx
  have := wok_lt (o.ok (x.2 - a.2) (by omega))
  rw [h1]; exact this
theorem Own.new (h : H) (t : TypeId) (vs us : List Value) : Own (newCells h t (vs ++ us)) (h.size, 0) vs us.length := by
  refine ⟨fun j v hj => ?_, fun j hj => ⟨?_, fz_new_self _ _ _ _⟩⟩
  · rw [Nat.zero_add, rd_new_self]
    rw [List.getElem?_append_left (List.getElem?_eq_some_iff.1 hj).1]; exact hj
  · rw [Nat.zero_add, rd_new_self]
    simp [List.length_append, hj]
theorem Own.out {h h' : H} {a : PA} {vs : List Value} {k : Nat} {F : PA → Prop} (o : Own h a vs k) (f : Fr F h h') (hd : dj (rng a (vs.length + k)) F) : Own h' a vs k :=
  o.fr f fun x hx hF => hd x hx hF
/-- Cells written over. -/
def splice (vs : List Value) (i : Nat) (us : List Value) : List Value := vs.take i ++ us ++ vs.drop (i + us.length)
theorem splice_length {vs us : List Value} {i : Nat} (hi : i + us.length ≤ vs.length) : (splice vs i us).length = vs.length := by
  simp [splice]; omega
theorem splice_get {vs us : List Value} {i : Nat} (hi : i + us.length ≤ vs.length) (j : Nat) : (splice vs i us)[j]? = if i ≤ j ∧ j < i + us.length then us[j - i]? else vs[j]? := by
  simp only [splice]
  by_cases h1 : j < i
  · rw [List.append_assoc, List.getElem?_append_left (by simp; omega), List.getElem?_take, if_pos h1, if_neg (by omega)]
  · by_cases h2 : j < i + us.length
    · rw [if_pos ⟨by omega, h2⟩, List.getElem?_append_left (by simp; omega), List.getElem?_append_right (by simp; omega)]
      congr 1; simp; omega
    · rw [if_neg (by omega), List.getElem?_append_right (by simp; omega), List.getElem?_drop]
      congr 1; simp; omega
theorem Own.splice {h : H} {a : PA} {vs : List Value} {k : Nat} (o : Own h a vs k) (i : Nat) (us : List Value) (hi : i + us.length ≤ vs.length) :
    Own (wrs h (a.1, a.2 + i) us) a (splice vs i us) k := by
  have hf : Fr (rng (a.1, a.2 + i) us.length) h (wrs h (a.1, a.2 + i) us) := Fr.wrs us h _ (fun _ hx => hx)
  refine ⟨fun j v hj => ?_, fun j hj => ?_⟩
  · rw [splice_get hi] at hj
    split at hj
    · rename_i hc
      have := rd_wrs_in us h (a.1, a.2 + i) (fun j hj => by
        have := (o.ok (i + j) (by omega)).1
        simpa [Nat.add_assoc] using this) (j - i) v hj
      simp only [Nat.add_assoc] at this
      rw [show i + (j - i) = j by omega] at this
      exact this
    · rename_i hc
      rw [rd_wrs_out us h _ _ (fun hx => hc (by obtain ⟨_, h2, h3⟩ := hx; simp at h2 h3; omega))]
      exact o.rd j v hj
  · rw [splice_length hi] at hj
    exact hf.wok (o.ok j hj)
theorem Own.one {h : H} {a : PA} {vs : List Value} {k : Nat} (o : Own h a vs k) (i : Nat) (v : Value) (hi : i < vs.length) : Own (wr h (a.1, a.2 + i) v) a (vs.set i v) k := by
  have := o.splice i [v] (by simp; omega)
  have e : Go.Proofs.Ytkhpbcckaenmcaa.splice vs i [v] = vs.set i v := by
    apply List.ext_getElem?
    intro j
    rw [splice_get (by simp; omega), List.getElem?_set]
    by_cases hj : i = j
    · subst hj; simp [hi]
    · rw [if_neg hj, if_neg (by simp; omega)]
  rw [e] at this
  exact this
/-- What is cut off becomes spare. -/
theorem Own.shrink {h : H} {a : PA} {vs ws : List Value} {k : Nat} (o : Own h a (vs ++ ws) k) : Own h a vs (ws.length + k) :=
  ⟨fun j v hj => o.rd j v (by rw [List.getElem?_append_left (List.getElem?_eq_some_iff.1 hj).1]; exact hj), fun j hj => o.ok j (by simp; omega)⟩
theorem Own.left {h : H} {a : PA} {vs ws : List Value} {k : Nat} (o : Own h a (vs ++ ws) k) : Own h a vs 0 :=
  ⟨fun j v hj => o.rd j v (by rw [List.getElem?_append_left (List.getElem?_eq_some_iff.1 hj).1]; exact hj), fun j hj => o.ok j (by simp; omega)⟩
theorem Own.right {h : H} {a : PA} {vs ws : List Value} {k : Nat} (o : Own h a (vs ++ ws) k) : Own h (a.1, a.2 + vs.length) ws k := by
  refine ⟨fun j v hj => ?_, fun j hj => ?_⟩
  · have := o.rd (vs.length + j) v (by rw [List.getElem?_append_right (by omega)]; simpa using hj)
    simp only [Nat.add_assoc]; exact this
  · have := o.ok (vs.length + j) (by simp; omega)
    simp only [Nat.add_assoc]; exact this

/-! ### Slices -/
/-- A slice that may be read: it holds the cells vs. -/
def RSl (h : H) (s : SlT) (sz : Nat) (vs : List Value) : Prop := vs.length = s.2.1 * sz ∧ (vs = [] ∨ ∃ p, s.1 = some p ∧ rds h p vs)
/-- A slice that is ours. -/
def Sl (h : H) (s : SlT) (sz : Nat) (vs : List Value) : Prop :=
  vs.length = s.2.1 * sz ∧ s.2.1 ≤ s.2.2 ∧ ((s.1 = none ∧ s.2.2 = 0) ∨ ∃ p, s.1 = some p ∧ Own h p vs ((s.2.2 - s.2.1) * sz))
def sfoot (s : SlT) (sz : Nat) : PA → Prop := match s.1 with
  | some p => rng p (s.2.2 * sz)
  | none => none'

theorem Sl.nil (h : H) (sz : Nat) : Sl h (none, 0, 0) sz [] := ⟨by simp, Nat.le_refl _, .inl ⟨rfl, rfl⟩⟩
theorem Sl.rsl {h : H} {s : SlT} {sz : Nat} {vs : List Value} (o : Sl h s sz vs) : RSl h s sz vs := by
  obtain ⟨h1, h2, h3⟩ := o
  refine ⟨h1, ?_⟩
  rcases h3 with ⟨_, hc⟩ | ⟨p, hp, ho⟩
  · left
    exact List.eq_nil_of_length_eq_zero (by rw [h1, show s.2.1 = 0 by omega]; simp)
  · exact .inr ⟨p, hp, ho.rd⟩
theorem Sl.foot_lt {h : H} {s : SlT} {sz : Nat} {vs : List Value} (o : Sl h s sz vs) {x : PA} (hx : sfoot s sz x) : x.1 < h.size := by
  obtain ⟨h1, h2, h3⟩ := o
  rcases h3 with ⟨hn, _⟩ | ⟨p, hp, ho⟩
  · simp [sfoot, hn, none'] at hx
  · simp only [sfoot, hp] at hx
    refine ho.lt ?_
    have : vs.length + (s.2.2 - s.2.1) * sz = s.2.2 * sz := by rw [h1, ← Nat.add_mul]; congr 1; omega
    rw [this]; exact hx
theorem Sl.out {h h' : H} {s : SlT} {sz : Nat} {vs : List Value} {F : PA → Prop} (o : Sl h s sz vs) (f : Fr F h h') (hd : dj (sfoot s sz) F) : Sl h' s sz vs := by
  obtain ⟨h1, h2, h3⟩ := o
  refine ⟨h1, h2, ?_⟩
  rcases h3 with hn | ⟨p, hp, ho⟩
  · exact .inl hn
  · refine .inr ⟨p, hp, ho.out f (fun x hx => hd x ?_)⟩
    have : vs.length + (s.2.2 - s.2.1) * sz = s.2.2 * sz := by rw [h1, ← Nat.add_mul]; congr 1; omega
    rw [this] at hx
    simpa [sfoot, hp] using hx
theorem RSl.out {h h' : H} {s : SlT} {sz : Nat} {vs : List Value} {F : PA → Prop} (o : RSl h s sz vs) (f : Fr F h h') (hd : ∀ p, s.1 = some p → dj (rng p vs.length) F) : RSl h' s sz vs := by
  refine ⟨o.1, ?_⟩
  rcases o.2 with hn | ⟨p, hp, ho⟩
  · exact .inl hn
  · refine .inr ⟨p, hp, fun j v hj => ?_⟩
    have := ho j v hj
    have hl := (List.getElem?_eq_some_iff.1 hj).1
    rw [f.rd _ (rd_lt this) (fun hF => hd p hp (p.1, p.2 + j) ⟨rfl, Nat.le_add_right _ _, by simp; omega⟩ hF)]
    exact this

section
variable {P : Program} {Q : Ex → List AV → H → Prop} {h : H}

theorem zeros_length (z : List Cell) (n : Nat) : (zeros z n).length = n * z.length := by
  simp [zeros, Builtin.zeroCells]

/-- append, onto a slice that is ours. -/
theorem w_append {e : TypeId} {sz byt : Nat} {z : List Cell} {d s : SlT} {k : SlT → M} {vs news : List Value} (hz : z.length = sz) (hd : Sl h d sz vs) (hs : RSl h s sz news)
    (h1 : ∀ v ∈ news, v.oneCell' = true) (hg : growOk (d.2.1 + s.2.1) byt)
    (hk : ∀ d' h', Sl h' d' sz (vs ++ news) → d'.2.1 = d.2.1 + s.2.1 → Fr (sfoot d sz) h h' → (∀ x, sfoot d' sz x → sfoot d sz x ∨ h.size ≤ x.1) → (∀ p, d'.1 = some p → d.1 = some p ∨ p = (h.size, 0)) → (0 < d.2.1 + s.2.1 ∨ d.1.isSome = true → d'.1.isSome = true) →
      wp P (k d') Q h') : wp P (.append e sz byt z d s k) Q h := by
  obtain ⟨hl, hle, hd3⟩ := hd
  obtain ⟨hsl, hs2⟩ := hs
  refine ⟨news, hsl, ?_, h1, ?_⟩
  · rcases hs2 with rfl | ⟨q, hq, hr⟩
    · exact .inl (by simpa using hsl.symm)
    · exact .inr ⟨q, hq, hr⟩
  have hcat : (vs ++ news).length = (d.2.1 + s.2.1) * sz := by rw [List.length_append, hl, hsl, Nat.add_mul]
  split
  · rename_i hroom
    rcases hd3 with ⟨hn, hc⟩ | ⟨p, hp, ho⟩
    · left
      have h0 : s.2.1 = 0 := by omega
      have h00 : d.2.1 = 0 := by omega
      obtain rfl : news = [] := List.eq_nil_of_length_eq_zero (by rw [hsl, h0]; simp)
      refine ⟨by rw [h0]; simp, hk _ h ?_ rfl (Fr.refl _ h) (fun x hx => .inl hx) (fun p hp => .inl hp) (fun hh => hh.elim (fun h' => by omega) (fun h' => h'))⟩
      exact ⟨hcat, by simpa using hroom, .inl ⟨hn, hc⟩⟩
    · right
      have hk1 : d.2.1 * sz + s.2.1 * sz + (d.2.2 - (d.2.1 + s.2.1)) * sz = d.2.1 * sz + (d.2.2 - d.2.1) * sz := by
        rw [Nat.add_assoc, ← Nat.add_mul]; congr 2; omega
      refine ⟨p, hp, fun j hj => ?_, hk _ _ ⟨hcat, by simpa using hroom, .inr ⟨p, hp, ?_⟩⟩ rfl ?_ (fun x hx => .inl (by simpa [sfoot, hp] using hx)) (fun q hq => .inl hq) (fun _ => by simp [hp])⟩
      · have := ho.ok (d.2.1 * sz + j) (by rw [hl]; omega)
        simpa [Nat.add_assoc] using this
      · have hw := rd_wrs_in news h (p.1, p.2 + d.2.1 * sz) (fun j hj => by
          have := (ho.ok (d.2.1 * sz + j) (by rw [hl]; omega)).1
          simpa [Nat.add_assoc] using this)
        refine ⟨fun j v hj => ?_, fun j hj => ?_⟩
        · by_cases hlt : j < vs.length
          · rw [List.getElem?_append_left hlt] at hj
            rw [rd_wrs_out news h _ _ (fun hx => by obtain ⟨_, h2, _⟩ := hx; simp at h2; omega)]
            exact ho.rd j v hj
          · rw [List.getElem?_append_right (by omega)] at hj
            have := hw (j - vs.length) v hj
            simp only [Nat.add_assoc] at this
            rw [show d.2.1 * sz + (j - vs.length) = j by omega] at this
            exact this
        · refine (Fr.wrs news h _ (fun _ hx => hx)).wok (ho.ok j ?_)
          rw [hcat, Nat.add_mul] at hj
          dsimp only at hj
          rw [hl]; omega
      · refine Fr.wrs news h _ (fun x hx => ?_)
        obtain ⟨g1, g2, g3⟩ := hx
        simp only [sfoot, hp]
        have : d.2.2 * sz = d.2.1 * sz + (d.2.2 - d.2.1) * sz := by rw [← Nat.add_mul]; congr 1; omega
        exact ⟨g1, by simp at g2; omega, by simp at g3; omega⟩
  · rename_i hroom
    refine ⟨vs, hl, ?_, hg, fun nc h2 h3 => ?_⟩
    · rcases hd3 with ⟨hn, hc⟩ | ⟨p, hp, ho⟩
      · exact .inl (by rw [show d.2.1 = 0 by omega]; simp)
      · exact .inr ⟨p, hp, ho.rd⟩
    · have hzl : (zeros z (nc - (d.2.1 + s.2.1))).length = (nc - (d.2.1 + s.2.1)) * sz := by rw [zeros_length, hz]
      have ho := Own.new h e (vs ++ news) (zeros z (nc - (d.2.1 + s.2.1)))
      rw [hzl] at ho
      exact hk _ _ ⟨hcat, h2, .inr ⟨_, rfl, ho⟩⟩ rfl (Fr.new h e _) (fun x hx => .inr (by obtain ⟨g1, _⟩ := hx; simp at g1; omega)) (fun p hp => .inr (Option.some.inj hp).symm) (fun _ => rfl)
end
end Go.Proofs.Ytkhpbcckaenmcaa
