/-
  Steps that need no counting: calls by typed contracts, joints that go on in each way, loops by a count out of sight, pieces found by their key. Conditions: none.
-/
import Derived.Test.YtkhpbcckaenmcaaSl
set_option linter.unusedVariables false
set_option linter.unusedSimpArgs false
set_option linter.unusedSectionVars false
namespace Go.Proofs.Ytkhpbcckaenmcaa
open Go

section
variable {I : Type} {lt : I → I → Bool}
/-- How many x does not come before. -/
def up (lt : I → I → Bool) (l : List I) (x : I) : Nat := pos lt l x + if (fnd lt l x).isSome then 1 else 0
theorem up_le (o : Ord lt) (l : List I) (x : I) : up lt l x ≤ l.length := by
  unfold up
  have := pos_le (lt := lt) l x
  cases hf : fnd lt l x with
  | none => simpa using this
  | some b =>
    have h1 := (fnd_some_lt hf).1
    simp; omega
theorem up_spec (o : Ord lt) {l : List I} (hs : Srt lt l) {x a : I} {i : Nat} (ha : l[i]? = some a) : lt x a = false ↔ i < up lt l x := by
  constructor
  · intro hx
    rcases Nat.lt_or_ge i (up lt l x) with h | h
    · exact h
    · have hm : a ∈ l.drop (pos lt l x + if (fnd lt l x).isSome then 1 else 0) := List.mem_iff_getElem?.2 ⟨i - up lt l x, by rw [List.getElem?_drop]; show l[up lt l x + _]? = _; rw [show up lt l x + (i - up lt l x) = i by omega]; exact ha⟩
      rw [drop_fnd_gt o hs a hm] at hx; cases hx
  · intro h
    by_cases hp : i < pos lt l x
    · exact o.asym ((pos_spec o hs x i a ha).1 hp)
    · unfold up at h
      cases hf : fnd lt l x with
      | none => rw [hf] at h; simp at h; omega
      | some b =>
        rw [hf] at h
        obtain ⟨h1, h2, h3⟩ := fnd_some_lt hf
        have : i = pos lt l x := by simp at h; omega
        subst this
        rw [ha] at h2
        obtain rfl := Option.some.inj h2
        exact h3
end

/-! ### Values of a shape -/
def cellTo : (s : Sh1) → Cell → Option s.T
  | .int k, .int k' n => match kindEq k' k with
    | true => some n
    | false => none
  | .bool, .bool b => some b
  | .bool, .tt => some true
  | .bool, .ff => some false
  | .ptr, .ptr p => some p
  | .ptr, .addr p => some (some p)
  | .addr, .addr p => some p
  | .sl, .sl p l c => some (p, l, c)
  | .str, .str s => some s
  | .raw, .raw v => some v
  | _, _ => none
theorem cellTo_val : ∀ {s : Sh1} {c : Cell} {x : s.T}, cellTo s c = some x → (s.mk x).val = c.val
  | .int k, .int k' n, x, h => by
    simp only [cellTo] at h
    split at h
    · rename_i he; obtain rfl := kindEq_eq he; cases h; rfl
    · cases h
  | .bool, .bool b, x, h => by cases h; rfl
  | .bool, .tt, x, h => by cases h; rfl
  | .bool, .ff, x, h => by cases h; rfl
  | .ptr, .ptr p, x, h => by cases h; rfl
  | .ptr, .addr p, x, h => by cases h; rfl
  | .addr, .addr p, x, h => by cases h; rfl
  | .sl, .sl p l c, x, h => by cases h; rfl
  | .str, .str s, x, h => by cases h; rfl
  | .raw, .raw v, x, h => by cases h; rfl
def cellsTo : (ss : List Sh1) → List Cell → Option (SV1 ss)
  | [], [] => some ()
  | s :: ss, c :: cs => match cellTo s c, cellsTo ss cs with
    | some x, some y => some (x, y)
    | _, _ => none
  | _, _ => none
theorem cellsTo_val : ∀ {ss : List Sh1} {cs : List Cell} {x : SV1 ss}, cellsTo ss cs = some x → (SV1.list ss x).map Cell.val = cs.map Cell.val
  | [], [], x, h => rfl
  | s :: ss, c :: cs, x, h => by
    simp only [cellsTo] at h
    split at h
    · rename_i a b ha hb
      cases h
      simp only [SV1.list, List.map_cons, cellTo_val ha, cellsTo_val hb]
    · cases h
  | [], _ :: _, x, h => by cases h
  | _ :: _, [], x, h => by cases h
def avTo : (s : Sh) → AV → Option s.T
  | .c s, .c x => cellTo s x
  | .agg ss, .agg cs => cellsTo ss cs
  | _, _ => none
theorem avTo_val : ∀ {s : Sh} {v : AV} {x : s.T}, avTo s v = some x → (s.mk x).val = v.val
  | .c s, .c c, x, h => cellTo_val (s := s) h
  | .agg ss, .agg cs, x, h => by
    show Value.agg ((SV1.list ss x).map Cell.val).toArray = Value.agg (cs.map Cell.val).toArray
    rw [cellsTo_val h]
  | .c _, .agg _, x, h => by cases h
  | .c _, .tup _, x, h => by cases h
  | .agg _, .c _, x, h => by cases h
  | .agg _, .tup _, x, h => by cases h
def avsTo : (ss : List Sh) → List AV → Option (SV ss)
  | [], [] => some ()
  | s :: ss, v :: vs => match avTo s v, avsTo ss vs with
    | some x, some y => some (x, y)
    | _, _ => none
  | _, _ => none
theorem avsTo_val : ∀ {ss : List Sh} {vs : List AV} {x : SV ss}, avsTo ss vs = some x → (SV.list ss x).map AV.val = vs.map AV.val
  | [], [], x, h => rfl
  | s :: ss, v :: vs, x, h => by
    simp only [avsTo] at h
    split at h
    · rename_i a b ha hb
      cases h
      simp only [SV.list, List.map_cons, avTo_val ha, avsTo_val hb]
    · cases h
  | [], _ :: _, x, h => by cases h
  | _ :: _, [], x, h => by cases h

/-! ### Joints -/
section
variable {P : Program} {Q : Ex → List AV → H → Prop} {h : H}
def Bd (P : Program) (l : Option Nat) (ss : List Sh) (k : SV ss → M) (Q : Ex → List AV → H → Prop) : Ex → List AV → H → Prop := fun e vs h' =>
  match e, l with
  | .normal, _ => ∃ x : SV ss, (SV.list ss x).map AV.val = vs.map AV.val ∧ wp P (k x) Q h'
  | .exit i, some j => if i = j then ∃ x : SV ss, (SV.list ss x).map AV.val = vs.map AV.val ∧ wp P (k x) Q h' else Q e vs h'
  | _, _ => Q e vs h'
theorem w_bnd {l : Option Nat} {m : M} {ss : List Sh} {k : SV ss → M} (hm : wp P m (Bd P l ss k Q) h) : wp P (.bind l m ss k) Q h := by
  simp only [wp]
  refine wp_mono hm fun e vs h' hh => ?_
  cases e <;> cases l <;> exact hh
theorem bd_n {l : Option Nat} {ss : List Sh} {k : SV ss → M} {vs : List AV} {x : SV ss} (hx : avsTo ss vs = some x) (hw : wp P (k x) Q h) : wp P (.done .normal vs) (Bd P l ss k Q) h := ⟨x, avsTo_val hx, hw⟩
theorem bd_e {j : Nat} {ss : List Sh} {k : SV ss → M} {vs : List AV} {x : SV ss} (hx : avsTo ss vs = some x) (hw : wp P (k x) Q h) : wp P (.done (.exit j) vs) (Bd P (some j) ss k Q) h := by
  show if j = j then _ else _
  rw [if_pos rfl]; exact ⟨x, avsTo_val hx, hw⟩
theorem bd_p {ss : List Sh} {k : SV ss → M} {vs : List AV} {i : Nat} (hw : wp P (.done (.exit i) vs) Q h) : wp P (.done (.exit i) vs) (Bd P none ss k Q) h := hw
theorem bd_q {j : Nat} {ss : List Sh} {k : SV ss → M} {vs : List AV} {i : Nat} (hij : i ≠ j) (hw : wp P (.done (.exit i) vs) Q h) : wp P (.done (.exit i) vs) (Bd P (some j) ss k Q) h := by
  show if i = j then _ else _
  rw [if_neg hij]; exact hw
theorem bd_r {l : Option Nat} {ss : List Sh} {k : SV ss → M} {vs : List AV} (hw : wp P (.done .ret vs) Q h) : wp P (.done .ret vs) (Bd P l ss k Q) h := hw

/-! ### Loops -/
def Ln (P : Program) (ss : List Sh) (Inv : Nat → SV ss → H → Prop) (n : Nat) (Q : Ex → List AV → H → Prop) : Ex → List AV → H → Prop := fun e vs h' => match e with
  | .normal => ∃ y m, (SV.list ss y).map AV.val = vs.map AV.val ∧ Inv m y h' ∧ m < n
  | _ => Q e vs h'
theorem w_lp {ss : List Sh} {init : List AV} {body : SV ss → M} (Inv : Nat → SV ss → H → Prop) (n0 : Nat) {x0 : SV ss} (h0 : avsTo ss init = some x0) (hI : Inv n0 x0 h)
    (hr : ∀ n x h1, Inv n x h1 → wp P (body x) (Ln P ss Inv n Q) h1) : wp P (.loop ss init body) Q h :=
  w_loopN Inv n0 x0 (avsTo_val h0) hI fun n x h1 hh => wp_mono (hr n x h1 hh) fun e vs h' hq => by cases e <;> exact hq
theorem ln_n {ss : List Sh} {Inv : Nat → SV ss → H → Prop} {n : Nat} {vs : List AV} {y : SV ss} (hy : avsTo ss vs = some y) (m : Nat) (hI : Inv m y h) (hm : m < n) : wp P (.done .normal vs) (Ln P ss Inv n Q) h := ⟨y, m, avsTo_val hy, hI, hm⟩
theorem ln_e {ss : List Sh} {Inv : Nat → SV ss → H → Prop} {n i : Nat} {vs : List AV} (hw : wp P (.done (.exit i) vs) Q h) : wp P (.done (.exit i) vs) (Ln P ss Inv n Q) h := hw
theorem ln_r {ss : List Sh} {Inv : Nat → SV ss → H → Prop} {n : Nat} {vs : List AV} (hw : wp P (.done .ret vs) Q h) : wp P (.done .ret vs) (Ln P ss Inv n Q) h := hw

/-! ### Calls by typed contracts -/
def TR (tup : Bool) (ss : List Sh) (R : SV ss → H → Prop) : Value → H → Prop := fun v h' => ∃ x, v = retVal tup ss x ∧ R x h'
/-- A call, said of the heap and of the results' own kinds. -/
def HT (P : Program) (f : FuncId) (args : List AV) (tup : Bool) (ss : List Sh) (h : H) (R : SV ss → H → Prop) : Prop := HC P f (args.map AV.val).toArray h (TR tup ss R)
theorem HT.mono {f : FuncId} {args : List AV} {tup : Bool} {ss : List Sh} {R R' : SV ss → H → Prop} (hc : HT P f args tup ss h R) (hr : ∀ x h', R x h' → R' x h') : HT P f args tup ss h R' :=
  HC.mono hc fun _ _ ⟨x, e, hx⟩ => ⟨x, e, hr x _ hx⟩
theorem w_callT {f : FuncId} {args : List AV} {tup : Bool} {ss : List Sh} {k : SV ss → M} {R : SV ss → H → Prop} (hc : HT P f args tup ss h R) (hw : ∀ x h', R x h' → wp P (k x) Q h') :
    wp P (.call f args tup ss k) Q h := HC.mono hc fun _ _ ⟨x, e, hx⟩ => ⟨x, e, hw x _ hx⟩
theorem rt_1 {s : Sh} {v : AV} {x : s.T} {R : SV [s] → H → Prop} (hx : avTo s v = some x) (hR : R (x, ()) h) : wp P (.done .ret [v]) (Ret (TR false [s] R)) h :=
  ⟨(x, ()), (avTo_val hx).symm, hR⟩
theorem compVal_eq : ∀ {s : Sh} {v : AV} {x : s.T}, avTo s v = some x → compVal (s.comp x) = v.val
  | .c s, .c c, x, h => by
    show (s.mk x).val = c.val
    exact cellTo_val (s := s) h
  | .agg ss, .agg cs, x, h => by
    show Value.agg ((SV1.list ss x).map Cell.val).toArray = Value.agg (cs.map Cell.val).toArray
    rw [cellsTo_val h]
  | .c _, .agg _, x, h => by cases h
  | .c _, .tup _, x, h => by cases h
  | .agg _, .c _, x, h => by cases h
  | .agg _, .tup _, x, h => by cases h
theorem comps_eq : ∀ {ss : List Sh} {vs : List AV} {x : SV ss}, avsTo ss vs = some x → (SV.comps ss x).map compVal = vs.map AV.val
  | [], [], x, h => rfl
  | s :: ss, v :: vs, x, h => by
    simp only [avsTo] at h
    split at h
    · rename_i a b ha hb
      cases h
      simp only [SV.comps, List.map_cons, compVal_eq ha, comps_eq hb]
    · cases h
  | [], _ :: _, x, h => by cases h
  | _ :: _, [], x, h => by cases h
theorem rt_n {ss : List Sh} {vs : List AV} {x : SV ss} {R : SV ss → H → Prop} (hl : Nat.beq vs.length 1 = false) (hx : avsTo ss vs = some x) (hR : R x h) : wp P (.done .ret vs) (Ret (TR true ss R)) h := by
  refine ⟨x, ?_, hR⟩
  have e : retV vs = .tuple (vs.map AV.val).toArray := by
    match vs, hl with
    | [], _ => rfl
    | _ :: _ :: _, _ => rfl
  rw [e, ← comps_eq hx]; rfl
end

/-! ### Pieces by their key -/
inductive Kq where
  | ow (a : PA) | tr (b : Nat) | fo (ks : List Nat) | sl (s : SlT) | ck (c : Ck) | kd (kp : Option PA) | mp (a : PA)
class Pk (q : Kq) (l : List Ck) (c : outParam Ck) (r : outParam (List Ck)) : Prop where
  perm : l.Perm (c :: r)
instance pk_tail {q : Kq} {d c : Ck} {l r : List Ck} [Pk q l c r] : Pk q (d :: l) c (d :: r) := ⟨((Pk.perm q).cons d).trans (List.Perm.swap ..)⟩
instance pk_ow {a : PA} {vs : List Value} {k : Nat} {l : List Ck} : Pk (.ow a) (Ow a vs k :: l) (Ow a vs k) l := ⟨.refl _⟩
instance pk_sl {s : SlT} {sz : Nat} {vs : List Value} {l : List Ck} : Pk (.sl s) (SlC s sz vs :: l) (SlC s sz vs) l := ⟨.refl _⟩
instance pk_tr {I : Type} {L : Lay I} {iso : Int} {n b : Nat} {t : BT I n} {l : List Ck} : Pk (.tr b) (TrC L iso n b t :: l) (TrC L iso n b t) l := ⟨.refl _⟩
instance pk_fo {I : Type} {L : Lay I} {iso : Int} {n : Nat} {ks : List Nat} {ts : List (BT I n)} {l : List Ck} : Pk (.fo ks) (FoC L iso n ks ts :: l) (FoC L iso n ks ts) l := ⟨.refl _⟩
instance pk_ck {c : Ck} {l : List Ck} : Pk (.ck c) (c :: l) c l := ⟨.refl _⟩

section
variable {P : Program} {Q : Ex → List AV → H → Prop} {h h0 : H} {G0 : PA → Prop} {l : List Ck}
theorem St.at (s : St h0 G0 l h) (q : Kq) {c : Ck} {r : List Ck} [Pk q l c r] : St h0 G0 (c :: r) h := s.perm (Pk.perm q)
theorem St.fct (s : St h0 G0 l h) (q : Kq) {c : Ck} {r : List Ck} [Pk q l c r] : ∃ F, c.p h F := (s.at q).fact
theorem St.del (s : St h0 G0 l h) (q : Kq) {c : Ck} {r : List Ck} [Pk q l c r] : St h0 G0 r h := (s.at q).drop
class Pks (qs : List Kq) (l : List Ck) (cs : outParam (List Ck)) (r : outParam (List Ck)) (m : outParam (List Ck)) : Prop where
  perm : l.Perm (cs ++ r)
  eq : m = cs ++ r
instance pks_nil {l : List Ck} : Pks [] l [] l l := ⟨.refl _, rfl⟩
instance pks_cons {q : Kq} {qs : List Kq} {l m r m' : List Ck} {c : Ck} {cs : List Ck} [Pk q l c m] [Pks qs m cs r m'] : Pks (q :: qs) l (c :: cs) r (c :: m') :=
  ⟨(Pk.perm q).trans ((Pks.perm qs (m := m')).cons c), by rw [Pks.eq (qs := qs) (l := m) (cs := cs) (r := r) (m := m')]; rfl⟩
/-- These to the front, in this order. -/
theorem St.ats (s : St h0 G0 l h) (qs : List Kq) {cs r m : List Ck} [Pks qs l cs r m] : St h0 G0 m h := by
  rw [Pks.eq (qs := qs) (l := l) (cs := cs) (r := r) (m := m)]
  exact s.perm (Pks.perm qs (m := m))
/-- These alone. -/
theorem St.only (s : St h0 G0 l h) (qs : List Kq) {cs r m : List Ck} [Pks qs l cs r m] : St h0 G0 cs h := (s.perm (Pks.perm qs (m := m))).left
theorem St.dels (s : St h0 G0 l h) (qs : List Kq) {cs r m : List Ck} [Pks qs l cs r m] : St h0 G0 r h := by
  have := s.perm (Pks.perm qs (m := m))
  have := this.perm (List.perm_append_comm)
  exact this.left
/-- A call by its contract, with the pieces of these keys. -/
theorem st_callT (s : St h0 G0 l h) (qs : List Kq) {cs r m : List Ck} [Pks qs l cs r m] {f : FuncId} {args : List AV} {tup : Bool} {ss : List Sh} {k : SV ss → M} {R : SV ss → List Ck → Prop}
    (hc : ∀ G, Star cs h G → HT P f args tup ss h fun x h' => ∃ post, R x post ∧ St h G post h')
    (hw : ∀ x post h', R x post → St h0 G0 (post ++ r) h' → wp P (k x) Q h') : wp P (.call f args tup ss k) Q h := by
  have s' := s.perm (Pks.perm qs (m := m))
  refine st_call (R := fun v post => ∃ x, v = retVal tup ss x ∧ R x post) s' (fun G hG => HC.mono (hc G hG) fun v h' ⟨x, e, post, hR, hS⟩ => ⟨post, ⟨x, e, hR⟩, hS⟩) ?_
  rintro v post h' ⟨x, e, hR⟩ hS
  exact ⟨x, e, hw x post h' hR hS⟩
/-- The same, the arguments said in another way. -/
theorem st_callV (s : St h0 G0 l h) (qs : List Kq) {cs r m : List Ck} [Pks qs l cs r m] {f : FuncId} {args args' : List AV} {tup : Bool} {ss : List Sh} {k : SV ss → M} {R : SV ss → List Ck → Prop}
    (ha : args'.map AV.val = args.map AV.val) (hc : ∀ G, Star cs h G → HT P f args' tup ss h fun x h' => ∃ post, R x post ∧ St h G post h')
    (hw : ∀ x post h', R x post → St h0 G0 (post ++ r) h' → wp P (k x) Q h') : wp P (.call f args tup ss k) Q h :=
  st_callT s qs (fun G hG => by unfold HT; rw [← ha]; exact hc G hG) hw
theorem w_callV {f : FuncId} {args args' : List AV} {tup : Bool} {ss : List Sh} {k : SV ss → M} {R : SV ss → H → Prop} (ha : args'.map AV.val = args.map AV.val) (hc : HT P f args' tup ss h R) (hw : ∀ x h', R x h' → wp P (k x) Q h') :
    wp P (.call f args tup ss k) Q h := w_callT (by unfold HT; rw [← ha]; exact hc) hw
/-- The same where the heap stays as it is. -/
theorem St.star (s : St h0 G0 l h) (qs : List Kq) {cs r m : List Ck} [Pks qs l cs r m] : ∃ G, Star cs h G := by
  obtain ⟨⟨G, h1, _⟩, _⟩ := s.perm (Pks.perm qs (m := m))
  obtain ⟨A, _, a1, _⟩ := h1.split
  exact ⟨A, a1⟩
theorem st_callR (s : St h0 G0 l h) (qs : List Kq) {cs r m : List Ck} [Pks qs l cs r m] {f : FuncId} {args : List AV} {tup : Bool} {ss : List Sh} {k : SV ss → M} {R : SV ss → Prop}
    (hc : ∀ G, Star cs h G → HT P f args tup ss h fun x h' => R x ∧ h' = h) (hw : ∀ x, R x → wp P (k x) Q h) : wp P (.call f args tup ss k) Q h := by
  obtain ⟨G, hG⟩ := s.star qs
  exact w_callT (hc G hG) fun x h' ⟨hx, e⟩ => e ▸ hw x hx

theorem beq_t {a b : Int} (h : a = b) : (a == b) = true := by simp [h]
theorem beq_f {a b : Int} (h : a ≠ b) : (a == b) = false := by simp [h]
theorem lt_t {a b : Int} (h : a < b) : decide (a < b) = true := decide_eq_true h
theorem lt_f {a b : Int} (h : b ≤ a) : decide (a < b) = false := decide_eq_false (by omega)
theorem toNat_succ (n : Nat) : ((n : Int) + 1).toNat = n + 1 := by omega
theorem toNat_succ2 (n : Nat) : ((n : Int) + 2).toNat = n + 2 := by omega
theorem toNat_pred (n : Nat) : ((n : Int) - 1).toNat = n - 1 := by omega
theorem lt_ble {a b : Nat} (h : Nat.ble (a + 1) b = true) : a < b := Nat.le_of_ble_eq_true h
theorem St.old (s : St h0 G0 l h) {a : PA} {v : Value} (ha : Go.Proofs.Ytkhpbcckaenmcaa.rd h0 a = some v) (hn : ¬ G0 a) : Go.Proofs.Ytkhpbcckaenmcaa.rd h a = some v := by
  rw [s.fr.rd a (rd_lt ha) hn]; exact ha
theorem tr_iso {I : Type} {L : Lay I} {iso : Int} : ∀ {n b : Nat} {t : BT I n} {F : PA → Prop}, Tr L iso n h b t F → rd h (b, 0) = some (.int .u64 iso)
  | 0, _, _, _, ⟨_, h1, _⟩ => h1.rd 0 _ rfl
  | _ + 1, _, _, _, ⟨_, _, _, _, _, h1, _⟩ => h1.rd 0 _ rfl
theorem tr_count {I : Type} {L : Lay I} {iso : Int} : ∀ {n b : Nat} {t : BT I n} {F : PA → Prop}, Tr L iso n h b t F → rd h (b, 1) = some (.int .i64 (flatB n t).length)
  | 0, _, _, _, ⟨_, h1, _⟩ => h1.rd 1 _ rfl
  | _ + 1, _, _, _, ⟨_, _, _, _, _, h1, _⟩ => h1.rd 1 _ rfl
/-! ### Slices in pieces -/
theorem ld_sls (s : St h0 G0 l h) {a : PA} {vs : List Value} {j k : Nat} {l' : List Value → List Ck} [Fi l a vs j k l'] {p : PA} {n c : Nat} {m : SlT → M} (hv : vs[j]? = some (.slice (some p.val) n c))
    (hw : wp P (m (some p, n, c)) Q h) : wp P (.load a .sl m) Q h := ⟨(some p, n, c), s.rd hv, hw⟩
theorem ld_sln (s : St h0 G0 l h) {a : PA} {vs : List Value} {j k : Nat} {l' : List Value → List Ck} [Fi l a vs j k l'] {n c : Nat} {m : SlT → M} (hv : vs[j]? = some (.slice none n c))
    (hw : wp P (m (none, n, c)) Q h) : wp P (.load a .sl m) Q h := ⟨(none, n, c), s.rd hv, hw⟩
/-- append onto cells that are ours. -/
theorem st_app {I : Type} {L : Lay I} (s : St h0 G0 l h) {p : PA} {xs ys : List I} {n c k : Nat} {r : List Ck} {kk : Nat} [Pk (.ow p) l (Ow p (L.flat xs) kk) r] {e : TypeId} {byt sz : Nat} {z : List Cell} {sp : Option PA} {sc : Nat} {m : SlT → M}
    (hsz : sz = L.sz) (hkk : kk = (c - n) * L.sz) (hn : n = xs.length) (hc : n ≤ c) (hz : z.length = L.sz) (hy : k = ys.length) (hs : RSl h (sp, k, sc) L.sz (L.flat ys)) (hg : growOk (n + k) byt)
    (hw : ∀ p' c' h', n + k ≤ c' → St h0 G0 (Ow p' (L.flat (xs ++ ys)) ((c' - (n + k)) * L.sz) :: r) h' → wp P (m (some p', n + k, c')) Q h') : wp P (.append e sz byt z (some p, n, c) (sp, k, sc) m) Q h := by
  subst hsz
  have S := (s.at (.ow p)).re p (L.flat xs) ((c - n) * L.sz) rfl rfl hkk
  have S := S.close_sl (n := n) (c := c) (sz := L.sz) hc (by rw [L.flat_length, hn])
  refine st_append S hz hs (L.flat_one ys) hg fun d' h' S hlen hsome => ?_
  obtain ⟨p', n', c', rfl, h1, h2, S⟩ := S.open_sl (hsome (.inr rfl))
  dsimp only at hlen
  subst hlen
  exact hw p' c' h' h1 (S.re p' _ _ rfl (L.flat_append xs ys).symm rfl)
/-- append onto a slice that is ours. -/
theorem st_aps {I : Type} {L : Lay I} (s : St h0 G0 l h) {d : SlT} {xs ys : List I} {r : List Ck} [Pk (.sl d) l (SlC d L.sz (L.flat xs)) r] {e : TypeId} {byt sz : Nat} {z : List Cell} {src : SlT} {m : SlT → M}
    (hsz : sz = L.sz) (hz : z.length = L.sz) (hn : d.2.1 = xs.length) (hy : src.2.1 = ys.length) (hs : RSl h src L.sz (L.flat ys)) (hg : growOk (xs.length + ys.length) byt)
    (hw : ∀ d' h', d'.2.1 = xs.length + ys.length → St h0 G0 (SlC d' L.sz (L.flat (xs ++ ys)) :: r) h' → wp P (m d') Q h') : wp P (.append e sz byt z d src m) Q h := by
  subst hsz
  refine st_append (s.at (.sl d)) hz hs (L.flat_one ys) (by rw [hn, hy]; exact hg) fun d' h' S hlen hsome => ?_
  rw [hn, hy] at hlen
  rw [← L.flat_append] at S
  exact hw d' h' hlen S
/-- A slice of which what is read lies in a piece. -/
theorem St.rsI {I : Type} {L : Lay I} (s : St h0 G0 l h) {a : PA} {xs : List I} {k : Nat} {l' : List Value → List Ck} [Fi l a (L.flat xs) 0 k l'] {n : Nat} (hn : n = xs.length) (c : Nat) : RSl h (some a, n, c) L.sz (L.flat xs) :=
  s.rsl (L.flat xs) n c L.sz (fun i v h => by rw [Nat.zero_add]; exact h) (by rw [hn]; exact L.flat_length xs)
/-- A part of it. -/
theorem St.rsP {I : Type} {L : Lay I} (s : St h0 G0 l h) {p : PA} {xs : List I} {k : Nat} {l' : List Value → List Ck} [Fi l p (L.flat xs) 0 k l'] (b c n : Nat) (hb : b + n ≤ xs.length) (hc : xs.length ≤ c) : RSl h (slBase (some p) c b L.sz, n, c - b) L.sz (L.flat ((xs.drop b).take n)) := by
  refine ⟨by rw [L.flat_length, List.length_take, List.length_drop]; show min n (xs.length - b) * _ = n * _; rw [Nat.min_eq_left (by omega)], ?_⟩
  by_cases hn : n = 0
  · left; subst hn; rfl
  · right
    refine ⟨_, slBase_in (by omega), ?_⟩
    haveI := fi_shift (l := l) (a := p) (vs := L.flat xs) (k := k) (l' := l') (b * L.sz)
    refine s.rds (vs := L.flat xs) (j := b * L.sz) _ fun i v hi => ?_
    rw [← L.flat_take, ← L.flat_drop, List.getElem?_take] at hi
    split at hi
    · rw [List.getElem?_drop] at hi; exact hi
    · cases hi
end
end Go.Proofs.Ytkhpbcckaenmcaa
