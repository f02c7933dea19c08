/-
  The reading of a pure operation is right. Conditions: none.
-/
import Derived.Test.YtkhpbcckaenmcaaDecA
namespace Go.Proofs.Ytkhpbcckaenmcaa
open Go

structure Rel (n : Nat) (r : Regs) (a : Act) : Prop where
  val : ∀ t v, r t = some v → a.tmps.getD t undef = v.val
  size : a.tmps.size = n
  defers : a.defers = []

theorem ofV1_val {v : Value} {c : Cell} (h : ofV1 v = some c) : c.val = v := by
  unfold ofV1 at h
  split at h <;> simp at h <;> subst h <;> rfl

theorem ofVs_val : ∀ {vs : List Value} {cs : List Cell}, ofVs vs = some cs → cs.map Cell.val = vs
  | [], cs, h => by simp [ofVs] at h; subst h; rfl
  | v :: vs, cs, h => by
    simp only [ofVs] at h
    split at h
    · rename_i c cs' h1 h2
      simp at h; subst h
      simp [ofV1_val h1, ofVs_val h2]
    · simp at h

theorem ofV_val {v : Value} {av : AV} (h : ofV v = some av) : av.val = v := by
  unfold ofV at h
  split at h
  · rename_i cs
    simp only [Option.map_eq_some_iff] at h
    obtain ⟨l, h1, rfl⟩ := h
    simp [AV.val, ofVs_val h1]
  · simp only [Option.map_eq_some_iff] at h
    obtain ⟨l, h1, rfl⟩ := h
    exact ofV1_val h1

section
variable {P : Program} {n : Nat} {r : Regs} {a : Act} {Q : Ex → List AV → H → Prop} {h : H}

theorem Rel.eval (hr : Rel n r a) {x : Operand} {v : AV} (hv : evo r x = some v) : a.eval x = v.val := by
  cases x with
  | tmp t => exact hr.val t v hv
  | const u => exact (ofV_val hv).symm
  | global g => simp [evo] at hv; subst hv; rfl
  | func f => simp [evo] at hv; subst hv; rfl

theorem ev_wp {x : Operand} {k : AV → M} (hw : wp P (ev r x k) Q h) : ∃ v, evo r x = some v ∧ wp P (k v) Q h := by
  unfold ev at hw
  split at hw
  · exact ⟨_, ‹_›, hw⟩
  · exact hw.elim

theorem evs_wp (hr : Rel n r a) : ∀ {xs : List Operand} {k : List AV → M}, wp P (evs r xs k) Q h → ∃ vs, xs.map a.eval = vs.map AV.val ∧ wp P (k vs) Q h
  | [], k, hw => ⟨[], rfl, hw⟩
  | x :: xs, k, hw => by
    obtain ⟨v, hv, hw⟩ := ev_wp hw
    obtain ⟨vs, hvs, hw⟩ := evs_wp hr hw
    exact ⟨v :: vs, by simp [hr.eval hv, hvs], hw⟩

theorem evParts_wp (hr : Rel n r a) : ∀ {xs : List (Nat × Operand)} {k : List (Nat × AV) → M}, wp P (evParts r xs k) Q h →
    ∃ vs, xs.map (fun x => (x.1, a.eval x.2)) = vs.map (fun x => (x.1, x.2.val)) ∧ wp P (k vs) Q h
  | [], k, hw => ⟨[], rfl, hw⟩
  | (i, x) :: xs, k, hw => by
    obtain ⟨v, hv, hw⟩ := ev_wp hw
    obtain ⟨vs, hvs, hw⟩ := evParts_wp hr hw
    exact ⟨(i, v) :: vs, by simp [hr.eval hv, hvs], hw⟩

theorem evInt_wp (hr : Rel n r a) {x : Operand} {k : Int → M} (hw : wp P (evInt r x k) Q h) : ∃ kd m, a.eval x = .int kd m ∧ wp P (k m) Q h := by
  obtain ⟨v, hv, hw⟩ := ev_wp hw
  split at hw
  · exact ⟨_, _, hr.eval hv, hw⟩
  · exact hw.elim

theorem evIntO_wp (hr : Rel n r a) {x : Option Operand} {k : Option Int → M} (hw : wp P (evIntO r x k) Q h) :
    (x = none ∧ wp P (k none) Q h) ∨ ∃ kd m y, x = some y ∧ a.eval y = .int kd m ∧ wp P (k (some m)) Q h := by
  cases x with
  | none => exact .inl ⟨rfl, hw⟩
  | some x =>
    obtain ⟨kd, m, h1, h2⟩ := evInt_wp hr hw
    exact .inr ⟨kd, m, x, rfl, h1, h2⟩
end

theorem mulN_eq (n sz : Nat) : mulN n sz = n * sz := by
  unfold mulN; split <;> simp
theorem kindEq_eq {a b : IntKind} (h : kindEq a b = true) : a = b := by
  cases a <;> cases b <;> first | rfl | (simp [kindEq] at h)

/-! ### What the program's tables say -/
section
variable {P : Program} {t : TypeId}

theorem size_of_sizeT {n : Nat} (hs : sizeT P t = some n) : ∃ i, P.info? t = some i ∧ i.size = n := by
  simpa [sizeT] using hs
theorem under_of_elemT {e : TypeId} (he : elemT P t = some e) : P.underlying t = some (.slice e) := by
  unfold elemT at he
  split at he
  · simp at he; subst he; assumption
  · simp at he
theorem run_sizeOf {n : Nat} (hs : sizeT P t = some n) (w : World) : (sizeOf t).run P w = .ok n w := by
  obtain ⟨i, hi, rfl⟩ := size_of_sizeT hs
  simp [sizeOf, typeInfo, hi]
theorem aggT_some {b : Bool} (h : aggT P t = some b) (w : World) : (isAgg t).run P w = .ok b w := by
  unfold aggT at h
  split at h <;> simp at h <;> subst h
  · simp [isAgg, run_underlying ‹_›]
  · simp [isAgg, run_underlying ‹_›]
  · rename_i d h1 h2 h3
    simp only [isAgg, Sem.run_bind, run_underlying h3, Result.andThen_ok]
    cases d <;> first | rfl | exact (h1 _ rfl).elim | exact (h2 _ _ rfl).elim
theorem fieldT_some {f off : Nat} {u : TypeId} (h : fieldT P t f = some (off, u)) : ∃ fs fld, P.underlying t = some (.struct fs) ∧ fs[f]? = some fld ∧ fld.offset = off ∧ fld.type = u := by
  unfold fieldT at h
  split at h
  · rename_i fs hu
    simp only [Option.map_eq_some_iff, Prod.mk.injEq] at h
    obtain ⟨x, hx, h1, h2⟩ := h
    exact ⟨fs, x, hu, hx, h1, h2⟩
  · simp at h
end

theorem run_boundOk {P : Program} {kd : IntKind} {i : Int} {y : Nat} {cd : BoundsCode} (h : 0 ≤ i ∧ i ≤ y) (w : World) :
    (Instr.sliceBound (.int kd i) y cd).run P w = .ok i.toNat w := by
  simp [Instr.sliceBound, asIntOf, h.1, h.2]

theorem sl_base_val (p : Option PA) (m lo sz : Nat) : (if m = lo then p.map PA.val else (p.map PA.val).map (·.add (lo * sz))) = (slBase p m lo sz).map PA.val := by
  simp only [slBase, mulN_eq]
  split
  · rfl
  · cases p with
    | none => rfl
    | some a =>
      simp only [Option.map_some, Option.some.injEq, Addr.add, PA.val]
      split
      · rename_i h; rw [h]; rfl
      · rfl

theorem add_val (p : PA) (n : Nat) : p.val.add n = PA.val (p.1, p.2 + n) := by
  unfold Addr.add PA.val
  split
  · rename_i h; rw [h]; rfl
  · rfl

/-- The three bounds of a slice expression. -/
theorem run_slice3 {P : Program} {Q : Ex → List AV → H → Prop} {h : H} (isSlice : Bool) {p : Option PA} {l c sz : Nat} {k : AV → M}
    {lo hi mx : Option Int} {vlo vhi vmx : Option Value} (hlo : vlo = none ∧ lo = none ∨ ∃ kd n, vlo = some (.int kd n) ∧ lo = some n)
    (hhi : vhi = none ∧ hi = none ∨ ∃ kd n, vhi = some (.int kd n) ∧ hi = some n)
    (hmx : vmx = none ∧ mx = none ∨ ∃ kd n, vmx = some (.int kd n) ∧ mx = some n)
    (hw : wp P (sliceOp p l c sz lo hi mx k) Q h) :
    ∃ L Hh Mm, (∀ w, (Instr.sliceBounds isSlice l c vlo vhi vmx).run P w = .ok (L, Hh, Mm) w) ∧ wp P (k (.c (.sl (slBase p Mm L sz) (Hh - L) (Mm - L)))) Q h := by
  rcases hlo with ⟨rfl, rfl⟩ | ⟨k1, x1, rfl, rfl⟩ <;> rcases hhi with ⟨rfl, rfl⟩ | ⟨k2, x2, rfl, rfl⟩ <;> rcases hmx with ⟨rfl, rfl⟩ | ⟨k3, x3, rfl, rfl⟩ <;>
    simp only [sliceOp, wp] at hw
  · exact ⟨0, l, c, fun w => by simp [Instr.sliceBounds], hw⟩
  · exact ⟨0, x2.toNat, c, fun w => by simp [Instr.sliceBounds, run_boundOk hw.1], hw.2⟩
  · exact ⟨0, x2.toNat, x3.toNat, fun w => by simp [Instr.sliceBounds, run_boundOk hw.1.1, run_boundOk hw.1.2], hw.2⟩
  · exact ⟨x1.toNat, l, c, fun w => by simp [Instr.sliceBounds, run_boundOk hw.1], hw.2⟩
  · exact ⟨x1.toNat, x2.toNat, c, fun w => by simp [Instr.sliceBounds, run_boundOk hw.1.1, run_boundOk hw.1.2], hw.2⟩
  · exact ⟨x1.toNat, x2.toNat, x3.toNat, fun w => by simp [Instr.sliceBounds, run_boundOk hw.1.1, run_boundOk hw.1.2.1, run_boundOk hw.1.2.2], hw.2⟩

theorem setCells_val : ∀ (new cs : List Cell) (off : Nat),
    ((setCells cs off new).map Cell.val).toArray = (new.map Cell.val).toArray.zipIdx.foldl (fun a (c, j) => a.setIfInBounds (off + j) c) (cs.map Cell.val).toArray := by
  have key : ∀ (new cs : List Cell) (off i : Nat),
    ((setCells cs (off + i) new).map Cell.val).toArray = ((new.map Cell.val).zipIdx i).foldl (fun a (c, j) => a.setIfInBounds (off + j) c) (cs.map Cell.val).toArray := by
    intro new
    induction new with
    | nil => intro cs off i; simp [setCells]
    | cons c r ih =>
      intro cs off i
      simp only [setCells, List.map_cons, List.zipIdx_cons, List.foldl_cons]
      have := ih (cs.set (off + i) c) off (i + 1)
      rw [show off + i + 1 = off + (i + 1) by omega, this]
      congr 1
      simp
  intro new cs off
  have := key new cs off 0
  simpa using this

theorem setCells_length : ∀ (new cs : List Cell) (off : Nat), (setCells cs off new).length = cs.length
  | [], cs, off => rfl
  | c :: r, cs, off => by simp [setCells, setCells_length r]

theorem Cell.cells_val (c : Cell) : c.val.cells = #[c.val] := by
  cases c <;> try rfl
  rename_i v
  cases v <;> rfl
theorem cells_val {v : AV} (h : isTup v = false) : v.val.cells = ((cellsAV v).map Cell.val).toArray := by
  cases v with
  | c x => simp [AV.val, cellsAV, x.cells_val]
  | agg cs => rfl
  | tup vs => simp [isTup] at h

end Go.Proofs.Ytkhpbcckaenmcaa
