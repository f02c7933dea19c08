/-
  From the heap to the row: moves among the arguments. Conditions: none.
-/
import Derived.Test.YtlmiafbcgfegpaaLift
import Derived.Test.YtlmiafbcgfegpaaItm
set_option linter.unusedVariables false
set_option linter.unusedSimpArgs false
set_option linter.unusedSectionVars false
set_option maxRecDepth 100000
namespace Go.Proofs.Ytlmiafbcgfegpaa
open Go Go.ChangeShapes Go.WideShapes Go.ChangeAt Go.RowKit Go.Deep
section
variable {H' : Type} {enc : TypeId × Value → H'} {W W' : World}
theorem open_movesG {P : Program} {t e u : TypeId} {fs gs : Array Field} {d : DataW H'} {v : Value} {p : List MemPlace} {base : Nat} (ht : P.underlying t = some (.slice e)) (he : P.underlying e = some (.struct fs)) (hc : P.cellsOf e = 3)
    (hfs : fs.size = 2) (hf0 : (fs[0]?).map (fun f => (f.offset, P.cellsOf f.type)) = some (0, 1)) (hf1 : (fs[1]?).map (fun f => (f.offset, P.cellsOf f.type, f.type)) = some (1, 2, u)) (h0 : (fs[0]?).bind (fun f => P.underlying f.type) = some (.int .i64))
    (hu : P.underlying u = some (.struct gs)) (hgs : gs.size = 2) (hone : oneCellFields P gs = true) (k0 : (gs[0]?).bind (fun f => P.underlying f.type) = some (.int .i64)) (k1 : (gs[1]?).bind (fun f => P.underlying f.type) = some (.int .i64))
    (hv : Value.okWide P W .any base t v) (h : DataW.Trod enc P W 0 (fun _ => true) true t v d p) :
    ∃ (sp : Option PA) (n cap : Nat) (xs : List MV), v = Cell.val (.sl sp n cap) ∧ Rdr (BaC W.heap) (sp, n, cap) LM xs := by
  have hv0 : Cell.ok P W .any base t v := by simpa [Value.okWide, Cell.okWide, ht] using hv
  obtain ⟨fuel, hf⟩ := h
  rcases open_slice ht hf with ⟨h1, _⟩ | ⟨a, len, cap, m, n, D, Pl, hcs, _, hl, hm, hmm, _, hi⟩
  · have : v = .slice none 0 0 := by cases v <;> simp_all [Value.cells, Cell.ok]
    subst this
    exact ⟨none, 0, 0, [], rfl, Rdr.nil⟩
  · have : v = .slice (some a) len cap := by cases v <;> simp_all [Value.cells, Cell.ok]
    subst this
    obtain ⟨b, o, spot⟩ := a
    have hs : spot = none := by
      simp only [Cell.ok, ht] at hv0
      exact hv0.2.2.2.1
    subst hs
    simp only [if_true] at hmm
    subst hmm
    have hall : ∀ i, i < m → ∃ x : MV, rd W.heap (b, o + (i * 3 + 0)) = some (.int .i64 x.1) ∧ rd W.heap (b, o + (i * 3 + 1)) = some (.int .i64 x.2.1) ∧ rd W.heap (b, o + (i * 3 + 2)) = some (.int .i64 x.2.2) := by
      intro i him
      obtain ⟨cs', hcells, hd⟩ := hi i him
      rw [hc] at hcells
      obtain ⟨ys, n', _, _, hlen, hyl, hfd⟩ := DataW.trod_struct he hd
      obtain ⟨_, hcl, hat⟩ := World.cells?_some hcells
      match cs', hcl with
      | [c0, c1, c2], _ =>
        obtain ⟨f0, hf0', hu0⟩ := Option.bind_eq_some_iff.1 h0
        obtain ⟨f1, hf1', e1⟩ := Option.map_eq_some_iff.1 hf1
        rw [hf0'] at hf0
        simp only [Option.map_some, Option.some.injEq, Prod.mk.injEq] at hf0 e1
        have g0 := hfd 0 f0 hf0'
        have g1 := hfd 1 f1 hf1'
        rw [hf0.1, hf0.2] at g0
        rw [e1.1, e1.2.1] at g1
        have y0 : ys[0]? = some (ys[0]'(by omega)) := List.getElem?_eq_getElem (by omega)
        have y1 : ys[1]? = some (ys[1]'(by omega)) := List.getElem?_eq_getElem (by omega)
        obtain ⟨x0, q0, _, _⟩ := DataW.trod_int hu0 (g0.trans y0)
        obtain ⟨zs, n2, _, _, hlen2, hzl, hzd⟩ := DataW.trod_struct (by rw [e1.2.2]; exact hu) (g1.trans y1)
        obtain ⟨r0, hr0, hv0'⟩ := Option.bind_eq_some_iff.1 k0
        obtain ⟨r1, hr1, hv1'⟩ := Option.bind_eq_some_iff.1 k1
        obtain ⟨o0, w0⟩ := hone_of hone 0 r0 hr0
        obtain ⟨o1, w1⟩ := hone_of hone 1 r1 hr1
        have z0 := hzd 0 r0 hr0
        have z1 := hzd 1 r1 hr1
        rw [o0, w0] at z0; rw [o1, w1] at z1
        have y2 : zs[0]? = some (zs[0]'(by omega)) := List.getElem?_eq_getElem (by omega)
        have y3 : zs[1]? = some (zs[1]'(by omega)) := List.getElem?_eq_getElem (by omega)
        obtain ⟨x1, q1, _, _⟩ := DataW.trod_int hv0' (z0.trans y2)
        obtain ⟨x2, q2, _, _⟩ := DataW.trod_int hv1' (z1.trans y3)
        simp at q0 q1 q2
        subst q0; subst q1; subst q2
        have a0 := hat 0 (by omega)
        have a1 := hat 1 (by omega)
        have a2 := hat 2 (by omega)
        rw [Go.Deep.add_add, rd_add] at a0 a1 a2
        exact ⟨(x0, x1, x2), by simpa using a0, by simpa using a1, by simpa using a2⟩
    obtain ⟨xs, hxl, hx⟩ := pick_list m hall
    refine ⟨some (b, o), len, m, xs.take len, rfl, ?_⟩
    refine BaC.rdr (by simp [hxl]; omega) hl (.inr ⟨_, rfl, rds_flat fun i x hi' j v hj => ?_⟩)
    have hxi : xs[i]? = some x := by rw [List.getElem?_take] at hi'; split at hi'; exact hi'; cases hi'
    obtain ⟨r0, r1, r2⟩ := hx i x hxi
    match j, hj with
    | 0, hj => simp only [LM, List.getElem?_cons_zero, Option.some.injEq] at hj; subst hj; exact r0
    | 1, hj => simp only [LM, List.getElem?_cons_succ, List.getElem?_cons_zero, Option.some.injEq] at hj; subst hj; exact r1
    | 2, hj => simp only [LM, List.getElem?_cons_succ, List.getElem?_cons_zero, Option.some.injEq] at hj; subst hj; exact r2
    | j + 3, hj => simp [LM] at hj
theorem open_moves {d : DataW H'} {v : Value} {p : List MemPlace} {base : Nat} (hv : Value.okWide Try.prog W .any base ty_sl_impl_Move v) (h : DataW.Trod enc Try.prog W 0 (fun _ => true) true ty_sl_impl_Move v d p) :
    ∃ (sp : Option PA) (n cap : Nat) (xs : List MV), v = Cell.val (.sl sp n cap) ∧ Rdr (BaC W.heap) (sp, n, cap) LM xs :=
  open_movesG (e := ty_impl_Move) (u := ty_impl_Item) (fs := fsOf (Try.prog.underlying ty_impl_Move)) (gs := fsOf (Try.prog.underlying ty_impl_Item)) (by kernel_rfl) (by kernel_rfl) (by kernel_rfl) (by kernel_rfl) (by kernel_rfl) (by kernel_rfl) (by kernel_rfl) (by kernel_rfl) (by kernel_rfl) (by kernel_rfl) (by kernel_rfl) (by kernel_rfl) hv h
end
end Go.Proofs.Ytlmiafbcgfegpaa
