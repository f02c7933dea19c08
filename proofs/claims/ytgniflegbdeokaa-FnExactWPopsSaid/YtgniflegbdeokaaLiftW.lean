/-
  From the heap to the row: words and strings among the arguments. Conditions: none.
-/
import Derived.Test.YtgniflegbdeokaaLift
import Derived.Test.YtgniflegbdeokaaWsp
import Derived.ChangeMaps5
set_option linter.unusedVariables false
set_option linter.unusedSimpArgs false
set_option linter.unusedSectionVars false
set_option maxRecDepth 100000
namespace Go.Proofs.Ytgniflegbdeokaa
open Go Go.ChangeShapes Go.WideShapes Go.ChangeAt Go.RowKit Go.Deep
section
variable {H' : Type} {enc : TypeId × Value → H'} {W W' : World}
theorem open_wordsG {P : Program} {t e : TypeId} {fs : Array Field} {d : DataW H'} {v : Value} {p : List MemPlace} {base : Nat} (ht : P.underlying t = some (.slice e)) (he : P.underlying e = some (.struct fs)) (hc : P.cellsOf e = 2)
    (hfs : fs.size = 2) (hone : oneCellFields P fs = true) (h0 : (fs[0]?).bind (fun f => P.underlying f.type) = some .string) (h1 : (fs[1]?).bind (fun f => P.underlying f.type) = some (.int .i64))
    (hv : Value.okWide P W .any base t v) (h : DataW.Trod enc P W 0 (fun _ => true) true t v d p) :
    ∃ (sp : Option PA) (n cap : Nat) (xs : List WV), v = Cell.val (.sl sp n cap) ∧ Rdr (BaC W.heap) (sp, n, cap) LW xs := by
  have hv0 : Cell.ok P W .any base t v := by simpa [Value.okWide, Cell.okWide, ht] using hv
  obtain ⟨fuel, hf⟩ := h
  rcases open_slice ht hf with ⟨h1, _⟩ | ⟨a, len, cap, m, n, D, Pl, hcs, _, hl, hm, hmm, _, hi⟩
  · have : v = .slice none 0 0 := by cases v <;> simp_all [Value.cells, Cell.ok]
    subst this
    exact ⟨none, 0, 0, [], rfl, Rdr.nil⟩
  · have : v = .slice (some a) len cap := by cases v <;> simp_all [Value.cells, Cell.ok]
    subst this
    obtain ⟨b, o, spot⟩ := a
    have hs : spot = none := by
      simp only [Cell.ok, ht] at hv0
      exact hv0.2.2.2.1
    subst hs
    simp only [if_true] at hmm
    subst hmm
    have hall : ∀ i, i < m → ∃ x : WV, rd W.heap (b, o + (i * 2 + 0)) = some (.string x.1) ∧ rd W.heap (b, o + (i * 2 + 1)) = some (.int .i64 x.2) := by
      intro i him
      obtain ⟨cs', hcells, hd⟩ := hi i him
      rw [hc] at hcells
      obtain ⟨ys, n', _, _, hlen, hyl, hfd⟩ := DataW.trod_struct he hd
      obtain ⟨_, hcl, hat⟩ := World.cells?_some hcells
      match cs', hcl with
      | [c0, c1], _ =>
        obtain ⟨f0, hf0, hu0⟩ := Option.bind_eq_some_iff.1 h0
        obtain ⟨f1, hf1, hu1⟩ := Option.bind_eq_some_iff.1 h1
        obtain ⟨o0, k0⟩ := hone_of hone 0 f0 hf0
        obtain ⟨o1, k1⟩ := hone_of hone 1 f1 hf1
        have g0 := hfd 0 f0 hf0
        have g1 := hfd 1 f1 hf1
        rw [o0, k0] at g0; rw [o1, k1] at g1
        have y0 : ys[0]? = some (ys[0]'(by omega)) := List.getElem?_eq_getElem (by omega)
        have y1 : ys[1]? = some (ys[1]'(by omega)) := List.getElem?_eq_getElem (by omega)
        obtain ⟨x0, e0, _, w0⟩ := DataW.trod_string hu0 (g0.trans y0)
        obtain ⟨x1, e1, _, w1⟩ := DataW.trod_int hu1 (g1.trans y1)
        simp at e0 e1
        subst e0; subst e1
        have a0 := hat 0 (by omega)
        have a1 := hat 1 (by omega)
        rw [Go.Deep.add_add, rd_add] at a0 a1
        exact ⟨(x0, x1), by simpa using a0, by simpa using a1⟩
    obtain ⟨xs, hxl, hx⟩ := pick_list m hall
    refine ⟨some (b, o), len, m, xs.take len, rfl, ?_⟩
    refine BaC.rdr (by simp [hxl]; omega) hl (.inr ⟨_, rfl, rds_flat fun i x hi' j v hj => ?_⟩)
    have hxi : xs[i]? = some x := by rw [List.getElem?_take] at hi'; split at hi'; exact hi'; cases hi'
    obtain ⟨r0, r1⟩ := hx i x hxi
    match j, hj with
    | 0, hj => simp only [LW, List.getElem?_cons_zero, Option.some.injEq] at hj; subst hj; exact r0
    | 1, hj => simp only [LW, List.getElem?_cons_succ, List.getElem?_cons_zero, Option.some.injEq] at hj; subst hj; exact r1
    | j + 2, hj => simp [LW] at hj
theorem open_words {d : DataW H'} {v : Value} {p : List MemPlace} {base : Nat} (hv : Value.okWide Try.prog W .any base ty_sl_impl_Word v) (h : DataW.Trod enc Try.prog W 0 (fun _ => true) true ty_sl_impl_Word v d p) :
    ∃ (sp : Option PA) (n cap : Nat) (xs : List WV), v = Cell.val (.sl sp n cap) ∧ Rdr (BaC W.heap) (sp, n, cap) LW xs :=
  open_wordsG (e := ty_impl_Word) (fs := fsOf (Try.prog.underlying ty_impl_Word)) (by kernel_rfl) (by kernel_rfl) (by kernel_rfl) (by kernel_rfl) (by kernel_rfl) (by kernel_rfl) (by kernel_rfl) hv h
theorem open_str {d : DataW H'} {v : Value} {p : List MemPlace} {base : Nat} (hv : Value.okWide Try.prog W .any base ty_string v) (h : DataW.Trod enc Try.prog W 0 (fun _ => true) true ty_string v d p) :
    ∃ s : ByteArray, v = .string s := by
  obtain ⟨s, rfl, _⟩ := Go.ChangeMaps.open_string (by kernel_rfl) hv h
  exact ⟨s, rfl⟩
end
end Go.Proofs.Ytgniflegbdeokaa
