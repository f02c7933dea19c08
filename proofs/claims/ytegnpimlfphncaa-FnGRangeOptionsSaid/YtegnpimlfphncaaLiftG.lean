/-
  From a law's contract to its row: how a tree is made, an item, as arguments. Conditions: none.
-/
import Derived.Test.YtegnpimlfphncaaLift
import Derived.Deep.Strs
set_option linter.unusedVariables false
set_option linter.unusedSimpArgs false
set_option linter.unusedSectionVars false
set_option maxRecDepth 100000
namespace Go.Proofs.Ytegnpimlfphncaa
open Go Go.ChangeShapes Go.WideShapes Go.ChangeAt Go.RowKit Go.Deep
section
variable {H' : Type} {enc : TypeId × Value → H'} {W W' : World}
theorem open_mk {P : Program} {t ts ti tb ei : TypeId} {f0 f1 f2 : Field} {d : DataW H'} {v : Value} {p : List MemPlace} {base : Nat} (ht : P.underlying t = some (.struct #[f0, f1, f2])) (e0 : f0.type = ts) (e1 : f1.type = ti) (e2 : f2.type = tb) (o0 : f0.offset = 0) (o1 : f1.offset = 1) (o2 : f2.offset = 2)
    (c0 : P.cellsOf ts = 1) (c1 : P.cellsOf ti = 1) (c2 : P.cellsOf tb = 1) (hcc : P.cellsOf t = 3) (hct : P.cellTypes P.depth t = some [ts, ti, tb]) (hts : P.underlying ts = some (.slice ei)) (hei : P.underlying ei = some (.int .i64)) (hce : P.cellsOf ei = 1) (hti : P.underlying ti = some (.int .i64)) (htb : P.underlying tb = some .bool)
    (hv : Value.okWide P W .any base t v) (h : DataW.Trod enc P W 0 (fun _ => true) true t v d p) :
    ∃ (op : Option PA) (on oc : Nat) (o : List Int) (n : Int) (b : Bool), v = AV.val (.agg [.sl op on oc, .int .i64 n, .bool b]) ∧ Rdr (BaC W.heap) (op, on, oc) LN o := by
  simp only [Value.okWide, ht] at hv
  obtain ⟨cs, rfl, hsz, hrow⟩ := hv
  rw [hcc] at hsz
  obtain ⟨fuel, hf⟩ := h
  obtain ⟨xs⟩ := cs
  match xs, hsz with
  | [v0, v1, v2], _ =>
    obtain ⟨ts', h1, _, h3⟩ := hrow
    rw [hct] at h1
    obtain rfl := Option.some.inj h1
    have w0 : Cell.okWide P W .any base ts v0 := by obtain ⟨u, hu, hc⟩ := h3 0 v0 rfl; simp at hu; rw [hu]; exact hc
    have w1 : Cell.okWide P W .any base ti v1 := by obtain ⟨u, hu, hc⟩ := h3 1 v1 rfl; simp at hu; rw [hu]; exact hc
    have w2 : Cell.okWide P W .any base tb v2 := by obtain ⟨u, hu, hc⟩ := h3 2 v2 rfl; simp at hu; rw [hu]; exact hc
    obtain ⟨y0, y1, y2, n, _, _, t0, t1, t2⟩ := trod_struct3 ht hf
    rw [e0, o0, c0] at t0; rw [e1, o1, c1] at t1; rw [e2, o2, c2] at t2
    simp only [Value.cells, List.drop, List.take] at t0 t1 t2
    obtain ⟨m, hm, _, _⟩ := DataW.trod_int hti t1
    obtain ⟨b, hb, _⟩ := DataW.trod_bool htb t2
    simp at hm hb
    subst hm; subst hb
    have hw : Value.okWide P W .any base ts v0 := by simp only [Value.okWide, hts]; exact w0
    have hsl : ∃ q l c, v0 = .slice q l c := by
      simp only [Cell.okWide, hts] at w0
      cases v0 <;> simp_all [Cell.ok]
    obtain ⟨q, l, c, rfl⟩ := hsl
    obtain ⟨op, on, oc, o, e, hr, _, _⟩ := open_nums (W := W) (enc := enc) hts hei hce hw ⟨n, t0⟩
    refine ⟨op, on, oc, o, m, b, ?_, hr⟩
    rw [e]; rfl
theorem open_make {d : DataW H'} {v : Value} {p : List MemPlace} {base : Nat} (hv : Value.okWide Try.prog W .any base ty_impl_Make v) (h : DataW.Trod enc Try.prog W 0 (fun _ => true) true ty_impl_Make v d p) :
    ∃ (op : Option PA) (on oc : Nat) (o : List Int) (n : Int) (b : Bool), v = AV.val (.agg [.sl op on oc, .int .i64 n, .bool b]) ∧ Rdr (BaC W.heap) (op, on, oc) LN o :=
  open_mk (ts := ty_sl_int) (ti := ty_int) (tb := ty_bool) (ei := ty_int) (f0 := (fsOf (Try.prog.underlying ty_impl_Make))[0]!) (f1 := (fsOf (Try.prog.underlying ty_impl_Make))[1]!) (f2 := (fsOf (Try.prog.underlying ty_impl_Make))[2]!)
    (by kernel_rfl) (by kernel_rfl) (by kernel_rfl) (by kernel_rfl) (by kernel_rfl) (by kernel_rfl) (by kernel_rfl) (by kernel_rfl) (by kernel_rfl) (by kernel_rfl) (by kernel_rfl) (by kernel_rfl) (by kernel_rfl) (by kernel_rfl) (by kernel_rfl) (by kernel_rfl) (by kernel_rfl) hv h
theorem open_it2 {P : Program} {t ti : TypeId} {f0 f1 : Field} {d : DataW H'} {v : Value} {p : List MemPlace} {base : Nat} (ht : P.underlying t = some (.struct #[f0, f1])) (e0 : f0.type = ti) (e1 : f1.type = ti) (o0 : f0.offset = 0) (o1 : f1.offset = 1)
    (c1 : P.cellsOf ti = 1) (hcc : P.cellsOf t = 2) (hti : P.underlying ti = some (.int .i64))
    (hv : Value.okWide P W .any base t v) (h : DataW.Trod enc P W 0 (fun _ => true) true t v d p) :
    ∃ a b : Int, v = AV.val (.agg [.int .i64 a, .int .i64 b]) := by
  simp only [Value.okWide, ht] at hv
  obtain ⟨cs, rfl, hsz, hrow⟩ := hv
  rw [hcc] at hsz
  obtain ⟨fuel, hf⟩ := h
  obtain ⟨xs⟩ := cs
  match xs, hsz with
  | [v0, v1], _ =>
    obtain ⟨y0, y1, n, _, _, t0, t1⟩ := trod_struct2 ht hf
    rw [e0, o0, c1] at t0; rw [e1, o1, c1] at t1
    simp only [Value.cells, List.drop, List.take] at t0 t1
    obtain ⟨a, ha, _, _⟩ := DataW.trod_int hti t0
    obtain ⟨b, hb, _, _⟩ := DataW.trod_int hti t1
    simp at ha hb
    subst ha; subst hb
    exact ⟨a, b, rfl⟩
theorem open_item {d : DataW H'} {v : Value} {p : List MemPlace} {base : Nat} (hv : Value.okWide Try.prog W .any base ty_impl_Item v) (h : DataW.Trod enc Try.prog W 0 (fun _ => true) true ty_impl_Item v d p) :
    ∃ a b : Int, v = AV.val (.agg [.int .i64 a, .int .i64 b]) :=
  open_it2 (ti := ty_int) (f0 := (fsOf (Try.prog.underlying ty_impl_Item))[0]!) (f1 := (fsOf (Try.prog.underlying ty_impl_Item))[1]!)
    (by kernel_rfl) (by kernel_rfl) (by kernel_rfl) (by kernel_rfl) (by kernel_rfl) (by kernel_rfl) (by kernel_rfl) (by kernel_rfl) hv h
end
end Go.Proofs.Ytegnpimlfphncaa
