/-
  From the heap to the row: arguments opened, and what a true answer that leaves all old memory alone gives. Conditions: none.
-/
import Derived.Test.YtpbmahnieepmiaaIt
import Derived.Test.YtpbmahnieepmiaaNm
import Derived.Test.YtpbmahnieepmiaaRows
import Derived.ProofKit
import Derived.OpenShut
import Derived.JoinedCond
import Derived.Deep.Slices
import Derived.Deep.Fields
import Derived.ChangeSame
import Derived.Carry
set_option linter.unusedVariables false
set_option linter.unusedSimpArgs false
set_option linter.unusedSectionVars false
set_option maxRecDepth 100000
namespace Go.Proofs.Ytpbmahnieepmiaa
open Go Go.ChangeShapes Go.WideShapes Go.ChangeAt Go.RowKit Go.Deep
theorem own : ownKnob Try.prog.godebug = none := by kernel_rfl
theorem laidOut : laidOutB Try.prog = true := by kernel_rfl
theorem ubool : Try.prog.underlying ty_bool = some .bool := by kernel_rfl
theorem uint : Try.prog.underlying ty_int = some (.int .i64) := by kernel_rfl
section
variable {H' : Type} {enc : TypeId × Value → H'} {W W' : World}
theorem below_of {G : PA → Prop} {l : List Ck} (x : Ext W W') (s : St W.heap G (BaC W.heap :: l) W'.heap) : Below W.heap.size W W' := by
  obtain ⟨⟨F, ⟨F1, F2, ⟨_, h2, h3⟩, _⟩, _⟩, _⟩ := s
  exact ⟨x.os, x.tape, x.output, h2, h3⟩
theorem all_stay {P : Program} (hP : laidOutB P = true) {sp : Nat → Bool} (hb : Below W.heap.size W W') : ∀ {ts : List TypeId} {vs : List Value} {ds : List (DataW H')} {ps : List MemPlace}, ts.all (fun t => P.readableRec t && decide (t < P.types.size)) = true →
    DataW.TrodAll enc P W 0 (fun _ => true) true ts vs ds ps → (∀ p ∈ ps, p.block < W.heap.size) → (∀ p ∈ ps, sp p.block = true) → DataW.TrodAll enc P W' 0 sp true ts vs ds ps
  | [], vs, ds, ps, _, h, _, _ => by
    obtain ⟨rfl, rfl, rfl⟩ := trodAll_nil h
    simp [DataW.TrodAll]
  | t :: ts, vs, ds, ps, ht, h, hl, hs => by
    obtain ⟨v, vs, d, ds, p, q, rfl, rfl, rfl, hd, hr⟩ := trodAll_cons h
    simp only [List.all_cons, Bool.and_eq_true, decide_eq_true_eq] at ht
    have h1 := WideElems.Trod_stays hP ht.1.1 ht.1.2 (sp' := sp) hd (fun x hx => hb.same (hl x (List.mem_append_left _ hx))) (fun x hx => hs x (List.mem_append_left _ hx))
    have h2 := all_stay hP hb ht.2 hr (fun x hx => hl x (List.mem_append_right _ hx)) (fun x hx => hs x (List.mem_append_right _ hx))
    exact ⟨p, q, h1, h2, rfl⟩
theorem post_true {f : Func} {s : ChangeSpec} {args : Array Value} {ds gs : List (DataW H')} {before : List MemPlace} (hv : s.vars = []) (hr : f.resultTypes = #[ty_bool])
    (hts : f.params.toList.all (fun t => Try.prog.readableRec t && decide (t < Try.prog.types.size)) = true)
    (hW : DataW.Whole enc Try.prog f.params.toList s.vars false W args.toList ds gs before) (hfn : s.fn H' (ds ++ gs) = { results := [.lit (.bool true)], args := ds })
    (hb : Below W.heap.size W W') : s.post enc Try.prog f false true false false W args (.bool true) W' := by
  have hlt := hW.lt
  have hW0 := hW
  obtain ⟨p, q, hA, hV, rfl, hfz, hnd⟩ := hW
  rw [hv] at hV
  obtain ⟨rfl, rfl⟩ := trodVars_none hV
  simp only [List.append_nil] at hlt hfn hW0
  have hres : ∀ (b : Nat) (sp : Nat → Bool) (hd : Bool), DataW.TrodAll enc Try.prog W' b sp hd f.resultTypes.toList ((Value.bool true).resultList f.resultTypes.size) (s.fn H' (ds ++ [])).results [] := fun b sp hd => by
    rw [hr, List.append_nil, hfn]; exact trodAll_mk1 (shut_bool ubool _)
  have hargs : ∀ sp : Nat → Bool, (∀ x ∈ p, sp x.block = true) → DataW.TrodAll enc Try.prog W' 0 sp true f.params.toList args.toList (s.fn H' (ds ++ [])).args p := fun sp hs => by
    rw [List.append_nil, hfn]; exact all_stay laidOut hb hts hA hlt hs
  have hvars : ∀ sp : Nat → Bool, DataW.TrodVars enc Try.prog W' sp s.vars (s.fn H' (ds ++ [])).vars [] := fun sp => by
    rw [List.append_nil, hfn, hv]; rfl
  refine ⟨ds, [], p, [], p, [], hW0, hres _ _ _, hargs _ (fun x hx => by simpa using hlt x hx), hvars _, World.keptBut_mono (fun x hx => ⟨hx, .inr (.inl hx)⟩) (hb.frame _), fun _ => ?_⟩
  refine ⟨ok_one hr rfl (okWide_bool_mk ubool _), _, _, p, ⟨p, [], trodAll_append (hargs _ (fun _ _ => rfl)) (hres _ _ _), hvars _, (List.append_nil _).symm, fun b off hp => ?_, fun ha => by cases ha⟩, fun x hx _ => by simpa using hx⟩
  rw [hb.frozen (hlt _ hp)]
  exact hfz b off (by simpa using hp)
theorem rds_flat {I : Type} {L : Lay I} {xs : List I} {h : H} {p : PA} (hx : ∀ (i : Nat) (x : I), xs[i]? = some x → ∀ (j : Nat) (v : Value), (L.cells x)[j]? = some v → rd h (p.1, p.2 + (i * L.sz + j)) = some v) : Go.Proofs.Ytpbmahnieepmiaa.rds h p (L.flat xs) := by
  intro i v hi
  have hlt := (List.getElem?_eq_some_iff.1 hi).1
  rw [L.flat_length] at hlt
  have hs := L.pos
  have hq : i / L.sz < xs.length := (Nat.div_lt_iff_lt_mul hs).2 hlt
  have hr : i % L.sz < L.sz := Nat.mod_lt _ hs
  have hc : i % L.sz < (L.cells xs[i / L.sz]).length := by rw [L.len]; exact hr
  have e : i / L.sz * L.sz + i % L.sz = i := by rw [Nat.mul_comm]; exact Nat.div_add_mod i L.sz
  have := L.flat_get (List.getElem?_eq_getElem hq) (List.getElem?_eq_getElem hc)
  rw [e] at this
  have hv := hx _ _ (List.getElem?_eq_getElem hq) _ _ (List.getElem?_eq_getElem hc)
  rw [e] at hv
  rw [hv, ← this, hi]
theorem rd_cell (W : World) (b o : Nat) : W.cell? ⟨b, o, none⟩ = rd W.heap (b, o) := by
  unfold World.cell? rd; rfl
theorem rd_add (W : World) (b o i : Nat) : W.cell? (Addr.add ⟨b, o, none⟩ i) = rd W.heap (b, o + i) := by
  rw [← rd_cell]; unfold Addr.add; split
  · subst i; rfl
  · rfl
theorem open_nums {P : Program} {t e : TypeId} {d : DataW H'} {v : Value} {p : List MemPlace} {base : Nat} (ht : P.underlying t = some (.slice e)) (he : P.underlying e = some (.int .i64)) (hc : P.cellsOf e = 1)
    (hv : Value.okWide P W .any base t v) (h : DataW.Trod enc P W 0 (fun _ => true) true t v d p) :
    ∃ (sp : Option PA) (n cap : Nat) (xs : List Int), v = Cell.val (.sl sp n cap) ∧ Rdr (BaC W.heap) (sp, n, cap) LN xs ∧ cap ≤ 9223372036854775807 ∧ ∀ x ∈ xs, -9223372036854775808 ≤ x ∧ x ≤ 9223372036854775807 := by
  have hv0 : Cell.ok P W .any base t v := by simpa [Value.okWide, Cell.okWide, ht] using hv
  obtain ⟨fuel, hf⟩ := h
  rcases open_ints ht he hc hf with ⟨h1, _⟩ | ⟨a, len, cap, zs, h1, _, hl, hm, hz, _, hcell, hwf⟩
  · have : v = .slice none 0 0 := by cases v <;> simp_all [Value.cells, Cell.ok]
    subst this
    exact ⟨none, 0, 0, [], rfl, Rdr.nil, by decide, by simp⟩
  · have : v = .slice (some a) len cap := by cases v <;> simp_all [Value.cells, Cell.ok]
    subst this
    obtain ⟨b, o, spot⟩ := a
    have hs : spot = none := by
      simp only [Cell.ok, ht] at hv0
      exact hv0.2.2.2.1
    subst hs
    simp only [if_true] at hz
    refine ⟨some (b, o), len, cap, zs.take len, rfl, ?_, hm, fun x hx => ?_⟩
    · refine BaC.rdr (by simp [hz]; omega) hl (.inr ⟨_, rfl, rds_flat fun i x hx j v hj => ?_⟩)
      have hil := (List.getElem?_eq_some_iff.1 hx).1
      simp only [List.length_take] at hil
      have hxi : zs[i]? = some x := by rw [List.getElem?_take] at hx; split at hx; exact hx; cases hx
      have := hcell i (by omega)
      rw [rd_add, List.getD_eq_getElem?_getD, hxi] at this
      match j, hj with
      | 0, hj => simp only [LN, List.getElem?_cons_zero, Option.some.injEq] at hj; subst hj; simpa [LN] using this
      | j + 1, hj => simp [LN] at hj
    · have := hwf x (List.mem_of_mem_take hx)
      simpa [Lit.wf, IntKind.min, IntKind.max, IntKind.signed, IntKind.bits] using this
end
end Go.Proofs.Ytpbmahnieepmiaa
