/-
  From the heap to the row: arguments opened, and what a true answer that leaves all old memory alone gives. Conditions: none.
-/
import Derived.Test.YtegnpimlfphncaaIt
import Derived.Test.YtegnpimlfphncaaNm
import Derived.Test.YtegnpimlfphncaaRows
import Derived.ProofKit
import Derived.OpenShut
import Derived.JoinedCond
import Derived.Deep.Slices
import Derived.Deep.Fields
import Derived.ChangeSame
import Derived.Carry
set_option linter.unusedVariables false
set_option linter.unusedSimpArgs false
set_option linter.unusedSectionVars false
set_option maxRecDepth 100000
namespace Go.Proofs.Ytegnpimlfphncaa
open Go Go.ChangeShapes Go.WideShapes Go.ChangeAt Go.RowKit Go.Deep
theorem own : ownKnob Try.prog.godebug = none := by kernel_rfl
theorem laidOut : laidOutB Try.prog = true := by kernel_rfl
theorem ubool : Try.prog.underlying ty_bool = some .bool := by kernel_rfl
section
variable {H' : Type} {enc : TypeId × Value → H'} {W W' : World}
theorem below_of {G : PA → Prop} {l : List Ck} (x : Ext W W') (s : St W.heap G (BaC W.heap :: l) W'.heap) : Below W.heap.size W W' := by
  obtain ⟨⟨F, ⟨F1, F2, ⟨_, h2, h3⟩, _⟩, _⟩, _⟩ := s
  exact ⟨x.os, x.tape, x.output, h2, h3⟩
theorem all_stay {P : Program} (hP : laidOutB P = true) {sp : Nat → Bool} (hb : Below W.heap.size W W') : ∀ {ts : List TypeId} {vs : List Value} {ds : List (DataW H')} {ps : List MemPlace}, ts.all (fun t => P.readableRec t && decide (t < P.types.size)) = true →
    DataW.TrodAll enc P W 0 (fun _ => true) true ts vs ds ps → (∀ p ∈ ps, p.block < W.heap.size) → (∀ p ∈ ps, sp p.block = true) → DataW.TrodAll enc P W' 0 sp true ts vs ds ps
  | [], vs, ds, ps, _, h, _, _ => by
    obtain ⟨rfl, rfl, rfl⟩ := trodAll_nil h
    simp [DataW.TrodAll]
  | t :: ts, vs, ds, ps, ht, h, hl, hs => by
    obtain ⟨v, vs, d, ds, p, q, rfl, rfl, rfl, hd, hr⟩ := trodAll_cons h
    simp only [List.all_cons, Bool.and_eq_true, decide_eq_true_eq] at ht
    have h1 := WideElems.Trod_stays hP ht.1.1 ht.1.2 (sp' := sp) hd (fun x hx => hb.same (hl x (List.mem_append_left _ hx))) (fun x hx => hs x (List.mem_append_left _ hx))
    have h2 := all_stay hP hb ht.2 hr (fun x hx => hl x (List.mem_append_right _ hx)) (fun x hx => hs x (List.mem_append_right _ hx))
    exact ⟨p, q, h1, h2, rfl⟩
theorem post_true {f : Func} {s : ChangeSpec} {args : Array Value} {ds gs : List (DataW H')} {before : List MemPlace} (hv : s.vars = []) (hr : f.resultTypes = #[ty_bool])
    (hts : f.params.toList.all (fun t => Try.prog.readableRec t && decide (t < Try.prog.types.size)) = true)
    (hW : DataW.Whole enc Try.prog f.params.toList s.vars false W args.toList ds gs before) (hfn : s.fn H' (ds ++ gs) = { results := [.lit (.bool true)], args := ds })
    (hb : Below W.heap.size W W') : s.post enc Try.prog f false true false false W args (.bool true) W' := by
  have hlt := hW.lt
  have hW0 := hW
  obtain ⟨p, q, hA, hV, rfl, hfz, hnd⟩ := hW
  rw [hv] at hV
  obtain ⟨rfl, rfl⟩ := trodVars_none hV
  simp only [List.append_nil] at hlt hfn hW0
  have hres : ∀ (b : Nat) (sp : Nat → Bool) (hd : Bool), DataW.TrodAll enc Try.prog W' b sp hd f.resultTypes.toList ((Value.bool true).resultList f.resultTypes.size) (s.fn H' (ds ++ [])).results [] := fun b sp hd => by
    rw [hr, List.append_nil, hfn]; exact trodAll_mk1 (shut_bool ubool _)
  have hargs : ∀ sp : Nat → Bool, (∀ x ∈ p, sp x.block = true) → DataW.TrodAll enc Try.prog W' 0 sp true f.params.toList args.toList (s.fn H' (ds ++ [])).args p := fun sp hs => by
    rw [List.append_nil, hfn]; exact all_stay laidOut hb hts hA hlt hs
  have hvars : ∀ sp : Nat → Bool, DataW.TrodVars enc Try.prog W' sp s.vars (s.fn H' (ds ++ [])).vars [] := fun sp => by
    rw [List.append_nil, hfn, hv]; rfl
  refine ⟨ds, [], p, [], p, [], hW0, hres _ _ _, hargs _ (fun x hx => by simpa using hlt x hx), hvars _, World.keptBut_mono (fun x hx => ⟨hx, .inr (.inl hx)⟩) (hb.frame _), fun _ => ?_⟩
  refine ⟨ok_one hr rfl (okWide_bool_mk ubool _), _, _, p, ⟨p, [], trodAll_append (hargs _ (fun _ _ => rfl)) (hres _ _ _), hvars _, (List.append_nil _).symm, fun b off hp => ?_, fun ha => by cases ha⟩, fun x hx _ => by simpa using hx⟩
  rw [hb.frozen (hlt _ hp)]
  exact hfz b off (by simpa using hp)
theorem rds_flat {I : Type} {L : Lay I} {xs : List I} {h : H} {p : PA} (hx : ∀ (i : Nat) (x : I), xs[i]? = some x → ∀ (j : Nat) (v : Value), (L.cells x)[j]? = some v → rd h (p.1, p.2 + (i * L.sz + j)) = some v) : Go.Proofs.Ytegnpimlfphncaa.rds h p (L.flat xs) := by
  intro i v hi
  have hlt := (List.getElem?_eq_some_iff.1 hi).1
  rw [L.flat_length] at hlt
  have hs := L.pos
  have hq : i / L.sz < xs.length := (Nat.div_lt_iff_lt_mul hs).2 hlt
  have hr : i % L.sz < L.sz := Nat.mod_lt _ hs
  have hc : i % L.sz < (L.cells xs[i / L.sz]).length := by rw [L.len]; exact hr
  have e : i / L.sz * L.sz + i % L.sz = i := by rw [Nat.mul_comm]; exact Nat.div_add_mod i L.sz
  have := L.flat_get (List.getElem?_eq_getElem hq) (List.getElem?_eq_getElem hc)
  rw [e] at this
  have hv := hx _ _ (List.getElem?_eq_getElem hq) _ _ (List.getElem?_eq_getElem hc)
  rw [e] at hv
  rw [hv, ← this, hi]
theorem rd_cell (W : World) (b o : Nat) : W.cell? ⟨b, o, none⟩ = rd W.heap (b, o) := by
  unfold World.cell? rd; rfl
theorem rd_add (W : World) (b o i : Nat) : W.cell? (Addr.add ⟨b, o, none⟩ i) = rd W.heap (b, o + i) := by
  rw [← rd_cell]; unfold Addr.add; split
  · subst i; rfl
  · rfl
theorem open_nums {P : Program} {t e : TypeId} {d : DataW H'} {v : Value} {p : List MemPlace} {base : Nat} (ht : P.underlying t = some (.slice e)) (he : P.underlying e = some (.int .i64)) (hc : P.cellsOf e = 1)
    (hv : Value.okWide P W .any base t v) (h : DataW.Trod enc P W 0 (fun _ => true) true t v d p) :
    ∃ (sp : Option PA) (n cap : Nat) (xs : List Int), v = Cell.val (.sl sp n cap) ∧ Rdr (BaC W.heap) (sp, n, cap) LN xs ∧ cap ≤ 9223372036854775807 ∧ ∀ x ∈ xs, -9223372036854775808 ≤ x ∧ x ≤ 9223372036854775807 := by
  have hv0 : Cell.ok P W .any base t v := by simpa [Value.okWide, Cell.okWide, ht] using hv
  obtain ⟨fuel, hf⟩ := h
  rcases open_ints ht he hc hf with ⟨h1, _⟩ | ⟨a, len, cap, zs, h1, _, hl, hm, hz, _, hcell, hwf⟩
  · have : v = .slice none 0 0 := by cases v <;> simp_all [Value.cells, Cell.ok]
    subst this
    exact ⟨none, 0, 0, [], rfl, Rdr.nil, by decide, by simp⟩
  · have : v = .slice (some a) len cap := by cases v <;> simp_all [Value.cells, Cell.ok]
    subst this
    obtain ⟨b, o, spot⟩ := a
    have hs : spot = none := by
      simp only [Cell.ok, ht] at hv0
      exact hv0.2.2.2.1
    subst hs
    simp only [if_true] at hz
    refine ⟨some (b, o), len, cap, zs.take len, rfl, ?_, hm, fun x hx => ?_⟩
    · refine BaC.rdr (by simp [hz]; omega) hl (.inr ⟨_, rfl, rds_flat fun i x hx j v hj => ?_⟩)
      have hil := (List.getElem?_eq_some_iff.1 hx).1
      simp only [List.length_take] at hil
      have hxi : zs[i]? = some x := by rw [List.getElem?_take] at hx; split at hx; exact hx; cases hx
      have := hcell i (by omega)
      rw [rd_add, List.getD_eq_getElem?_getD, hxi] at this
      match j, hj with
      | 0, hj => simp only [LN, List.getElem?_cons_zero, Option.some.injEq] at hj; subst hj; simpa [LN] using this
      | j + 1, hj => simp [LN] at hj
    · have := hwf x (List.mem_of_mem_take hx)
      simpa [Lit.wf, IntKind.min, IntKind.max, IntKind.signed, IntKind.bits] using this
theorem pick_list {I : Type} {Q : Nat → I → Prop} : ∀ m : Nat, (∀ i, i < m → ∃ x, Q i x) → ∃ xs : List I, xs.length = m ∧ ∀ i x, xs[i]? = some x → Q i x
  | 0, _ => ⟨[], rfl, fun i x hx => by simp at hx⟩
  | m + 1, h => by
    obtain ⟨xs, h1, h2⟩ := pick_list m (fun i hi => h i (by omega))
    obtain ⟨y, hy⟩ := h m (by omega)
    refine ⟨xs ++ [y], by simp [h1], fun i x hx => ?_⟩
    by_cases him : i < m
    · rw [List.getElem?_append_left (by omega)] at hx; exact h2 i x hx
    · rw [List.getElem?_append_right (by omega)] at hx
      have hi0 : i = m := by
        have := (List.getElem?_eq_some_iff.1 hx).1
        simp at this; omega
      subst hi0
      rw [h1, Nat.sub_self] at hx
      simp at hx; subst hx; exact hy
theorem open_items {P : Program} {t e : TypeId} {fs : Array Field} {d : DataW H'} {v : Value} {p : List MemPlace} {base : Nat} (ht : P.underlying t = some (.slice e)) (he : P.underlying e = some (.struct fs)) (hc : P.cellsOf e = 2)
    (hfs : fs.size = 2) (hone : oneCellFields P fs = true) (h0 : (fs[0]?).bind (fun f => P.underlying f.type) = some (.int .i64)) (h1 : (fs[1]?).bind (fun f => P.underlying f.type) = some (.int .i64))
    (hv : Value.okWide P W .any base t v) (h : DataW.Trod enc P W 0 (fun _ => true) true t v d p) :
    ∃ (sp : Option PA) (n cap : Nat) (xs : List IV), v = Cell.val (.sl sp n cap) ∧ Rdr (BaC W.heap) (sp, n, cap) LT xs ∧ cap ≤ 9223372036854775807 ∧ ∀ x ∈ xs, (-9223372036854775808 ≤ x.1 ∧ x.1 ≤ 9223372036854775807) ∧ (-9223372036854775808 ≤ x.2 ∧ x.2 ≤ 9223372036854775807) := by
  have hv0 : Cell.ok P W .any base t v := by simpa [Value.okWide, Cell.okWide, ht] using hv
  obtain ⟨fuel, hf⟩ := h
  rcases open_slice ht hf with ⟨h1, _⟩ | ⟨a, len, cap, m, n, D, Pl, hcs, _, hl, hm, hmm, _, hi⟩
  · have : v = .slice none 0 0 := by cases v <;> simp_all [Value.cells, Cell.ok]
    subst this
    exact ⟨none, 0, 0, [], rfl, Rdr.nil, by decide, by simp⟩
  · have : v = .slice (some a) len cap := by cases v <;> simp_all [Value.cells, Cell.ok]
    subst this
    obtain ⟨b, o, spot⟩ := a
    have hs : spot = none := by
      simp only [Cell.ok, ht] at hv0
      exact hv0.2.2.2.1
    subst hs
    simp only [if_true] at hmm
    subst hmm
    have hall : ∀ i, i < m → ∃ x : IV, rd W.heap (b, o + (i * 2 + 0)) = some (.int .i64 x.1) ∧ rd W.heap (b, o + (i * 2 + 1)) = some (.int .i64 x.2) ∧ (-9223372036854775808 ≤ x.1 ∧ x.1 ≤ 9223372036854775807) ∧ (-9223372036854775808 ≤ x.2 ∧ x.2 ≤ 9223372036854775807) := by
      intro i him
      obtain ⟨cs', hcells, hd⟩ := hi i him
      rw [hc] at hcells
      obtain ⟨ys, n', _, _, hlen, hyl, hfd⟩ := DataW.trod_struct he hd
      obtain ⟨_, hcl, hat⟩ := World.cells?_some hcells
      match cs', hcl with
      | [c0, c1], _ =>
        obtain ⟨f0, hf0, hu0⟩ := Option.bind_eq_some_iff.1 h0
        obtain ⟨f1, hf1, hu1⟩ := Option.bind_eq_some_iff.1 h1
        obtain ⟨o0, k0⟩ := hone_of hone 0 f0 hf0
        obtain ⟨o1, k1⟩ := hone_of hone 1 f1 hf1
        have g0 := hfd 0 f0 hf0
        have g1 := hfd 1 f1 hf1
        rw [o0, k0] at g0; rw [o1, k1] at g1
        have y0 : ys[0]? = some (ys[0]'(by omega)) := List.getElem?_eq_getElem (by omega)
        have y1 : ys[1]? = some (ys[1]'(by omega)) := List.getElem?_eq_getElem (by omega)
        obtain ⟨x0, e0, _, w0⟩ := DataW.trod_int hu0 (g0.trans y0)
        obtain ⟨x1, e1, _, w1⟩ := DataW.trod_int hu1 (g1.trans y1)
        simp at e0 e1
        subst e0; subst e1
        have a0 := hat 0 (by omega)
        have a1 := hat 1 (by omega)
        rw [Go.Deep.add_add, rd_add] at a0 a1
        exact ⟨(x0, x1), by simpa using a0, by simpa using a1, by simpa [Lit.wf, IntKind.min, IntKind.max, IntKind.signed, IntKind.bits] using w0, by simpa [Lit.wf, IntKind.min, IntKind.max, IntKind.signed, IntKind.bits] using w1⟩
    obtain ⟨xs, hxl, hx⟩ := pick_list m hall
    refine ⟨some (b, o), len, m, xs.take len, rfl, ?_, hm, fun x hx' => ?_⟩
    · refine BaC.rdr (by simp [hxl]; omega) hl (.inr ⟨_, rfl, rds_flat fun i x hi' j v hj => ?_⟩)
      have hxi : xs[i]? = some x := by rw [List.getElem?_take] at hi'; split at hi'; exact hi'; cases hi'
      obtain ⟨r0, r1, _⟩ := hx i x hxi
      match j, hj with
      | 0, hj => simp only [LT, List.getElem?_cons_zero, Option.some.injEq] at hj; subst hj; exact r0
      | 1, hj => simp only [LT, List.getElem?_cons_succ, List.getElem?_cons_zero, Option.some.injEq] at hj; subst hj; exact r1
      | j + 2, hj => simp [LT] at hj
    · obtain ⟨i, hi'⟩ := List.mem_iff_getElem?.1 (List.mem_of_mem_take hx')
      exact (hx i x hi').2.2
noncomputable def fsOf (t : Option TypeDesc) : Array Field := match t with | some (.struct fs) => fs | _ => #[]
theorem open_its {d : DataW H'} {v : Value} {p : List MemPlace} {base : Nat} (hv : Value.okWide Try.prog W .any base ty_sl_impl_Item v) (h : DataW.Trod enc Try.prog W 0 (fun _ => true) true ty_sl_impl_Item v d p) :
    ∃ (sp : Option PA) (n cap : Nat) (xs : List IV), v = Cell.val (.sl sp n cap) ∧ Rdr (BaC W.heap) (sp, n, cap) LT xs ∧ cap ≤ 9223372036854775807 ∧ ∀ x ∈ xs, (-9223372036854775808 ≤ x.1 ∧ x.1 ≤ 9223372036854775807) ∧ (-9223372036854775808 ≤ x.2 ∧ x.2 ≤ 9223372036854775807) :=
  open_items (e := ty_impl_Item) (fs := fsOf (Try.prog.underlying ty_impl_Item)) (by kernel_rfl) (by kernel_rfl) (by kernel_rfl) (by kernel_rfl) (by kernel_rfl) (by kernel_rfl) (by kernel_rfl) hv h
end
end Go.Proofs.Ytegnpimlfphncaa
