/-
  The readings of a load and of an operation with an effect are right. Conditions: none.
-/
import Derived.Test.YtkhpbcckaenmcaaDecC
namespace Go.Proofs.Ytkhpbcckaenmcaa
open Go

theorem cell_rd (w : World) (p : PA) : w.cell? p.val = rd w.heap p := by
  unfold World.cell? rd PA.val
  split <;> simp_all
theorem frozen_fz (w : World) (p : PA) : w.frozen? p.val = fz w.heap p := rfl
theorem setCell_wr (w : World) (p : PA) (v : Value) : w.setCell p.val v = { w with heap := wr w.heap p v } := rfl
theorem cell_add (w : World) (p : PA) (j : Nat) : w.cell? (p.val.add j) = rd w.heap (p.1, p.2 + j) := by rw [add_val, cell_rd]

theorem SV1.list_length : ∀ (ss : List Sh1) (x : SV1 ss), (SV1.list ss x).length = ss.length
  | [], _ => rfl
  | _ :: ss, x => by simp [SV1.list, SV1.list_length ss x.2]

section
variable {P : Program} {n : Nat} {r : Regs} {a : Act} {Q : Ex → List AV → H → Prop} {h : H} {o : Oper}

theorem shT_agg {t : TypeId} {ss : List Sh1} (hs : shT P t = some (.agg ss)) : aggT P t = some true := by
  unfold shT at hs
  split at hs
  · assumption
  · simp at hs
  · simp at hs
theorem shT_c {t : TypeId} {s : Sh1} (hs : shT P t = some (.c s)) : aggT P t = some false := by
  unfold shT at hs
  split at hs
  · simp at hs
  · assumption
  · simp at hs

theorem loads_wp : ∀ (ss : List Sh1) (p : PA) (k : List Cell → M), wp P (loads p ss k) Q h → ∃ cs, cs.length = ss.length ∧ rds h p (cs.map Cell.val) ∧ wp P (k cs) Q h
  | [], p, k, hw => ⟨[], rfl, fun j v hj => by simp at hj, hw⟩
  | s :: ss, p, k, hw => by
    obtain ⟨x, hx, hw⟩ := hw
    obtain ⟨cs, hl, hc, hw⟩ := loads_wp ss (p.1, p.2 + 1) _ hw
    refine ⟨s.mk x :: cs, by simp [hl], fun j v hj => ?_, hw⟩
    cases j with
    | zero => simp at hj; subst hj; exact hx
    | succ j =>
      have := hc j v (by simpa using hj)
      simp only [Nat.add_assoc, Nat.add_comm 1] at this
      exact this

theorem load_sound {t : TypeId} {x : Operand} {k : PA → AV → M} (ho : o.op = .load t x) (hr : Rel n r a) (hw : wp P (loadOp P t x r k) Q h) :
    ∃ p v, rds h p ((cellsAV v).map Cell.val) ∧ (∀ w, rds w.heap p ((cellsAV v).map Cell.val) → (execOp a.eval o).run P w = .ok (.value v.val) w) ∧ wp P (k p v) Q h := by
  obtain ⟨va, hv, hw⟩ := ev_wp hw
  have he := hr.eval hv
  split at hw
  · rename_i p
    split at hw
    · rename_i s hs
      obtain ⟨u, hu, hw⟩ := hw
      refine ⟨p, .c (s.mk u), fun j v hj => ?_, fun w hh => ?_, hw⟩
      · cases j with
        | zero => simp [cellsAV] at hj; subst hj; exact hu
        | succ j => simp [cellsAV] at hj
      · have h0 := hh 0 (s.mk u).val rfl
        simp only [Nat.add_zero] at h0
        simp [execOp, ho, he, AV.val, Cell.val, Instr.loadAt, Instr.sureAddr, loadVar, aggT_some (shT_c hs), cell_rd, h0]
    · rename_i ss hs
      split at hw
      · rename_i m hm
        split at hw
        · rename_i hb
          obtain rfl := Nat.eq_of_beq_eq_true hb
          obtain ⟨cs, hl, hc, hw⟩ := loads_wp _ _ _ hw
          refine ⟨p, .agg cs, hc, fun w hh => ?_, hw⟩
          have hrun := run_loadCells_list (P := P) w p.val (cs.map Cell.val) (fun j v hj => by rw [cell_add]; exact hh j v hj)
          rw [List.length_map, hl] at hrun
          simp [execOp, ho, he, AV.val, Cell.val, Instr.loadAt, Instr.sureAddr, loadVar, aggT_some (shT_agg hs), run_sizeOf hm, hrun]
        · exact hw.elim
      · exact hw.elim
    · exact hw.elim
  · exact hw.elim

/-! ### Writing -/
theorem wrs_wrs (h : H) (p : PA) (v : Value) (vs : List Value) : wrs h p (v :: vs) = wrs (wr h p v) (p.1, p.2 + 1) vs := rfl

theorem stores_wp : ∀ (cs : List Cell) (p : PA) (k : M) (w : World) (i : Nat), wp P (stores (p.1, p.2 + i) cs k) Q w.heap →
    ∃ h', (storeCells p.val (cs.map Cell.val) i).run P w = .ok () { w with heap := h' } ∧ wp P k Q h'
  | [], p, k, w, i, hw => ⟨w.heap, rfl, hw⟩
  | c :: cs, p, k, w, i, hw => by
    obtain ⟨⟨h1, h2⟩, hw⟩ := hw
    obtain ⟨u, hu⟩ := Option.isSome_iff_exists.1 h1
    have hst : (store (p.val.add i) c.val).run P w = .ok () { w with heap := wr w.heap (p.1, p.2 + i) c.val } := by
      rw [run_store P w _ _ _ c.one, cell_add, hu, add_val]
      simp only [frozen_fz, h2, setCell_wr]
      rfl
    obtain ⟨h', hr, hw⟩ := stores_wp cs p k { w with heap := wr w.heap (p.1, p.2 + i) c.val } (i + 1) hw
    refine ⟨h', ?_, hw⟩
    simp only [List.map_cons, storeCells, Sem.run_bind, hst, Result.andThen_ok, hr]

theorem run_storeCells_wrs : ∀ (vs : List Value) (p : PA) (w : World) (i : Nat), oks w.heap (p.1, p.2 + i) vs.length → (∀ v ∈ vs, v.oneCell' = true) →
    (storeCells p.val vs i).run P w = .ok () { w with heap := wrs w.heap (p.1, p.2 + i) vs }
  | [], _, _, _, _, _ => rfl
  | v :: vs, p, w, i, hk, h1 => by
    obtain ⟨hc, hf⟩ := hk 0 (by simp)
    simp only [Nat.add_zero] at hc hf
    obtain ⟨u, hu⟩ := Option.isSome_iff_exists.1 hc
    have hst : (store (p.val.add i) v).run P w = .ok () { w with heap := wr w.heap (p.1, p.2 + i) v } := by
      rw [run_store P w _ _ _ (h1 v (by simp)), cell_add, hu, add_val]
      simp only [frozen_fz, hf, setCell_wr]
      rfl
    have ih := run_storeCells_wrs vs p { w with heap := wr w.heap (p.1, p.2 + i) v } (i + 1) (fun j hj => by
      obtain ⟨hc', hf'⟩ := hk (j + 1) (by simp; omega)
      simp only [show p.2 + i + (j + 1) = p.2 + (i + 1) + j by omega] at hc' hf'
      refine ⟨?_, ?_⟩
      · have hq : (rd (wr w.heap (p.1, p.2 + i) v) (p.1, p.2 + (i + 1) + j)).isSome = (rd w.heap (p.1, p.2 + (i + 1) + j)).isSome := by
          simp only [rd, wr, Array.getElem?_modify, if_true]
          cases hb : w.heap[p.1]? with
          | none => rfl
          | some ob => cases ob <;> simp; rw [Array.getElem?_setIfInBounds_ne (by omega)]
        rw [hq]; exact hc'
      · have hq : fz (wr w.heap (p.1, p.2 + i) v) (p.1, p.2 + (i + 1) + j) = fz w.heap (p.1, p.2 + (i + 1) + j) := by
          simp only [fz, wr, Array.getElem?_modify, if_true]
          cases hb : w.heap[p.1]? with
          | none => rfl
          | some ob => cases ob <;> simp
        rw [hq]; exact hf') (fun x hx => h1 x (by simp [hx]))
    simp only [storeCells, Sem.run_bind, hst, Result.andThen_ok, ih]
    rfl

theorem zero_run {t : TypeId} {cs : List Cell} (hz : zeroT P t = some cs) (w : World) : ∃ z, (zeroValue t).run P w = .ok z w ∧ z.cells = (cs.map Cell.val).toArray := by
  obtain ⟨i, z, hi, hz0, hc⟩ := zero_of_zeroT hz
  exact ⟨z, by simp [zeroValue, typeInfo, hi, hz0], hc⟩

/-- What follows an operation with an effect. -/
def After (P : Program) (o : Oper) (a : Act) (Q : Ex → List AV → H → Prop) (w : World) (k : Option AV → M) (K : Act → World → Prop) : Prop :=
  ∀ (v : Option AV) (w' : World), Ext w w' → wp P (k v) Q w'.heap → K (a.put o.dst ((v.map AV.val).getD undef)) w'

theorem Oper.wp_value {K : Act → World → Prop} {Qc : Exit → Act → World → Prop} {w w' : World} {v : Value} (hrun : (execOp a.eval o).run P w = .ok (.value v) w')
    (hk : K (a.put o.dst v) w') : o.wp P a w K Qc := by
  unfold Oper.wp; rw [hrun]; exact hk
theorem Oper.wp_skip {K : Act → World → Prop} {Qc : Exit → Act → World → Prop} {w w' : World} (hrun : (execOp a.eval o).run P w = .ok .skip w')
    (hk : K (a.put o.dst undef) w') : o.wp P a w K Qc := by
  unfold Oper.wp; rw [hrun]; exact hk

theorem resAV_val {tup : Bool} {ss : List Sh} {x : SV ss} {v : AV} (hv : resAV tup ss x = some v) : retVal tup ss x = v.val := by
  unfold resAV at hv
  split at hv
  · simp at hv; subst hv; rfl
  · simp at hv; subst hv; rfl
  · cases hv

theorem calls_sound {K : Act → World → Prop} {Qc : Exit → Act → World → Prop} {w : World} {f : FuncId} {args : Array Value} {tup : Bool} {ss : List Sh} {k : Option AV → M}
    (hrun : (execOp a.eval o).run P w = .ok (.enter f args) w) (hK : After P o a Q w k K)
    (hw : HC P f args w.heap fun v h' => ∃ x : SV ss, v = retVal tup ss x ∧ wp P (match resAV tup ss x with | some v => k (some v) | none => .fail) Q h') : o.wp P a w K Qc := by
  unfold Oper.wp
  rw [hrun, Oper.upon_enter]
  refine (hw w rfl).mono ?_
  rintro e w' ⟨v, rfl, hx, x, rfl, hx2⟩
  split at hx2
  · rename_i v hv
    have := hK (some v) w' hx hx2
    rw [resAV_val hv]
    exact this
  · exact hx2.elim

theorem callFunc_run {f : FuncId} {args : Array Value} {w : World} (hf : (P.funcs[f]?).map (fun fn => fn.body.isSome && fn.name != "runtime.NumGoroutine") = some true) :
    (callFunc f args).run P w = .ok (.enter f args) w := by
  simp only [Option.map_eq_some_iff, Bool.and_eq_true, bne_iff_ne, ne_eq] at hf
  obtain ⟨fn, h1, h2, h3⟩ := hf
  have h4 : (fn.name == "runtime.NumGoroutine") = false := by simpa using h3
  have h5 : fn.body.isNone = false := by cases hb : fn.body <;> simp_all
  simp only [callFunc, Sem.run_bind, run_program, Result.andThen_ok, h1, h4, h5, Bool.false_eq_true, if_false, Sem.run_pure]

theorem slOf_val {v : AV} {d : SlT} (hv : slOf v = some d) : v.val = .slice (d.1.map PA.val) d.2.1 d.2.2 := by
  unfold slOf at hv
  split at hv
  · simp at hv; subst hv; rfl
  · cases hv

theorem firstCells_run {sz m cap : Nat} {s : Option PA} {len : Nat} {vs : List Value} {w : World} (hl : vs.length = m * sz) (hv : m * sz = 0 ∨ ∃ q, s = some q ∧ rds w.heap q vs) :
    (Builtin.firstCells sz m (.slice (s.map PA.val) len cap)).run P w = .ok vs.toArray w := by
  rcases hv with h0 | ⟨q, rfl, hq⟩
  · obtain rfl : vs = [] := List.eq_nil_of_length_eq_zero (by omega)
    cases s with
    | none => exact run_firstCells_none _ _ _ _ _
    | some q => exact run_firstCells_some (P := P) w sz m q.val len cap [] (by simpa using h0.symm) (by simp)
  · exact run_firstCells_some (P := P) w sz m q.val len cap vs hl (fun j v hj => by rw [cell_add]; exact hq j v hj)

theorem elem_run {t e : TypeId} (h1 : elemT P t = some e) (w : World) : (underlying t).run P w = .ok (.slice e) w := run_underlying (under_of_elemT h1) w

theorem append_run {t u ty e f : TypeId} {sz byt : Nat} {z : List Cell} {d s : SlT} {w : World} {k : SlT → M}
    (ht : elemT P t = some e) (hu : elemT P u = some f) (hs : sizeT P e = some sz) (hz : zeroT P e = some z) (hb : bytesT P e = some byt)
    (hw : wp P (.append e sz byt z d s k) Q w.heap) :
    ∃ r w', (Builtin.append_ #[t, u] ty #[.slice (d.1.map PA.val) d.2.1 d.2.2, .slice (s.1.map PA.val) s.2.1 s.2.2]).run P w = .ok (.slice (r.1.map PA.val) r.2.1 r.2.2) w' ∧ Ext w w' ∧ wp P (k r) Q w'.heap := by
  obtain ⟨news, hl, hn, h1, hw⟩ := hw
  obtain ⟨i, hi, hsz⟩ := size_of_sizeT hs
  obtain ⟨zv, hzr, hzc⟩ := zero_run (P := P) hz w.drew
  have hby : i.bytes = byt := by
    have := hb
    simp only [bytesT, hi, Option.map_some, Option.some.injEq] at this
    exact this
  have hfw := firstCells_run (P := P) (w := w) (len := s.2.1) (cap := s.2.2) hl hn
  have hfd := firstCells_run (P := P) (w := w.drew) (len := s.2.1) (cap := s.2.2) hl hn
  obtain ⟨dp, dl, dc⟩ := d
  obtain ⟨sp, sl, sc⟩ := s
  dsimp only at *
  split at hw
  · rename_i hroom
    rcases hw with ⟨h0, hw⟩ | ⟨p, rfl, hk, hw⟩
    · refine ⟨(dp, dl + sl, dc), w, ?_, Ext.refl w, hw⟩
      obtain rfl : news = [] := List.eq_nil_of_length_eq_zero (by omega)
      cases dp <;> simp [Builtin.append_, elem_run ht, elem_run hu, run_sizeOf hs, Builtin.lenOf, hroom, hfw, storeCells]
    · refine ⟨(some p, dl + sl, dc), { w with heap := wrs w.heap (p.1, p.2 + dl * sz) news }, ?_, ⟨rfl, rfl, rfl⟩, hw⟩
      have hst := run_storeCells_wrs (P := P) news (p.1, p.2 + dl * sz) w 0 (by rw [hl]; exact hk) h1
      simp only [Nat.add_zero] at hst
      have hst2 : (storeCells (p.val.add (dl * sz)) news).run P w = .ok () { w with heap := wrs w.heap (p.1, p.2 + dl * sz) news } := by rw [add_val]; exact hst
      simp [Builtin.append_, elem_run ht, elem_run hu, run_sizeOf hs, Builtin.lenOf, hroom, hfw, hst2]
  · rename_i hroom
    obtain ⟨olds, hol, ho, hg, hw⟩ := hw
    have hfo := firstCells_run (P := P) (w := w.drew) (len := dl) (cap := dc) hol ho
    have hfit := growslice_fits (old := dc) (need := dl + sl) (by omega) hg.1
    have hge := grownCap_ge w (dl + sl) dc e
    have hcm := grownCap_le_maxLen w (dl + sl) dc e (by have := hg.2; simp only [maxLen]; omega)
    have hw' := hw (grownCap w (dl + sl) dc e) hge (by simp only [maxLen] at hcm; omega)
    refine ⟨(some (w.heap.size, 0), dl + sl, grownCap w (dl + sl) dc e), w.drew.alloc (.cells (olds ++ news ++ zeros z (grownCap w (dl + sl) dc e - (dl + sl))).toArray e (0, 0)), ?_, ⟨rfl, rfl, rfl⟩, hw'⟩
    have h63 : ¬ (9223372036854775807 < ((dl : Int) + (sl : Int))) := by have := hg.2; omega
    have h48 : ¬ (281474976710656 < Builtin.nextslicecap (dl + sl) dc * i.bytes) := by rw [hby]; omega
    simp [Builtin.append_, elem_run ht, elem_run hu, run_sizeOf hs, typeInfo, hi, Builtin.lenOf, hroom, h63, h48, Question.forced, hfd, hfo, newRow, grownCap, hzr, hzc]
    refine ⟨rfl, ?_⟩
    congr 2
    apply Array.ext'
    simp [zeros]

theorem copy_run {t u ty e f : TypeId} {sz : Nat} {d s : SlT} {w : World} {k : Nat → M}
    (ht : elemT P t = some e) (_hu : elemT P u = some f) (hs : sizeT P e = some sz) (hw : wp P (.copy sz d s k) Q w.heap) :
    ∃ w', (Builtin.copy_ #[t, u] ty #[.slice (d.1.map PA.val) d.2.1 d.2.2, .slice (s.1.map PA.val) s.2.1 s.2.2]).run P w = .ok (goInt (Nat.min s.2.1 d.2.1)) w' ∧ Ext w w' ∧
      wp P (k (Nat.min s.2.1 d.2.1)) Q w'.heap := by
  obtain ⟨vs, hl, hv, hw⟩ := hw
  obtain ⟨dp, dl, dc⟩ := d
  obtain ⟨sp, sl, sc⟩ := s
  dsimp only at *
  have hf : (Builtin.firstCells sz (Nat.min sl dl) (.slice (sp.map PA.val) sl sc)).run P w = .ok vs.toArray w := by
    refine firstCells_run (P := P) (w := w) hl ?_
    rcases hv with rfl | ⟨p, q, rfl, rfl, hq, hk, h1⟩
    · exact .inl (by simpa using hl.symm)
    · exact .inr ⟨q, rfl, hq⟩
  rcases hv with rfl | ⟨p, q, rfl, rfl, hq, hk, h1⟩
  · refine ⟨w, ?_, Ext.refl w, ?_⟩
    · cases dp <;> simp [Builtin.copy_, elem_run ht, run_sizeOf hs, Builtin.lenOf, hf, storeCells]
    · cases dp <;> exact hw
  · have hst := run_storeCells_wrs (P := P) vs p w 0 hk h1
    simp only [Nat.add_zero] at hst
    refine ⟨{ w with heap := wrs w.heap p vs }, ?_, ⟨rfl, rfl, rfl⟩, hw⟩
    have hf' : (Builtin.firstCells sz (min sl dl) (.slice (some q.val) sl sc)).run P w = .ok vs.toArray w := hf
    simp [Builtin.copy_, elem_run ht, run_sizeOf hs, Builtin.lenOf, hf', hst]

theorem make_run {t e : TypeId} {sz byt : Nat} {z : List Cell} {k1 k2 : IntKind} {l c : Int} {w : World} {k : SlT → M}
    (ht : elemT P t = some e) (hs : sizeT P e = some sz) (hz : zeroT P e = some z) (hb : bytesT P e = some byt) (hw : wp P (.make e sz byt z l c k) Q w.heap) :
    ∃ r w', (Instr.makeSlice t (.int k1 l) (.int k2 c)).run P w = .ok (.slice (r.1.map PA.val) r.2.1 r.2.2) w' ∧ Ext w w' ∧ wp P (k r) Q w'.heap := by
  obtain ⟨h0, hlc, hbytes, h63, hw⟩ := hw
  obtain ⟨i, hi, hsz⟩ := size_of_sizeT hs
  obtain ⟨i', zv, hi', hzv, hzc⟩ := zero_of_zeroT hz
  obtain rfl : i = i' := by rw [hi] at hi'; exact Option.some.inj hi'
  have hby : i.bytes = byt := by
    have := hb
    simp only [bytesT, hi, Option.map_some, Option.some.injEq] at this
    exact this
  have := run_make (P := P) w t e i zv (under_of_elemT ht) hi hzv k1 k2 l c h0 hlc (by rw [hby]; exact hbytes) h63
  refine ⟨(some (w.heap.size, 0), l.toNat, c.toNat), _, this, ⟨rfl, rfl, rfl⟩, ?_⟩
  rw [hsz, hzc]
  exact hw

theorem buildSlice_run {t e : TypeId} {sz len : Nat} {z cells : List Cell} {parts : Array (Nat × Value)} {vs : List (Nat × AV)} {w : World}
    (ht : elemT P t = some e) (hs : sizeT P e = some sz) (hz : zeroT P e = some z) (hd : len * sz ≤ 16777216 ∧ z.length = sz ∧ 0 < sz)
    (hc : fillC (fun i => some (i * sz, sz)) (rowOf z (len * sz)) vs = some cells) (hp : parts.toList = vs.map fun x => (x.1, x.2.val)) :
    (Instr.buildSlice t len parts).run P w = .ok (.slice (some ⟨w.heap.size, 0, none⟩) len len) { w with heap := newCells w.heap e (cells.map Cell.val) } := by
  obtain ⟨zv, hzr, hzc⟩ := zero_run (P := P) hz w
  have hf := fill_val hc
  have hn : ¬ 16777216 < len * sz := by omega
  have e1 : (Array.range (len * sz)).map (fun i => ((z.map Cell.val).toArray)[i % ((z.map Cell.val).toArray).size]!) = ((rowOf z (len * sz)).map Cell.val).toArray := by
    apply Array.ext'
    simp only [Array.toList_map, Array.toList_range, rowOf, List.map_map, List.size_toArray, List.length_map]
    apply List.map_congr_left
    intro i _
    have hlt : i % z.length < z.length := Nat.mod_lt _ (by omega)
    simp [hlt]
  by_cases hz0 : len * sz = 0
  · have e2 : rowOf z (len * sz) = [] := by rw [hz0]; rfl
    rw [e2] at hf
    simp only [Instr.buildSlice, elem_run ht, run_sizeOf hs, Sem.run_bind, Result.andThen_ok, hz0, newRow, hp, if_true]
    simp [Array.range_zero'] at hf ⊢
    rw [hf]
    rfl
  · simp only [Instr.buildSlice, elem_run ht, run_sizeOf hs, Sem.run_bind, Result.andThen_ok, hz0, newRow, hp, if_false]
    rw [if_neg (by simpa using hd.1)]
    simp only [Sem.run_bind, hzr, Result.andThen_ok, Sem.run_pure, hzc]
    rw [e1, hf]
    rfl

theorem call_sound {K : Act → World → Prop} {Qc : Exit → Act → World → Prop} {w : World} {k : Option AV → M} {c : Call} (ho : o.op = .call c) (hr : Rel n r a)
    (hK : After P o a Q w k K) (hw : wp P (callOp P c.callee c.args.toList c.argTypes.toList o.type r k) Q w.heap) : o.wp P a w K Qc := by
  obtain ⟨callee, ⟨args⟩, ⟨ts⟩⟩ := c
  unfold callOp at hw
  dsimp only at hw
  split at hw
  · -- append
    rename_i x y t u
    obtain ⟨vd, hvd, hw⟩ := ev_wp hw
    obtain ⟨vs, hvs, hw⟩ := ev_wp hw
    split at hw
    · rename_i d s e f hd hs he hf
      split at hw
      · rename_i sz z byt h1 h2 h3
        obtain ⟨res, w', hrun, hx, hw'⟩ := append_run (ty := o.type) he hf h1 h2 h3 hw
        refine Oper.wp_value (v := .slice (res.1.map PA.val) res.2.1 res.2.2) (w' := w') ?_ (hK (some (.c (.sl res.1 res.2.1 res.2.2))) w' hx hw')
        simp only [execOp, ho, resolve, invoke, builtin, List.map_toArray, List.map_cons, List.map_nil, hr.eval hvd, hr.eval hvs, slOf_val hd, slOf_val hs, Sem.run_bind, Sem.run_pure, Result.andThen_ok, hrun]
      · exact hw.elim
    · exact hw.elim
  · -- copy
    rename_i x y t u
    obtain ⟨vd, hvd, hw⟩ := ev_wp hw
    obtain ⟨vs, hvs, hw⟩ := ev_wp hw
    split at hw
    · rename_i d s e f hd hs he hf
      split at hw
      · rename_i sz h1
        obtain ⟨w', hrun, hx, hw'⟩ := copy_run (ty := o.type) he hf h1 hw
        refine Oper.wp_value (v := goInt (Nat.min s.2.1 d.2.1)) (w' := w') ?_ (hK (some (.c (.int .i64 (Nat.min s.2.1 d.2.1 : Nat)))) w' hx hw')
        simp only [execOp, ho, resolve, invoke, builtin, List.map_toArray, List.map_cons, List.map_nil, hr.eval hvd, hr.eval hvs, slOf_val hd, slOf_val hs, Sem.run_bind, Sem.run_pure, Result.andThen_ok, hrun]
      · exact hw.elim
    · exact hw.elim
  · -- a function of the program's
    rename_i f
    obtain ⟨vs, hvs, hw⟩ := evs_wp hr hw
    split at hw
    · rename_i tup ss hf hs
      refine calls_sound (k := k) (f := f) (args := (vs.map AV.val).toArray) ?_ hK hw
      simp only [execOp, ho, resolve, Act.eval, Deferred.ofValue, invoke, Sem.run_bind, Sem.run_pure, Result.andThen_ok, List.map_toArray]
      have e : args.map a.eval = vs.map AV.val := hvs
      rw [e]
      simpa using callFunc_run hf
    · exact hw.elim
  · -- a function value
    rename_i t
    obtain ⟨v, hv, hw⟩ := ev_wp hw
    split at hw
    · rename_i u
      obtain ⟨vs, hvs, hw⟩ := evs_wp hr hw
      split at hw
      · rename_i tup ss hs
        have he := hr.eval hv
        simp only [wp, callOf] at hw
        split at hw
        · rename_i f first cap _
          refine calls_sound (k := k) (f := f) (args := first ++ (vs.map AV.val).toArray ++ cap) ?_ hK hw.2
          have e : args.map a.eval = vs.map AV.val := hvs
          simp only [execOp, ho, resolve, he, AV.val, Cell.val, Deferred.ofValue, invoke, Sem.run_bind, Sem.run_pure, Result.andThen_ok, List.map_toArray, e]
          simpa using callFunc_run hw.1
        · exact hw.elim
      · exact hw.elim
    · exact hw.elim
  · exact hw.elim

theorem eff_sound {K : Act → World → Prop} {Qc : Exit → Act → World → Prop} {w : World} {k : Option AV → M} (hr : Rel n r a)
    (hK : After P o a Q w k K) (hw : wp P (effOp P o r k) Q w.heap) : o.wp P a w K Qc := by
  unfold effOp at hw
  split at hw
  · -- alloc
    rename_i e ho
    split at hw
    · rename_i cs hz
      obtain ⟨z, hzr, hzc⟩ := zero_run hz w
      refine Oper.wp_value (v := .pointer (some ⟨w.heap.size, 0, none⟩)) (w' := { w with heap := newCells w.heap e (cs.map Cell.val) }) ?_ (hK (some (.c (.addr (w.heap.size, 0)))) { w with heap := newCells w.heap e (cs.map Cell.val) } ⟨rfl, rfl, rfl⟩ hw)
      simp only [execOp, ho, Instr.alloc, Sem.run_bind, hzr, Result.andThen_ok, newVar, hzc]
      rfl
    · exact hw.elim
  · -- box
    rename_i e x ho
    obtain ⟨v, hv, hw⟩ := ev_wp hw
    split at hw
    · rename_i ht
      refine Oper.wp_value (v := .pointer (some ⟨w.heap.size, 0, none⟩)) (w' := { w with heap := newCells w.heap e ((cellsAV v).map Cell.val) }) ?_ (hK (some (.c (.addr (w.heap.size, 0)))) { w with heap := newCells w.heap e ((cellsAV v).map Cell.val) } ⟨rfl, rfl, rfl⟩ hw)
      simp only [execOp, ho, hr.eval hv, Instr.box, newVar, cells_val ht]
      rfl
    · exact hw.elim
  · -- buildSlice
    rename_i t len parts ho
    obtain ⟨vs, hvs, hw⟩ := evParts_wp hr hw
    split at hw
    · rename_i e he
      split at hw
      · rename_i sz z h1 h2
        split at hw
        · rename_i hd
          have hd := of_decide_eq_true hd
          split at hw
          · rename_i cells hc
            have hp : (parts.map (fun x => (x.1, a.eval x.2))).toList = vs.map (fun x => (x.1, x.2.val)) := by rw [← hvs]; simp
            have hrun := buildSlice_run (w := w) he h1 h2 hd hc hp
            refine Oper.wp_value (v := .slice (some ⟨w.heap.size, 0, none⟩) len len) (w' := { w with heap := newCells w.heap e (cells.map Cell.val) }) ?_ (hK (some (.c (.sl (some (w.heap.size, 0)) len len))) { w with heap := newCells w.heap e (cells.map Cell.val) } ⟨rfl, rfl, rfl⟩ hw)
            simp only [execOp, ho, Sem.run_bind]
            rw [hrun]
            rfl
          · exact hw.elim
        · exact hw.elim
      · exact hw.elim
    · exact hw.elim
  · -- store
    rename_i t x y ho
    obtain ⟨v, hv, hw⟩ := ev_wp hw
    split at hw
    · rename_i p
      obtain ⟨u, hu, hw⟩ := ev_wp hw
      split at hw
      · rename_i m ht hm
        split at hw
        · rename_i hb
          have hb := Nat.eq_of_beq_eq_true hb
          obtain ⟨h', hrun, hw⟩ := stores_wp (cellsAV u) p (k none) w 0 hw
          refine Oper.wp_skip (w' := { w with heap := h' }) ?_ (hK none { w with heap := h' } ⟨rfl, rfl, rfl⟩ hw)
          have hc := cells_val ht
          have hsz : u.val.cells.size = m := by rw [hc]; simpa using hb
          have e1 : a.eval x = .pointer (some p.val) := hr.eval hv
          simp only [execOp, ho, e1, hr.eval hu, Instr.storeAt, Instr.sureAddr, storeVar, Sem.run_bind, Sem.run_pure, Result.andThen_ok, run_sizeOf hm]
          simp only [hc]
          simp [hrun]
          exact hb
        · exact hw.elim
      · exact hw.elim
    · exact hw.elim
  · -- makeSlice
    rename_i t l c ho
    obtain ⟨k1, m1, h1, hw⟩ := evInt_wp hr hw
    obtain ⟨k2, m2, h2, hw⟩ := evInt_wp hr hw
    split at hw
    · rename_i e he
      split at hw
      · rename_i sz z byt g1 g2 g3
        obtain ⟨res, w', hrun, hx, hw'⟩ := make_run (k1 := k1) (k2 := k2) he g1 g2 g3 hw
        refine Oper.wp_value (v := .slice (res.1.map PA.val) res.2.1 res.2.2) (w' := w') ?_ (hK (some (.c (.sl res.1 res.2.1 res.2.2))) w' hx hw')
        simp only [execOp, ho, h1, h2, Sem.run_bind, hrun, Result.andThen_ok, Sem.run_pure]
      · exact hw.elim
    · exact hw.elim
  · exact call_sound (by assumption) hr hK hw
  · exact hw.elim
end

end Go.Proofs.Ytkhpbcckaenmcaa
