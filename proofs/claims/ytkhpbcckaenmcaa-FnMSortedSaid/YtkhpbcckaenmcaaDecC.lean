/-
  The reading of a pure operation is right: the operation runs to the value that the reading gives. Conditions: none.
-/
import Derived.Test.YtkhpbcckaenmcaaDecB
namespace Go.Proofs.Ytkhpbcckaenmcaa
open Go

def Yld (P : Program) (o : Oper) (a : Act) (v : Value) : Prop := ∀ w, (execOp a.eval o).run P w = .ok (.value v) w

theorem Yld.of {P : Program} {o : Oper} {a : Act} {v : Value} {s : Sem Value} (h : execOp a.eval o = (do pure (.value (← s)))) (hs : ∀ w, s.run P w = .ok v w) : Yld P o a v := by
  intro w; rw [h]; simp [hs]

theorem intOp_wp {P : Program} {Q : Ex → List AV → H → Prop} {h : H} {op : BinOp} {kd : IntKind} {x y : Int} {k : AV → M} (hne : op ≠ .shr) (hw : wp P (intOp op kd x y k) Q h) :
    ∃ v : AV, (∀ (t : TypeId) (w : World), (binOp op t (.int kd x) (.int kd y)).run P w = .ok v.val w) ∧ wp P (k v) Q h := by
  cases op <;> simp only [intOp, wp, ne_eq, not_true_eq_false] at hw hne
  case add => exact ⟨_, fun t w => by simp [binOp, Op.intArith, AV.val, Cell.val]; exact hw.1, hw.2⟩
  case sub => exact ⟨_, fun t w => by simp [binOp, Op.intArith, AV.val, Cell.val]; exact hw.1, hw.2⟩
  case mul => exact ⟨_, fun t w => by simp [binOp, Op.intArith, AV.val, Cell.val]; exact hw.1, hw.2⟩
  case quo => exact ⟨_, fun t w => by simp [binOp, Op.intDiv, AV.val, Cell.val, hw.1.1]; exact hw.1.2, hw.2⟩
  case rem => exact ⟨_, fun t w => by simp [binOp, Op.intDiv, AV.val, Cell.val, hw.1], hw.2⟩
  case eql => exact ⟨_, fun t w => by simp [binOp, Op.intCmp, AV.val, Cell.val], hw⟩
  case neq => exact ⟨_, fun t w => by simp [binOp, Op.intCmp, AV.val, Cell.val], hw⟩
  case lss => exact ⟨_, fun t w => by simp [binOp, Op.intCmp, AV.val, Cell.val], hw⟩
  case leq => exact ⟨_, fun t w => by simp [binOp, Op.intCmp, AV.val, Cell.val], hw⟩
  case gtr => exact ⟨_, fun t w => by simp [binOp, Op.intCmp, AV.val, Cell.val], hw⟩
  case geq => exact ⟨_, fun t w => by simp [binOp, Op.intCmp, AV.val, Cell.val], hw⟩

theorem shrOp_wp {P : Program} {Q : Ex → List AV → H → Prop} {h : H} {kd k2 : IntKind} {x y : Int} {k : AV → M} (hw : wp P (intOp .shr kd x y k) Q h) :
    ∃ v : AV, (∀ (t : TypeId) (w : World), (binOp .shr t (.int kd x) (.int k2 y)).run P w = .ok v.val w) ∧ wp P (k v) Q h := by
  simp only [intOp, wp] at hw
  refine ⟨_, fun t w => ?_, hw.2⟩
  have h1 : ¬ y < 0 := by omega
  simp [binOp, Op.shift, h1, AV.val, Cell.val, Nat.min_eq_left hw.1.2]

theorem strOp_wp {P : Program} {Q : Ex → List AV → H → Prop} {h : H} {op : BinOp} {x y : ByteArray} {k : AV → M} (hw : wp P (strOp op x y k) Q h) :
    ∃ v : AV, (∀ (t : TypeId) (w : World), (binOp op t (.string x) (.string y)).run P w = .ok v.val w) ∧ wp P (k v) Q h := by
  cases op <;> simp only [strOp, wp] at hw
  all_goals exact ⟨_, fun t w => by simp [binOp, Op.stringOp, AV.val, Cell.val], hw⟩

theorem eqGuard_ok (P : Program) (op : BinOp) (t : TypeId) (x y : Operand) (u v : Value) (h : ∀ cs, u ≠ .agg cs) (h2 : u ≠ .nilIface) (w : World) : (eqGuard op t x y u v).run P w = .ok () w := by
  unfold eqGuard
  cases op <;> simp <;> cases u <;> simp_all

section
variable {P : Program} {n : Nat} {r : Regs} {a : Act} {Q : Ex → List AV → H → Prop} {h : H} {o : Oper} {k : AV → M}

theorem fill_val {place : Nat → Option (Nat × Nat)} : ∀ {vs : List (Nat × AV)} {cells out : List Cell}, fillC place cells vs = some out →
    Instr.fill place (cells.map Cell.val).toArray (vs.map fun x => (x.1, x.2.val)) = some (out.map Cell.val).toArray
  | [], cells, out, he => by simp [fillC] at he; subst he; rfl
  | (i, v) :: rest, cells, out, he => by
    simp only [fillC] at he
    split at he
    · rename_i off size hp ht
      split at he
      · rename_i hd
        have hd := of_decide_eq_true hd
        have hc := cells_val ht
        have := fill_val he
        simp only [List.map_cons, Instr.fill, hp, hc]
        rw [setCells_val] at this
        rw [if_neg (by simp; omega)]
        exact this
      · simp at he
    · simp at he

theorem eq_ptr_nil {t e : TypeId} (hu : P.underlying t = some (.pointer e)) (p : Option Addr) (w : World) : (Op.equal t (.pointer p) (.pointer none)).run P w = .ok p.isNone w := by
  show (Op.equalIn (9999 + 1) t (.pointer p) (.pointer none)).run P w = _
  cases p <;> rw [Op.equalIn] <;> simp [run_underlying hu]
theorem eq_sl_nil {t e : TypeId} (hu : P.underlying t = some (.slice e)) (p : Option Addr) (l c l2 c2 : Nat) (w : World) : (Op.equal t (.slice p l c) (.slice none l2 c2)).run P w = .ok p.isNone w := by
  show (Op.equalIn (9999 + 1) t (.slice p l c) (.slice none l2 c2)).run P w = _
  cases p <;> rw [Op.equalIn] <;> simp [run_underlying hu]
theorem bin_eq {t : TypeId} {x y : Value} {b : Bool} {op : BinOp} (c : Bool) (hc : op = .eql ∧ c = b ∨ op = .neq ∧ c = !b) (w : World) (he : (Op.equal t x y).run P w = .ok b w)
    (hx : (∃ p q, x = .pointer p ∧ y = .pointer q) ∨ ∃ p l k q l2 k2, x = .slice p l k ∧ y = .slice q l2 k2) : (binOp op t x y).run P w = .ok (.bool c) w := by
  rcases hx with ⟨p, q, rfl, rfl⟩ | ⟨p, l, k, q, l2, k2, rfl, rfl⟩ <;> rcases hc with ⟨rfl, rfl⟩ | ⟨rfl, rfl⟩ <;> simp only [binOp, Sem.run_bind, he] <;> rfl
theorem nil_wp {op : BinOp} {b : Bool} (hw : wp P (nilM op b k) Q h) : ∃ c, (op = .eql ∧ c = b ∨ op = .neq ∧ c = !b) ∧ wp P (k (.c (.bool c))) Q h := by
  unfold nilM at hw
  split at hw
  · exact ⟨b, .inl ⟨rfl, rfl⟩, hw⟩
  · exact ⟨!b, .inr ⟨rfl, rfl⟩, hw⟩
  · exact hw.elim

theorem boolOf_val {c : Cell} {b : Bool} (h : boolOf c = some b) : c.val = .bool b := by
  cases c <;> simp [boolOf] at h <;> subst h <;> rfl
theorem eq1_run {P : Program} {t : TypeId} {c d : Cell} {b : Bool} (h : eq1 P t (some c) (some d) = some b) (n : Nat) (w : World) : (Op.equalIn (n + 1) t c.val d.val).run P w = .ok b w := by
  unfold eq1 at h
  split at h
  · rename_i k a k' a' e1 e2
    obtain rfl := Option.some.inj e1
    obtain rfl := Option.some.inj e2
    split at h
    · rename_i kk hu
      split at h
      · rename_i hk
        obtain rfl := kindEq_eq hk
        obtain rfl := Option.some.inj h
        rw [Op.equalIn]
        simp [run_underlying hu, Cell.val]
      · cases h
    · cases h
  · rename_i c' d' hn e1 e2
    obtain rfl := Option.some.inj e1
    obtain rfl := Option.some.inj e2
    split at h
    · rename_i a b hu ha hb
      obtain rfl := Option.some.inj h
      rw [Op.equalIn, boolOf_val ha, boolOf_val hb]
      simp [run_underlying hu]
    · cases h
  · cases h
theorem eqFs_run {P : Program} {cs ds : List Cell} (N : Nat) {sub : TypeId → List Cell → List Cell → Option Bool} (w : World)
    (hsub : ∀ t cs ds b, sub t cs ds = some b → (Op.equalIn (N + 1) t (.agg (cs.map Cell.val).toArray) (.agg (ds.map Cell.val).toArray)).run P w = .ok b w) : ∀ {fs : List Field} {r : Bool}, eqFs P sub cs ds fs = some r →
    (forIn fs ((none, ()) : Option Bool × Unit) (fun f (__s : Option Bool × Unit) =>
                if f.name ≠ "_" then (do
                  let a ← part f.type (cs.map Cell.val).toArray f.offset
                  let b ← part f.type (ds.map Cell.val).toArray f.offset
                  let c ← Op.equalIn (N + 1) f.type a b
                  if (!c) = true then pure (ForInStep.done (some false, ()))
                    else pure (ForInStep.yield (none, ())) : Sem (ForInStep (Option Bool × Unit)))
                else pure (ForInStep.yield (none, ())))).run P w = .ok (if r then (none, ()) else (some false, ())) w := by
  intro fs
  induction fs with
  | nil => intro r h; simp [eqFs] at h; subst h; simp
  | cons f fs ih =>
    intro r h
    simp only [eqFs] at h
    have key : ∀ (b r' : Bool) (u v : Value), decide (f.name = "_") = false → (part f.type (cs.map Cell.val).toArray f.offset).run P w = .ok u w → (part f.type (ds.map Cell.val).toArray f.offset).run P w = .ok v w →
        (Op.equalIn (N + 1) f.type u v).run P w = .ok b w → eqFs P sub cs ds fs = some r' → r = (b && r') →
        (forIn (f :: fs) ((none, ()) : Option Bool × Unit) (fun f (__s : Option Bool × Unit) =>
                if f.name ≠ "_" then (do
                  let a ← part f.type (cs.map Cell.val).toArray f.offset
                  let b ← part f.type (ds.map Cell.val).toArray f.offset
                  let c ← Op.equalIn (N + 1) f.type a b
                  if (!c) = true then pure (ForInStep.done (some false, ()))
                    else pure (ForInStep.yield (none, ())) : Sem (ForInStep (Option Bool × Unit)))
                else pure (ForInStep.yield (none, ())))).run P w = .ok (if r then (none, ()) else (some false, ())) w := by
      intro b r' u v h1 p1 p2 e h4 hr
      subst hr
      have hn : f.name ≠ "_" := of_decide_eq_false h1
      rw [List.forIn_cons, if_pos hn]
      simp only [Sem.run_bind, p1, p2, e, Result.andThen_ok]
      cases b with
      | false => simp
      | true =>
        simp only [Bool.not_true, Bool.false_eq_true, if_false, Sem.run_pure, Result.andThen_ok, Bool.true_and]
        exact ih h4
    split at h
    · rename_i h1 h2
      split at h
      · rename_i b r' h3 h4
        cases hc : cs[f.offset]? with
        | none => rw [hc] at h3; cases hd : ds[f.offset]? <;> rw [hd] at h3 <;> simp [eq1] at h3
        | some c =>
          cases hd : ds[f.offset]? with
          | none => rw [hc, hd] at h3; cases c <;> simp [eq1] at h3
          | some d =>
            rw [hc, hd] at h3
            exact key b r' c.val d.val h1 (by simp [part, aggT_some h2, hc]) (by simp [part, aggT_some h2, hd]) (eq1_run h3 N w) h4 (Option.some.inj h).symm
      · cases h
    · rename_i h1 h2
      split at h
      · rename_i n hs
        split at h
        · rename_i b r' h3 h4
          refine key b r' (.agg (((cs.drop f.offset).take n).map Cell.val).toArray) (.agg (((ds.drop f.offset).take n).map Cell.val).toArray) h1 ?_ ?_ (hsub _ _ _ _ h3) h4 (Option.some.inj h).symm
          · simp [part, aggT_some h2, run_sizeOf hs, List.map_drop, List.map_take, List.extract_eq_take_drop]
          · simp [part, aggT_some h2, run_sizeOf hs, List.map_drop, List.map_take, List.extract_eq_take_drop]
        · cases h
      · cases h
    · cases h
theorem eqT_run (w : World) : ∀ (d N : Nat) {t : TypeId} {cs ds : List Cell} {b : Bool}, d ≤ N → eqT P d t cs ds = some b →
    (Op.equalIn (N + 1) t (.agg (cs.map Cell.val).toArray) (.agg (ds.map Cell.val).toArray)).run P w = .ok b w
  | 0, _, _, _, _, _, _, h => by simp [eqT] at h
  | d + 1, N, t, cs, ds, b, hN, h => by
    simp only [eqT] at h
    split at h
    · rename_i fs hf hs
      unfold structT at hf
      split at hf
      · rename_i fa hu
        obtain rfl := Option.some.inj hf
        obtain ⟨M, rfl⟩ : ∃ M, N = M + 1 := ⟨N - 1, by omega⟩
        rw [Op.equalIn]
        have := eqFs_run M w (fun t cs ds b hb => eqT_run w d M (by omega) hb) h
        rw [Array.forIn_toList] at this
        simp only [Sem.run_bind, run_underlying hu, Result.andThen_ok, run_program, hs, Bool.false_eq_true, if_false]
        rw [this]
        cases b <;> simp
      · cases hf
    · cases h
theorem bin_sound {op : BinOp} {t : TypeId} {vx vy : AV} (hw : wp P (binM P op t vx vy k) Q h) :
    ∃ v : AV, (∀ (x y : Operand) (w : World), (eqGuard op t x y vx.val vy.val).run P w = .ok () w ∧ (binOp op t vx.val vy.val).run P w = .ok v.val w) ∧ wp P (k v) Q h := by
  unfold binM at hw
  split at hw
  · rename_i k1 a k2 b
    unfold intM at hw
    split at hw
    · obtain ⟨v, hv, hw⟩ := shrOp_wp (k2 := k2) hw
      exact ⟨v, fun x y w => ⟨eqGuard_ok P _ _ _ _ _ _ (by simp [AV.val, Cell.val]) (by simp [AV.val, Cell.val]) w, hv t w⟩, hw⟩
    · exact hw.elim
    · split at hw
      · rename_i hk
        obtain rfl := kindEq_eq hk
        obtain ⟨v, hv, hw⟩ := intOp_wp (by assumption) hw
        exact ⟨v, fun x y w => ⟨eqGuard_ok P _ _ _ _ _ _ (by simp [AV.val, Cell.val]) (by simp [AV.val, Cell.val]) w, hv t w⟩, hw⟩
      · exact hw.elim
  · obtain ⟨v, hv, hw⟩ := strOp_wp hw
    exact ⟨v, fun x y w => ⟨eqGuard_ok P _ _ _ _ _ _ (by simp [AV.val, Cell.val]) (by simp [AV.val, Cell.val]) w, hv t w⟩, hw⟩
  · rename_i p
    split at hw
    · rename_i hp
      unfold isPtrT at hp
      split at hp
      · rename_i e hu
        obtain ⟨c, hc, hw⟩ := nil_wp hw
        refine ⟨_, fun x y w => ⟨eqGuard_ok P _ _ _ _ _ _ (by simp [AV.val, Cell.val]) (by simp [AV.val, Cell.val]) w, ?_⟩, hw⟩
        exact bin_eq c hc w (by simpa [AV.val, Cell.val] using eq_ptr_nil hu (p.map PA.val) w) (.inl ⟨_, _, rfl, rfl⟩)
      · cases hp
    · exact hw.elim
  · rename_i p
    split at hw
    · rename_i hp
      unfold isPtrT at hp
      split at hp
      · rename_i e hu
        obtain ⟨c, hc, hw⟩ := nil_wp hw
        refine ⟨_, fun x y w => ⟨eqGuard_ok P _ _ _ _ _ _ (by simp [AV.val, Cell.val]) (by simp [AV.val, Cell.val]) w, ?_⟩, hw⟩
        exact bin_eq c hc w (by simpa [AV.val, Cell.val] using eq_ptr_nil hu (some p.val) w) (.inl ⟨_, _, rfl, rfl⟩)
      · cases hp
    · exact hw.elim
  · rename_i p l c2 l2 c3
    split at hw
    · rename_i e hel
      have hu := under_of_elemT hel
      obtain ⟨c, hc, hw⟩ := nil_wp hw
      refine ⟨_, fun x y w => ⟨eqGuard_ok P _ _ _ _ _ _ (by simp [AV.val, Cell.val]) (by simp [AV.val, Cell.val]) w, ?_⟩, hw⟩
      exact bin_eq c hc w (by simpa [AV.val, Cell.val] using eq_sl_nil hu (p.map PA.val) l c2 l2 c3 w) (.inr ⟨_, _, _, _, _, _, rfl, rfl⟩)
    · exact hw.elim
  · rename_i cs ds
    split at hw
    · rename_i hgd
      split at hw
      · rename_i b he
        obtain ⟨c, hc, hw⟩ := nil_wp hw
        have h1 : ∀ w, (Op.equal t (.agg (cs.map Cell.val).toArray) (.agg (ds.map Cell.val).toArray)).run P w = .ok b w := fun w => eqT_run w 3 9999 (by omega) he
        refine ⟨_, fun x y w => ⟨?_, ?_⟩, hw⟩
        · rcases hc with ⟨rfl, _⟩ | ⟨rfl, _⟩ <;> simp [eqGuard, AV.val, run_program, hgd]
        · rcases hc with ⟨rfl, rfl⟩ | ⟨rfl, rfl⟩ <;> simp only [binOp, AV.val, Sem.run_bind, h1] <;> rfl
      · exact hw.elim
    · exact hw.elim
  · exact hw.elim

theorem places_run {fs : List Field} {pl : List (Nat × Nat)} (hp : placesT P fs = some pl) (w : World) :
    (fs.mapM (fun f => do pure (f.offset, ← sizeOf f.type) : Field → Sem (Nat × Nat))).run P w = .ok pl w := by
  induction fs generalizing pl with
  | nil => simp [placesT] at hp; subst hp; simp
  | cons f fs ih =>
    simp only [placesT] at hp
    split at hp
    · rename_i s l h1 h2
      simp at hp; subst hp
      have := ih h2
      simp only [List.mapM_cons, Sem.run_bind, run_sizeOf h1, Result.andThen_ok, Sem.run_pure, this]
    · cases hp

theorem zero_of_zeroT {t : TypeId} {cs : List Cell} (hz : zeroT P t = some cs) : ∃ i z, P.info? t = some i ∧ i.zero = some z ∧ z.cells = (cs.map Cell.val).toArray := by
  simp only [zeroT, Option.bind_eq_some_iff] at hz
  obtain ⟨z, ⟨i, hi, hz0⟩, hz1⟩ := hz
  exact ⟨i, z, hi, hz0, by rw [ofVs_val hz1]⟩

theorem build_sound {t : TypeId} {fs : List Field} {z cells : List Cell} {places : List (Nat × Nat)} {parts : Array (Nat × Value)} {vs : List (Nat × AV)}
    (hu : structT P t = some fs) (hz : zeroT P t = some z) (hpl : placesT P fs = some places) (hc : fillC (fun i => places[i]?) z vs = some cells)
    (hp : parts.toList = vs.map fun x => (x.1, x.2.val)) (w : World) : (Instr.build t parts).run P w = .ok (AV.val (.agg cells)) w := by
  obtain ⟨i, z0, hi, hz0, hzc⟩ := zero_of_zeroT hz
  unfold structT at hu
  split at hu
  · rename_i fs' hus
    simp at hu; subst hu
    have hf := fill_val hc
    have hpr := places_run hpl w
    have hpr' : (fs'.mapM (fun f => do pure (f.offset, ← sizeOf f.type) : Field → Sem (Nat × Nat))).run P w = .ok places.toArray w := by
      rw [Array.mapM_eq_mapM_toList]
      simp only [Sem.run_map]
      rw [hpr]
      rfl
    simp only [Instr.build, zeroValue, typeInfo, Sem.run_bind, run_program, Result.andThen_ok, hi, hz0, Sem.run_pure, run_underlying hus, hpr', hzc, hp]
    have e : (fun i : Nat => places.toArray[i]?) = fun i => places[i]? := by funext j; simp
    rw [e, hf]
    rfl
  · cases hu

theorem builtin_sound {b : Builtin} {args : Array Operand} {ats : Array TypeId} (hr : Rel n r a) (hw : wp P (pureBuiltin P b args.toList ats.toList r k) Q h) :
    ∃ v : AV, (∀ (ty : TypeId) (w : World) (cs : Array Bool), (builtin b ats ty cs (args.map a.eval)).run P w = .ok (.value v.val) w) ∧ wp P (k v) Q h := by
  obtain ⟨args⟩ := args
  obtain ⟨ats⟩ := ats
  unfold pureBuiltin at hw
  split at hw
  · rename_i x t ha ht
    simp only at ha ht; subst ha; subst ht
    obtain ⟨v, hv, hw⟩ := ev_wp hw
    have he := hr.eval hv
    split at hw
    · split at hw
      · rename_i e hel
        have hu := under_of_elemT hel
        refine ⟨_, fun ty w cs => ?_, hw⟩
        simp [he, AV.val, Cell.val, builtin, Builtin.len_, run_underlying hu, goInt]
      · exact hw.elim
    · split at hw
      · rename_i hu
        refine ⟨_, fun ty w cs => ?_, hw⟩
        simp [he, AV.val, Cell.val, builtin, Builtin.len_, run_underlying hu, goInt]
      · exact hw.elim
    · exact hw.elim
  · rename_i x t ha ht
    simp only at ha ht; subst ha; subst ht
    obtain ⟨v, hv, hw⟩ := ev_wp hw
    have he := hr.eval hv
    split at hw
    · split at hw
      · rename_i e hel
        have hu := under_of_elemT hel
        refine ⟨_, fun ty w cs => ?_, hw⟩
        simp [he, AV.val, Cell.val, builtin, Builtin.cap_, run_underlying hu, goInt]
      · exact hw.elim
    · exact hw.elim
  · exact hw.elim

theorem least_some {l : List String} (h : l ≠ []) : ∃ m, Instr.least l = some m := by
  cases l with
  | nil => exact (h rfl).elim
  | cons s r => exact ⟨_, rfl⟩
theorem missing_some {want : Array (String × TypeId)} {x : String × TypeId} {l : List (String × TypeId)} (hw : want.toList = x :: l) {got : Array Method} (hg : got.toList = []) :
    ∃ m, Instr.missingMethod want got = some m := by
  obtain rfl : got = #[] := Array.ext' hg
  unfold Instr.missingMethod
  simp only [hw]
  generalize hl : ((List.filter (fun (x : String × TypeId) => match x with | (name, sig) => !(#[] : Array Method).any fun m => m.name == name && m.sig == sig) (x :: l)).map (·.1)) = ms
  have hne : ms ≠ [] := by subst hl; simp
  simp only [List.partition_eq_filter_filter]
  cases h1 : (ms.filter (not ∘ fun s => s.contains '.')) with
  | cons s r => exact ⟨_, rfl⟩
  | nil =>
    obtain ⟨m, hm⟩ := least_some (l := (ms.filter fun s => s.contains '.').map fun id => (id.splitOn ".").getLastD id) (by
      intro h
      rw [List.map_eq_nil_iff] at h
      cases ms with
      | nil => exact hne rfl
      | cons s r =>
        simp only [List.filter_cons, Function.comp] at h h1
        cases hc : s.contains '.' <;> simp [hc] at h h1)
    exact ⟨m, hm⟩

set_option maxHeartbeats 1000000 in
theorem pure_sound (hr : Rel n r a) (hw : wp P (pureOp P o r k) Q h) : ∃ v : AV, Yld P o a v.val ∧ wp P (k v) Q h := by
  unfold pureOp at hw
  split at hw
  · -- move
    obtain ⟨v, hv, hw⟩ := ev_wp hw
    exact ⟨v, fun w => by simp [execOp, *, hr.eval hv], hw⟩
  · obtain ⟨v, hv, hw⟩ := ev_wp hw
    exact ⟨v, fun w => by simp [execOp, *, hr.eval hv], hw⟩
  · -- pick
    rename_i c x y ho
    obtain ⟨v, hv, hw⟩ := ev_wp hw
    split at hw
    · obtain ⟨u, hu, hw⟩ := ev_wp hw
      exact ⟨u, fun w => by simp [execOp, ho, hr.eval hv, hr.eval hu, AV.val, Cell.val, asBool], hw⟩
    · obtain ⟨u, hu, hw⟩ := ev_wp hw
      exact ⟨u, fun w => by simp [execOp, ho, hr.eval hv, hr.eval hu, AV.val, Cell.val, asBool], hw⟩
    · exact hw.elim
  · -- nilCheck
    rename_i x ho
    obtain ⟨v, hv, hw⟩ := ev_wp hw
    have he := hr.eval hv
    split at hw
    · exact ⟨_, fun w => by simp [execOp, ho, he, AV.val, Cell.val], hw⟩
    · obtain ⟨p, rfl, hw⟩ := hw
      exact ⟨_, fun w => by simp [execOp, ho, he, AV.val, Cell.val], hw⟩
    · rename_i u
      obtain ⟨hn, hw⟩ := hw
      refine ⟨_, fun w => ?_, hw⟩
      cases u with
      | func f x y => cases f <;> simp [nilOk] at hn; simp [execOp, ho, he, AV.val, Cell.val]
      | iface t u => simp [execOp, ho, he, AV.val, Cell.val]
      | _ => simp [nilOk] at hn
    · exact hw.elim
  · -- fieldAddr
    rename_i s x f ho
    obtain ⟨v, hv, hw⟩ := ev_wp hw
    have he := hr.eval hv
    split at hw
    · rename_i p
      split at hw
      · rename_i off t hf
        split at hw
        · rename_i m hs
          obtain ⟨fs, fld, h1, h2, h3, h4⟩ := fieldT_some hf
          refine ⟨_, fun w => ?_, hw⟩
          subst h3; subst h4
          simp [execOp, ho, he, AV.val, Cell.val, Instr.fieldAt, run_underlying h1, h2, Instr.sureAddr, fieldPlace, run_sizeOf hs, add_val]
        · exact hw.elim
      · exact hw.elim
    · exact hw.elim
  · -- field
    rename_i s x f ho
    obtain ⟨v, hv, hw⟩ := ev_wp hw
    have he := hr.eval hv
    split at hw
    · rename_i cs
      split at hw
      · rename_i off t hf
        obtain ⟨fs, fld, h1, h2, h3, h4⟩ := fieldT_some hf
        subst h3; subst h4
        split at hw
        · rename_i m ha hs
          refine ⟨_, fun w => ?_, hw⟩
          simp [execOp, ho, he, AV.val, Instr.field, run_underlying h1, h2, asAgg, part, aggT_some ha, run_sizeOf hs]
        · rename_i m ha hs
          split at hw
          · rename_i c hc
            refine ⟨_, fun w => ?_, hw⟩
            simp [execOp, ho, he, AV.val, Instr.field, run_underlying h1, h2, asAgg, part, aggT_some ha, hc]
          · exact hw.elim
        · exact hw.elim
      · exact hw.elim
    · exact hw.elim
  · -- indexAddr
    rename_i t x i ho
    obtain ⟨v, hv, hw⟩ := ev_wp hw
    have he := hr.eval hv
    split at hw
    · rename_i p l c
      obtain ⟨kd, m, hi, hw⟩ := evInt_wp hr hw
      split at hw
      · rename_i e hel
        split at hw
        · rename_i sz hs
          obtain ⟨q, rfl, hb, hw⟩ := hw
          have hu := under_of_elemT hel
          refine ⟨_, fun w => ?_, hw⟩
          simp [execOp, ho, he, AV.val, Cell.val, hi, Instr.indexAt, asIntOf, run_underlying hu, hb.1, hb.2, run_sizeOf hs, add_val, mulN_eq]
        · exact hw.elim
      · exact hw.elim
    · rename_i p
      obtain ⟨kd, m, hi, hw⟩ := evInt_wp hr hw
      split at hw
      · rename_i len e hu
        split at hw
        · rename_i sz hs
          obtain ⟨hb, hw⟩ := hw
          refine ⟨_, fun w => ?_, hw⟩
          simp [execOp, ho, he, AV.val, Cell.val, hi, Instr.indexAt, asIntOf, run_underlying hu, hb.1, hb.2, run_sizeOf hs, add_val, mulN_eq, Instr.sureAddr]
        · exact hw.elim
      · exact hw.elim
    · exact hw.elim
  · -- binOp
    rename_i op t x y yt ho
    obtain ⟨vx, hvx, hw⟩ := ev_wp hw
    obtain ⟨vy, hvy, hw⟩ := ev_wp hw
    have hx := hr.eval hvx
    have hy := hr.eval hvy
    obtain ⟨v, hv, hw⟩ := bin_sound hw
    refine ⟨v, fun w => ?_, hw⟩
    obtain ⟨h1, h2⟩ := hv x y w
    simp only [execOp, ho, hx, hy]
    simp [h1, h2]
  · -- not
    rename_i t x ho
    obtain ⟨v, hv, hw⟩ := ev_wp hw
    have he := hr.eval hv
    split at hw
    · exact ⟨_, fun w => by simp [execOp, ho, he, AV.val, Cell.val, Op.unary], hw⟩
    · exact ⟨_, fun w => by simp [execOp, ho, he, AV.val, Cell.val, Op.unary], hw⟩
    · exact ⟨_, fun w => by simp [execOp, ho, he, AV.val, Cell.val, Op.unary], hw⟩
    · exact hw.elim
  · -- neg
    rename_i t x ho
    obtain ⟨v, hv, hw⟩ := ev_wp hw
    have he := hr.eval hv
    split at hw
    · exact ⟨_, fun w => by simp [execOp, ho, he, AV.val, Cell.val, Op.unary, Op.intArith]; simpa [InK] using hw.1, hw.2⟩
    · exact hw.elim
  · -- convert
    rename_i s t x ho
    obtain ⟨v, hv, hw⟩ := ev_wp hw
    have he := hr.eval hv
    split at hw
    · rename_i k1 m
      split at hw
      · rename_i d kd hs hk
        refine ⟨_, fun w => ?_, hw.2⟩
        unfold intT at hk
        split at hk
        · rename_i k' hu
          simp at hk; subst hk
          have hwr : k'.wrap m = m := hw.1
          simp [execOp, ho, he, AV.val, Cell.val, convert, run_underlying hs, run_underlying hu, Conv.intToInt, hwr]
        · simp at hk
      · exact hw.elim
    · exact hw.elim
  · -- makeInterface
    rename_i t x ho
    obtain ⟨v, hv, hw⟩ := ev_wp hw
    have he := hr.eval hv
    split at hw
    · exact hw.elim
    · rename_i d hd hu
      refine ⟨_, fun w => ?_, hw⟩
      simp only [execOp, ho, he, Instr.makeInterface]
      cases d <;> first | (exact (hd _ rfl).elim) | simp [run_underlying hu, AV.val, Cell.val]
    · exact hw.elim
  · -- typeAssert
    rename_i x xt asserted ho
    obtain ⟨v, hv, hw⟩ := ev_wp hw
    have he := hr.eval hv
    split at hw
    · rename_i t u
      split at hw
      · rename_i want i z hu hi hz
        split at hw
        · rename_i y l c h1 h2 h3
          refine ⟨_, fun w => ?_, hw⟩
          obtain ⟨m, hm⟩ := missing_some h1 h2
          obtain ⟨j, hj, hj2⟩ := Option.bind_eq_some_iff.1 hz
          simp only [execOp, ho, he, Instr.typeAssert, AV.val, Cell.val, Sem.run_bind, run_underlying hu, Result.andThen_ok]
          simp [typeInfo, hi, hm, zeroValue, hj, hj2, compVal]
          exact ⟨(ofV1_val h3).symm, rfl⟩
        · exact hw.elim
      · exact hw.elim
    · exact hw.elim
  · -- makeFunc
    rename_i fn first cap ho
    obtain ⟨xs, hxs, hw⟩ := evs_wp hr hw
    obtain ⟨ys, hys, hw⟩ := evs_wp hr hw
    refine ⟨_, fun w => ?_, hw⟩
    have e1 : first.map a.eval = (xs.map AV.val).toArray := by apply Array.ext'; rw [← hxs]; simp
    have e2 : cap.map a.eval = (ys.map AV.val).toArray := by apply Array.ext'; rw [← hys]; simp
    simp [execOp, ho, Instr.makeFunc, AV.val, Cell.val, e1, e2]
  · -- slice
    rename_i t x lo hi mx ho
    obtain ⟨v, hv, hw⟩ := ev_wp hw
    have he := hr.eval hv
    have opt : ∀ {y : Option Operand} {m : Option Int}, (y = none ∧ m = none ∨ ∃ kd i z, y = some z ∧ a.eval z = .int kd i ∧ m = some i) →
        (y.map a.eval = none ∧ m = none ∨ ∃ kd i, y.map a.eval = some (.int kd i) ∧ m = some i) := by
      intro y m hh
      rcases hh with ⟨rfl, rfl⟩ | ⟨kd, i, z, rfl, h1, rfl⟩
      · exact .inl ⟨rfl, rfl⟩
      · exact .inr ⟨kd, i, by simp [h1], rfl⟩
    have ints : ∀ {y : Option Operand} {k : Option Int → M}, wp P (evIntO r y k) Q h → ∃ m, (y.map a.eval = none ∧ m = none ∨ ∃ kd i, y.map a.eval = some (.int kd i) ∧ m = some i) ∧ wp P (k m) Q h := by
      intro y k hh
      rcases evIntO_wp hr hh with ⟨rfl, h1⟩ | ⟨kd, m, z, rfl, h1, h2⟩
      · exact ⟨none, .inl ⟨rfl, rfl⟩, h1⟩
      · exact ⟨some m, .inr ⟨kd, m, by simp [h1], rfl⟩, h2⟩
    split at hw
    · rename_i p l c
      obtain ⟨m1, o1, hw⟩ := ints hw
      obtain ⟨m2, o2, hw⟩ := ints hw
      obtain ⟨m3, o3, hw⟩ := ints hw
      split at hw
      · rename_i e hel
        split at hw
        · rename_i sz hs
          obtain ⟨L, Hh, Mm, hrun, hw⟩ := run_slice3 true o1 o2 o3 hw
          have hu := under_of_elemT hel
          refine ⟨_, fun w => ?_, hw⟩
          simp [execOp, ho, he, AV.val, Cell.val, Instr.sliceAt, Instr.slice, run_underlying hu, hrun, run_sizeOf hs]
          rw [← sl_base_val p Mm L sz]
          simp
        · exact hw.elim
      · exact hw.elim
    · rename_i p
      obtain ⟨m1, o1, hw⟩ := ints hw
      obtain ⟨m2, o2, hw⟩ := ints hw
      obtain ⟨m3, o3, hw⟩ := ints hw
      split at hw
      · rename_i len e hu
        split at hw
        · rename_i sz hs
          obtain ⟨L, Hh, Mm, hrun, hw⟩ := run_slice3 false o1 o2 o3 hw
          refine ⟨_, fun w => ?_, hw⟩
          simp [execOp, ho, he, AV.val, Cell.val, Instr.sliceAt, run_underlying hu, hrun, run_sizeOf hs, Instr.sureAddr]
          rw [← sl_base_val (some p) Mm L sz]
          split <;> rfl
        · exact hw.elim
      · exact hw.elim
    · exact hw.elim
  · -- extract
    rename_i x i ho
    obtain ⟨v, hv, hw⟩ := ev_wp hw
    have he := hr.eval hv
    split at hw
    · rename_i vs
      split at hw
      · rename_i cs hc
        refine ⟨_, fun w => ?_, hw⟩
        simp [execOp, ho, he, AV.val, Instr.extract, hc, compVal]
      · rename_i c hc
        refine ⟨_, fun w => ?_, hw⟩
        simp [execOp, ho, he, AV.val, Instr.extract, hc, compVal]
      · exact hw.elim
    · exact hw.elim
  · -- build
    rename_i t parts ho
    obtain ⟨vs, hvs, hw⟩ := evParts_wp hr hw
    split at hw
    · rename_i fs z hu hz
      split at hw
      · rename_i places hpl
        split at hw
        · rename_i cells hc
          refine ⟨_, fun w => ?_, hw⟩
          have hp : (parts.map (fun x => (x.1, a.eval x.2))).toList = vs.map (fun x => (x.1, x.2.val)) := by rw [← hvs]; simp
          have := build_sound hu hz hpl hc hp w
          simp only [execOp, ho, Sem.run_bind]
          rw [this]
          rfl
        · exact hw.elim
      · exact hw.elim
    · exact hw.elim
  · -- len, cap
    rename_i c ho
    split at hw
    · rename_i b hb
      obtain ⟨callee, args, ats⟩ := c
      simp only at hb; subst hb
      obtain ⟨v, hy, hw⟩ := builtin_sound hr hw
      refine ⟨v, fun w => ?_, hw⟩
      have := hy o.type w
      simp [execOp, ho, resolve, invoke]
      exact this _
    · exact hw.elim
  · exact hw.elim
end

end Go.Proofs.Ytkhpbcckaenmcaa
