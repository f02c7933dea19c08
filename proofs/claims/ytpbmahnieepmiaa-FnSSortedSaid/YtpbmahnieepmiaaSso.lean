/-
  'slices.Sort' and 'slices.Compact' of keys: the library's contracts, said of pieces of memory. Conditions: none.
-/
import Derived.Test.YtpbmahnieepmiaaSlay
import Derived.Test.YtpbmahnieepmiaaSst
import Derived.Shelf.Sort.Plain
import Derived.Shelf.Slices.In.SortNone
import Derived.Shelf.Slices.CompactI
set_option linter.unusedVariables false
set_option linter.unusedSimpArgs false
set_option linter.unusedSectionVars false
set_option maxRecDepth 100000
namespace Go.Proofs.Ytpbmahnieepmiaa
open Go
theorem LN_flat : ∀ xs : List Int, LN.flat xs = xs.map fun x => Value.int .i64 x
  | [] => rfl
  | x :: xs => by
    show Value.int .i64 x :: LN.flat xs = _
    rw [LN_flat xs]; rfl
section
variable {h : H}
theorem fr_row {b off n : Nat} {g : Array Value → Array Value} (hs : ∀ c, (g c).size = c.size) (ho : ∀ (c : Array Value) k, (k < off ∨ off + n ≤ k) → (g c)[k]? = c[k]?) : Fr (rng (b, off) n) h (h.modify b (Sort.onCells g)) := by
  have hget : ∀ i, (h.modify b (Sort.onCells g))[i]? = if b = i then h[i]?.map (Sort.onCells g) else h[i]? := fun i => Array.getElem?_modify ..
  refine ⟨by simp, fun a ha hn => ?_, fun a ha => ?_, fun a ha hv => ?_, fun i hi hn => ?_⟩
  · unfold rd
    rw [hget]
    by_cases hb : b = a.1
    · rw [if_pos hb]
      cases hq : h[a.1]? with
      | none => rfl
      | some ob =>
        cases ob with
        | cells c e f =>
          show (g c)[a.2]? = c[a.2]?
          refine ho c a.2 ?_
          rcases Nat.lt_or_ge a.2 off with h1 | h1
          · exact .inl h1
          · exact .inr (Nat.le_of_not_lt fun h2 => hn ⟨hb.symm, h1, h2⟩)
        | _ => rfl
    · rw [if_neg hb]
  · unfold fz
    rw [hget]
    by_cases hb : b = a.1
    · rw [if_pos hb]
      cases hq : h[a.1]? with
      | none => rfl
      | some ob => cases ob <;> rfl
    · rw [if_neg hb]
  · unfold rd at hv ⊢
    rw [hget]
    by_cases hb : b = a.1
    · rw [if_pos hb]
      cases hq : h[a.1]? with
      | none => rw [hq] at hv; simp at hv
      | some ob =>
        rw [hq] at hv
        cases ob with
        | cells c e f =>
          have hv : c[a.2]?.isSome = true := hv
          show (g c)[a.2]?.isSome = true
          have hlt : a.2 < c.size := by
            rcases Nat.lt_or_ge a.2 c.size with h1 | h1
            · exact h1
            · rw [Array.getElem?_eq_none h1] at hv; cases hv
          rw [Array.getElem?_eq_getElem (by rw [hs]; exact hlt)]; rfl
        | _ => simp at hv
    · rw [if_neg hb]; exact hv
  · rw [hget]
    by_cases hb : b = i
    · rw [if_pos hb]
      have hn0 : n = 0 := by
        refine Nat.eq_zero_of_not_pos fun hp => hn off ⟨hb.symm, Nat.le_refl _, by show off < off + n; omega⟩
      cases hq : h[i]? with
      | none => rfl
      | some ob =>
        cases ob with
        | cells c e f =>
          show some (Obj.cells (g c) e f) = _
          have : g c = c := Array.ext_getElem? fun k => ho c k (by omega)
          rw [this]
        | _ => rfl
    · rw [if_neg hb]
theorem fr_grow (os : Array Obj) : Fr none' h (h ++ os) := by
  have hget : ∀ i, i < h.size → (h ++ os)[i]? = h[i]? := fun i hi => Array.getElem?_append_left hi
  refine ⟨by simp, fun a ha hn => ?_, fun a ha => ?_, fun a ha hv => ?_, fun i hi hn => hget i hi⟩
  · unfold rd; rw [hget _ ha]
  · unfold fz; rw [hget _ ha]
  · unfold rd at hv ⊢; rw [hget _ ha]; exact hv
theorem put_get (off : Nat) (ys : List Int) (c : Array Value) (k : Nat) : (Sort.putCells (Value.int .i64) off ys.toArray c)[k]? = if off ≤ k ∧ k < off + ys.length then c[k]?.map (fun _ => Value.int .i64 (ys.toArray[k - off]!)) else c[k]? := by
  unfold Sort.putCells
  rw [Array.getElem?_mapIdx]
  by_cases hc : off ≤ k ∧ k < off + ys.length
  · rw [if_pos hc]
    cases c[k]? with
    | none => rfl
    | some v => simp only [Option.map_some]; rw [if_pos (by simpa using hc)]
  · rw [if_neg hc]
    cases c[k]? with
    | none => rfl
    | some v => simp only [Option.map_some]; rw [if_neg (by simpa using hc)]
theorem own_row {p : PA} {xs ys : List Int} {k : Nat} (o : Own h p (LN.flat xs) k) (hl : ys.length = xs.length) (os : Array Obj) :
    Own (h.modify p.1 (Sort.onCells (Sort.putCells (Value.int .i64) p.2 ys.toArray)) ++ os) p (LN.flat ys) k ∧ Fr (rng p xs.length) h (h.modify p.1 (Sort.onCells (Sort.putCells (Value.int .i64) p.2 ys.toArray)) ++ os) := by
  have f1 : Fr (rng (p.1, p.2) xs.length) h (h.modify p.1 (Sort.onCells (Sort.putCells (Value.int .i64) p.2 ys.toArray))) := by
    refine fr_row (fun c => by unfold Sort.putCells; simp) fun c k hk => ?_
    rw [put_get, if_neg (by omega)]
  have f2 := fr_grow (h := h.modify p.1 (Sort.onCells (Sort.putCells (Value.int .i64) p.2 ys.toArray))) os
  have f : Fr (rng p xs.length) h (h.modify p.1 (Sort.onCells (Sort.putCells (Value.int .i64) p.2 ys.toArray)) ++ os) := Fr.then f1 f2 fun x _ hx => hx.elim
  have hfl : ∀ zs : List Int, (LN.flat zs).length = zs.length := fun zs => by rw [LN_flat, List.length_map]
  refine ⟨⟨fun j v hj => ?_, fun j hj => f.wok (o.ok j (by rw [hfl] at hj ⊢; omega))⟩, f⟩
  rw [LN_flat, List.getElem?_map] at hj
  have hjl : j < ys.length := by
    rcases Nat.lt_or_ge j ys.length with h1 | h1
    · exact h1
    · rw [List.getElem?_eq_none h1] at hj; cases hj
  rw [List.getElem?_eq_getElem hjl] at hj
  obtain rfl := Option.some.inj hj
  have hold := o.rd j (Value.int .i64 xs[j]) (by rw [LN_flat, List.getElem?_map, List.getElem?_eq_getElem (by omega)]; rfl)
  have hlt : p.1 < h.size := rd_lt (h := h) (a := (p.1, p.2 + j)) hold
  rw [f2.rd _ (by simpa using hlt) (fun hx => hx)]
  unfold rd at hold ⊢
  rw [Array.getElem?_modify, if_pos rfl]
  split at hold
  · rename_i c e fq hb
    rw [hb]
    show (Sort.putCells (Value.int .i64) p.2 ys.toArray c)[p.2 + j]? = _
    rw [put_get, if_pos ⟨by omega, by omega⟩, hold, Nat.add_sub_cancel_left]
    simp [hjl]
  · cases hold
theorem holds_of {w : World} {p : PA} {xs : List Int} {k : Nat} (o : Own w.heap p (LN.flat xs) k) : Sort.Holds (Value.int .i64) w p.1 p.2 xs.toArray := by
  intro j hj
  have hj : j < xs.length := by simpa using hj
  have h1 := o.rd j (Value.int .i64 xs[j]) (by rw [LN_flat, List.getElem?_map, List.getElem?_eq_getElem hj]; rfl)
  have h2 := o.ok j (by rw [LN_flat, List.length_map]; omega)
  refine ⟨?_, ?_⟩
  · have e : w.cell? ⟨p.1, p.2 + j, none⟩ = rd w.heap (p.1, p.2 + j) := by unfold World.cell? rd; rfl
    rw [e, h1]
    simp [hj]
  · have h3 := h2.2
    unfold fz at h3
    unfold World.frozen?
    dsimp only at h3 ⊢
    cases hq : w.heap[p.1]? with
    | none => rfl
    | some ob =>
      rw [hq] at h3
      cases ob with
      | cells c e f =>
        obtain ⟨lo, hi⟩ := f
        simp only [Bool.or_eq_false_iff] at h3
        exact h3.2
      | _ => rfl
def sortI (xs : List Int) : List Int := xs.mergeSort fun x y => decide (x ≤ y)
theorem sortI_len (xs : List Int) : (sortI xs).length = xs.length := List.length_mergeSort xs
theorem ext_row (w : World) (m b off : Nat) (ys : List Int) (os : Array Obj) : Ext w (Sort.grow (Sort.putRow (Value.int .i64) (Sort.ahead w m) b off ys.toArray) os) := ⟨rfl, rfl, rfl⟩
theorem c_SortInts {s : SlT} {xs : List Int} (hs : OwnL LN s xs) (hxl : xs.length ≤ 4294967296) {G : PA → Prop} (hG : Star [SlC s LN.sz (LN.flat xs)] h G) :
    HT Try.prog fn_slices_Sort_int_int [.c (.sl s.1 s.2.1 s.2.2)] true [] h fun _ h' => ∃ post, post = [SlC s LN.sz (LN.flat (sortI xs))] ∧ St h G post h' := by
  obtain ⟨s1, s2, s3⟩ := s
  have hn : s2 = xs.length := hs.1
  intro w hw
  subst hw
  by_cases h0 : xs = []
  · subst h0
    subst hn
    refine (Any.slices_Sort_int_none lays189 (s1.map PA.val) s3 w).mono fun e w' ⟨he, hw'⟩ => ?_
    subst hw'
    exact ⟨_, he, Ext.refl _, (), rfl, _, rfl, by rw [show sortI [] = [] from List.mergeSort_nil]; exact St.start hG⟩
  · obtain ⟨F1, F2, ⟨⟨g1, g2, g3⟩, g4⟩, g5, g6, g7⟩ := hG
    have hpos : 0 < xs.length := List.length_pos_iff.2 h0
    rcases g3 with ⟨_, hc⟩ | ⟨p, hp, ho⟩
    · dsimp only at hc g2; omega
    · dsimp only at hp; subst hp
      have hlt : p.1 < w.heap.size := by
        exact ho.lt (x := p) ⟨rfl, Nat.le_refl _, by show p.2 < p.2 + _; rw [LN_flat, List.length_map]; omega⟩
      have key := Any.slices_Sort_int lays189 p.1 p.2 s3 xs w (holds_of ho) hlt (by omega)
      rw [← hn] at key
      refine key.mono fun e w' ⟨he, m, os, hw'⟩ => ?_
      obtain ⟨o1, f1⟩ := own_row ho (sortI_len xs) os
      have hheap : w'.heap = w.heap.modify p.1 (Sort.onCells (Sort.putCells (Value.int .i64) p.2 (sortI xs).toArray)) ++ os := by rw [hw']; rfl
      refine ⟨_, he, by rw [hw']; exact ext_row w m p.1 p.2 (sortI xs) os, (), rfl, _, rfl, ?_⟩
      rw [hheap]
      have hfl : ∀ zs : List Int, (LN.flat zs).length = zs.length := fun zs => by rw [LN_flat, List.length_map]
      have hsub : ∀ x, rng p xs.length x → G x := fun x ⟨q1, q2, q3⟩ => (g7 x).2 (.inl ((g4 x).2 ⟨q1, q2, by show x.2 < p.2 + s3 * 1; dsimp only at g2; omega⟩))
      refine ⟨⟨G, ⟨F1, F2, ⟨⟨by rw [hfl, sortI_len]; show xs.length = s2 * 1; omega, g2, .inr ⟨p, rfl, o1⟩⟩, g4⟩, g5, g6, g7⟩, fun x hx => .inl hx⟩, f1.mono fun x _ hx => hsub x hx⟩
theorem compUp_len (d : Array Int) : ∀ m, (Lib.compactUpTo d m).length ≤ m
  | 0 => by simp [Lib.compactUpTo]
  | m + 1 => by
    have ih := compUp_len d m
    rw [Lib.compactUpTo_succ, List.length_append]
    split <;> simp <;> omega
theorem comp_len (xs : List Int) : (Lib.compact xs).length ≤ xs.length := compUp_len _ _
theorem c_CompactInts {s : SlT} {xs : List Int} (hs : OwnL LN s xs) (hxl : xs.length ≤ 4294967296) {G : PA → Prop} (hG : Star [SlC s LN.sz (LN.flat xs)] h G) :
    HT Try.prog fn_slices_Compact_int_int [.c (.sl s.1 s.2.1 s.2.2)] false [.c .sl] h fun r h' => ∃ post, (∃ t : SlT, r = (t, ()) ∧ OwnL LN t (Lib.compact xs) ∧ post = [SlC t LN.sz (LN.flat (Lib.compact xs))]) ∧ St h G post h' := by
  obtain ⟨s1, s2, s3⟩ := s
  have hn : s2 = xs.length := hs.1
  intro w hw
  subst hw
  by_cases h0 : xs = []
  · subst h0
    subst hn
    refine (Any.slices_Compact_int_empty lays20 (s1.map PA.val) s3 w).mono fun e w' ⟨he, hw'⟩ => ?_
    subst hw'
    exact ⟨_, he, Ext.refl _, ((s1, 0, s3), ()), rfl, _, ⟨(s1, 0, s3), rfl, ⟨rfl, Nat.zero_le _, .inl rfl⟩, rfl⟩, St.start hG⟩
  · obtain ⟨F1, F2, ⟨⟨g1, g2, g3⟩, g4⟩, g5, g6, g7⟩ := hG
    have hpos : 0 < xs.length := List.length_pos_iff.2 h0
    rcases g3 with ⟨_, hc⟩ | ⟨p, hp, ho⟩
    · dsimp only at hc g2; omega
    · dsimp only at hp; subst hp
      have g2' : s2 ≤ s3 := g2
      have key := Any.slices_Compact_int lays20 p.1 p.2 s3 xs w (holds_of ho) (by omega) (by omega)
      rw [← hn] at key
      have hcl := comp_len xs
      have hyl : (Lib.compact xs ++ List.replicate (xs.length - (Lib.compact xs).length) 0).length = xs.length := by rw [List.length_append, List.length_replicate]; omega
      refine key.mono fun e w' ⟨he, m, hw'⟩ => ?_
      rw [hn] at hw'
      obtain ⟨o1, f1⟩ := own_row ho hyl #[]
      have hheap : w'.heap = w.heap.modify p.1 (Sort.onCells (Sort.putCells (Value.int .i64) p.2 (Lib.compact xs ++ List.replicate (xs.length - (Lib.compact xs).length) 0).toArray)) ++ #[] := by rw [hw', Array.append_empty]; rfl
      refine ⟨_, he, by rw [hw']; exact ⟨rfl, rfl, rfl⟩, ((some p, (Lib.compact xs).length, s3), ()), rfl, _, ⟨_, rfl, ⟨rfl, by show (Lib.compact xs).length ≤ s3; omega, .inr rfl⟩, rfl⟩, ?_⟩
      rw [hheap]
      have hfl : ∀ zs : List Int, (LN.flat zs).length = zs.length := fun zs => by rw [LN_flat, List.length_map]
      rw [LN.flat_append] at o1
      have o2 := o1.shrink
      have hk : (LN.flat (List.replicate (xs.length - (Lib.compact xs).length) 0)).length + (s3 - s2) * LN.sz = (s3 - (Lib.compact xs).length) * LN.sz := by
        rw [hfl, List.length_replicate]; show _ + (s3 - s2) * 1 = (s3 - _) * 1; omega
      dsimp only at o2
      rw [hk] at o2
      have hsub : ∀ x, rng p xs.length x → G x := fun x ⟨q1, q2, q3⟩ => (g7 x).2 (.inl ((g4 x).2 ⟨q1, q2, by show x.2 < p.2 + s3 * 1; omega⟩))
      refine ⟨⟨G, ⟨F1, F2, ⟨⟨by rw [hfl]; show _ = (Lib.compact xs).length * 1; omega, by show (Lib.compact xs).length ≤ s3; omega, .inr ⟨p, rfl, o2⟩⟩, g4⟩, g5, g6, g7⟩, fun x hx => .inl hx⟩, f1.mono fun x _ hx => hsub x hx⟩
end
end Go.Proofs.Ytpbmahnieepmiaa
