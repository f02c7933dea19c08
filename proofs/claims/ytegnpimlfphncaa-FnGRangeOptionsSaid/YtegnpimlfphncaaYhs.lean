/-
  The tree of items: an item sought with a hint. Conditions: nodes of at most 255 items.
-/
import Derived.Test.YtegnpimlfphncaaPgA
import Derived.Test.YtegnpimlfphncaaYle
set_option linter.unusedVariables false
set_option linter.unusedSimpArgs false
set_option linter.unusedSectionVars false
set_option maxRecDepth 100000
namespace Go.Proofs.Ytegnpimlfphncaa.TG
open Go Go.Proofs.Ytegnpimlfphncaa
section
variable {ls : Value} {oc : Ck} {o : List Int} {h h0 : H} {G0 : PA → Prop} {r : List Ck}
theorem me_p {P : Program} {Q : Ex → List AV → H → Prop} {i : Nat} {ss : List Sh} {R : SV ss → H → Prop} {vs : List AV} (hw : wp P (.done (.exit i) vs) Q h) : wp P (.done (.exit i) vs) (Me none ss R Q) h := hw
theorem inU8' {n : Int} (h1 : 0 ≤ n) (h2 : n ≤ 255) : InK .u8 n := by
  show IntKind.u8.wrap _ = _
  simp [IntKind.wrap, IntKind.bits, IntKind.signed]
  omega
def htv (us : List Bool) (is : List Int) : List Value := us.map Value.bool ++ is.map (Value.int .u8)
theorem htv_b {us : List Bool} {is : List Int} {j : Nat} (hu : us.length = 8) (hj : j < 8) : (htv us is)[j]? = some (.bool (us[j]'(by omega))) := by
  unfold htv
  rw [List.getElem?_append_left (by simp; omega), List.getElem?_map, List.getElem?_eq_getElem (by omega)]; rfl
theorem htv_i {us : List Bool} {is : List Int} {j : Nat} (hu : us.length = 8) (hi : is.length = 8) (hj : j < 8) : (htv us is)[8 + j]? = some (.int .u8 (is[j]'(by omega))) := by
  unfold htv
  rw [List.getElem?_append_right (by simp; omega), List.length_map, hu, Nat.add_sub_cancel_left, List.getElem?_map, List.getElem?_eq_getElem (by omega)]; rfl
theorem htv_setb {us : List Bool} {is : List Int} {j : Nat} {b : Bool} (hu : us.length = 8) (hj : j < 8) : (htv us is).set j (.bool b) = htv (us.set j b) is := by
  unfold htv
  rw [List.set_append_left _ _ (by simp; omega), ← List.map_set]
theorem htv_seti {us : List Bool} {is : List Int} {j : Nat} {i : Int} (hu : us.length = 8) : (htv us is).set (8 + j) (.int .u8 i) = htv us (is.set j i) := by
  unfold htv
  rw [List.set_append_right _ _ (by simp; omega), List.length_map, hu, Nat.add_sub_cancel_left, ← List.map_set]
theorem mid_eq {lo hi : Nat} (h : lo < hi) : (lo : Int) + ((hi : Int) - 1 + 1 - lo).tdiv 2 = ((lo + (hi - lo) / 2 : Nat) : Int) := by
  rw [show (hi : Int) - 1 + 1 - lo = ((hi - lo : Nat) : Int) by omega, show (2 : Int) = ((2 : Nat) : Int) from rfl, ← Int.ofNat_tdiv]
  omega
theorem tdv {lo hi : Nat} (h : lo < hi) : ((hi : Int) - 1 + 1 - lo).tdiv 2 = (((hi - lo) / 2 : Nat) : Int) := by
  have := mid_eq h
  have e : ((lo + (hi - lo) / 2 : Nat) : Int) = (lo : Int) + (((hi - lo) / 2 : Nat) : Int) := Int.natCast_add _ _
  rw [e] at this
  exact Int.add_left_cancel this
set_option maxHeartbeats 4000000 in
theorem hs_ok (a : PA) : FindT (some a) := by
  intro h c ls o hls a0 a1 p x xs cap G kp dep hr hx hk hl hc hs h1 hn hd hG
  apply hc_tg_hintsearch
  unfold M_tg_hintsearch
  have hu := up_le (ordO o) xs x
  have hple := pos_le (lt := ltO o) xs x
  refine st_alloc (St.start hG) fun n0 _ S => ?_
  obtain ⟨⟨us, is⟩, ⟨hul, hil, hir⟩, S⟩ := (S.at (.ck (HtC (some a)))).ex_out
  have S : St h G [Ow a (htv us is) 0, Ow (n0, 0) (L.cells x) 0] _ := S
  dsimp only at hul hil hir
  refine w_mid' (some 1000) (fun (y : SV [.c .bool, .c (.int .i64)]) h' => y = ((fnd (ltO o) xs x).isSome, (pos (ltO o) xs x : Int), ()) ∧ St h G [Ow a (htv us is) 0, Ow (n0, 0) (L.cells x) 0] h') ?_ ?_
  · refine w_sl (some p, xs.length, cap) (hr.now S).rd (w_guard (inK64 (by (first | omega | ((try dsimp only [Sh.T, Sh1.T]); omega))) (by (first | omega | ((try dsimp only [Sh.T, Sh1.T]); omega)))) ?_)
    refine w_mid' none (fun (y : SV [.c .bool]) h' => (∃ b : Bool, y = (b, ()) ∧ (b = true → dep < 8)) ∧ St h G [Ow a (htv us is) 0, Ow (n0, 0) (L.cells x) 0] h') ?_ ?_
    · by_cases hd8 : dep < 8
      · refine w_true (decide_eq_true (by (first | omega | ((try dsimp only [Sh.T, Sh1.T]); omega)))) (w_nonnil (w_guard ⟨by (first | omega | ((try dsimp only [Sh.T, Sh1.T]); omega)), by (first | omega | ((try dsimp only [Sh.T, Sh1.T]); omega))⟩ ?_))
        rw [Int.toNat_natCast]
        exact ld_bool S (htv_b hul hd8) (md_n rfl ⟨⟨_, rfl, fun _ => hd8⟩, S⟩)
      · exact w_false (decide_eq_false (by (first | omega | ((try dsimp only [Sh.T, Sh1.T]); omega)))) (md_n rfl ⟨⟨false, rfl, fun h => by cases h⟩, S⟩)
    clear S
    rintro _ _ ⟨⟨b, rfl, hb8⟩, S⟩
    refine w_mid' none (fun (y : SV [.c (.int .i64), .c (.int .i64)]) h' => (∃ lo hi : Nat, y = ((lo : Int), (hi : Int) - 1, ()) ∧ lo ≤ up (ltO o) xs x ∧ up (ltO o) xs x ≤ hi ∧ hi ≤ xs.length) ∧ St h G [Ow a (htv us is) 0, Ow (n0, 0) (L.cells x) 0] h') ?_ ?_
    · cases b with
      | false => exact w_false rfl (md_n rfl ⟨⟨0, xs.length, rfl, Nat.zero_le _, hu, Nat.le_refl _⟩, S⟩)
      | true =>
        have hd8 := hb8 rfl
        have hi0 := hir _ (List.getElem_mem (show dep < is.length by omega))
        refine w_true rfl (w_nonnil (w_guard ⟨by (first | omega | ((try dsimp only [Sh.T, Sh1.T]); omega)), by (first | omega | ((try dsimp only [Sh.T, Sh1.T]); omega))⟩ ?_))
        rw [Int.toNat_natCast, Nat.add_assoc]
        refine ld_int S (htv_i hul hil hd8) (w_guard (inK64 (by omega) (by omega)) ?_)
        refine w_sl (some p, xs.length, cap) (hr.now S).rd ?_
        refine w_mid' none (fun (y : SV [.c (.int .i64)]) h' => (∃ i : Nat, y = ((i : Int), ()) ∧ i < xs.length) ∧ St h G [Ow a (htv us is) 0, Ow (n0, 0) (L.cells x) 0] h') ?_ ?_
        · by_cases hge : (is[dep]'(by omega)) ≥ (xs.length : Int)
          · have hy := List.getElem?_eq_getElem (show xs.length - 1 < xs.length by omega)
            refine w_true (decide_eq_true hge) ?_
            refine w_sl (some p, xs.length, cap) (hr.now S).rd (w_sl (some p, xs.length, cap) (hr.now S).rd ?_)
            refine w_guard (inK64 (by (first | omega | ((try dsimp only [Sh.T, Sh1.T]); omega))) (by (first | omega | ((try dsimp only [Sh.T, Sh1.T]); omega)))) (w_nonnil (w_guard ⟨by (first | omega | ((try dsimp only [Sh.T, Sh1.T]); omega)), by (first | omega | ((try dsimp only [Sh.T, Sh1.T]); omega))⟩ ?_))
            dsimp only
            rw [show ((xs.length : Int) - 1).toNat = xs.length - 1 by omega]
            refine w_it (hx.now S).rds hy (ld_int S rfl (ld_int S rfl ?_))
            refine st_callF S [] (fun G' hG' hsub => c_Less (x := xs[xs.length - 1]) (y := x) hls (hl.step S hsub) (hc.step S hsub) hG') ?_
            rintro _ _ _ ⟨rfl, rfl⟩ S
            dsimp only [List.cons_append, List.nil_append] at S
            have hsp := pos_spec (ordO o) hs x _ _ hy
            cases hq : ltO o xs[xs.length - 1] x with
            | true =>
              have hpl : pos (ltO o) xs x = xs.length := by have := hsp.2 hq; omega
              have hnf : fnd (ltO o) xs x = none := by
                cases hf : fnd (ltO o) xs x with
                | none => rfl
                | some y => have := (fnd_some_lt hf).1; omega
              refine w_true rfl (w_sl (some p, xs.length, cap) (hr.now S).rd ?_)
              exact me_p (me_p (md_e rfl ⟨by rw [hpl, hnf]; rfl, S⟩))
            | false =>
              refine w_false rfl (w_sl (some p, xs.length, cap) (hr.now S).rd (w_guard (inK64 (by (first | omega | ((try dsimp only [Sh.T, Sh1.T]); omega))) (by (first | omega | ((try dsimp only [Sh.T, Sh1.T]); omega)))) ?_))
              exact md_n rfl ⟨⟨xs.length - 1, by rw [show ((xs.length - 1 : Nat) : Int) = (xs.length : Int) - 1 by omega], by omega⟩, S⟩
          · refine w_false (decide_eq_false hge) (md_n rfl ⟨⟨(is[dep]'(by omega)).toNat, by rw [Int.toNat_of_nonneg hi0.1], by omega⟩, S⟩)
        clear S
        rintro _ _ ⟨⟨i, rfl, hi⟩, S⟩
        have hy := List.getElem?_eq_getElem hi
        refine ld_int S rfl (ld_int S rfl (w_sl (some p, xs.length, cap) (hr.now S).rd (w_nonnil (w_guard ⟨by (first | omega | ((try dsimp only [Sh.T, Sh1.T]); omega)), by (first | omega | ((try dsimp only [Sh.T, Sh1.T]); omega))⟩ ?_))))
        rw [Int.toNat_natCast]
        refine w_it (hx.now S).rds hy ?_
        refine st_callF S [] (fun G' hG' hsub => c_Less (x := x) (y := xs[i]) hls (hl.step S hsub) (hc.step S hsub) hG') ?_
        rintro _ _ _ ⟨rfl, rfl⟩ S
        dsimp only [List.cons_append, List.nil_append] at S
        have hsp := pos_spec (ordO o) hs x _ _ hy
        have hup := up_spec (ordO o) hs (x := x) hy
        refine w_mid' none (fun (y : SV [.c (.int .i64), .c (.int .i64)]) h' => (∃ lo hi : Nat, y = ((lo : Int), (hi : Int) - 1, ()) ∧ lo ≤ up (ltO o) xs x ∧ up (ltO o) xs x ≤ hi ∧ hi ≤ xs.length) ∧ St h G [Ow a (htv us is) 0, Ow (n0, 0) (L.cells x) 0] h') ?_
          (fun _ _ ⟨⟨lo, hi, e, q1, q2, q3⟩, S⟩ => by subst e; exact md_n rfl ⟨⟨lo, hi, rfl, q1, q2, q3⟩, S⟩)
        cases hlt : ltO o x xs[i] with
        | true =>
          have hui : up (ltO o) xs x ≤ i := by
            rcases Nat.lt_or_ge i (up (ltO o) xs x) with h | h
            · have := hup.2 h; rw [hlt] at this; cases this
            · exact h
          have hge : ltO o xs[i] x = false := (ordO o).asym hlt
          have hpi : pos (ltO o) xs x ≤ i := by
            rcases Nat.lt_or_ge i (pos (ltO o) xs x) with h | h
            · have := hsp.1 h; rw [hge] at this; cases this
            · exact h
          refine w_true rfl ?_
          refine w_mid' none (fun (y : SV [.c .bool]) h' => (∃ b : Bool, y = (b, ()) ∧ (b = true → pos (ltO o) xs x = i)) ∧ St h G [Ow a (htv us is) 0, Ow (n0, 0) (L.cells x) 0] h') ?_ ?_
          · by_cases hi0 : i = 0
            · exact w_true (by simp [hi0]) (md_n rfl ⟨⟨true, rfl, fun _ => by omega⟩, S⟩)
            · have hy1 := List.getElem?_eq_getElem (show i - 1 < xs.length by omega)
              refine w_false (by simp [hi0]) (w_sl (some p, xs.length, cap) (hr.now S).rd (w_guard (inK64 (by (first | omega | ((try dsimp only [Sh.T, Sh1.T]); omega))) (by (first | omega | ((try dsimp only [Sh.T, Sh1.T]); omega)))) (w_nonnil (w_guard ⟨by (first | omega | ((try dsimp only [Sh.T, Sh1.T]); omega)), by (first | omega | ((try dsimp only [Sh.T, Sh1.T]); omega))⟩ ?_))))
              dsimp only
              rw [show ((i : Int) - 1).toNat = i - 1 by omega]
              refine w_it (hx.now S).rds hy1 (ld_int S rfl (ld_int S rfl ?_))
              refine st_callF S [] (fun G' hG' hsub => c_Less (x := xs[i - 1]) (y := x) hls (hl.step S hsub) (hc.step S hsub) hG') ?_
              rintro _ _ _ ⟨rfl, rfl⟩ S
              dsimp only [List.cons_append, List.nil_append] at S
              refine md_n rfl ⟨⟨_, rfl, fun hq => ?_⟩, S⟩
              have := (pos_spec (ordO o) hs x _ _ hy1).2 hq
              omega
          clear S
          rintro _ _ ⟨⟨b, rfl, hb⟩, S⟩
          cases b with
          | true =>
            have hpe := hb rfl
            have hnf : fnd (ltO o) xs x = none := by unfold fnd; rw [hpe, hy]; simp [hlt]
            exact w_true rfl (me_p (me_p (md_e rfl ⟨by rw [hpe, hnf]; rfl, S⟩)))
          | false =>
            refine w_false rfl (w_guard (inK64 (by (first | omega | ((try dsimp only [Sh.T, Sh1.T]); omega))) (by (first | omega | ((try dsimp only [Sh.T, Sh1.T]); omega)))) ?_)
            exact md_n rfl ⟨⟨0, i, rfl, Nat.zero_le _, hui, by omega⟩, S⟩
        | false =>
          have hiu := hup.1 hlt
          refine w_false rfl (w_sl (some p, xs.length, cap) (hr.now S).rd (w_nonnil (w_guard ⟨by (first | omega | ((try dsimp only [Sh.T, Sh1.T]); omega)), by (first | omega | ((try dsimp only [Sh.T, Sh1.T]); omega))⟩ ?_)))
          refine w_it (hx.now S).rds hy (ld_int S rfl (ld_int S rfl ?_))
          refine st_callF S [] (fun G' hG' hsub => c_Less (x := xs[i]) (y := x) hls (hl.step S hsub) (hc.step S hsub) hG') ?_
          rintro _ _ _ ⟨rfl, rfl⟩ S
          dsimp only [List.cons_append, List.nil_append] at S
          cases hgt : ltO o xs[i] x with
          | true =>
            refine w_true rfl (w_guard (inK64 (by (first | omega | ((try dsimp only [Sh.T, Sh1.T]); omega))) (by (first | omega | ((try dsimp only [Sh.T, Sh1.T]); omega)))) ?_)
            exact md_n rfl ⟨⟨i + 1, xs.length, rfl, by omega, hu, Nat.le_refl _⟩, S⟩
          | false =>
            have hpe : pos (ltO o) xs x = i := by
              have g1 : ¬ i < pos (ltO o) xs x := fun h => by have := hsp.1 h; rw [hgt] at this; cases this
              unfold up at hiu
              split at hiu <;> omega
            have hf : fnd (ltO o) xs x = some xs[i] := by unfold fnd; rw [hpe, hy]; simp [hlt]
            exact w_false rfl (me_p (me_p (md_e rfl ⟨by rw [hpe, hf]; rfl, S⟩)))
    clear S
    rintro _ _ ⟨⟨lo0, hi0, rfl, q1, q2, q3⟩, S⟩
    refine w_mid' (some 0) (fun (y : SV [.c (.int .i64)]) h' => y = ((up (ltO o) xs x : Int), ()) ∧ St h G [Ow a (htv us is) 0, Ow (n0, 0) (L.cells x) 0] h') ?_ ?_
    · refine w_lp (fun r y h' => ∃ lo hi : Nat, y = ((hi : Int) - 1, (lo : Int), ()) ∧ hi - lo = r ∧ lo ≤ up (ltO o) xs x ∧ up (ltO o) xs x ≤ hi ∧ hi ≤ xs.length ∧ St h G [Ow a (htv us is) 0, Ow (n0, 0) (L.cells x) 0] h') (hi0 - lo0) rfl ⟨lo0, hi0, rfl, rfl, q1, q2, q3, S⟩ ?_
      clear S
      rintro r _ _ ⟨lo, hi, rfl, hrr, g1, g2, g3, S⟩
      by_cases hlt : lo < hi
      · have hme := mid_eq hlt
        have hy := List.getElem?_eq_getElem (show lo + (hi - lo) / 2 < xs.length by omega)
        have hsp := up_spec (ordO o) hs (x := x) hy
        refine w_true (decide_eq_true (by (first | omega | ((try dsimp only [Sh.T, Sh1.T]); omega)))) (w_guard (inK64 (by (first | omega | ((try dsimp only [Sh.T, Sh1.T]); omega))) (by (first | omega | ((try dsimp only [Sh.T, Sh1.T]); omega)))) (w_guard (inK64 (by (first | omega | ((try dsimp only [Sh.T, Sh1.T]); omega))) (by (first | omega | ((try dsimp only [Sh.T, Sh1.T]); omega)))) ?_))
        refine w_guard ⟨by decide, ?_⟩ ?_
        · dsimp only
          rw [tdv hlt]
          exact inK64 (by omega) (by omega)
        dsimp only
        rw [hme]
        refine w_guard (inK64 (by omega) (by omega)) (ld_int S rfl (ld_int S rfl (w_sl (some p, xs.length, cap) (hr.now S).rd (w_nonnil (w_guard ⟨by omega, by show ((lo + (hi - lo) / 2 : Nat) : Int) < (xs.length : Int); omega⟩ ?_)))))
        rw [Int.toNat_natCast]
        refine w_it (hx.now S).rds hy ?_
        refine st_callF S [] (fun G' hG' hsub => c_Less (x := x) (y := xs[lo + (hi - lo) / 2]) hls (hl.step S hsub) (hc.step S hsub) hG') ?_
        rintro _ _ _ ⟨rfl, rfl⟩ S
        dsimp only [List.cons_append, List.nil_append] at S
        refine w_bnd ?_
        cases hq : ltO o x xs[lo + (hi - lo) / 2] with
        | false =>
          have := hsp.1 hq
          refine w_true rfl (w_guard (inK64 (by omega) (by omega)) (bd_n rfl ?_))
          exact ln_n rfl (hi - (lo + (hi - lo) / 2 + 1)) ⟨lo + (hi - lo) / 2 + 1, hi, rfl, rfl, by omega, by omega, by omega, S⟩ (by omega)
        | true =>
          have : ¬ lo + (hi - lo) / 2 < up (ltO o) xs x := fun hh => by have := hsp.2 hh; rw [hq] at this; cases this
          refine w_false rfl (w_guard (inK64 (by omega) (by omega)) (bd_n rfl ?_))
          exact ln_n rfl (lo + (hi - lo) / 2 - lo) ⟨lo, lo + (hi - lo) / 2, rfl, rfl, by omega, by omega, by omega, S⟩ (by omega)
      · refine w_false (decide_eq_false (by (first | omega | ((try dsimp only [Sh.T, Sh1.T]); omega)))) (ln_e (md_e rfl ⟨?_, S⟩))
        rw [show up (ltO o) xs x = lo by omega]
    clear S
    rintro _ _ ⟨rfl, S⟩
    refine w_mid' none (fun (y : SV [.c .bool]) h' => y = ((fnd (ltO o) xs x).isSome, ()) ∧ St h G [Ow a (htv us is) 0, Ow (n0, 0) (L.cells x) 0] h') ?_ ?_
    · by_cases hpos : 0 < up (ltO o) xs x
      · have hll : up (ltO o) xs x - 1 < xs.length := by omega
        refine w_true (decide_eq_true (by (first | omega | ((try dsimp only [Sh.T, Sh1.T]); omega)))) ?_
        refine w_sl (some p, xs.length, cap) (hr.now S).rd (w_guard (inK64 (by (first | omega | ((try dsimp only [Sh.T, Sh1.T]); omega))) (by (first | omega | ((try dsimp only [Sh.T, Sh1.T]); omega)))) (w_nonnil (w_guard ⟨by (first | omega | ((try dsimp only [Sh.T, Sh1.T]); omega)), by (first | omega | ((try dsimp only [Sh.T, Sh1.T]); omega))⟩ ?_)))
        dsimp only
        rw [toNat_pred]
        refine w_it (hx.now S).rds (List.getElem?_eq_getElem hll) (ld_int S rfl (ld_int S rfl ?_))
        refine st_callF S [] (fun G' hG' hsub => c_Less (x := xs[up (ltO o) xs x - 1]) (y := x) hls (hl.step S hsub) (hc.step S hsub) hG') ?_
        rintro _ _ _ ⟨rfl, rfl⟩ S
        dsimp only [List.cons_append, List.nil_append] at S
        refine md_n rfl ⟨?_, S⟩
        have hsp := pos_spec (ordO o) hs x _ _ (List.getElem?_eq_getElem hll)
        cases hf : fnd (ltO o) xs x with
        | none =>
          have : up (ltO o) xs x = pos (ltO o) xs x := by simp [up, hf]
          rw [hsp.1 (by omega)]; rfl
        | some b =>
          have : up (ltO o) xs x = pos (ltO o) xs x + 1 := by simp [up, hf]
          have : ¬ ltO o xs[up (ltO o) xs x - 1] x = true := fun hh => by have := hsp.2 hh; omega
          rw [Bool.not_eq_true] at this
          rw [this]; rfl
      · refine w_false (decide_eq_false (by (first | omega | ((try dsimp only [Sh.T, Sh1.T]); omega)))) (md_n rfl ⟨?_, S⟩)
        cases hf : fnd (ltO o) xs x with
        | none => rfl
        | some b => simp [up, hf] at hpos
    clear S
    rintro _ _ ⟨rfl, S⟩
    refine w_mid' none (fun (y : SV [.c .bool, .c (.int .i64)]) h' => y = ((fnd (ltO o) xs x).isSome, (pos (ltO o) xs x : Int), ()) ∧ St h G [Ow a (htv us is) 0, Ow (n0, 0) (L.cells x) 0] h') ?_
      (fun _ _ ⟨e, S⟩ => by subst e; exact md_n rfl ⟨rfl, S⟩)
    cases hb : (fnd (ltO o) xs x).isSome with
    | true =>
      have hup : up (ltO o) xs x = pos (ltO o) xs x + 1 := by simp [up, hb]
      refine w_true rfl (w_guard (inK64 (by (first | omega | ((try dsimp only [Sh.T, Sh1.T]); omega))) (by (first | omega | ((try dsimp only [Sh.T, Sh1.T]); omega)))) (md_n rfl ⟨?_, S⟩))
      rw [hup]; simp
    | false =>
      have hup : up (ltO o) xs x = pos (ltO o) xs x := by simp [up, hb]
      exact w_false rfl (md_n rfl ⟨by rw [hup], S⟩)
  clear S
  rintro _ _ ⟨rfl, S⟩
  dsimp only
  refine w_mid' none (fun (_ : SV []) h' => St h G [HtC (some a)] h') ?_ ?_
  · by_cases hd8 : dep < 8
    · refine w_true (decide_eq_true (by (first | omega | ((try dsimp only [Sh.T, Sh1.T]); omega)))) (w_nonnil (w_guard ⟨by (first | omega | ((try dsimp only [Sh.T, Sh1.T]); omega)), by (first | omega | ((try dsimp only [Sh.T, Sh1.T]); omega))⟩ ?_))
      rw [Int.toNat_natCast]
      refine st_store S (by unfold htv; simp; omega) fun _ S => ?_
      have S := S.re a (htv (us.set dep true) is) 0 rfl (htv_setb (b := true) hul hd8) rfl
      obtain ⟨vs, hvs⟩ : ∃ vs, vs = us.set dep true := ⟨_, rfl⟩
      have hvl : vs.length = 8 := by rw [hvs, List.length_set]; exact hul
      rw [← hvs] at S
      clear hvs
      refine w_mid' none (fun (y : SV [.c .bool]) h' => (∃ b : Bool, y = (b, ()) ∧ (b = true → pos (ltO o) xs x < xs.length)) ∧ St h G [Ow a (htv vs is) 0, Ow (n0, 0) (L.cells x) 0] h') ?_ ?_
      · refine w_callT (c_leaf (kp := kp) (hk.now S).rd) ?_
        rintro _ _ ⟨rfl, rfl⟩
        cases hkn : kp.isNone with
        | true =>
          refine w_true rfl (md_n rfl ⟨⟨_, rfl, fun hf => ?_⟩, S⟩)
          obtain ⟨y, hy⟩ := Option.isSome_iff_exists.1 hf
          exact (fnd_some_lt hy).1
        | false => exact w_false rfl (md_n rfl ⟨⟨false, rfl, fun h => by cases h⟩, S⟩)
      clear S
      rintro _ _ ⟨⟨b, rfl, hb⟩, S⟩
      refine w_mid' none (fun (y : SV [.c (.int .u8)]) h' => (∃ i : Int, y = (i, ()) ∧ 0 ≤ i ∧ i ≤ 255) ∧ St h G [Ow a (htv vs is) 0, Ow (n0, 0) (L.cells x) 0] h') ?_ ?_
      · cases b with
        | true =>
          have := hb rfl
          exact w_true rfl (w_guard (inK64 (by (first | omega | ((try dsimp only [Sh.T, Sh1.T]); omega))) (by (first | omega | ((try dsimp only [Sh.T, Sh1.T]); omega)))) (w_guard (inU8' (by (first | omega | ((try dsimp only [Sh.T, Sh1.T]); omega))) (by (first | omega | ((try dsimp only [Sh.T, Sh1.T]); omega)))) (md_n rfl ⟨⟨_, rfl, by omega, by omega⟩, S⟩)))
        | false => exact w_false rfl (w_guard (inU8' (by (first | omega | ((try dsimp only [Sh.T, Sh1.T]); omega))) (by (first | omega | ((try dsimp only [Sh.T, Sh1.T]); omega)))) (md_n rfl ⟨⟨_, rfl, by omega, by omega⟩, S⟩))
      clear S
      rintro _ _ ⟨⟨i, rfl, hi1, hi2⟩, S⟩
      refine w_nonnil (w_guard ⟨by (first | omega | ((try dsimp only [Sh.T, Sh1.T]); omega)), by (first | omega | ((try dsimp only [Sh.T, Sh1.T]); omega))⟩ ?_)
      rw [Nat.add_assoc]
      refine ld_int S (htv_i hvl hil hd8) ?_
      refine w_mid' none (fun (_ : SV []) h' => St h G [HtC (some a)] h') ?_ (fun _ _ S => md_n rfl S)
      by_cases hne : i = (is[dep]'(by omega))
      · refine w_false (by simp [hne]) (md_n rfl ?_)
        exact St.ex_in (vs, is) ⟨hvl, hil, hir⟩ (S.only [.ow a])
      · refine w_true (by simp [hne]) (w_nonnil (w_guard ⟨by (first | omega | ((try dsimp only [Sh.T, Sh1.T]); omega)), by (first | omega | ((try dsimp only [Sh.T, Sh1.T]); omega))⟩ ?_))
        refine st_store S (by unfold htv; simp; omega) fun _ S => ?_
        have S := S.re a (htv vs (is.set dep i)) 0 rfl (htv_seti hvl) rfl
        obtain ⟨js, hjs⟩ : ∃ js, js = is.set dep i := ⟨_, rfl⟩
        have hjl : js.length = 8 := by rw [hjs, List.length_set]; exact hil
        have hjr : ∀ i ∈ js, 0 ≤ i ∧ i ≤ 255 := fun q hq => by
          rw [hjs] at hq
          rcases List.mem_or_eq_of_mem_set hq with h | rfl
          · exact hir q h
          · exact ⟨hi1, hi2⟩
        rw [← hjs] at S
        clear hjs
        refine w_guard (inK64 (by (first | omega | ((try dsimp only [Sh.T, Sh1.T]); omega))) (by (first | omega | ((try dsimp only [Sh.T, Sh1.T]); omega)))) ?_
        refine w_mid' (some 2) (fun (_ : SV []) h' => St h G [HtC (some a)] h') ?_ (fun _ _ S => md_n rfl S)
        refine w_lp (fun r y h' => ∃ (j : Nat) (vs : List Bool), y = ((j : Int), ()) ∧ 8 - j = r ∧ vs.length = 8 ∧ St h G [Ow a (htv vs js) 0, Ow (n0, 0) (L.cells x) 0] h') (8 - (dep + 1)) rfl ⟨dep + 1, vs, rfl, rfl, hvl, S⟩ ?_
        clear S
        rintro r _ _ ⟨j, vs, rfl, hj, hvl, S⟩
        by_cases hj8 : j < 8
        · refine w_true (decide_eq_true (by (first | omega | ((try dsimp only [Sh.T, Sh1.T]); omega)))) (w_nonnil (w_guard ⟨by (first | omega | ((try dsimp only [Sh.T, Sh1.T]); omega)), by (first | omega | ((try dsimp only [Sh.T, Sh1.T]); omega))⟩ ?_))
          simp only [Int.toNat_natCast, toNat_succ, toNat_succ2, toNat_pred]
          refine st_store S (by unfold htv; simp; omega) fun _ S => ?_
          have S := S.re a (htv (vs.set j false) js) 0 rfl (htv_setb (b := false) hvl hj8) rfl
          refine w_guard (inK64 (by (first | omega | ((try dsimp only [Sh.T, Sh1.T]); omega))) (by (first | omega | ((try dsimp only [Sh.T, Sh1.T]); omega)))) ?_
          exact ln_n rfl (8 - (j + 1)) ⟨j + 1, vs.set j false, rfl, rfl, by rw [List.length_set]; exact hvl, S⟩ (by omega)
        · refine w_false (decide_eq_false (by (first | omega | ((try dsimp only [Sh.T, Sh1.T]); omega)))) (ln_e (md_e rfl ?_))
          exact St.ex_in (vs, js) ⟨hvl, hjl, hjr⟩ (S.only [.ow a])
    · exact w_false (decide_eq_false (by (first | omega | ((try dsimp only [Sh.T, Sh1.T]); omega)))) (md_n rfl (St.ex_in (us, is) ⟨hul, hil, hir⟩ (S.only [.ow a])))
  clear S
  rintro _ _ S
  exact rt_n rfl rfl ⟨_, ⟨rfl, rfl⟩, S⟩
end
end Go.Proofs.Ytegnpimlfphncaa.TG
