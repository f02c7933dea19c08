/-
  The map: an iterator moved out of any state; a key sought. Conditions: none.
-/
import Derived.Test.YtlmiafbcgfegpaaPgI
import Derived.Test.YtlmiafbcgfegpaaMiy
import Derived.Test.YtlmiafbcgfegpaaWd
import Derived.Test.YtlmiafbcgfegpaaMami
set_option linter.unusedVariables false
set_option linter.unusedSimpArgs false
set_option linter.unusedSectionVars false
set_option maxRecDepth 100000
namespace Go.Proofs.Ytlmiafbcgfegpaa.MI
open Go Go.Proofs.Ytlmiafbcgfegpaa
section
variable {h h0 : H} {G0 : PA → Prop} {l : List Ck} {tr a : PA} {iso : Int} {F : (r : Nat) → Nat → BT KV r → Prop} {mn mx n b0 : Nat} {t : BT KV n}
def MvR (F : (r : Nat) → Nat → BT KV r → Prop) (mn mx : Nat) (t : BT KV n) (a tr : PA) (rest : List Ck) (φ : Option Nat → Prop) (r : SV [.c .bool]) (post : List Ck) : Prop :=
  ∃ (sk ats ate : Bool) (fs : List (Nat × Int)) (x : KV), post = ItC a tr sk ats ate fs x :: rest ∧ ((r = (true, ()) ∧ sk = true ∧ ∃ q, φ (some q) ∧ Pos F mn mx t fs q ∧ (flatB n t)[q]? = some x) ∨ (r = (false, ()) ∧ fs = [] ∧ φ none))
theorem c_FirstR {sk ats ate : Bool} {fs : List (Nat × Int)} {x0 : KV} {G : PA → Prop} (f : Tf tr iso F mn mx n b0 t h G) (hG : Star [ItC a tr sk ats ate fs x0] h G) :
    HT Try.prog fn_ii_First [.c (.addr a)] false [.c .bool] h fun r h' => ∃ post, MvR F mn mx t a tr [] (fun s => s = some 0) r post ∧ St h G post h' :=
  (c_First f hG).mono fun r h' ⟨post, ⟨e, fs', x, h1, h2, h3⟩, S⟩ => ⟨post, ⟨true, false, false, fs', x, h3, .inl ⟨e, rfl, 0, rfl, h1, h2⟩⟩, S⟩
theorem c_LastR {sk ats ate : Bool} {fs : List (Nat × Int)} {x0 : KV} {G : PA → Prop} (f : Tf tr iso F mn mx n b0 t h G) (hG : Star [ItC a tr sk ats ate fs x0] h G) :
    HT Try.prog fn_ii_Last [.c (.addr a)] false [.c .bool] h fun r h' => ∃ post, MvR F mn mx t a tr [] (fun s => s = some ((flatB n t).length - 1)) r post ∧ St h G post h' :=
  (c_Last f hG).mono fun r h' ⟨post, ⟨e, fs', x, q, hq, h1, h2, h3⟩, S⟩ => ⟨post, ⟨true, ats, ate, fs', x, h3, .inl ⟨e, rfl, q, by rw [← hq]; rfl, h1, h2⟩⟩, S⟩
theorem c_NextR {ats ate : Bool} {fs : List (Nat × Int)} {x0 : KV} {q : Nat} {G : PA → Prop} (f : Tf tr iso F mn mx n b0 t h G) (hp : Nxt F mn mx t fs q) (hG : Star [ItC a tr true ats ate fs x0] h G) :
    HT Try.prog fn_ii_Next [.c (.addr a)] false [.c .bool] h fun r h' => ∃ post, MvR F mn mx t a tr [] (fun s => s = if q < (flatB n t).length then some q else none) r post ∧ St h G post h' :=
  (c_Next1 f hp hG).mono fun r h' ⟨post, hc, S⟩ => ⟨post, by
    rcases hc with ⟨e, fs', x, h1, h2, h3⟩ | ⟨e, h1, h3⟩
    · exact ⟨true, ats, ate, fs', x, h3, .inl ⟨e, rfl, q, by rw [if_pos (List.getElem?_eq_some_iff.1 h2).1], h1, h2⟩⟩
    · exact ⟨true, ats, true, [], x0, h3, .inr ⟨e, rfl, by rw [if_neg (by omega)]⟩⟩, S⟩
theorem c_PrevR {ats ate : Bool} {fs : List (Nat × Int)} {x0 : KV} {q : Nat} {G : PA → Prop} (f : Tf tr iso F mn mx n b0 t h G) (hp : Pos F mn mx t fs q) (hG : Star [ItC a tr true ats ate fs x0] h G) :
    HT Try.prog fn_ii_Prev [.c (.addr a)] false [.c .bool] h fun r h' => ∃ post, MvR F mn mx t a tr [] (fun s => s = if q = 0 then none else some (q - 1)) r post ∧ St h G post h' :=
  (c_Prev1 f hp hG).mono fun r h' ⟨post, hc, S⟩ => ⟨post, by
    rcases hc with ⟨e, fs', x, q', hq, h1, h2, h3⟩ | ⟨e, h1, h3⟩
    · exact ⟨true, ats, ate, fs', x, h3, .inl ⟨e, rfl, q', by rw [if_neg (by omega)]; congr 1; omega, h1, h2⟩⟩
    · exact ⟨true, true, ate, [], x0, h3, .inr ⟨e, rfl, by rw [if_pos h1]⟩⟩, S⟩
theorem c_Next0 {sk ats ate : Bool} {x0 : KV} {G : PA → Prop} (f : Tf tr iso F mn mx n b0 t h G) (hG : Star [ItC a tr sk ats ate [] x0] h G) :
    HT Try.prog fn_ii_Next [.c (.addr a)] false [.c .bool] h fun r h' => ∃ post, MvR F mn mx t a tr [] (fun _ => True) r post ∧ St h G post h' := by
  apply hc_ii_Next
  unfold M_ii_Next
  obtain ⟨⟨s1, s2, s3⟩, hs, S⟩ := open_it (St.start hG)
  obtain rfl : s2 = 0 := hs.1
  refine ld_some S rfl (w_false rfl (ld_bool S rfl ?_))
  cases sk with
  | false =>
    have S := shut_itS (fs := []) S hs
    refine w_true rfl ?_
    refine st_callF S [.ck (ItC a tr false ats ate [] x0)] (fun G' hG' hsub => c_FirstR (f.step S hsub) hG') ?_
    rintro _ _ _ ⟨sk, ats, ate, fs, x, rfl, ⟨rfl, rfl, q, _, h1, h2⟩ | ⟨rfl, rfl, _⟩⟩ S
    · exact rt_1 rfl ⟨_, ⟨true, ats, ate, fs, x, rfl, .inl ⟨rfl, rfl, q, trivial, h1, h2⟩⟩, S⟩
    · exact rt_1 rfl ⟨_, ⟨sk, ats, ate, [], x, rfl, .inr ⟨rfl, rfl, trivial⟩⟩, S⟩
  | true =>
    refine w_false rfl (ld_sl S s1 0 s3 rfl (w_true rfl (ld_bool S rfl ?_)))
    have S := shut_itS (fs := []) S hs
    cases ats with
    | false => exact w_false rfl (rt_1 rfl ⟨_, ⟨true, false, ate, [], x0, rfl, .inr ⟨rfl, rfl, trivial⟩⟩, S⟩)
    | true =>
      refine w_true rfl ?_
      refine w_mid' none (fun (y : SV [.c .bool]) h' => ∃ post, MvR F mn mx t a tr [] (fun _ => True) y post ∧ St h G post h') ?_ (fun _ _ ⟨post, h1, S⟩ => rt_1 rfl ⟨post, h1, S⟩)
      refine st_callF S [.ck (ItC a tr true true ate [] x0)] (fun G' hG' hsub => c_FirstR (f.step S hsub) hG') ?_
      rintro _ _ _ ⟨sk, ats, ate, fs, x, rfl, ⟨rfl, rfl, q, _, h1, h2⟩ | ⟨rfl, rfl, _⟩⟩ S
      · refine w_true rfl ?_
        have S : St h G [ItC a tr true ats ate fs x] _ := S
        refine st_callF S [.ck (ItC a tr true ats ate fs x)] (fun G' hG' hsub => c_NextR (f.step S hsub) h1.nxt hG') ?_
        rintro _ _ _ ⟨sk, ats, ate, fs, x, rfl, ⟨rfl, rfl, q, _, h1, h2⟩ | ⟨rfl, rfl, _⟩⟩ S
        · exact md_n rfl ⟨_, ⟨true, ats, ate, fs, x, rfl, .inl ⟨rfl, rfl, q, trivial, h1, h2⟩⟩, S⟩
        · exact md_n rfl ⟨_, ⟨sk, ats, ate, [], x, rfl, .inr ⟨rfl, rfl, trivial⟩⟩, S⟩
      · exact w_false rfl (md_n rfl ⟨_, ⟨sk, ats, ate, [], x, rfl, .inr ⟨rfl, rfl, trivial⟩⟩, S⟩)
theorem c_Prev0 {sk ats ate : Bool} {x0 : KV} {G : PA → Prop} (f : Tf tr iso F mn mx n b0 t h G) (hG : Star [ItC a tr sk ats ate [] x0] h G) :
    HT Try.prog fn_ii_Prev [.c (.addr a)] false [.c .bool] h fun r h' => ∃ post, MvR F mn mx t a tr [] (fun _ => True) r post ∧ St h G post h' := by
  apply hc_ii_Prev
  unfold M_ii_Prev
  obtain ⟨⟨s1, s2, s3⟩, hs, S⟩ := open_it (St.start hG)
  obtain rfl : s2 = 0 := hs.1
  refine ld_some S rfl (w_false rfl (ld_bool S rfl ?_))
  cases sk with
  | false => exact w_true rfl (rt_1 rfl ⟨_, ⟨false, ats, ate, [], x0, rfl, .inr ⟨rfl, rfl, trivial⟩⟩, shut_itS (fs := []) S hs⟩)
  | true =>
    refine w_false rfl (ld_sl S s1 0 s3 rfl (w_true rfl (ld_bool S rfl ?_)))
    have S := shut_itS (fs := []) S hs
    cases ate with
    | false => exact w_false rfl (rt_1 rfl ⟨_, ⟨true, ats, false, [], x0, rfl, .inr ⟨rfl, rfl, trivial⟩⟩, S⟩)
    | true =>
      refine w_true rfl ?_
      refine w_mid' none (fun (y : SV [.c .bool]) h' => ∃ post, MvR F mn mx t a tr [] (fun _ => True) y post ∧ St h G post h') ?_ (fun _ _ ⟨post, h1, S⟩ => rt_1 rfl ⟨post, h1, S⟩)
      refine st_callF S [.ck (ItC a tr true ats true [] x0)] (fun G' hG' hsub => c_LastR (f.step S hsub) hG') ?_
      rintro _ _ _ ⟨sk, ats, ate, fs, x, rfl, ⟨rfl, rfl, q, _, h1, h2⟩ | ⟨rfl, rfl, _⟩⟩ S
      · refine w_true rfl ?_
        have S : St h G [ItC a tr true ats ate fs x] _ := S
        refine st_callF S [.ck (ItC a tr true ats ate fs x)] (fun G' hG' hsub => c_PrevR (f.step S hsub) h1 hG') ?_
        rintro _ _ _ ⟨sk, ats, ate, fs, x, rfl, ⟨rfl, rfl, q, _, h1, h2⟩ | ⟨rfl, rfl, _⟩⟩ S
        · exact md_n rfl ⟨_, ⟨true, ats, ate, fs, x, rfl, .inl ⟨rfl, rfl, q, trivial, h1, h2⟩⟩, S⟩
        · exact md_n rfl ⟨_, ⟨sk, ats, ate, [], x, rfl, .inr ⟨rfl, rfl, trivial⟩⟩, S⟩
      · exact w_false rfl (md_n rfl ⟨_, ⟨sk, ats, ate, [], x, rfl, .inr ⟨rfl, rfl, trivial⟩⟩, S⟩)
end
section
variable {h : H} {tr a : PA} {iso : Int} {F : (r : Nat) → Nat → BT KV r → Prop} {mn mx n b0 : Nat} {t : BT KV n}
set_option maxHeartbeats 4000000 in
theorem c_Seek {k : Int} {sk ats ate : Bool} {fs : List (Nat × Int)} {x0 : KV} {G : PA → Prop} (f : Tf tr iso F mn mx n b0 t h G) (hsr : Srt lt (flatB n t)) (hG : Star [ItC a tr sk ats ate fs x0] h G) :
    HT Try.prog fn_ii_Seek [.c (.addr a), .c (.int .i64 k)] false [.c .bool] h fun r h' =>
      ∃ post, MvR F mn mx t a tr [] (fun s => s = if pos lt (flatB n t) (k, 0) < (flatB n t).length then some (pos lt (flatB n t) (k, 0)) else none) r post ∧ St h G post h' := by
  apply hc_ii_Seek
  unfold M_ii_Seek
  obtain ⟨⟨s1, s2, s3⟩, hs, S⟩ := open_it (St.start hG)
  refine ld_some S rfl (w_false rfl ?_)
  refine st_store S (lt_ble rfl) fun _ S => ?_
  refine ld_sl S s1 s2 s3 rfl (w_guard ⟨by omega, by show (0 : Int) ≤ (s3 : Int); omega⟩ ?_)
  refine st_store S (lt_ble rfl) fun _ S => ?_
  have S := (sl_none S.pull1).pull1
  have S := S.re a (itC tr true ats ate (s1, 0, s3) x0) 0 rfl (by simp [itC, Cell.val, slBase_z]) rfl
  have S : St h G [Ow a (itC tr true ats ate (s1, 0, s3) x0) 0, SlC (s1, 0, s3) LFr.sz (LFr.flat ([] : List (Nat × Int)).reverse)] _ := S
  refine ld_some S rfl (w_nonnil (w_ptr (some (b0, 0)) (f.root.now S).rd (w_false rfl (ld_some S rfl (ld_some S rfl (w_nonnil (ld_bool S rfl ?_)))))))
  obtain ⟨_, _, _, _, _, i0, _⟩ := (f.fw.nd n b0 t f.here).nd
  refine w_callV (args' := [.c (.addr tr), .c (.addr (tr.1, tr.2 + 2)), .c (.bool false)]) rfl (c_isoLoad (b := b0) (f.root.now S).rd (i0.now S).rd (f.iso.now S).rd) ?_
  rintro _ _ ⟨rfl, rfl⟩
  refine w_lp (fun r y h' => ∃ (b : Nat) (u : BT KV r) (fs : List (Nat × Int)) (s : SlT) (off : Nat), y = (some (b, 0), ()) ∧ Up F mn mx t fs r u off ∧ F r b u ∧ OwnL LFr s fs.reverse ∧ Srt lt (flatB r u) ∧ pos lt (flatB n t) (k, 0) = off + pos lt (flatB r u) (k, 0) ∧
    St h G [Ow a (itC tr true ats ate s x0) 0, SlC s LFr.sz (LFr.flat fs.reverse)] h') n rfl
    ⟨b0, t, [], (s1, 0, s3), 0, rfl, ⟨rfl, rfl⟩, f.here, ⟨rfl, Nat.zero_le _, .inl rfl⟩, hsr, by omega, S⟩ ?_
  clear S hs
  rintro r _ _ ⟨b, u, fs, ⟨s1, s2, s3⟩, off, rfl, hu, hF, hs, hsu, hpos, S⟩
  have hfl : fs.reverse.length = fs.length := List.length_reverse
  have hlen := hu.len
  have hn := f.hgt
  have hmx := f.big
  obtain ⟨hv, hi⟩ := hu.val f.val f.one f.its
  have hil := Val.items hv
  obtain ⟨pi, ci, kp, hci, hkp, _, _, b2, b3, br⟩ := (f.fw.nd r b u hF).nd
  have hsi : Srt lt (itemsB r u) := by
    cases r with
    | zero => exact hsu
    | succ r => exact srt_items (xs := u.1) (ts := u.2.map (flatB r)) (by rw [List.length_map]; exact hv.2.1) hsu
  refine ld_some S rfl ?_
  refine w_callV (args' := [.c (.addr tr), .c (.addr (b, 0)), .c (.int .i64 k)]) rfl (c_search (a1 := (b, 0)) (b2.now S).rd (br.now S).rds hsi (by omega)) ?_
  rintro _ _ ⟨rfl, rfl⟩
  generalize hpi : pos lt (itemsB r u) (k, 0) = i at *
  have hile : i ≤ (itemsB r u).length := by rw [← hpi]; exact pos_le _ _
  refine ld_sl S s1 s2 s3 rfl ?_
  refine st_alloc S fun n17 _ S => ?_
  refine st_apo (L := LFr) (xs := fs.reverse) (y := (b, (i : Int))) S hs rfl rfl (S.rsl (LFr.flat [(b, (i : Int))]) 1 1 2 (fun i v h => by rw [Nat.zero_add]; exact h) rfl) ⟨by omega, by omega⟩ fun s' _ hs' S => ?_
  have er : fs.reverse ++ [(b, (i : Int))] = ((b, (i : Int)) :: fs).reverse := by rw [List.reverse_cons]
  rw [er] at S hs'
  refine st_store S (lt_ble rfl) fun _ S => ?_
  have SS : St h G [Ow a (itC tr true ats ate s' x0) 0, SlC s' LFr.sz (LFr.flat ((b, (i : Int)) :: fs).reverse)] _ := S.only [.ow a, .sl s']
  cases hfi : fnd lt (itemsB r u) (k, 0) with
  | some y =>
    have S := SS
    obtain ⟨g1, g2, g3⟩ := fnd_some_lt hfi
    rw [hpi] at g1 g2
    have g4 : lt y (k, 0) = false := by
      cases hq : lt y (k, 0) with
      | false => rfl
      | true => have := (pos_spec ord hsi (k, 0) i y g2).2 hq; omega
    obtain ⟨q, hq⟩ : ∃ q, q + 1 = off + bef r u (i + 1) := by
      have := (bef_item (mn := mn) (mx := mx) hv g2).1
      exact ⟨off + bef r u (i + 1) - 1, by omega⟩
    have hx := Pos.item (b := b) f.val f.one f.its hu g2 hq
    have hpq := (fnd_at ord hsr hx g3 g4).1
    have hqlt := (List.getElem?_eq_some_iff.1 hx).1
    refine w_true rfl (w_nonnil (w_sl (some pi, (itemsB r u).length, ci) (b2.now S).rd (w_nonnil (w_guard ⟨by show (0 : Int) ≤ (i : Int); omega, by show (i : Int) < ((itemsB r u).length : Int); omega⟩ ?_))))
    dsimp only
    rw [Int.toNat_natCast]
    refine w_it (br.now S).rds g2 ?_
    refine st_store S (lt_ble rfl) fun _ S => ?_
    refine st_store S (lt_ble rfl) fun _ S => ?_
    refine ln_r (rt_1 rfl ⟨_, ⟨true, ats, ate, (b, (i : Int)) :: fs, y, rfl, .inl ⟨rfl, rfl, q, ?_, ⟨b, i, fs, r, u, off, rfl, hu, hF, g1, hq⟩, hx⟩⟩, ?_⟩)
    · rw [hpq, if_pos hqlt]
    · exact shut_itS (a := a) (tr := tr) (sk := true) (ats := ats) (ate := ate) (x := y) S hs'
  | none =>
    have S := SS
    refine w_false rfl (w_callT (c_leafp (kp := kp) (b3.now S).rd) ?_)
    rintro _ _ ⟨rfl, rfl⟩
    cases r with
    | zero =>
      obtain ⟨p', c', hcl, S⟩ := it_top SS hs' (by simp)
      have htop := rev_get (b, (i : Int)) fs
      have hposl : pos lt (flatB n t) (k, 0) = off + i := by rw [hpos, ← hpi]; rfl
      refine w_true hkp ?_
      refine ld_sls S rfl (ld_sls S rfl (w_guard (inK64 (by simp <;> omega) (by simp <;> omega)) (w_nonnil (w_guard ⟨by simp <;> omega, by simp <;> omega⟩ ?_))))
      dsimp only
      rw [toNat_pred]
      refine w_fi (frs S.pull1) htop (w_guard (inK64 (by dsimp only; omega) (by dsimp only; omega)) (w_nonnil (w_guard ⟨by simp <;> omega, by simp <;> omega⟩ ?_)))
      refine st_fi S htop fun _ S => ?_
      rw [rev_set] at S
      dsimp only at S
      have S : St h G [Ow a (itC tr true ats ate (some p', ((b, (i : Int) - 1) :: fs).length, c') x0) 0, Ow p' (LFr.flat ((b, (i : Int) - 1) :: fs).reverse) ((c' - ((b, (i : Int) - 1) :: fs).length) * LFr.sz)] _ := S
      have S := shut_it S rfl rfl hcl rfl
      have hnx : Nxt F mn mx t ((b, (i : Int) - 1) :: fs) (off + i) := ⟨b, i, fs, 0, u, off, rfl, hu, hF, hile, .inl rfl, rfl⟩
      refine st_callF S [.ck (ItC a tr true ats ate ((b, (i : Int) - 1) :: fs) x0)] (fun G' hG' hsub => c_NextR (f.step S hsub) hnx hG') ?_
      rintro _ _ _ ⟨sk, ats, ate, fs, y, rfl, ⟨rfl, rfl, q, hq, h1, h2⟩ | ⟨rfl, rfl, hq⟩⟩ S
      · exact ln_r (rt_1 rfl ⟨_, ⟨true, ats, ate, fs, y, rfl, .inl ⟨rfl, rfl, q, by rw [hposl]; exact hq, h1, h2⟩⟩, S⟩)
      · exact ln_r (rt_1 rfl ⟨_, ⟨sk, ats, ate, [], y, rfl, .inr ⟨rfl, rfl, by rw [hposl]; exact hq⟩⟩, S⟩)
    | succ r =>
      have S := SS
      obtain ⟨hb, qq, cc, k1, k2, k3⟩ := f.fw.kd r b u hF
      have hl : u.2.length = u.1.length + 1 := hv.2.1
      have hi : 1 ≤ u.1.length := hi
      have hile : i ≤ u.1.length := hile
      have hfi : fnd lt u.1 (k, 0) = none := hfi
      have hpi : pos lt u.1 (k, 0) = i := hpi
      obtain ⟨v, hv0⟩ : ∃ v, u.2[i]? = some v := ⟨_, List.getElem?_eq_getElem (by omega)⟩
      obtain ⟨kid, g1, g2⟩ := k3 i v hv0
      have hlm : (u.2.map (flatB r)).length = u.1.length + 1 := by rw [List.length_map, hl]
      have hum : (u.2.map (flatB r))[pos lt u.1 (k, 0)]? = some (flatB r v) := by rw [hpi, List.getElem?_map, hv0]; rfl
      have hsw : Srt lt (weave u.1 (u.2.map (flatB r))) := hsu
      have hpc := (put_child ord hlm hsw hum hfi).2.2.1
      have hpc : pos lt (flatB (r + 1) u) (k, 0) = (ahead u.1 u.2 i).length + pos lt (flatB r v) (k, 0) := by
        rw [show flatB (r + 1) u = weave u.1 (u.2.map (flatB r)) from rfl, hpc, hpi]
        simp only [ahead, List.map_take]
      have hsv : Srt lt (flatB r v) := by
        rw [weave_at (i := i) hile (by rw [← hpi]; exact hum)] at hsw
        exact (srt_append.1 (srt_append.1 hsw).2.1).1
      refine w_false hkp ?_
      refine ld_some S rfl (w_nonnil (w_ptr (some (hb, 0)) (k1.now S).rd (w_nonnil (w_sl (some qq, u.2.length, cc) (k2.now S).rd (w_nonnil (w_guard ⟨by show (0 : Int) ≤ (i : Int); omega, by show (i : Int) < (u.2.length : Int); omega⟩ (ld_bool S rfl ?_)))))))
      obtain ⟨_, _, _, _, _, i0, _⟩ := (f.fw.nd r kid v g2).nd
      dsimp only
      rw [Int.toNat_natCast]
      refine w_callV (args' := [.c (.addr tr), .c (.addr (qq.1, qq.2 + i)), .c (.bool false)]) rfl (c_isoLoad (b := kid) (g1.now S).rd (i0.now S).rd (f.iso.now S).rd) ?_
      rintro _ _ ⟨rfl, rfl⟩
      refine ln_n rfl r ⟨kid, v, (b, (i : Int)) :: fs, s', off + (ahead u.1 u.2 i).length, rfl, ?_, g2, hs', hsv, by rw [hpos, hpc]; omega, S⟩ (by omega)
      exact ⟨u, i, off, rfl, hv0, rfl, hF, hv, hi, hu⟩
end
end Go.Proofs.Ytlmiafbcgfegpaa.MI
