/-
  The law FnSHeight. Conditions: none.
-/
import Derived.Test.YtpbmahnieepmiaaPgA
import Derived.Test.YtpbmahnieepmiaaLawSLen
import Derived.Test.YtpbmahnieepmiaaHtms
import Derived.Test.YtpbmahnieepmiaaVkms
set_option linter.unusedVariables false
set_option linter.unusedSimpArgs false
set_option linter.unusedSectionVars false
set_option maxRecDepth 100000
namespace Go.Proofs.Ytpbmahnieepmiaa
open Go
def M_impl_SInsert (a0p : Option PA) (a0l : Nat) (a0c : Nat) : M :=
  .call fn_impl_growSet [.c (.sl (a0p) (a0l) (a0c))] false [.c (.ptr)] fun r0 =>
  .call fn_set_Keys [.c (.ptr (r0.fst))] false [.c (.sl)] fun r1 =>
  .done .ret [.c (.sl (r1.fst.fst) (r1.fst.snd.fst) (r1.fst.snd.snd))]
theorem den_impl_SInsert (a0p : Option PA) (a0l : Nat) (a0c : Nat) : denFn Try.prog Try.f23 [.c (.sl a0p a0l a0c)] = M_impl_SInsert a0p a0l a0c := by kernel_rfl
theorem hc_impl_SInsert (a0p : Option PA) (a0l : Nat) (a0c : Nat) {h : H} {R : Value → H → Prop} (hw : wp Try.prog (M_impl_SInsert a0p a0l a0c) (Ret R) h) : HC Try.prog fn_impl_SInsert (List.map AV.val [.c (.sl a0p a0l a0c)]).toArray h R :=
  den_calls hmix Try.func23 (of_decide_eq_true rfl) (by rw [den_impl_SInsert]; exact hw)
def M_laws_aliveS  : M :=
  .alloc ty_int [.int .i64 (5), .int .i64 (3), .int .i64 (9)] fun n0 =>
  .call fn_impl_SInsert [.c (.sl (some (n0, 0)) (3) (3))] false [.c (.sl)] fun r1 =>
  .done .ret [.c (.bool ((↑r1.fst.snd.fst : Int) == 3))]
theorem den_laws_aliveS  : denFn Try.prog Try.f13 [] = M_laws_aliveS  := by kernel_rfl
theorem hc_laws_aliveS  {h : H} {R : Value → H → Prop} (hw : wp Try.prog (M_laws_aliveS ) (Ret R) h) : HC Try.prog fn_laws_aliveS (List.map AV.val []).toArray h R :=
  den_calls hmix Try.func13 (of_decide_eq_true rfl) (by rw [den_laws_aliveS]; exact hw)
def M_impl_SHeight (a0p : Option PA) (a0l : Nat) (a0c : Nat) : M :=
  .call fn_impl_growSet [.c (.sl (a0p) (a0l) (a0c))] false [.c (.ptr)] fun r0 =>
  .call fn_set_Height [.c (.ptr (r0.fst))] false [.c (.int .i64)] fun r1 =>
  .done .ret [.c (.int .i64 (r1.fst))]
theorem den_impl_SHeight (a0p : Option PA) (a0l : Nat) (a0c : Nat) : denFn Try.prog Try.f10 [.c (.sl a0p a0l a0c)] = M_impl_SHeight a0p a0l a0c := by kernel_rfl
theorem hc_impl_SHeight (a0p : Option PA) (a0l : Nat) (a0c : Nat) {h : H} {R : Value → H → Prop} (hw : wp Try.prog (M_impl_SHeight a0p a0l a0c) (Ret R) h) : HC Try.prog fn_impl_SHeight (List.map AV.val [.c (.sl a0p a0l a0c)]).toArray h R :=
  den_calls hmix Try.func10 (of_decide_eq_true rfl) (by rw [den_impl_SHeight]; exact hw)
def M_laws_FnSHeight (a0p : Option PA) (a0l : Nat) (a0c : Nat) : M :=
  .ite (decide ((↑a0l : Int) > 2147483647))
  (.done .ret [.c (.tt)])
  (.call fn_impl_SHeight [.c (.sl (a0p) (a0l) (a0c))] false [.c (.int .i64)] fun r0 =>
    .call fn_spec_Items [.c (.sl (a0p) (a0l) (a0c))] false [.c (.sl)] fun r1 =>
    .call fn_spec_Tree [.c (.sl none (0) (0)), .c (.sl (r1.fst.fst) (r1.fst.snd.fst) (r1.fst.snd.snd))] false [.c (.sl)] fun r2 =>
    .bind none (.ite (decide (r0.fst ≥ 0))
      (.ite (decide (r0.fst < 63))
        (.ite ((r0.fst == 0) == ((↑r2.fst.snd.fst : Int) == 0))
          (.guard (((0 : Int) ≤ r0.fst) ∧ ((Int.toNat r0.fst ≤ 64) ∧ (InK IntKind.i64 (1 * 2 ^ Int.toNat r0.fst)))) <|
            .guard (InK IntKind.i64 (1 * 2 ^ Int.toNat r0.fst - 1)) <|
            .ite (decide ((↑r2.fst.snd.fst : Int) ≥ 1 * 2 ^ Int.toNat r0.fst - 1))
            (.call fn_laws_aliveS [] false [.c (.bool)] fun r3 =>
              .done .normal [.c (.bool (r3.fst))])
            (.done .normal [.c (.ff)]))
          (.done .normal [.c (.ff)]))
        (.done .normal [.c (.ff)]))
      (.done .normal [.c (.ff)])) [.c (.bool)] fun x4 =>
    .done .ret [.c (.bool (x4.fst))])
theorem den_laws_FnSHeight (a0p : Option PA) (a0l : Nat) (a0c : Nat) : denFn Try.prog Try.f4 [.c (.sl a0p a0l a0c)] = M_laws_FnSHeight a0p a0l a0c := by kernel_rfl
theorem hc_laws_FnSHeight (a0p : Option PA) (a0l : Nat) (a0c : Nat) {h : H} {R : Value → H → Prop} (hw : wp Try.prog (M_laws_FnSHeight a0p a0l a0c) (Ret R) h) : HC Try.prog fn_laws_FnSHeight (List.map AV.val [.c (.sl a0p a0l a0c)]).toArray h R :=
  den_calls hmix Try.func4 (of_decide_eq_true rfl) (by rw [den_laws_FnSHeight]; exact hw)
section
variable {h h0 : H} {G0 : PA → Prop} {l : List Ck}
theorem c_setKeysA {a0 : PA} {dg : Nat} {l : List IV} (hl : l.length ≤ 4294967296) {G : PA → Prop} (hG : Star [MS.MpC 0 dg a0 (kL l)] h G) :
    HT Try.prog fn_set_Keys [.c (.addr a0)] false [.c .sl] h fun r h' => ∃ post, (∃ s : SlT, r = (s, ()) ∧ OwnL LN s (yO l) ∧ post = [SlC s LN.sz (LN.flat (yO l)), MS.MpC 0 dg a0 (kL l)]) ∧ St h G post h' := by
  have e : MS.kO (kL l) = yO l := by unfold MS.kO kL yO; rw [List.map_map]; rfl
  apply hc_set_Keys
  unfold M_set_Keys
  refine st_callT (St.start hG) [.mp a0] (fun G hG => MS.c_Keys (by rw [kL_len]; exact hl) hG) ?_
  rintro _ _ _ ⟨s, rfl, hs, rfl⟩ S
  dsimp only [List.cons_append, List.nil_append] at S
  rw [e] at S hs
  exact rt_1 rfl ⟨_, ⟨s, rfl, hs, rfl⟩, S⟩
theorem c_SInsert {c : Ck} {xs : List Int} {sp : Option PA} {n cap : Nat} (hx : Rdr c (sp, n, cap) LN xs) (hxl : xs.length ≤ 2147483647) {G : PA → Prop} (hG : Star [c] h G) :
    HT Try.prog fn_impl_SInsert [.c (.sl sp n cap)] false [.c .sl] h fun r h' => ∃ post, (∃ s : SlT, r = (s, ()) ∧ OwnL LN s (yO (setO xs)) ∧ post = [c, SlC s LN.sz (LN.flat (yO (setO xs)))]) ∧ St h G post h' := by
  apply hc_impl_SInsert
  unfold M_impl_SInsert
  have hsl := setO_len xs
  refine st_callT (St.start hG) [.ck c] (fun G hG => c_growSet hx hxl hG) ?_
  rintro _ _ _ ⟨m, rfl, rfl⟩ S
  dsimp only [List.cons_append, List.nil_append] at S
  refine st_callV S [.mp (m, 0)] (args' := [.c (.addr (m, 0))]) rfl (fun G hG => c_setKeysA (by omega) hG) ?_
  rintro _ _ _ ⟨s, rfl, hs, rfl⟩ S
  dsimp only [List.cons_append, List.nil_append] at S
  exact rt_1 rfl ⟨_, ⟨s, rfl, hs, rfl⟩, S.only [.ck c, .sl s]⟩
theorem c_aliveS {G : PA → Prop} (hG : Star [] h G) : HT Try.prog fn_laws_aliveS [] false [.c .bool] h fun r h' => ∃ post, (r = (true, ()) ∧ post = []) ∧ St h G post h' := by
  apply hc_laws_aliveS
  unfold M_laws_aliveS
  refine st_alloc (St.start hG) fun ne _ S => ?_
  have S := S.re (ne, 0) (LN.flat [5, 3, 9]) 0 rfl rfl rfl
  refine st_callT S [.ow (ne, 0)] (fun G hG => c_SInsert (xs := [5, 3, 9]) (Rdr.ow (xs := [5, 3, 9]) rfl) (by decide) hG) ?_
  rintro _ _ _ ⟨s, rfl, hs, rfl⟩ S
  dsimp only [List.cons_append, List.nil_append] at S
  have e : s.2.1 = 3 := hs.1
  refine rt_1 rfl ⟨_, ⟨?_, rfl⟩, S.only []⟩
  rw [e]; rfl
theorem c_SHeight {c : Ck} {xs : List Int} {sp : Option PA} {n cap : Nat} (hx : Rdr c (sp, n, cap) LN xs) (hxl : xs.length ≤ 2147483647) {G : PA → Prop} (hG : Star [c] h G) :
    HT Try.prog fn_impl_SHeight [.c (.sl sp n cap)] false [.c (.int .i64)] h fun r h' => ∃ post, ((∃ k : Nat, r = ((k : Int), ()) ∧ MS.HtOK 31 k (setO xs).length) ∧ post = [c]) ∧ St h G post h' := by
  apply hc_impl_SHeight
  unfold M_impl_SHeight
  have hsl := setO_len xs
  have hH : ∀ {h : H} {a0 : PA} {l : List MS.KV} {G : PA → Prop}, l.length ≤ 4294967295 → Star [MS.MpC 0 31 a0 l] h G → HT Try.prog fn_set_Height [.c (.addr a0)] false [.c (.int .i64)] h fun r h' => ∃ post, ((∃ k : Nat, r = ((k : Int), ()) ∧ MS.HtOK 31 k l.length) ∧ post = [MS.MpC 0 31 a0 l]) ∧ St h G post h' := by
    intro h a0 l G hl hG
    apply hc_set_Height
    unfold M_set_Height
    refine st_callT (St.start hG) [.mp a0] (fun G hG => MS.c_Height hl hG) ?_
    rintro _ _ _ ⟨⟨k, rfl, hk⟩, rfl⟩ S
    dsimp only [List.cons_append, List.nil_append] at S
    exact rt_1 rfl ⟨_, ⟨⟨k, rfl, hk⟩, rfl⟩, S⟩
  refine st_callT (St.start hG) [.ck c] (fun G hG => c_growSet hx hxl hG) ?_
  rintro _ _ _ ⟨m, rfl, rfl⟩ S
  dsimp only [List.cons_append, List.nil_append] at S
  refine st_callV S [.mp (m, 0)] (args' := [.c (.addr (m, 0))]) rfl (fun G hG => hH (by rw [kL_len]; omega) hG) ?_
  rintro _ _ _ ⟨⟨k, rfl, hk⟩, rfl⟩ S
  dsimp only [List.cons_append, List.nil_append] at S
  rw [kL_len] at hk
  exact rt_1 rfl ⟨_, ⟨⟨k, rfl, hk⟩, rfl⟩, S.only [.ck c]⟩
set_option maxHeartbeats 1000000 in
theorem c_FnSHeight {hI : H} {xs : List Int} {sp : Option PA} {n cap : Nat} (hx : Rdr (BaC hI) (sp, n, cap) LN xs) {G : PA → Prop} (hG : Star [BaC hI] h G) :
    HT Try.prog fn_laws_FnSHeight [.c (.sl sp n cap)] false [.c .bool] h fun r h' => ∃ post, (r = (true, ()) ∧ post = [BaC hI]) ∧ St h G post h' := by
  apply hc_laws_FnSHeight
  unfold M_laws_FnSHeight
  have hn : n = xs.length := hx.1
  have hsl := setO_len xs
  have S := St.start hG
  by_cases hbig : n > 2147483647
  · exact w_true (decide_eq_true (by omega)) (rt_1 rfl ⟨_, ⟨rfl, rfl⟩, S⟩)
  refine w_false (decide_eq_false (by omega)) ?_
  refine st_callT S [.ck (BaC hI)] (fun G hG => c_SHeight hx (by omega) hG) ?_
  rintro _ _ _ ⟨⟨k, rfl, k1, k2, k3⟩, rfl⟩ S
  dsimp only [List.cons_append, List.nil_append] at S
  refine st_callT S [.ck (BaC hI)] (fun G hG => c_specItems hx (by omega) hG) ?_
  rintro _ _ _ ⟨s2, rfl, hs2, rfl⟩ S
  dsimp only [List.cons_append, List.nil_append] at S
  refine st_callT S [.sl s2] (fun G hG => c_treeKeys hs2.rdr (by omega) hG) ?_
  rintro _ _ _ ⟨s3, rfl, hs3, rfl⟩ S
  dsimp only [List.cons_append, List.nil_append] at S
  have e3 : s3.2.1 = (setO xs).length := hs3.1
  have hk31 : k ≤ 31 := by
    refine Nat.le_of_not_lt fun h => ?_
    have : 2 ^ 32 ≤ 2 ^ k := Nat.pow_le_pow_right (by omega) h
    omega
  have hp : (1 : Int) * 2 ^ k = ((2 ^ k : Nat) : Int) := by rw [Int.one_mul]; exact (Int.natCast_pow 2 k).symm
  have hp31 : 2 ^ k ≤ 2147483648 := Nat.pow_le_pow_right (n := 2) (by omega) hk31
  generalize hq : (2 : Nat) ^ k = q at hp hp31 k2
  refine w_bnd (w_true (decide_eq_true (by (first | omega | ((try dsimp only [Sh.T, Sh1.T]); omega)))) (w_true (decide_eq_true (by (first | omega | ((try dsimp only [Sh.T, Sh1.T]); omega)))) (w_true ?_ ?_)))
  · show (((k : Int) == 0) == ((s3.2.1 : Int) == 0)) = true
    rw [e3]
    by_cases h0 : k = 0
    · simp [h0, k1.1 h0]
    · have : (setO xs).length ≠ 0 := fun h => h0 (k1.2 h)
      rw [show ((k : Int) == 0) = false by rw [beq_eq_false_iff_ne]; omega, show ((((setO xs).length : Nat) : Int) == 0) = false by rw [beq_eq_false_iff_ne]; omega]; rfl
  · dsimp only
    rw [Int.toNat_natCast, hp, e3]
    refine w_guard ⟨by omega, by omega, inK64 (by omega) (by omega)⟩ (w_guard (inK64 (by omega) (by omega)) (w_true (decide_eq_true (by omega)) ?_))
    refine st_callT S [] (fun G hG => c_aliveS hG) ?_
    rintro _ _ _ ⟨rfl, rfl⟩ S
    dsimp only [List.cons_append, List.nil_append] at S
    exact bd_n rfl (rt_1 rfl ⟨_, ⟨rfl, rfl⟩, S.only [.ck (BaC hI)]⟩)
end
end Go.Proofs.Ytpbmahnieepmiaa
