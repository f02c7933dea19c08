/-
  The functions of a set over the keeping function, in order and turned. Conditions: none.
-/
import Derived.Test.YtpbmahnieepmiaaPgA
import Derived.Test.YtpbmahnieepmiaaTni
set_option linter.unusedVariables false
set_option linter.unusedSimpArgs false
set_option linter.unusedSectionVars false
set_option maxRecDepth 100000
namespace Go.Proofs.Ytpbmahnieepmiaa
open Go
section
variable {P : Program} {Q : Ex → List AV → H → Prop} {h h0 : H} {G0 : PA → Prop} {l : List Ck}
def scC (o fp f0 f1 : PA) (n : Int) (acc : List MS.KV) : Ck := StC [Ow fp [tnF f0 f1] 0, TnC o f0 f1 n (acc.map (·.1))]
def scF (fp : PA) : Value := .func (.func fn_set_Scan_1) #[] #[.pointer (some fp.val)]
theorem cb_sc {o fp f0 f1 : PA} {n : Int} : Cbk Try.prog (scF fp) MS.argO (scC o fp f0 f1 n) (goN n) 4294967296 := by
  intro h G acc x hl hG
  refine ⟨by kernel_rfl, ?_⟩
  have e : (#[] ++ (List.map AV.val (MS.argO x)).toArray ++ #[.pointer (some fp.val)] : Array Value) = (List.map AV.val [.c (.int .i64 x.1), .agg [], .c (.addr fp)]).toArray := by simp [MS.argO]; rfl
  rw [e]
  apply hc_set_Scan_1
  unfold M_set_Scan_1
  have S := St.st_out (St.start hG)
  dsimp only [List.cons_append, List.nil_append] at S
  refine st_alloc S fun nz _ S => ?_
  refine ld_raw S (tnF f0 f1) rfl ?_
  have S := S.ats [.ck (TnC o f0 f1 n (acc.map (·.1))), .ow fp]
  refine st_cb S cb_tn x.1 (by rw [List.length_map]; exact hl) rfl fun _ S => ?_
  have S := S.only [.ow fp, .ck (TnC o f0 f1 n (acc.map (·.1) ++ [x.1]))]
  have e2 : acc.map (·.1) ++ [x.1] = (acc ++ [x]).map (·.1) := by simp
  have hg : goN n (acc.map (·.1)) x.1 = goN n acc x := by simp [goN]
  rw [e2] at S
  rw [hg]
  exact rt_1 rfl ⟨rfl, St.st_in (m := [Ow fp [tnF f0 f1] 0, TnC o f0 f1 n ((acc ++ [x]).map (·.1))]) (l := []) S⟩
theorem shut_sc {o fp f0 f1 : PA} {n : Int} (S : St h0 G0 (Ow o [.slice none 0 0] 0 :: Ow f0 [.pointer (some o.val)] 0 :: Ow f1 [.int .i64 n] 0 :: Ow fp [tnF f0 f1] 0 :: l) h) : St h0 G0 (scC o fp f0 f1 n [] :: l) h := by
  have S := sl_nil LN S
  have S := shut_tn (s := (none, 0, 0)) (acc := []) ⟨rfl, Nat.le_refl _, .inl rfl⟩ (S.ats [.ow o, .ow f0, .ow f1, .sl (none, 0, 0)])
  exact St.st_in (m := [Ow fp [tnF f0 f1] 0, TnC o f0 f1 n []]) S.pull1
theorem open_sc {o fp f0 f1 : PA} {n : Int} {acc : List MS.KV} (s : St h0 G0 (scC o fp f0 f1 n acc :: l) h) : ∃ s : SlT, OwnL LN s (acc.map (·.1)) ∧ St h0 G0 (Ow o [.slice (s.1.map PA.val) s.2.1 s.2.2] 0 :: SlC s LN.sz (LN.flat (acc.map (·.1))) :: Ow fp [tnF f0 f1] 0 :: Ow f0 [.pointer (some o.val)] 0 :: Ow f1 [.int .i64 n] 0 :: l) h := by
  have S := St.st_out s
  dsimp only [List.cons_append, List.nil_append] at S
  obtain ⟨s, hs, S⟩ := open_tn S.pull1
  exact ⟨s, hs, S.ats [.ow o, .sl s, .ow fp, .ow f0, .ow f1]⟩
def srC (o fp f0 f1 : PA) (n : Int) (acc : List MS.KV) : Ck := StC [Ow fp [tnF f0 f1] 0, TnC o f0 f1 n (acc.map (·.1))]
def srF (fp : PA) : Value := .func (.func fn_set_Reverse_1) #[] #[.pointer (some fp.val)]
theorem cb_sr {o fp f0 f1 : PA} {n : Int} : Cbk Try.prog (srF fp) MS.argO (srC o fp f0 f1 n) (goN n) 4294967296 := by
  intro h G acc x hl hG
  refine ⟨by kernel_rfl, ?_⟩
  have e : (#[] ++ (List.map AV.val (MS.argO x)).toArray ++ #[.pointer (some fp.val)] : Array Value) = (List.map AV.val [.c (.int .i64 x.1), .agg [], .c (.addr fp)]).toArray := by simp [MS.argO]; rfl
  rw [e]
  apply hc_set_Reverse_1
  unfold M_set_Reverse_1
  have S := St.st_out (St.start hG)
  dsimp only [List.cons_append, List.nil_append] at S
  refine st_alloc S fun nz _ S => ?_
  refine ld_raw S (tnF f0 f1) rfl ?_
  have S := S.ats [.ck (TnC o f0 f1 n (acc.map (·.1))), .ow fp]
  refine st_cb S cb_tn x.1 (by rw [List.length_map]; exact hl) rfl fun _ S => ?_
  have S := S.only [.ow fp, .ck (TnC o f0 f1 n (acc.map (·.1) ++ [x.1]))]
  have e2 : acc.map (·.1) ++ [x.1] = (acc ++ [x]).map (·.1) := by simp
  have hg : goN n (acc.map (·.1)) x.1 = goN n acc x := by simp [goN]
  rw [e2] at S
  rw [hg]
  exact rt_1 rfl ⟨rfl, St.st_in (m := [Ow fp [tnF f0 f1] 0, TnC o f0 f1 n ((acc ++ [x]).map (·.1))]) (l := []) S⟩
theorem shut_sr {o fp f0 f1 : PA} {n : Int} (S : St h0 G0 (Ow o [.slice none 0 0] 0 :: Ow f0 [.pointer (some o.val)] 0 :: Ow f1 [.int .i64 n] 0 :: Ow fp [tnF f0 f1] 0 :: l) h) : St h0 G0 (srC o fp f0 f1 n [] :: l) h := by
  have S := sl_nil LN S
  have S := shut_tn (s := (none, 0, 0)) (acc := []) ⟨rfl, Nat.le_refl _, .inl rfl⟩ (S.ats [.ow o, .ow f0, .ow f1, .sl (none, 0, 0)])
  exact St.st_in (m := [Ow fp [tnF f0 f1] 0, TnC o f0 f1 n []]) S.pull1
theorem open_sr {o fp f0 f1 : PA} {n : Int} {acc : List MS.KV} (s : St h0 G0 (srC o fp f0 f1 n acc :: l) h) : ∃ s : SlT, OwnL LN s (acc.map (·.1)) ∧ St h0 G0 (Ow o [.slice (s.1.map PA.val) s.2.1 s.2.2] 0 :: SlC s LN.sz (LN.flat (acc.map (·.1))) :: Ow fp [tnF f0 f1] 0 :: Ow f0 [.pointer (some o.val)] 0 :: Ow f1 [.int .i64 n] 0 :: l) h := by
  have S := St.st_out s
  dsimp only [List.cons_append, List.nil_append] at S
  obtain ⟨s, hs, S⟩ := open_tn S.pull1
  exact ⟨s, hs, S.ats [.ow o, .sl s, .ow fp, .ow f0, .ow f1]⟩
end
end Go.Proofs.Ytpbmahnieepmiaa
