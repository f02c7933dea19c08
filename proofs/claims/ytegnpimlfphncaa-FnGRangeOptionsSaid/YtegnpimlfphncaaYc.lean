/-
  Pieces set aside while others are worked on; the facts of a node that lies beside. Conditions: none.
-/
import Derived.Test.YtegnpimlfphncaaYb
import Derived.Test.YtegnpimlfphncaaCb
set_option linter.unusedVariables false
set_option linter.unusedSimpArgs false
set_option linter.unusedSectionVars false
set_option maxRecDepth 100000
namespace Go.Proofs.Ytegnpimlfphncaa
open Go
section
variable {P : Program} {Q : Ex → List AV → H → Prop} {h h0 : H} {G0 : PA → Prop} {l : List Ck}
theorem St.cutB {A B : List Ck} (s : St h0 G0 (A ++ B) h) : ∃ G, Star A h G ∧ (∀ c ∈ B, Bes c h G) ∧ (∀ x, G x → G0 x ∨ h0.size ≤ x.1) ∧ ∀ l' h', St h G l' h' → St h0 G0 (l' ++ B) h' := by
  obtain ⟨⟨G, h1, h2⟩, h3⟩ := s
  obtain ⟨F, FB, a1, a2, a3, a4⟩ := h1.split
  refine ⟨F, a1, fun c hc => ?_, fun x hx => h2 x ((a4 x).2 (.inl hx)), fun l' h' hS => ?_⟩
  · obtain ⟨F', g1, g2⟩ := star_mem a2 c hc
    exact ⟨F', g1, a3.symm.sub g2 fun _ hx => hx⟩
  · obtain ⟨⟨C, c1, c2⟩, c3⟩ := hS
    have hB := a2.lt
    refine ⟨⟨un C FB, c1.append (a2.out c3 a3.symm) (fun x hC hx => (c2 x hC).elim (fun hA => a3 x hA hx) (fun hs => Nat.not_le_of_lt (hB x hx) hs)), fun x hx => ?_⟩,
      h3.then c3 fun x hx hA => (h2 x ((a4 x).2 (.inl hA))).elim id (fun hs => absurd hx (Nat.not_lt_of_le hs))⟩
    rcases hx with hC | hB'
    · rcases c2 x hC with hA | hs
      · exact h2 x ((a4 x).2 (.inl hA))
      · exact .inr (Nat.le_trans h3.size hs)
    · exact h2 x ((a4 x).2 (.inr hB'))
theorem HT.re {f : FuncId} {args args' : List AV} {tup : Bool} {ss : List Sh} {R : SV ss → H → Prop} (ha : args'.map AV.val = args.map AV.val) (hc : HT P f args' tup ss h R) : HT P f args tup ss h R := by unfold HT; rw [← ha]; exact hc
theorem Bes.st {c : Ck} {G : PA → Prop} (d : Bes c h G) : ∃ F, St h F [c] h ∧ dj G F := by
  obtain ⟨F, hF, hd⟩ := d
  exact ⟨F, St.start (star_one hF), hd.symm⟩
theorem St.beside {F G : PA → Prop} (s : St h F l h) (hd : dj G F) : ∃ F', Star l h F' ∧ dj G F' := by
  obtain ⟨⟨F', h1, h2⟩, _⟩ := s
  exact ⟨F', h1, fun x hx hx' => (h2 x hx').elim (hd x hx) fun hs => Nat.not_le_of_lt (h1.lt x hx') hs⟩
end
section
variable {I : Type} {L : Lay I} {iso : Int} {h : H} {G : PA → Prop}
theorem Bes.nd {n b : Nat} {t : BT I n} (d : Bes (TrC L iso n b t) h G) : ∃ (p : PA) (c : Nat) (kp : Option PA), (itemsB n t).length ≤ c ∧ kp.isNone = Nat.beq n 0 ∧ Bes (RdC (b, 0) (.int .u64 iso)) h G ∧ Bes (RdC (b, 1) (.int .i64 (flatB n t).length)) h G ∧
    Bes (RdC (b, 2) (.slice (some p.val) (itemsB n t).length c)) h G ∧ Bes (RdC (b, 3) (.pointer (kp.map PA.val))) h G ∧ Bes (RsC p (L.flat (itemsB n t))) h G := by
  obtain ⟨F, s, hd⟩ := d.st
  obtain ⟨p, c, kp, hc, hkp, s⟩ := open_nd L iso s
  obtain ⟨F', hs, hd'⟩ := s.beside hd
  exact ⟨p, c, kp, hc, hkp, bes hs hd' rfl, bes hs hd' rfl, bes hs hd' rfl, bes hs hd' rfl, besR hs hd'⟩
end
end Go.Proofs.Ytegnpimlfphncaa
