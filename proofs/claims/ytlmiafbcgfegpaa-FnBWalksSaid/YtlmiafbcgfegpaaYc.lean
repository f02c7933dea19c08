/-
  Pieces set aside while others are worked on; the facts of a node that lies beside. Conditions: none.
-/
import Derived.Test.YtlmiafbcgfegpaaYb
import Derived.Test.YtlmiafbcgfegpaaCb
set_option linter.unusedVariables false
set_option linter.unusedSimpArgs false
set_option linter.unusedSectionVars false
set_option maxRecDepth 100000
namespace Go.Proofs.Ytlmiafbcgfegpaa
open Go
section
variable {P : Program} {Q : Ex → List AV → H → Prop} {h h0 : H} {G0 : PA → Prop} {l : List Ck}
theorem HT.re {f : FuncId} {args args' : List AV} {tup : Bool} {ss : List Sh} {R : SV ss → H → Prop} (ha : args'.map AV.val = args.map AV.val) (hc : HT P f args' tup ss h R) : HT P f args tup ss h R := by unfold HT; rw [← ha]; exact hc
theorem Bes.st {c : Ck} {G : PA → Prop} (d : Bes c h G) : ∃ F, St h F [c] h ∧ dj G F := by
  obtain ⟨F, hF, hd⟩ := d
  exact ⟨F, St.start (star_one hF), hd.symm⟩
theorem St.beside {F G : PA → Prop} (s : St h F l h) (hd : dj G F) : ∃ F', Star l h F' ∧ dj G F' := by
  obtain ⟨⟨F', h1, h2⟩, _⟩ := s
  exact ⟨F', h1, fun x hx hx' => (h2 x hx').elim (hd x hx) fun hs => Nat.not_le_of_lt (h1.lt x hx') hs⟩
end
section
variable {I : Type} {L : Lay I} {iso : Int} {h : H} {G : PA → Prop}
theorem Bes.nd {n b : Nat} {t : BT I n} (d : Bes (TrC L iso n b t) h G) : ∃ (p : PA) (c : Nat) (kp : Option PA), (itemsB n t).length ≤ c ∧ kp.isNone = Nat.beq n 0 ∧ Bes (RdC (b, 0) (.int .u64 iso)) h G ∧ Bes (RdC (b, 1) (.int .i64 (flatB n t).length)) h G ∧
    Bes (RdC (b, 2) (.slice (some p.val) (itemsB n t).length c)) h G ∧ Bes (RdC (b, 3) (.pointer (kp.map PA.val))) h G ∧ Bes (RsC p (L.flat (itemsB n t))) h G := by
  obtain ⟨F, s, hd⟩ := d.st
  obtain ⟨p, c, kp, hc, hkp, s⟩ := open_nd L iso s
  obtain ⟨F', hs, hd'⟩ := s.beside hd
  exact ⟨p, c, kp, hc, hkp, bes hs hd' rfl, bes hs hd' rfl, bes hs hd' rfl, bes hs hd' rfl, besR hs hd'⟩
theorem Bes.kids {n b : Nat} {t : BT I (n + 1)} (d : Bes (TrC L iso (n + 1) b t) h G) : ∃ (hb : Nat) (q : PA) (c : Nat), Bes (RdC (b, 3) (.pointer (some (PA.val (hb, 0))))) h G ∧ Bes (RdC (hb, 0) (.slice (some q.val) t.2.length c)) h G ∧
    ∀ (i : Nat) (u : BT I n), t.2[i]? = some u → ∃ k, Bes (RdC (q.1, q.2 + i) (kptr k)) h G ∧ Bes (TrC L iso n k u) h G := by
  obtain ⟨F, s, hd⟩ := d.st
  obtain ⟨p, c, kp, hc, hkp, s⟩ := open_nd L iso s
  have s := s.at (.kd kp)
  obtain ⟨hb, q, cc, ks, rfl, hd2, hl, s⟩ := open_kids L iso s
  obtain ⟨F', hs, hd'⟩ := s.beside hd
  refine ⟨hb, q, cc, bes hs hd' rfl, by rw [← hl]; exact bes hs hd' rfl, fun i u hu => ?_⟩
  obtain ⟨k, hk, s⟩ := fo_at L iso hl hu (s.at (.fo ks))
  obtain ⟨F2, hs2, hd2'⟩ := s.beside hd
  obtain ⟨F3, g1, g2⟩ := star_mem hs2 (TrC L iso n k u) (by simp)
  refine ⟨k, bes hs2 hd2' (j := i) (LK_get (ys := ks.map some) (i := i) (y := some k) (by rw [List.getElem?_map, hk]; rfl)), F3, g1, hd2'.symm.sub g2 fun _ hx => hx⟩
end
end Go.Proofs.Ytlmiafbcgfegpaa
