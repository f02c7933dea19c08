/-
  What a piece lacks to be another one; trees with counts that are one too low along a way down. Conditions: none.
-/
import Derived.Test.YtegnpimlfphncaaBe
set_option linter.unusedVariables false
set_option linter.unusedSimpArgs false
set_option linter.unusedSectionVars false
set_option maxRecDepth 100000
namespace Go.Proofs.Ytegnpimlfphncaa
open Go
def WdC {α : Type} (A B : α → Ck) : Ck where
  p h F := (∀ x, F x → x.1 < h.size) ∧ ∀ a h' G FA, Fr G h h' → dj F G → (A a).p h' FA → dj F FA → ∃ F', (B a).p h' F' ∧ ∀ x, F' x → F x ∨ FA x
  out := fun ⟨hl, hw⟩ f hd => ⟨fun x hx => Nat.lt_of_lt_of_le (hl x hx) f.size, fun a h'' G' FA f' hd' hA hdA =>
    hw a h'' (un _ G') FA ((f.mono fun _ _ hx => .inl hx).trans (f'.mono fun _ _ hx => .inr hx)) (fun x hx hu => hu.elim (hd x hx) (hd' x hx)) hA hdA⟩
  lt := fun ⟨hl, _⟩ => hl
section
variable {h h0 : H} {G0 : PA → Prop} {l : List Ck} {α : Type}
end
theorem nodeC_cnt {iso : Int} {cnt m : Nat} {s : SlT} {kp : Option PA} {n : Int} (h : n = m) : (nodeC iso cnt s kp).set 1 (Cell.int .i64 n).val = nodeC iso m s kp := by subst h; rfl
section
variable {I : Type} (L : Lay I) (iso : Int) (f : Nat → Nat)
def DmF : (n : Nat) → List Nat → Nat → BT I n → Ck
  | n, [], b, t => ExC (α := PA × Nat × Option PA) (fun x => (itemsB n t).length ≤ x.2.1 ∧ x.2.2.isNone = Nat.beq n 0) fun x =>
      StC [Ow (b, 0) (nodeC iso (f (flatB n t).length) (some x.1, (itemsB n t).length, x.2.1) x.2.2) 0, Ow x.1 (L.flat (itemsB n t)) ((x.2.1 - (itemsB n t).length) * L.sz), KdC L iso n x.2.2 t]
  | 0, _ :: _, _, _ => ExC (α := Unit) (fun _ => False) fun _ => EmC
  | n + 1, i :: w, b, t => ExC (α := (PA × Nat) × (PA × Nat) × Nat × List Nat × Nat × BT I n)
      (fun x => t.1.length ≤ x.1.2 ∧ x.2.2.2.1.length ≤ x.2.1.2 ∧ x.2.2.2.1.length = t.2.length ∧ x.2.2.2.1[i]? = some x.2.2.2.2.1 ∧ t.2[i]? = some x.2.2.2.2.2) fun x =>
      StC [Ow (b, 0) (nodeC iso (f (flatB (n + 1) t).length) (some x.1.1, t.1.length, x.1.2) (some (x.2.2.1, 0))) 0, Ow x.1.1 (L.flat t.1) ((x.1.2 - t.1.length) * L.sz),
        Ow (x.2.2.1, 0) (hdC (some x.2.1.1, x.2.2.2.1.length, x.2.1.2)) 0, Ow x.2.1.1 (LK.flat (x.2.2.2.1.map some)) ((x.2.1.2 - x.2.2.2.1.length) * LK.sz),
        FoC L iso n (x.2.2.2.1.drop (i + 1)) (t.2.drop (i + 1)), FoC L iso n (x.2.2.2.1.take i) (t.2.take i), DmF n w x.2.2.2.2.1 x.2.2.2.2.2]
variable {h h0 : H} {G0 : PA → Prop} {l : List Ck}
instance pk_df {n b : Nat} {w : List Nat} {t : BT I n} {l : List Ck} : Pk (.tr b) (DmF L iso f n w b t :: l) (DmF L iso f n w b t) l := ⟨.refl _⟩
end
section
variable {I : Type} (L : Lay I) (iso : Int)
variable {h h0 : H} {G0 : PA → Prop} {l : List Ck}
theorem St.kp {n : Nat} {t : BT I n} {r : List Ck} (s : St h0 G0 l h) (b : Nat) [Pk (.tr b) l (TrC L iso n b t) r] : ∃ kp : Option PA, Go.Proofs.Ytegnpimlfphncaa.rd h (b, 3) = some (.pointer (kp.map PA.val)) ∧ kp.isNone = Nat.beq n 0 := by
  obtain ⟨F, hF⟩ := s.fct (.tr b)
  cases n with
  | zero => obtain ⟨p, c, h1, h2, _⟩ := tr_leaf L iso hF; exact ⟨none, h2, rfl⟩
  | succ n => obtain ⟨p, c, q, d, hb, ks, FK, h1, h2, _⟩ := tr_node L iso hF; exact ⟨some (hb, 0), h2, rfl⟩
instance pk_wd {α : Type} {A B : α → Ck} {l : List Ck} : Pk (.kd none) (WdC A B :: l) (WdC A B) l := ⟨.refl _⟩
end
section
variable {I : Type} {lt : I → I → Bool}
theorem fnd_at (o : Ord lt) {l : List I} (hs : Srt lt l) {j : Nat} {x y : I} (hj : l[j]? = some y) (h1 : lt x y = false) (h2 : lt y x = false) : pos lt l x = j ∧ fnd lt l x = some y ∧ del lt l x = l.eraseIdx j := by
  obtain ⟨hlt, he⟩ := List.getElem?_eq_some_iff.1 hj
  have hp : pos lt l x = j := by
    have h3 := pos_spec o hs x j y hj
    have h4 : ¬ j < pos lt l x := fun h => by rw [h3.1 h] at h2; cases h2
    rcases Nat.lt_or_ge (pos lt l x) j with h5 | h5
    · have hz := List.getElem?_eq_getElem (show pos lt l x < l.length by omega)
      have h6 := pos_spec o hs x _ _ hz
      have h7 := List.pairwise_iff_getElem.1 hs (pos lt l x) j (by omega) hlt h5
      rw [he] at h7
      have h8 := o.lt_of_lt_of_le h7 h1
      exact absurd (h6.2 h8) (Nat.lt_irrefl _)
    · omega
  have hf : fnd lt l x = some y := by unfold fnd; rw [hp, hj]; simp [h1]
  refine ⟨hp, hf, ?_⟩
  unfold del
  rw [hf, hp, List.eraseIdx_eq_take_drop_succ]; rfl
end
section
variable {I : Type} (L : Lay I) (iso : Int) (mn mx : Nat)
variable {h h0 : H} {G0 : PA → Prop} {l : List Ck}
end
end Go.Proofs.Ytegnpimlfphncaa
