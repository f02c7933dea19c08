/-
  The reference: ranks, places, setting, cutting. Conditions: none.
-/
import Derived.Test.YtpbmahnieepmiaaIt
import Derived.Test.YtpbmahnieepmiaaNm
set_option linter.unusedVariables false
set_option linter.unusedSimpArgs false
set_option linter.unusedSectionVars false
set_option maxRecDepth 100000
namespace Go.Proofs.Ytpbmahnieepmiaa
open Go
section
variable {h : H}
def treeO (o : List Int) (l : List IV) : List IV := l.foldl (fun t x => put (ltO o) t x) []
theorem put_len_le {I : Type} {lt : I → I → Bool} (l : List I) (x : I) : (put lt l x).length ≤ l.length + 1 := by
  have := pos_le (lt := lt) l x
  unfold put
  simp; omega
theorem treeO_snoc (o : List Int) (l : List IV) (x : IV) : treeO o (l ++ [x]) = put (ltO o) (treeO o l) x := by simp [treeO]
theorem foldO_len (o : List Int) : ∀ (l t : List IV), (l.foldl (fun t x => put (ltO o) t x) t).length ≤ t.length + l.length
  | [], t => Nat.le_refl _
  | x :: l, t => by
    have ih := foldO_len o l (put (ltO o) t x)
    have := put_len_le (lt := ltO o) t x
    simp only [List.foldl_cons, List.length_cons]; omega
theorem treeO_len (o : List Int) (l : List IV) : (treeO o l).length ≤ l.length := by
  have := foldO_len o l []
  simpa [treeO] using this
theorem foldO_srt (o : List Int) : ∀ (l t : List IV), Srt (ltO o) t → Srt (ltO o) (l.foldl (fun t x => put (ltO o) t x) t)
  | [], t, h => h
  | x :: l, t, h => foldO_srt o l _ (put_srt (ordO o) h x)
theorem treeO_srt (o : List Int) (l : List IV) : Srt (ltO o) (treeO o l) := foldO_srt o l [] List.Pairwise.nil
theorem take_snoc {I : Type} {l : List I} {i : Nat} (h : i < l.length) : l.take (i + 1) = l.take i ++ [l[i]] := List.take_succ_eq_append_getElem h
def OwnL {I : Type} (L : Lay I) (s : SlT) (xs : List I) : Prop := s.2.1 = xs.length ∧ s.2.1 ≤ s.2.2 ∧ (xs = [] ∨ s.1.isSome = true)
theorem OwnL.rdr {I : Type} {L : Lay I} {s : SlT} {xs : List I} (h : OwnL L s xs) : Rdr (SlC s L.sz (L.flat xs)) s L xs := Rdr.sl h.1 h.2.1 h.2.2
theorem sl_nil {h h0 : H} {G0 : PA → Prop} {l : List Ck} {I : Type} (L : Lay I) (S : St h0 G0 l h) : St h0 G0 (SlC (none, 0, 0) L.sz (L.flat ([] : List I)) :: l) h :=
  S.turn (l := []) (l' := [_]) fun F hF => star_one (c := SlC (none, 0, 0) L.sz (L.flat ([] : List I))) ⟨Sl.nil _ _, fun x => ⟨fun hx => (hF x hx).elim, fun hx => hx.elim⟩⟩
end
end Go.Proofs.Ytpbmahnieepmiaa
