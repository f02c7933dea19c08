/-
  Truth values in cells; items cut out of a list by the reference, at any place. Conditions: none.
-/
import Derived.Test.YtebiihomlhljkaaYpd
import Derived.Test.YtebiihomlhljkaaYsq
set_option linter.unusedVariables false
set_option linter.unusedSimpArgs false
set_option linter.unusedSectionVars false
set_option maxRecDepth 100000
namespace Go.Proofs.Ytebiihomlhljkaa
open Go
def LB : Lay Bool where
  sz := 1
  cells b := [.bool b]
  len _ := rfl
  one _ _ hv := by simp at hv; subst hv; rfl
  pos := by decide
section
variable {P : Program} {Q : Ex → List AV → H → Prop} {h : H}
theorem w_bl {p : PA} {xs : List Bool} (hr : rds h p (LB.flat xs)) {i : Nat} {x : Bool} (hx : xs[i]? = some x) {m : Bool → M} (hw : wp P (m x) Q h) : wp P (.load (p.1, p.2 + i) .bool m) Q h := by
  refine w_bool x ?_ hw
  have := hr (i * 1 + 0) _ (LB.flat_get (j := 0) hx rfl)
  simpa using this
theorem atK_out {l : List IV} {i : Int} (h : i < 0 ∨ (l.length : Int) ≤ i) : TG.atK l i = none ∧ TG.cutK l i = l := by
  unfold TG.atK TG.cutK
  by_cases hi : i < 0
  · rw [if_pos hi, if_pos hi]; exact ⟨rfl, rfl⟩
  · rw [if_neg hi, if_neg hi]
    have : l.length ≤ i.toNat := by omega
    exact ⟨List.getElem?_eq_none this, List.eraseIdx_of_length_le this⟩
theorem cutK_len (l : List IV) (i : Int) : (TG.cutK l i).length ≤ l.length := by
  unfold TG.cutK
  split
  · exact Nat.le_refl _
  · exact List.length_eraseIdx_le l _
theorem c_CutAny {xs : List IV} {t : SlT} (ht : OwnL LT t xs) (hxl : xs.length ≤ 4294967296) {i : Int} {G : PA → Prop} (hG : Star [SlC t LT.sz (LT.flat xs)] h G) :
    HT Try.prog fn_spec_Cut [.c (.sl t.1 t.2.1 t.2.2), .c (.int .i64 i)] true [.c .sl, .agg [.int .i64, .int .i64, .bool]] h fun r h' => ∃ post, (∃ t' : SlT, r = (t', fT (TG.atK xs i), ()) ∧ OwnL LT t' (TG.cutK xs i) ∧ post = [SlC t' LT.sz (LT.flat (TG.cutK xs i))]) ∧ St h G post h' := by
  have hn : t.2.1 = xs.length := ht.1
  by_cases ho : i < 0 ∨ (xs.length : Int) ≤ i
  · obtain ⟨e1, e2⟩ := atK_out ho
    rw [e1, e2]
    refine (c_CutOut ht.rdr (by rcases ho with h | h; exact .inl h; exact .inr (by show ((t.2.1 : Nat) : Int) ≤ i; omega)) hG).mono ?_
    rintro _ _ ⟨_, ⟨rfl, rfl⟩, S⟩
    exact ⟨_, ⟨t, rfl, ht, rfl⟩, S⟩
  · obtain ⟨j, rfl⟩ : ∃ j : Nat, i = j := ⟨i.toNat, by omega⟩
    have hjx := List.getElem?_eq_getElem (show j < xs.length by omega)
    have e1 : TG.atK xs (j : Int) = some xs[j] := by unfold TG.atK; rw [if_neg (by omega), Int.toNat_natCast, hjx]
    have e2 : TG.cutK xs (j : Int) = xs.eraseIdx j := by unfold TG.cutK; rw [if_neg (by omega), Int.toNat_natCast]
    rw [e1, e2]
    refine (c_CutIn ht.rdr hxl hjx hG).mono ?_
    rintro _ _ ⟨_, ⟨t', rfl, ht', rfl⟩, S⟩
    exact ⟨_, ⟨t', rfl, ht', rfl⟩, S.drop⟩
end
end Go.Proofs.Ytebiihomlhljkaa
