/-
  Lists that are read and made by the reference and the thin package: items with their keys first, numbers. Conditions: none.
-/
import Derived.Test.YtegnpimlfphncaaNd
set_option linter.unusedVariables false
set_option linter.unusedSimpArgs false
set_option linter.unusedSectionVars false
set_option maxRecDepth 100000
namespace Go.Proofs.Ytegnpimlfphncaa
open Go
abbrev IV := Int × Int
def LT : Lay IV where
  sz := 2
  cells x := [.int .i64 x.1, .int .i64 x.2]
  len _ := rfl
  one _ _ hv := by simp at hv; rcases hv with rfl | rfl <;> rfl
  pos := by decide
def LN : Lay Int where
  sz := 1
  cells x := [.int .i64 x]
  len _ := rfl
  one _ _ hv := by simp at hv; subst hv; rfl
  pos := by decide
@[reducible] def fT (x : Option IV) : SV1 [.int .i64, .int .i64, .bool] := ((x.getD (0, 0)).1, (x.getD (0, 0)).2, x.isSome, ())
def Rdr {I : Type} (c : Ck) (s : SlT) (L : Lay I) (xs : List I) : Prop :=
  s.2.1 = xs.length ∧ s.2.1 ≤ s.2.2 ∧ (xs = [] ∨ ∃ p, s.1 = some p ∧ ∀ h F, c.p h F → rds h p (L.flat xs))
theorem Rdr.nil {I : Type} {c : Ck} {L : Lay I} : Rdr c (none, 0, 0) L [] := ⟨rfl, Nat.le_refl _, .inl rfl⟩
theorem Rdr.rsl {I : Type} {c : Ck} {s : SlT} {L : Lay I} {xs : List I} (r : Rdr c s L xs) {h : H} {F : PA → Prop} (hc : c.p h F) : RSl h s L.sz (L.flat xs) := by
  obtain ⟨h1, h2, h3⟩ := r
  refine ⟨by rw [L.flat_length, h1], ?_⟩
  rcases h3 with rfl | ⟨p, hp, hr⟩
  · exact .inl rfl
  · exact .inr ⟨p, hp, hr h F hc⟩
theorem Rdr.ptr {I : Type} {c : Ck} {s : SlT} {L : Lay I} {xs : List I} (r : Rdr c s L xs) (hx : 0 < xs.length) : ∃ p, s.1 = some p ∧ ∀ h F, c.p h F → rds h p (L.flat xs) := by
  rcases r.2.2 with rfl | h
  · simp at hx
  · exact h
theorem Rdr.sl {I : Type} {s : SlT} {L : Lay I} {xs : List I} (h1 : s.2.1 = xs.length) (h2 : s.2.1 ≤ s.2.2) (h3 : xs = [] ∨ s.1.isSome = true) : Rdr (SlC s L.sz (L.flat xs)) s L xs := by
  refine ⟨h1, h2, ?_⟩
  rcases h3 with h3 | h3
  · exact .inl h3
  · obtain ⟨p, hp⟩ := Option.isSome_iff_exists.1 h3
    refine .inr ⟨p, hp, fun h F hc => ?_⟩
    obtain ⟨_, _, hn | ⟨q, hq, ho⟩⟩ := hc.1
    · rw [hp] at hn; cases hn.1
    · rw [hp] at hq; obtain rfl := Option.some.inj hq
      exact ho.rd
theorem Rdr.ow {I : Type} {L : Lay I} {xs : List I} {p : PA} {n k : Nat} (h : n = xs.length) : Rdr (Ow p (L.flat xs) k) (some p, n, n) L xs :=
  ⟨h, Nat.le_refl _, .inr ⟨p, rfl, fun _ _ hc => hc.1.rd⟩⟩
theorem Rdr.st {I : Type} {l : List Ck} {c : Ck} {s : SlT} {L : Lay I} {xs : List I} {i : Nat} (hi : l[i]? = some c) (r : Rdr c s L xs) : Rdr (StC l) s L xs := by
  refine ⟨r.1, r.2.1, r.2.2.imp id fun ⟨p, hp, hr⟩ => ⟨p, hp, fun h F hc => ?_⟩⟩
  have hc : Star l h F := hc
  have hp2 := hc.perm (perm_pull i l)
  unfold pull at hp2
  rw [hi] at hp2
  obtain ⟨F1, F2, h1, _⟩ := hp2
  exact hr h F1 h1
theorem rds_part {I : Type} {h : H} {p : PA} {L : Lay I} {xs : List I} (hr : rds h p (L.flat xs)) (b k c c' : Nat) (hb : b + k ≤ xs.length) (hc : xs.length ≤ c) : RSl h (slBase (some p) c b L.sz, k, c') L.sz (L.flat ((xs.drop b).take k)) := by
  refine ⟨by rw [L.flat_length, List.length_take, List.length_drop, Nat.min_eq_left (by omega)], ?_⟩
  by_cases hk : k = 0
  · left; subst hk; rfl
  · right
    refine ⟨_, slBase_in (by omega), fun i v hi => ?_⟩
    rw [← L.flat_take, ← L.flat_drop, List.getElem?_take] at hi
    split at hi
    · rw [List.getElem?_drop] at hi
      have := hr _ v hi
      simpa [Nat.add_assoc] using this
    · cases hi
def BaC (hI : H) : Ck where
  p h F := (∀ x, F x ↔ x.1 < hI.size) ∧ hI.size ≤ h.size ∧ ∀ b, b < hI.size → h[b]? = hI[b]?
  out := fun ⟨h1, h2, h3⟩ f d => ⟨h1, Nat.le_trans h2 f.size, fun b hb => (f.blk b (Nat.lt_of_lt_of_le hb h2) (fun o hg => d (b, o) ((h1 (b, o)).2 hb) hg)).trans (h3 b hb)⟩
  lt := fun ⟨h1, h2, _⟩ x hx => Nat.lt_of_lt_of_le ((h1 x).1 hx) h2
theorem BaC.rd {hI h : H} {F : PA → Prop} (hc : (BaC hI).p h F) (x : PA) (hx : x.1 < hI.size) : Go.Proofs.Ytegnpimlfphncaa.rd h x = Go.Proofs.Ytegnpimlfphncaa.rd hI x := by
  unfold Go.Proofs.Ytegnpimlfphncaa.rd; rw [hc.2.2 x.1 hx]
theorem BaC.start (hI : H) : Star [BaC hI] hI (fun x => x.1 < hI.size) :=
  ⟨_, none', ⟨fun _ => Iff.rfl, Nat.le_refl _, fun _ _ => rfl⟩, fun _ h => h, fun _ _ h => h, fun _ => ⟨.inl, fun h => h.elim id (fun h => h.elim)⟩⟩
theorem BaC.rdr {I : Type} {hI : H} {s : SlT} {L : Lay I} {xs : List I} (h1 : s.2.1 = xs.length) (h2 : s.2.1 ≤ s.2.2) (h3 : xs = [] ∨ ∃ p, s.1 = some p ∧ rds hI p (L.flat xs)) : Rdr (BaC hI) s L xs := by
  refine ⟨h1, h2, h3.imp id fun ⟨p, hp, hr⟩ => ⟨p, hp, fun h F hc i v hi => ?_⟩⟩
  have := hr i v hi
  rw [BaC.rd hc _ (rd_lt this)]; exact this
section
variable {P : Program} {h h0 : H} {G0 : PA → Prop} {l : List Ck} {Q : Ex → List AV → H → Prop}
theorem it_k {p : PA} {xs : List IV} (hx : rds h p (LT.flat xs)) {i : Nat} {a : IV} (ha : xs[i]? = some a) : rd h (p.1, p.2 + mulN i 2) = some (.int .i64 a.1) := by
  have := hx (i * 2 + 0) _ (LT.flat_get (j := 0) ha rfl)
  rw [mulN_eq]; simpa [Nat.add_assoc] using this
theorem it_v {p : PA} {xs : List IV} (hx : rds h p (LT.flat xs)) {i : Nat} {a : IV} (ha : xs[i]? = some a) : rd h (p.1, p.2 + mulN i 2 + 1) = some (.int .i64 a.2) := by
  have := hx (i * 2 + 1) _ (LT.flat_get (j := 1) ha rfl)
  rw [mulN_eq]; simpa [Nat.add_assoc] using this
theorem w_item {p : PA} {xs : List IV} (hr : rds h p (LT.flat xs)) {i : Nat} {x : IV} (hx : xs[i]? = some x) {m : Int → Int → M}
    (hw : wp P (m x.1 x.2) Q h) : wp P (.load (p.1, p.2 + mulN i 2) (.int .i64) fun k => .load (p.1, p.2 + mulN i 2 + 1) (.int .i64) fun v => m k v) Q h :=
  w_int x.1 (it_k hr hx) (w_int x.2 (it_v hr hx) hw)
theorem w_num {p : PA} {xs : List Int} (hr : rds h p (LN.flat xs)) {i : Nat} {x : Int} (hx : xs[i]? = some x) {m : Int → M} (hw : wp P (m x) Q h) : wp P (.load (p.1, p.2 + i) (.int .i64) m) Q h := by
  refine w_int x ?_ hw
  have := hr (i * 1 + 0) _ (LN.flat_get (j := 0) hx rfl)
  simpa using this
theorem St.rdr {I : Type} {c : Ck} {p : PA} {L : Lay I} {xs : List I} (s : St h0 G0 l h) {r : List Ck} [Pk (.ck c) l c r] (hr : ∀ h F, c.p h F → Go.Proofs.Ytegnpimlfphncaa.rds h p (L.flat xs)) : Go.Proofs.Ytegnpimlfphncaa.rds h p (L.flat xs) := by
  obtain ⟨F, hF⟩ := s.fct (.ck c)
  exact hr h F hF
theorem st_new {I : Type} {L : Lay I} (s : St h0 G0 l h) {n : Nat} {ys : List I} {k : Nat} {r : List Ck} [Pk (.ow (n, 0)) l (Ow (n, 0) [] 0) r] {e : TypeId} {byt sz : Nat} {z : List Cell} {sp : Option PA} {sc : Nat} {m : SlT → M}
    (hsz : sz = L.sz) (hz : z.length = L.sz) (hy : k = ys.length) (hs : RSl h (sp, k, sc) L.sz (L.flat ys)) (hg : growOk (0 + k) byt)
    (hw : ∀ p' c' h', k ≤ c' → St h0 G0 (Ow p' (L.flat ys) ((c' - k) * L.sz) :: r) h' → wp P (m (some p', k, c')) Q h') : wp P (.append e sz byt z (some (n, 0), 0, 0) (sp, k, sc) m) Q h := by
  subst hsz
  have S := (s.at (.ow (n, 0))).re (n, 0) (L.flat []) ((0 - 0) * L.sz) rfl rfl (by simp)
  refine st_app (L := L) (n := 0) (c := 0) (k := k) (xs := []) (ys := ys) S rfl rfl rfl (Nat.le_refl _) hz hy hs hg fun p' c' h' hc S => ?_
  have S := S.re p' (L.flat ys) ((c' - k) * L.sz) rfl rfl (by rw [Nat.zero_add])
  have := hw p' c' h' (by omega) S
  rw [Nat.zero_add]; exact this
end
def rk : List Int → Int → Int
  | [], k => k
  | a :: o, k => ((a :: o)[((k.tmod (a :: o).length + (a :: o).length).tmod (a :: o).length).toNat]?).getD 0
def ltO (o : List Int) (a b : IV) : Bool := decide (rk o a.1 < rk o b.1)
theorem ordO (o : List Int) : Ord (ltO o) := ⟨fun a => by simp [ltO], fun a b c => by simp only [ltO, decide_eq_true_eq]; omega, fun a b c => by simp only [ltO, decide_eq_false_iff_not]; omega⟩
end Go.Proofs.Ytegnpimlfphncaa
