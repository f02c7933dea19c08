/-
  Pieces that lie beside what is changed: facts of a start that stay. Conditions: none.
-/
import Derived.Test.YtegnpimlfphncaaNd
set_option linter.unusedVariables false
set_option linter.unusedSimpArgs false
set_option linter.unusedSectionVars false
set_option maxRecDepth 100000
namespace Go.Proofs.Ytegnpimlfphncaa
open Go
def Bes (c : Ck) (h : H) (G : PA → Prop) : Prop := ∃ F, c.p h F ∧ dj F G
section
variable {P : Program} {Q : Ex → List AV → H → Prop} {h h0 : H} {G0 : PA → Prop} {l : List Ck}
theorem Bes.step {c : Ck} (d : Bes c h0 G0) (s : St h0 G0 l h) {G : PA → Prop} (hG : ∀ x, G x → G0 x ∨ h0.size ≤ x.1) : Bes c h G := by
  obtain ⟨F, hF, hd⟩ := d
  exact ⟨F, c.out hF s.fr hd, fun x hx hx' => (hG x hx').elim (hd x hx) (fun hs => Nat.not_le_of_lt (c.lt hF x hx) hs)⟩
theorem Bes.now {c : Ck} (d : Bes c h0 G0) (s : St h0 G0 l h) : Bes c h G0 := d.step s fun _ hx => .inl hx
theorem Bes.all {c : Ck} (d : Bes c h0 G0) (s : St h0 G0 l h) : Bes c h (fun x => G0 x ∨ h0.size ≤ x.1) := d.step s fun _ hx => hx
theorem Bes.sub {c : Ck} {G G' : PA → Prop} (d : Bes c h G) (hs : ∀ x, G' x → G x) : Bes c h G' := by
  obtain ⟨F, hF, hd⟩ := d
  exact ⟨F, hF, hd.sub (fun _ hx => hx) hs⟩
def RdC (a : PA) (v : Value) : Ck where
  p h F := Go.Proofs.Ytegnpimlfphncaa.rd h a = some v ∧ ∀ x, F x ↔ x = a
  out := fun ⟨o, e⟩ f hd => ⟨by rw [f.rd a (rd_lt o) (hd a ((e a).2 rfl))]; exact o, e⟩
  lt := fun ⟨o, e⟩ x hx => by obtain rfl := (e x).1 hx; exact rd_lt o
theorem Bes.rd {a : PA} {v : Value} {G : PA → Prop} (d : Bes (RdC a v) h G) : Go.Proofs.Ytegnpimlfphncaa.rd h a = some v := by obtain ⟨F, ⟨o, _⟩, _⟩ := d; exact o
theorem Bes.mk {a : PA} {v : Value} {G : PA → Prop} (hr : Go.Proofs.Ytegnpimlfphncaa.rd h a = some v) (hn : ¬ G a) : Bes (RdC a v) h G := ⟨fun x => x = a, ⟨hr, fun _ => Iff.rfl⟩, fun x hx hG => by subst hx; exact hn hG⟩
theorem st_callF (s : St h0 G0 l h) (qs : List Kq) {cs r m : List Ck} [Pks qs l cs r m] {f : FuncId} {args : List AV} {tup : Bool} {ss : List Sh} {k : SV ss → M} {R : SV ss → List Ck → Prop}
    (hc : ∀ G, Star cs h G → (∀ x, G x → G0 x ∨ h0.size ≤ x.1) → HT P f args tup ss h fun x h' => ∃ post, R x post ∧ St h G post h')
    (hw : ∀ x post h', R x post → St h0 G0 (post ++ r) h' → wp P (k x) Q h') : wp P (.call f args tup ss k) Q h := by
  have s' := s.perm (Pks.perm qs (m := m))
  have hf := s'.get
  obtain ⟨G1, hG1, hb⟩ := hf
  obtain ⟨⟨G, h1, h2⟩, h3⟩ := s'
  obtain ⟨A, B, a1, a2, a3, a4⟩ := h1.split
  refine HC.mono (hc A a1 fun x hx => h2 x ((a4 x).2 (.inl hx))) fun v h' ⟨x, e, post, hR, hS⟩ => ⟨x, e, ?_⟩
  refine hw x post h' hR ?_
  obtain ⟨⟨C, c1, c2⟩, c3⟩ := hS
  have hB := a2.lt
  refine ⟨⟨un C B, c1.append (a2.out c3 a3.symm) (fun x hC hx => (c2 x hC).elim (fun hA => a3 x hA hx) (fun hs => Nat.not_le_of_lt (hB x hx) hs)), fun x hx => ?_⟩,
    h3.then c3 fun x hx hA => (h2 x ((a4 x).2 (.inl hA))).elim id (fun hs => absurd hx (Nat.not_lt_of_le hs))⟩
  rcases hx with hC | hB'
  · rcases c2 x hC with hA | hs
    · exact h2 x ((a4 x).2 (.inl hA))
    · exact .inr (Nat.le_trans h3.size hs)
  · exact h2 x ((a4 x).2 (.inr hB'))
theorem star_mem : ∀ {r : List Ck} {B : PA → Prop}, Star r h B → ∀ c ∈ r, ∃ F, c.p h F ∧ ∀ x, F x → B x
  | [], _, _, c, hc => by simp at hc
  | d :: r, B, ⟨F1, F2, h1, h2, _, h4⟩, c, hc => by
    rcases List.mem_cons.1 hc with rfl | hc
    · exact ⟨F1, h1, fun x hx => (h4 x).2 (.inl hx)⟩
    · obtain ⟨F, g1, g2⟩ := star_mem h2 c hc
      exact ⟨F, g1, fun x hx => (h4 x).2 (.inr (g2 x hx))⟩
theorem st_callB (s : St h0 G0 l h) (qs : List Kq) {cs r m : List Ck} [Pks qs l cs r m] {f : FuncId} {args : List AV} {tup : Bool} {ss : List Sh} {k : SV ss → M} {R : SV ss → List Ck → Prop}
    (hc : ∀ G, Star cs h G → (∀ c ∈ r, Bes c h G) → HT P f args tup ss h fun x h' => ∃ post, R x post ∧ St h G post h')
    (hw : ∀ x post h', R x post → St h0 G0 (post ++ r) h' → wp P (k x) Q h') : wp P (.call f args tup ss k) Q h := by
  have s' := s.perm (Pks.perm qs (m := m))
  obtain ⟨⟨G, h1, h2⟩, h3⟩ := s'
  obtain ⟨A, B, a1, a2, a3, a4⟩ := h1.split
  refine HC.mono (hc A a1 fun c hc => ?_) fun v h' ⟨x, e, post, hR, hS⟩ => ⟨x, e, ?_⟩
  · obtain ⟨F, g1, g2⟩ := star_mem a2 c hc
    exact ⟨F, g1, a3.symm.sub g2 fun _ hx => hx⟩
  refine hw x post h' hR ?_
  obtain ⟨⟨C, c1, c2⟩, c3⟩ := hS
  have hB := a2.lt
  refine ⟨⟨un C B, c1.append (a2.out c3 a3.symm) (fun x hC hx => (c2 x hC).elim (fun hA => a3 x hA hx) (fun hs => Nat.not_le_of_lt (hB x hx) hs)), fun x hx => ?_⟩,
    h3.then c3 fun x hx hA => (h2 x ((a4 x).2 (.inl hA))).elim id (fun hs => absurd hx (Nat.not_lt_of_le hs))⟩
  rcases hx with hC | hB'
  · rcases c2 x hC with hA | hs
    · exact h2 x ((a4 x).2 (.inl hA))
    · exact .inr (Nat.le_trans h3.size hs)
  · exact h2 x ((a4 x).2 (.inr hB'))
theorem Bes.cell {a : PA} {vs : List Value} {k j : Nat} {v : Value} {G : PA → Prop} (d : Bes (Ow a vs k) h G) (hv : vs[j]? = some v) : Bes (RdC (a.1, a.2 + j) v) h G := by
  obtain ⟨F, ⟨o, e⟩, hd⟩ := d
  have hj : j < vs.length := (List.getElem?_eq_some_iff.1 hv).1
  exact .mk (o.rd j v hv) fun hG => hd (a.1, a.2 + j) ((e (a.1, a.2 + j)).2 ⟨rfl, Nat.le_add_right _ _, Nat.add_lt_add_left (by omega) _⟩) hG
def Me (l : Option Nat) (ss : List Sh) (R : SV ss → H → Prop) (Q : Ex → List AV → H → Prop) : Ex → List AV → H → Prop := fun e vs h' => match e, l with
  | .normal, _ => ∃ x : SV ss, (SV.list ss x).map AV.val = vs.map AV.val ∧ R x h'
  | .exit i, some j => if i = j then ∃ x : SV ss, (SV.list ss x).map AV.val = vs.map AV.val ∧ R x h' else Q e vs h'
  | _, _ => Q e vs h'
theorem w_mid' (l : Option Nat) {m : M} {ss : List Sh} {k : SV ss → M} (R : SV ss → H → Prop) (hm : wp P m (Me l ss R Q) h) (hk : ∀ x h', R x h' → wp P (k x) Q h') : wp P (.bind l m ss k) Q h := by
  refine w_bnd (wp_mono hm fun e vs h' hh => ?_)
  cases e with
  | normal => exact Exists.elim hh fun x hx => ⟨x, hx.1, hk x h' hx.2⟩
  | exit i =>
    cases l with
    | none => exact hh
    | some j =>
      simp only [Me, Bd] at hh ⊢
      split
      · rename_i e; rw [if_pos e] at hh
        exact Exists.elim hh fun x hx => ⟨x, hx.1, hk x h' hx.2⟩
      · rename_i e; rw [if_neg e] at hh; exact hh
  | goto i => cases l <;> exact hh
  | ret => cases l <;> exact hh
theorem md_n {l : Option Nat} {ss : List Sh} {R : SV ss → H → Prop} {vs : List AV} {x : SV ss} (hx : avsTo ss vs = some x) (hR : R x h) : wp P (.done .normal vs) (Me l ss R Q) h := ⟨x, avsTo_val hx, hR⟩
theorem md_e {j : Nat} {ss : List Sh} {R : SV ss → H → Prop} {vs : List AV} {x : SV ss} (hx : avsTo ss vs = some x) (hR : R x h) : wp P (.done (.exit j) vs) (Me (some j) ss R Q) h := by
  show if j = j then _ else _
  rw [if_pos rfl]; exact ⟨x, avsTo_val hx, hR⟩
end
section
variable {I : Type} {L : Lay I} {iso : Int} {h : H} {G : PA → Prop}
theorem Bes.leaf {b : Nat} {xs : BT I 0} (d : Bes (TrC L iso 0 b xs) h G) : Go.Proofs.Ytegnpimlfphncaa.rd h (b, 0) = some (.int .u64 iso) ∧ ∃ p c, Go.Proofs.Ytegnpimlfphncaa.rd h (b, 2) = some (.slice (some (PA.val p)) (itemsB 0 xs).length c) ∧ Go.Proofs.Ytegnpimlfphncaa.rd h (b, 3) = some (.pointer none) ∧ rds h p (L.flat (itemsB 0 xs)) := by
  obtain ⟨F, hF, _⟩ := d
  exact ⟨tr_iso hF, tr_leaf L iso hF⟩
theorem Bes.node {n b : Nat} {t : BT I (n + 1)} (d : Bes (TrC L iso (n + 1) b t) h G) : Go.Proofs.Ytegnpimlfphncaa.rd h (b, 0) = some (.int .u64 iso) ∧ ∃ p c q d hb ks, Go.Proofs.Ytegnpimlfphncaa.rd h (b, 2) = some (.slice (some (PA.val p)) t.1.length c) ∧ Go.Proofs.Ytegnpimlfphncaa.rd h (b, 3) = some (.pointer (some (PA.val (hb, 0)))) ∧ rds h p (L.flat t.1) ∧
    Go.Proofs.Ytegnpimlfphncaa.rd h (hb, 0) = some (.slice (some (PA.val q)) ks d) ∧ ks = t.2.length ∧
    ∀ (i : Nat) (u : BT I n), t.2[i]? = some u → ∃ k, Go.Proofs.Ytegnpimlfphncaa.rd h (q.1, q.2 + i) = some (kptr k) ∧ Bes (TrC L iso n k u) h G := by
  obtain ⟨F, tr, hd⟩ := d
  refine ⟨tr_iso tr, ?_⟩
  obtain ⟨s, c, hb, ks, FK, h1, h2, h3, h4, h5, h6, h7, h8, h9⟩ := tr
  obtain ⟨p, m, c1⟩ := s
  obtain ⟨p, rfl⟩ := Option.isSome_iff_exists.1 h2
  obtain ⟨q, m2, d⟩ := c
  obtain ⟨q, rfl⟩ := Option.isSome_iff_exists.1 h6
  dsimp only at h4; subst h4
  have hm2 : m2 = ks.length := by have := h7.1; rw [List.length_map, Nat.mul_one] at this; exact this.symm
  subst hm2
  have hq : rds h q (ks.map kptr) := by
    rcases h7.2.2 with ⟨hn, _⟩ | ⟨x, hx, ho⟩
    · cases hn
    · obtain rfl := Option.some.inj hx
      exact ho.rd
  refine ⟨p, c1, q, d, hb, ks.length, h1.rd 2 _ rfl, h1.rd 3 _ rfl, ?_, h5.rd 0 _ rfl, h8.len, fun i u hu => ?_⟩
  · rcases h3.2.2 with ⟨hn, _⟩ | ⟨x, hx, ho⟩
    · cases hn
    · obtain rfl := Option.some.inj hx
      exact ho.rd
  · obtain ⟨k, FL, FI, FR, g1, g2, g3, g4, g5, g6⟩ := Forest.at h8 hu
    refine ⟨k, hq i _ (by rw [List.getElem?_map, g1]; rfl), FI, g3, hd.sub (fun x hx => h9.mem (A := FK) (by simp) x ((g6 x).2 (.inr (.inl hx)))) fun _ hx => hx⟩
def ahead {n : Nat} (xs : List I) (ts : List (BT I n)) (i : Nat) : List I := pre ((ts.take i).map (flatB n)) (xs.take i)
theorem ah_pre : ∀ (A : List (List I)) (C : List I) (m : List I) (x : I), A.length = C.length → pre (A ++ [m]) (C ++ [x]) = pre A C ++ (m ++ [x])
  | [], [], m, x, _ => by simp [pre]
  | a :: A, c :: C, m, x, h => by
    have ih := ah_pre A C m x (by simpa using h)
    simp only [List.cons_append, pre, ih, List.append_assoc]
  | [], _ :: _, _, _, h => by simp at h
  | _ :: _, [], _, _, h => by simp at h
theorem ah_zero {n : Nat} (xs : List I) (ts : List (BT I n)) : ahead xs ts 0 = [] := by simp [ahead, pre]
theorem ah_succ {n : Nat} {xs : List I} {ts : List (BT I n)} {i : Nat} {x : I} {u : BT I n} (hl : ts.length = xs.length + 1) (hx : xs[i]? = some x) (hu : ts[i]? = some u) : ahead xs ts (i + 1) = ahead xs ts i ++ (flatB n u ++ [x]) := by
  obtain ⟨h1, h2⟩ := List.getElem?_eq_some_iff.1 hx
  obtain ⟨h3, h4⟩ := List.getElem?_eq_some_iff.1 hu
  unfold ahead
  rw [List.take_succ_eq_append_getElem h1, List.take_succ_eq_append_getElem h3, h2, h4, List.map_append]
  exact ah_pre _ _ _ _ (by simp; omega)
theorem ah_last {n : Nat} {xs : List I} {ts : List (BT I n)} {u : BT I n} (hl : ts.length = xs.length + 1) (hu : ts[xs.length]? = some u) : flatB (n + 1) ((xs, ts) : BT I (n + 1)) = ahead xs ts xs.length ++ flatB n u := by
  show weave xs (ts.map (flatB n)) = _
  rw [weave_at (Nat.le_refl _) (m := flatB n u) (by rw [List.getElem?_map, hu]; rfl), List.drop_length, List.drop_eq_nil_of_le (by simp; omega)]
  simp only [post, List.append_nil, ahead, List.map_take]
theorem ah_len {n : Nat} {xs : List I} {ts : List (BT I n)} {i : Nat} {u : BT I n} (hl : ts.length = xs.length + 1) (hu : ts[i]? = some u) : (ahead xs ts i).length + (flatB n u).length + (xs.length - i) ≤ (flatB (n + 1) ((xs, ts) : BT I (n + 1))).length := by
  obtain ⟨h3, h4⟩ := List.getElem?_eq_some_iff.1 hu
  show _ ≤ (weave xs (ts.map (flatB n))).length
  rw [weave_at (i := i) (by omega) (m := flatB n u) (by rw [List.getElem?_map, hu]; rfl)]
  have hp : ∀ (D : List I) (B : List (List I)), B.length = D.length → D.length ≤ (post D B).length := by
    intro D
    induction D with
    | nil => intro B _; simp
    | cons d D ih =>
      intro B hB
      cases B with
      | nil => simp at hB
      | cons e B =>
        have := ih B (by simpa using hB)
        simp [post]; omega
  have := hp (xs.drop i) ((ts.map (flatB n)).drop (i + 1)) (by simp; omega)
  simp only [List.length_append, ahead, List.map_take, List.length_drop] at this ⊢
  omega
end
end Go.Proofs.Ytegnpimlfphncaa
