/-
  What a piece lacks to be another one; trees with counts that are one too low along a way down. Conditions: none.
-/
import Derived.Test.YtpbmahnieepmiaaBe
set_option linter.unusedVariables false
set_option linter.unusedSimpArgs false
set_option linter.unusedSectionVars false
set_option maxRecDepth 100000
namespace Go.Proofs.Ytpbmahnieepmiaa
open Go
def WdC {α : Type} (A B : α → Ck) : Ck where
  p h F := (∀ x, F x → x.1 < h.size) ∧ ∀ a h' G FA, Fr G h h' → dj F G → (A a).p h' FA → dj F FA → ∃ F', (B a).p h' F' ∧ ∀ x, F' x → F x ∨ FA x
  out := fun ⟨hl, hw⟩ f hd => ⟨fun x hx => Nat.lt_of_lt_of_le (hl x hx) f.size, fun a h'' G' FA f' hd' hA hdA =>
    hw a h'' (un _ G') FA ((f.mono fun _ _ hx => .inl hx).trans (f'.mono fun _ _ hx => .inr hx)) (fun x hx hu => hu.elim (hd x hx) (hd' x hx)) hA hdA⟩
  lt := fun ⟨hl, _⟩ => hl
section
variable {h h0 : H} {G0 : PA → Prop} {l : List Ck} {α : Type}
theorem st_sub {A B : List Ck} (s : St h0 G0 (A ++ l) h) (hc : ∀ F, Star A h F → ∃ F', Star B h F' ∧ ∀ x, F' x → F x) : St h0 G0 (B ++ l) h :=
  s.then fun G hG => by
    obtain ⟨F', h1, h2⟩ := hc G hG
    exact ⟨⟨F', h1, fun x hx => .inl (h2 x hx)⟩, Fr.refl _ _⟩
theorem of_st {B : Ck} {F : PA → Prop} (s : St h F [B] h) : ∃ F', B.p h F' ∧ ∀ x, F' x → F x := by
  obtain ⟨⟨G, ⟨F1, F2, h1, h2, h3, h4⟩, h5⟩, _⟩ := s
  refine ⟨F1, h1, fun x hx => (h5 x ((h4 x).2 (.inl hx))).elim id fun hs => absurd (B.lt h1 x hx) (Nat.not_lt_of_le hs)⟩
theorem wd_use {A B : α → Ck} (a : α) (s : St h0 G0 (WdC A B :: A a :: l) h) : St h0 G0 (B a :: l) h := by
  refine st_sub (A := [WdC A B, A a]) (B := [B a]) s fun F hF => ?_
  obtain ⟨F1, F2, ⟨_, hw⟩, ⟨F3, F4, hA, e4, _, u34⟩, d12, u12⟩ := hF
  obtain ⟨F', g1, g2⟩ := hw a h none' F3 (Fr.refl _ _) (fun _ _ hn => hn) hA (d12.sub (fun _ hx => hx) fun x hx => (u34 x).2 (.inl hx))
  exact ⟨F', star_one g1, fun x hx => (u12 x).2 ((g2 x hx).imp id fun hx => (u34 x).2 (.inl hx))⟩
theorem wd_id (A : α → Ck) (s : St h0 G0 l h) : St h0 G0 (WdC A A :: l) h :=
  s.turn (l := []) (l' := [_]) fun F hF => star_one (c := WdC A A) ⟨fun x hx => (hF x hx).elim, fun a h' G FA f hd hA hdA => ⟨FA, hA, fun _ hx => .inr hx⟩⟩
theorem wd_in {β : Type} {A : β → Ck} {B C : α → Ck} {D : β → Ck} {ps : List Ck} (s : St h0 G0 (WdC B C :: (ps ++ l)) h)
    (hc : ∀ a h F, Star (A a :: ps) h F → ∃ b, C b = D a ∧ St h F [B b] h) : St h0 G0 (WdC A D :: l) h := by
  refine s.turn (l := WdC B C :: ps) (l' := [_]) fun F hF => star_one (c := WdC A D) ?_
  obtain ⟨F1, F2, ⟨hl, hw⟩, hps, d12, u12⟩ := hF
  refine ⟨fun x hx => ((u12 x).1 hx).elim (hl x) (hps.lt x), fun a h' G FA f hd hA hdA => ?_⟩
  have hps' := hps.out f (hd.sub (fun x hx => (u12 x).2 (.inr hx)) fun _ hx => hx)
  have d2A : dj F2 FA := hdA.sub (fun x hx => (u12 x).2 (.inr hx)) fun _ hx => hx
  obtain ⟨b, e, S⟩ := hc a h' (un FA F2) ⟨FA, F2, hA, hps', d2A.symm, fun _ => Iff.rfl⟩
  obtain ⟨FB, hB, hs⟩ := of_st S
  obtain ⟨F', g1, g2⟩ := hw b h' G FB f (hd.sub (fun x hx => (u12 x).2 (.inl hx)) fun _ hx => hx) hB (fun x h1 hB => (hs x hB).elim (hdA x ((u12 x).2 (.inl h1))) (d12 x h1))
  refine ⟨F', e ▸ g1, fun x hx => (g2 x hx).elim (fun h1 => .inl ((u12 x).2 (.inl h1))) fun hB => (hs x hB).elim .inr fun h2 => .inl ((u12 x).2 (.inr h2))⟩
end
theorem nodeC_cnt {iso : Int} {cnt m : Nat} {s : SlT} {kp : Option PA} {n : Int} (h : n = m) : (nodeC iso cnt s kp).set 1 (Cell.int .i64 n).val = nodeC iso m s kp := by subst h; rfl
theorem set_same {α : Type} {l : List α} {i : Nat} {a : α} (h : l[i]? = some a) : l.set i a = l := by
  obtain ⟨h1, h2⟩ := List.getElem?_eq_some_iff.1 h
  rw [← h2]; exact List.set_getElem_self h1
section
variable {I : Type} (L : Lay I) (iso : Int) (f : Nat → Nat)
def DmF : (n : Nat) → List Nat → Nat → BT I n → Ck
  | n, [], b, t => ExC (α := PA × Nat × Option PA) (fun x => (itemsB n t).length ≤ x.2.1 ∧ x.2.2.isNone = Nat.beq n 0) fun x =>
      StC [Ow (b, 0) (nodeC iso (f (flatB n t).length) (some x.1, (itemsB n t).length, x.2.1) x.2.2) 0, Ow x.1 (L.flat (itemsB n t)) ((x.2.1 - (itemsB n t).length) * L.sz), KdC L iso n x.2.2 t]
  | 0, _ :: _, _, _ => ExC (α := Unit) (fun _ => False) fun _ => EmC
  | n + 1, i :: w, b, t => ExC (α := (PA × Nat) × (PA × Nat) × Nat × List Nat × Nat × BT I n)
      (fun x => t.1.length ≤ x.1.2 ∧ x.2.2.2.1.length ≤ x.2.1.2 ∧ x.2.2.2.1.length = t.2.length ∧ x.2.2.2.1[i]? = some x.2.2.2.2.1 ∧ t.2[i]? = some x.2.2.2.2.2) fun x =>
      StC [Ow (b, 0) (nodeC iso (f (flatB (n + 1) t).length) (some x.1.1, t.1.length, x.1.2) (some (x.2.2.1, 0))) 0, Ow x.1.1 (L.flat t.1) ((x.1.2 - t.1.length) * L.sz),
        Ow (x.2.2.1, 0) (hdC (some x.2.1.1, x.2.2.2.1.length, x.2.1.2)) 0, Ow x.2.1.1 (LK.flat (x.2.2.2.1.map some)) ((x.2.1.2 - x.2.2.2.1.length) * LK.sz),
        FoC L iso n (x.2.2.2.1.drop (i + 1)) (t.2.drop (i + 1)), FoC L iso n (x.2.2.2.1.take i) (t.2.take i), DmF n w x.2.2.2.2.1 x.2.2.2.2.2]
variable {h h0 : H} {G0 : PA → Prop} {l : List Ck}
theorem open_df0 {n b : Nat} {t : BT I n} (s : St h0 G0 (DmF L iso f n [] b t :: l) h) : ∃ p c kp, (itemsB n t).length ≤ c ∧ kp.isNone = Nat.beq n 0 ∧
    St h0 G0 (Ow (b, 0) (nodeC iso (f (flatB n t).length) (some p, (itemsB n t).length, c) kp) 0 :: Ow p (L.flat (itemsB n t)) ((c - (itemsB n t).length) * L.sz) :: KdC L iso n kp t :: l) h := by
  have e : DmF L iso f n [] b t = ExC (α := PA × Nat × Option PA) (fun x => (itemsB n t).length ≤ x.2.1 ∧ x.2.2.isNone = Nat.beq n 0) fun x =>
      StC [Ow (b, 0) (nodeC iso (f (flatB n t).length) (some x.1, (itemsB n t).length, x.2.1) x.2.2) 0, Ow x.1 (L.flat (itemsB n t)) ((x.2.1 - (itemsB n t).length) * L.sz), KdC L iso n x.2.2 t] := by cases n <;> rfl
  rw [e] at s
  obtain ⟨x, ⟨h1, h2⟩, s⟩ := s.ex_out
  exact ⟨x.1, x.2.1, x.2.2, h1, h2, s.st_out⟩
theorem shut_df0 {n b : Nat} {t : BT I n} {m c k : Nat} {p : PA} {kp : Option PA} {ws vs : List Value} (s : St h0 G0 (Ow (b, 0) ws 0 :: Ow p vs k :: KdC L iso n kp t :: l) h)
    (hkp : kp.isNone = Nat.beq n 0) (hw : ws = nodeC iso (f (flatB n t).length) (some p, m, c) kp) (hv : vs = L.flat (itemsB n t)) (hm : m = (itemsB n t).length) (hc : m ≤ c) (hk : k = (c - m) * L.sz) : St h0 G0 (DmF L iso f n [] b t :: l) h := by
  subst hw hv hm hk
  have e : DmF L iso f n [] b t = ExC (α := PA × Nat × Option PA) (fun x => (itemsB n t).length ≤ x.2.1 ∧ x.2.2.isNone = Nat.beq n 0) fun x =>
      StC [Ow (b, 0) (nodeC iso (f (flatB n t).length) (some x.1, (itemsB n t).length, x.2.1) x.2.2) 0, Ow x.1 (L.flat (itemsB n t)) ((x.2.1 - (itemsB n t).length) * L.sz), KdC L iso n x.2.2 t] := by cases n <;> rfl
  rw [e]
  exact St.ex_in (α := PA × Nat × Option PA) (p, c, kp) ⟨hc, hkp⟩ (St.st_in s)
theorem open_df {n b i : Nat} {w : List Nat} {t : BT I (n + 1)} (s : St h0 G0 (DmF L iso f (n + 1) (i :: w) b t :: l) h) : ∃ (p : PA) (c hb : Nat) (q : PA) (d : Nat) (ks : List Nat) (k : Nat) (u : BT I n), t.1.length ≤ c ∧ ks.length ≤ d ∧ ks.length = t.2.length ∧ ks[i]? = some k ∧ t.2[i]? = some u ∧
    St h0 G0 (Ow (b, 0) (nodeC iso (f (flatB (n + 1) t).length) (some p, t.1.length, c) (some (hb, 0))) 0 :: Ow p (L.flat t.1) ((c - t.1.length) * L.sz) ::
      Ow (hb, 0) (hdC (some q, ks.length, d)) 0 :: Ow q (LK.flat (ks.map some)) ((d - ks.length) * LK.sz) :: FoC L iso n (ks.drop (i + 1)) (t.2.drop (i + 1)) :: FoC L iso n (ks.take i) (t.2.take i) :: DmF L iso f n w k u :: l) h := by
  obtain ⟨x, ⟨h1, h2, h3, h4, h5⟩, s⟩ := s.ex_out
  exact ⟨x.1.1, x.1.2, x.2.2.1, x.2.1.1, x.2.1.2, x.2.2.2.1, x.2.2.2.2.1, x.2.2.2.2.2, h1, h2, h3, h4, h5, s.st_out⟩
theorem shut_df {n b i m c hb d k kk k2 : Nat} {p q : PA} {ks : List Nat} {u : BT I n} {w : List Nat} {t : BT I (n + 1)} {ws vs us ys : List Value} {m2 : Nat}
    (s : St h0 G0 (Ow (b, 0) ws 0 :: Ow p vs kk :: Ow (hb, 0) us 0 :: Ow q ys k2 :: FoC L iso n (ks.drop (i + 1)) (t.2.drop (i + 1)) :: FoC L iso n (ks.take i) (t.2.take i) :: DmF L iso f n w k u :: l) h)
    (hw : ws = nodeC iso (f (flatB (n + 1) t).length) (some p, m, c) (some (hb, 0))) (hv : vs = L.flat t.1) (hu : us = hdC (some q, m2, d)) (hy : ys = LK.flat (ks.map some)) (hm : m = t.1.length) (hm2 : m2 = ks.length) (hc : m ≤ c) (hkk : kk = (c - m) * L.sz) (hd : m2 ≤ d) (hk2 : k2 = (d - m2) * LK.sz)
    (hl : ks.length = t.2.length) (h4 : ks[i]? = some k) (h5 : t.2[i]? = some u) : St h0 G0 (DmF L iso f (n + 1) (i :: w) b t :: l) h := by
  subst hw hv hu hy hm hm2 hkk hk2
  exact St.ex_in (α := (PA × Nat) × (PA × Nat) × Nat × List Nat × Nat × BT I n) ((p, c), (q, d), hb, ks, k, u) ⟨hc, hd, hl, h4, h5⟩ (St.st_in s)
instance pk_df {n b : Nat} {w : List Nat} {t : BT I n} {l : List Ck} : Pk (.tr b) (DmF L iso f n w b t :: l) (DmF L iso f n w b t) l := ⟨.refl _⟩
end
section
variable {I : Type} (L : Lay I) (iso : Int)
abbrev DmC (n : Nat) (w : List Nat) (b : Nat) (t : BT I n) : Ck := DmF L iso (fun x => x - 1) n w b t
abbrev DmU (n : Nat) (w : List Nat) (b : Nat) (t : BT I n) : Ck := DmF L iso (fun x => x + 1) n w b t
variable {h h0 : H} {G0 : PA → Prop} {l : List Ck}
theorem open_dm0 {n b : Nat} {t : BT I n} (s : St h0 G0 (DmC L iso n [] b t :: l) h) : ∃ p c kp, (itemsB n t).length ≤ c ∧ kp.isNone = Nat.beq n 0 ∧
    St h0 G0 (Ow (b, 0) (nodeC iso ((flatB n t).length - 1) (some p, (itemsB n t).length, c) kp) 0 :: Ow p (L.flat (itemsB n t)) ((c - (itemsB n t).length) * L.sz) :: KdC L iso n kp t :: l) h :=
  open_df0 L iso (fun x => x - 1) s
theorem open_du0 {n b : Nat} {t : BT I n} (s : St h0 G0 (DmU L iso n [] b t :: l) h) : ∃ p c kp, (itemsB n t).length ≤ c ∧ kp.isNone = Nat.beq n 0 ∧
    St h0 G0 (Ow (b, 0) (nodeC iso ((flatB n t).length + 1) (some p, (itemsB n t).length, c) kp) 0 :: Ow p (L.flat (itemsB n t)) ((c - (itemsB n t).length) * L.sz) :: KdC L iso n kp t :: l) h :=
  open_df0 L iso (fun x => x + 1) s
theorem shut_dm0 {n b : Nat} {t : BT I n} {m c k : Nat} {p : PA} {kp : Option PA} {ws vs : List Value} (s : St h0 G0 (Ow (b, 0) ws 0 :: Ow p vs k :: KdC L iso n kp t :: l) h)
    (hkp : kp.isNone = Nat.beq n 0) (hw : ws = nodeC iso ((flatB n t).length - 1) (some p, m, c) kp) (hv : vs = L.flat (itemsB n t)) (hm : m = (itemsB n t).length) (hc : m ≤ c) (hk : k = (c - m) * L.sz) : St h0 G0 (DmC L iso n [] b t :: l) h :=
  shut_df0 L iso (fun x => x - 1) s hkp hw hv hm hc hk
theorem shut_du0 {n b : Nat} {t : BT I n} {m c k : Nat} {p : PA} {kp : Option PA} {ws vs : List Value} (s : St h0 G0 (Ow (b, 0) ws 0 :: Ow p vs k :: KdC L iso n kp t :: l) h)
    (hkp : kp.isNone = Nat.beq n 0) (hw : ws = nodeC iso ((flatB n t).length + 1) (some p, m, c) kp) (hv : vs = L.flat (itemsB n t)) (hm : m = (itemsB n t).length) (hc : m ≤ c) (hk : k = (c - m) * L.sz) : St h0 G0 (DmU L iso n [] b t :: l) h :=
  shut_df0 L iso (fun x => x + 1) s hkp hw hv hm hc hk
theorem open_dm {n b i : Nat} {w : List Nat} {t : BT I (n + 1)} (s : St h0 G0 (DmC L iso (n + 1) (i :: w) b t :: l) h) : ∃ (p : PA) (c hb : Nat) (q : PA) (d : Nat) (ks : List Nat) (k : Nat) (u : BT I n), t.1.length ≤ c ∧ ks.length ≤ d ∧ ks.length = t.2.length ∧ ks[i]? = some k ∧ t.2[i]? = some u ∧
    St h0 G0 (Ow (b, 0) (nodeC iso ((flatB (n + 1) t).length - 1) (some p, t.1.length, c) (some (hb, 0))) 0 :: Ow p (L.flat t.1) ((c - t.1.length) * L.sz) ::
      Ow (hb, 0) (hdC (some q, ks.length, d)) 0 :: Ow q (LK.flat (ks.map some)) ((d - ks.length) * LK.sz) :: FoC L iso n (ks.drop (i + 1)) (t.2.drop (i + 1)) :: FoC L iso n (ks.take i) (t.2.take i) :: DmC L iso n w k u :: l) h :=
  open_df L iso (fun x => x - 1) s
theorem open_du {n b i : Nat} {w : List Nat} {t : BT I (n + 1)} (s : St h0 G0 (DmU L iso (n + 1) (i :: w) b t :: l) h) : ∃ (p : PA) (c hb : Nat) (q : PA) (d : Nat) (ks : List Nat) (k : Nat) (u : BT I n), t.1.length ≤ c ∧ ks.length ≤ d ∧ ks.length = t.2.length ∧ ks[i]? = some k ∧ t.2[i]? = some u ∧
    St h0 G0 (Ow (b, 0) (nodeC iso ((flatB (n + 1) t).length + 1) (some p, t.1.length, c) (some (hb, 0))) 0 :: Ow p (L.flat t.1) ((c - t.1.length) * L.sz) ::
      Ow (hb, 0) (hdC (some q, ks.length, d)) 0 :: Ow q (LK.flat (ks.map some)) ((d - ks.length) * LK.sz) :: FoC L iso n (ks.drop (i + 1)) (t.2.drop (i + 1)) :: FoC L iso n (ks.take i) (t.2.take i) :: DmU L iso n w k u :: l) h :=
  open_df L iso (fun x => x + 1) s
theorem shut_dm {n b i m c hb d k kk k2 : Nat} {p q : PA} {ks : List Nat} {u : BT I n} {w : List Nat} {t : BT I (n + 1)} {ws vs us ys : List Value} {m2 : Nat}
    (s : St h0 G0 (Ow (b, 0) ws 0 :: Ow p vs kk :: Ow (hb, 0) us 0 :: Ow q ys k2 :: FoC L iso n (ks.drop (i + 1)) (t.2.drop (i + 1)) :: FoC L iso n (ks.take i) (t.2.take i) :: DmC L iso n w k u :: l) h)
    (hw : ws = nodeC iso ((flatB (n + 1) t).length - 1) (some p, m, c) (some (hb, 0))) (hv : vs = L.flat t.1) (hu : us = hdC (some q, m2, d)) (hy : ys = LK.flat (ks.map some)) (hm : m = t.1.length) (hm2 : m2 = ks.length) (hc : m ≤ c) (hkk : kk = (c - m) * L.sz) (hd : m2 ≤ d) (hk2 : k2 = (d - m2) * LK.sz)
    (hl : ks.length = t.2.length) (h4 : ks[i]? = some k) (h5 : t.2[i]? = some u) : St h0 G0 (DmC L iso (n + 1) (i :: w) b t :: l) h :=
  shut_df L iso (fun x => x - 1) s hw hv hu hy hm hm2 hc hkk hd hk2 hl h4 h5
theorem shut_du {n b i m c hb d k kk k2 : Nat} {p q : PA} {ks : List Nat} {u : BT I n} {w : List Nat} {t : BT I (n + 1)} {ws vs us ys : List Value} {m2 : Nat}
    (s : St h0 G0 (Ow (b, 0) ws 0 :: Ow p vs kk :: Ow (hb, 0) us 0 :: Ow q ys k2 :: FoC L iso n (ks.drop (i + 1)) (t.2.drop (i + 1)) :: FoC L iso n (ks.take i) (t.2.take i) :: DmU L iso n w k u :: l) h)
    (hw : ws = nodeC iso ((flatB (n + 1) t).length + 1) (some p, m, c) (some (hb, 0))) (hv : vs = L.flat t.1) (hu : us = hdC (some q, m2, d)) (hy : ys = LK.flat (ks.map some)) (hm : m = t.1.length) (hm2 : m2 = ks.length) (hc : m ≤ c) (hkk : kk = (c - m) * L.sz) (hd : m2 ≤ d) (hk2 : k2 = (d - m2) * LK.sz)
    (hl : ks.length = t.2.length) (h4 : ks[i]? = some k) (h5 : t.2[i]? = some u) : St h0 G0 (DmU L iso (n + 1) (i :: w) b t :: l) h :=
  shut_df L iso (fun x => x + 1) s hw hv hu hy hm hm2 hc hkk hd hk2 hl h4 h5
theorem dm_leaf {b i : Nat} {w : List Nat} {t : BT I 0} (s : St h0 G0 (DmC L iso 0 (i :: w) b t :: l) h) : False := by
  obtain ⟨x, h1, _⟩ := s.ex_out
  exact h1
theorem St.kp {n : Nat} {t : BT I n} {r : List Ck} (s : St h0 G0 l h) (b : Nat) [Pk (.tr b) l (TrC L iso n b t) r] : ∃ kp : Option PA, Go.Proofs.Ytpbmahnieepmiaa.rd h (b, 3) = some (.pointer (kp.map PA.val)) ∧ kp.isNone = Nat.beq n 0 := by
  obtain ⟨F, hF⟩ := s.fct (.tr b)
  cases n with
  | zero => obtain ⟨p, c, h1, h2, _⟩ := tr_leaf L iso hF; exact ⟨none, h2, rfl⟩
  | succ n => obtain ⟨p, c, q, d, hb, ks, FK, h1, h2, _⟩ := tr_node L iso hF; exact ⟨some (hb, 0), h2, rfl⟩
instance pk_wd {α : Type} {A B : α → Ck} {l : List Ck} : Pk (.kd none) (WdC A B :: l) (WdC A B) l := ⟨.refl _⟩
end
section
variable {I : Type} {lt : I → I → Bool}
theorem fnd_at (o : Ord lt) {l : List I} (hs : Srt lt l) {j : Nat} {x y : I} (hj : l[j]? = some y) (h1 : lt x y = false) (h2 : lt y x = false) : pos lt l x = j ∧ fnd lt l x = some y ∧ del lt l x = l.eraseIdx j := by
  obtain ⟨hlt, he⟩ := List.getElem?_eq_some_iff.1 hj
  have hp : pos lt l x = j := by
    have h3 := pos_spec o hs x j y hj
    have h4 : ¬ j < pos lt l x := fun h => by rw [h3.1 h] at h2; cases h2
    rcases Nat.lt_or_ge (pos lt l x) j with h5 | h5
    · have hz := List.getElem?_eq_getElem (show pos lt l x < l.length by omega)
      have h6 := pos_spec o hs x _ _ hz
      have h7 := List.pairwise_iff_getElem.1 hs (pos lt l x) j (by omega) hlt h5
      rw [he] at h7
      have h8 := o.lt_of_lt_of_le h7 h1
      exact absurd (h6.2 h8) (Nat.lt_irrefl _)
    · omega
  have hf : fnd lt l x = some y := by unfold fnd; rw [hp, hj]; simp [h1]
  refine ⟨hp, hf, ?_⟩
  unfold del
  rw [hf, hp, List.eraseIdx_eq_take_drop_succ]; rfl
theorem kid_flat {n i : Nat} {xs : List I} {ts : List (BT I n)} {u : BT I n} (hl : ts.length = xs.length + 1) (hu : ts[i]? = some u) :
    ∃ R, flatB (n + 1) ((xs, ts) : BT I (n + 1)) = ahead xs ts i ++ (flatB n u ++ R) ∧ ∀ u', flatB (n + 1) ((xs, ts.set i u') : BT I (n + 1)) = ahead xs ts i ++ (flatB n u' ++ R) := by
  have hi := (List.getElem?_eq_some_iff.1 hu).1
  have key : ∀ u', flatB (n + 1) ((xs, ts.set i u') : BT I (n + 1)) = ahead xs ts i ++ (flatB n u' ++ post (xs.drop i) ((ts.map (flatB n)).drop (i + 1))) := by
    intro u'
    show weave xs ((ts.set i u').map (flatB n)) = _
    rw [List.map_set, weave_at (i := i) (by omega) (m := flatB n u') (by rw [List.getElem?_set_self (by simpa using hi)]), List.take_set_of_le (Nat.le_refl _), List.drop_set_of_lt (by omega), ← List.map_take]
    rfl
  refine ⟨_, ?_, key⟩
  rw [← key u, set_same hu]
end
section
variable {I : Type} (L : Lay I) (iso : Int) (mn mx : Nat)
def Res (n : Nat) (t t' : BT I n) (j : Nat) : Prop := flatB n t' = (flatB n t).eraseIdx j ∧ Val mn mx n t' ∧ (n ≠ 0 → (itemsB n t').length = (itemsB n t).length) ∧ (mn ≤ (itemsB n t).length → mn ≤ (itemsB n t').length)
def PaC (n b : Nat) (t : BT I n) (j : Nat) : Option (List Nat) → Ck
  | none => ExC (α := BT I n) (fun t' => Res mn mx n t t' j) fun t' => TrC L iso n b t'
  | some w => DmC L iso n w b t
variable {h h0 : H} {G0 : PA → Prop} {l : List Ck}
theorem wd_down {n b i j m c hb d k kk k2 m2 J : Nat} {p q : PA} {ks : List Nat} {u : BT I n} {xs : List I} {ts : List (BT I n)} {ws vs us ys : List Value} {T : Option (List Nat) → Ck}
    (s : St h0 G0 (WdC (PaC L iso mn mx (n + 1) b (xs, ts) J) T :: Ow (b, 0) ws 0 :: Ow p vs kk :: Ow (hb, 0) us 0 :: Ow q ys k2 :: FoC L iso n (ks.drop (i + 1)) (ts.drop (i + 1)) :: FoC L iso n (ks.take i) (ts.take i) :: l) h)
    (hw : ws = nodeC iso ((flatB (n + 1) ((xs, ts) : BT I (n + 1))).length - 1) (some p, m, c) (some (hb, 0))) (hv : vs = L.flat xs) (hu : us = hdC (some q, m2, d)) (hy : ys = LK.flat (ks.map some)) (hm : m = xs.length) (hm2 : m2 = ks.length) (hc : m ≤ c) (hkk : kk = (c - m) * L.sz) (hd : m2 ≤ d) (hk2 : k2 = (d - m2) * LK.sz)
    (hl : ks.length = ts.length) (h4 : ks[i]? = some k) (h5 : ts[i]? = some u) (hva : Val mn mx (n + 1) (xs, ts)) (hj : j < (flatB n u).length) (hJ : J = (ahead xs ts i).length + j) :
    St h0 G0 (WdC (PaC L iso mn mx n k u j) (fun a => T (a.map (i :: ·))) :: l) h := by
  subst hJ
  refine wd_in (ps := [Ow (b, 0) ws 0, Ow p vs kk, Ow (hb, 0) us 0, Ow q ys k2, FoC L iso n (ks.drop (i + 1)) (ts.drop (i + 1)), FoC L iso n (ks.take i) (ts.take i)]) s fun a h F hF => ⟨a.map (i :: ·), rfl, ?_⟩
  have S := St.start hF
  cases a with
  | some w =>
    have S := S.perm (List.perm_append_comm (l₁ := [_]) (l₂ := [_, _, _, _, _, _]))
    exact shut_dm L iso (t := (xs, ts)) S hw hv hu hy hm hm2 hc hkk hd hk2 hl h4 h5
  | none =>
    obtain ⟨t', ⟨e1, e2, e3, e4⟩, S⟩ := S.ex_out
    obtain ⟨R, hR, hR'⟩ := kid_flat (xs := xs) (ts := ts) hva.2.1 h5
    have hi : i < ts.length := (List.getElem?_eq_some_iff.1 h5).1
    have S := fo_put L iso hl hi (S.perm (List.perm_append_comm (l₁ := [TrC L iso n k t', Ow (b, 0) ws 0, Ow p vs kk, Ow (hb, 0) us 0, Ow q ys k2]) (l₂ := [FoC L iso n (ks.drop (i + 1)) (ts.drop (i + 1)), FoC L iso n (ks.take i) (ts.take i)]) |>.trans (List.perm_append_comm (l₁ := [_, _]) (l₂ := [_]) |>.append_right [_, _, _, _])))
    rw [set_same h4] at S
    have hfe : flatB (n + 1) ((xs, ts.set i t') : BT I (n + 1)) = (flatB (n + 1) ((xs, ts) : BT I (n + 1))).eraseIdx ((ahead xs ts i).length + j) := by
      rw [hR' t', hR, e1, List.eraseIdx_append_of_length_le (by omega), Nat.add_sub_cancel_left, List.eraseIdx_append_of_lt_length hj]
    have hfl : (flatB (n + 1) ((xs, ts) : BT I (n + 1))).length - 1 = (flatB (n + 1) ((xs, ts.set i t') : BT I (n + 1))).length := by
      rw [hfe, List.length_eraseIdx_of_lt (by rw [hR]; simp; omega)]
    rw [hfl] at hw
    have S := shut_node L iso (xs := xs) (ts := ts.set i t') (S.perm (List.perm_append_comm (l₁ := [_]) (l₂ := [_, _, _, _]))) hw hv hu (by rw [hy, LK_flat]) hm hm2 rfl hc hkk hd (by rw [hk2]; exact Nat.mul_one _)
    refine St.ex_in (α := BT I (n + 1)) (xs, ts.set i t') ⟨hfe, ⟨hva.1, by rw [List.length_set]; exact hva.2.1, fun w hw => ?_⟩, fun _ => rfl, id⟩ S
    rcases List.mem_or_eq_of_mem_set hw with hw | rfl
    · exact hva.2.2 w hw
    · exact ⟨e2, e4 (hva.2.2 u (List.mem_of_getElem? h5)).2⟩
theorem wd_up {n b i m c hb d k kk k2 m2 : Nat} {p q : PA} {ks : List Nat} {u : BT I n} {xs : List I} {ts : List (BT I n)} {ws vs us ys : List Value} {T : Unit → Ck}
    (s : St h0 G0 (WdC (fun _ : Unit => TrC L iso (n + 1) b (xs, ts)) T :: Ow (b, 0) ws 0 :: Ow p vs kk :: Ow (hb, 0) us 0 :: Ow q ys k2 :: FoC L iso n (ks.drop (i + 1)) (ts.drop (i + 1)) :: FoC L iso n (ks.take i) (ts.take i) :: l) h)
    (hw : ws = nodeC iso (flatB (n + 1) ((xs, ts) : BT I (n + 1))).length (some p, m, c) (some (hb, 0))) (hv : vs = L.flat xs) (hu : us = hdC (some q, m2, d)) (hy : ys = LK.flat (ks.map some)) (hm : m = xs.length) (hm2 : m2 = ks.length) (hc : m ≤ c) (hkk : kk = (c - m) * L.sz) (hd : m2 ≤ d) (hk2 : k2 = (d - m2) * LK.sz)
    (hl : ks.length = ts.length) (h4 : ks[i]? = some k) (h5 : ts[i]? = some u) :
    St h0 G0 (WdC (fun _ : Unit => TrC L iso n k u) T :: l) h := by
  refine wd_in (ps := [Ow (b, 0) ws 0, Ow p vs kk, Ow (hb, 0) us 0, Ow q ys k2, FoC L iso n (ks.drop (i + 1)) (ts.drop (i + 1)), FoC L iso n (ks.take i) (ts.take i)]) s fun a h F hF => ⟨(), rfl, ?_⟩
  have S := St.start hF
  have hi : i < ts.length := (List.getElem?_eq_some_iff.1 h5).1
  have S := fo_put L iso hl hi (S.perm (List.perm_append_comm (l₁ := [TrC L iso n k u, Ow (b, 0) ws 0, Ow p vs kk, Ow (hb, 0) us 0, Ow q ys k2]) (l₂ := [FoC L iso n (ks.drop (i + 1)) (ts.drop (i + 1)), FoC L iso n (ks.take i) (ts.take i)]) |>.trans (List.perm_append_comm (l₁ := [_, _]) (l₂ := [_]) |>.append_right [_, _, _, _])))
  rw [set_same h4, set_same h5] at S
  exact shut_node L iso (xs := xs) (ts := ts) (S.perm (List.perm_append_comm (l₁ := [_]) (l₂ := [_, _, _, _]))) hw hv hu (by rw [hy, LK_flat]) hm hm2 rfl hc hkk hd (by rw [hk2]; exact Nat.mul_one _)
def Exd (n : Nat) (t t' : BT I n) (x : I) : Prop := flatB n t' = flatB n t ++ [x] ∧ Val mn mx n t' ∧ (itemsB n t).length ≤ (itemsB n t').length
def PlC (n b : Nat) (t : BT I n) (x : I) : Option (List Nat) → Ck
  | none => ExC (α := BT I n) (fun t' => Exd mn mx n t t' x) fun t' => TrC L iso n b t'
  | some w => DmU L iso n w b t
theorem wd_downL {n b m c hb d k kk k2 m2 : Nat} {p q : PA} {ks : List Nat} {u : BT I n} {x : I} {xs : List I} {ts : List (BT I n)} {ws vs us ys : List Value} {T : Option (List Nat) → Ck}
    (s : St h0 G0 (WdC (PlC L iso mn mx (n + 1) b (xs, ts) x) T :: Ow (b, 0) ws 0 :: Ow p vs kk :: Ow (hb, 0) us 0 :: Ow q ys k2 :: FoC L iso n (ks.drop (xs.length + 1)) (ts.drop (xs.length + 1)) :: FoC L iso n (ks.take xs.length) (ts.take xs.length) :: l) h)
    (hw : ws = nodeC iso ((flatB (n + 1) ((xs, ts) : BT I (n + 1))).length + 1) (some p, m, c) (some (hb, 0))) (hv : vs = L.flat xs) (hu : us = hdC (some q, m2, d)) (hy : ys = LK.flat (ks.map some)) (hm : m = xs.length) (hm2 : m2 = ks.length) (hc : m ≤ c) (hkk : kk = (c - m) * L.sz) (hd : m2 ≤ d) (hk2 : k2 = (d - m2) * LK.sz)
    (hl : ks.length = ts.length) (h4 : ks[xs.length]? = some k) (h5 : ts[xs.length]? = some u) (hva : Val mn mx (n + 1) (xs, ts)) :
    St h0 G0 (WdC (PlC L iso mn mx n k u x) (fun a => T (a.map (xs.length :: ·))) :: l) h := by
  refine wd_in (ps := [Ow (b, 0) ws 0, Ow p vs kk, Ow (hb, 0) us 0, Ow q ys k2, FoC L iso n (ks.drop (xs.length + 1)) (ts.drop (xs.length + 1)), FoC L iso n (ks.take xs.length) (ts.take xs.length)]) s fun a h F hF => ⟨a.map (xs.length :: ·), rfl, ?_⟩
  have S := St.start hF
  cases a with
  | some w =>
    have S := S.perm (List.perm_append_comm (l₁ := [_]) (l₂ := [_, _, _, _, _, _]))
    exact shut_du L iso (t := (xs, ts)) S hw hv hu hy hm hm2 hc hkk hd hk2 hl h4 h5
  | none =>
    obtain ⟨t', ⟨e1, e2, e3⟩, S⟩ := S.ex_out
    have hl2 : ts.length = xs.length + 1 := hva.2.1
    have hi : xs.length < ts.length := (List.getElem?_eq_some_iff.1 h5).1
    have S := fo_put L iso hl hi (S.perm (List.perm_append_comm (l₁ := [TrC L iso n k t', Ow (b, 0) ws 0, Ow p vs kk, Ow (hb, 0) us 0, Ow q ys k2]) (l₂ := [FoC L iso n (ks.drop (xs.length + 1)) (ts.drop (xs.length + 1)), FoC L iso n (ks.take xs.length) (ts.take xs.length)]) |>.trans (List.perm_append_comm (l₁ := [_, _]) (l₂ := [_]) |>.append_right [_, _, _, _])))
    rw [set_same h4] at S
    have hal := ah_last hl2 h5
    have hal' := ah_last (n := n) (xs := xs) (ts := ts.set xs.length t') (u := t') (by rw [List.length_set]; exact hl2) (by rw [List.getElem?_set_self hi])
    have hah : ahead xs (ts.set xs.length t') xs.length = ahead xs ts xs.length := by unfold ahead; rw [List.take_set_of_le (Nat.le_refl _)]
    have hfe : flatB (n + 1) ((xs, ts.set xs.length t') : BT I (n + 1)) = flatB (n + 1) ((xs, ts) : BT I (n + 1)) ++ [x] := by
      rw [hal', hah, hal, e1, List.append_assoc]
    have hfl : (flatB (n + 1) ((xs, ts) : BT I (n + 1))).length + 1 = (flatB (n + 1) ((xs, ts.set xs.length t') : BT I (n + 1))).length := by rw [hfe]; simp
    rw [hfl] at hw
    have S := shut_node L iso (xs := xs) (ts := ts.set xs.length t') (S.perm (List.perm_append_comm (l₁ := [_]) (l₂ := [_, _, _, _]))) hw hv hu (by rw [hy, LK_flat]) hm hm2 rfl hc hkk hd (by rw [hk2]; exact Nat.mul_one _)
    refine St.ex_in (α := BT I (n + 1)) (xs, ts.set xs.length t') ⟨hfe, ⟨hva.1, by rw [List.length_set]; exact hva.2.1, fun w hw => ?_⟩, Nat.le_refl _⟩ S
    rcases List.mem_or_eq_of_mem_set hw with hw | rfl
    · exact hva.2.2 w hw
    · exact ⟨e2, Nat.le_trans (hva.2.2 u (List.mem_of_getElem? h5)).2 e3⟩
def WayOK (last : Bool) : (n : Nat) → BT I n → List Nat → Prop
  | 0, _, w => w = []
  | n + 1, t, w => ∃ i u w', w = i :: w' ∧ t.2[i]? = some u ∧ i = (if last then t.1.length else 0) ∧ WayOK last n u w'
end
end Go.Proofs.Ytpbmahnieepmiaa
