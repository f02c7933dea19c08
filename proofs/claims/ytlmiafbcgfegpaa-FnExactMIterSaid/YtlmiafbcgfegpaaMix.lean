/-
  The map: iterators. Conditions: none.
-/
import Derived.Test.YtlmiafbcgfegpaaScmi
import Derived.Test.YtlmiafbcgfegpaaYc
import Derived.Test.YtlmiafbcgfegpaaCb
import Derived.Test.YtlmiafbcgfegpaaVa
set_option linter.unusedVariables false
set_option linter.unusedSimpArgs false
set_option linter.unusedSectionVars false
set_option maxRecDepth 100000
namespace Go.Proofs.Ytlmiafbcgfegpaa.MI
open Go Go.Proofs.Ytlmiafbcgfegpaa
def bef : (r : Nat) → BT KV r → Nat → Nat
  | 0, _, m => m
  | _ + 1, u, m => (ahead u.1 u.2 m).length
section
variable (F : (r : Nat) → Nat → BT KV r → Prop) (mn mx : Nat) {n : Nat} (t : BT KV n)
def Up : List (Nat × Int) → (r : Nat) → BT KV r → Nat → Prop
  | [], r, u, off => (⟨r, u⟩ : Sigma (BT KV)) = ⟨n, t⟩ ∧ off = 0
  | f :: fs, r, u, off => ∃ (v : BT KV (r + 1)) (c o' : Nat), f.2 = (c : Int) ∧ v.2[c]? = some u ∧ off = o' + (ahead v.1 v.2 c).length ∧ F (r + 1) f.1 v ∧ Val mn mx (r + 1) v ∧ 1 ≤ v.1.length ∧ Up fs (r + 1) v o'
def Pos (fs : List (Nat × Int)) (p : Nat) : Prop :=
  ∃ (b j : Nat) (fs' : List (Nat × Int)) (r : Nat) (u : BT KV r) (off : Nat), fs = (b, (j : Int)) :: fs' ∧ Up F mn mx t fs' r u off ∧ F r b u ∧ j < (itemsB r u).length ∧ p + 1 = off + bef r u (j + 1)
def Nxt (fs : List (Nat × Int)) (q : Nat) : Prop :=
  ∃ (b m : Nat) (fs' : List (Nat × Int)) (r : Nat) (u : BT KV r) (off : Nat), fs = (b, (m : Int) - 1) :: fs' ∧ Up F mn mx t fs' r u off ∧ F r b u ∧ m ≤ (itemsB r u).length ∧ (r = 0 ∨ 1 ≤ m) ∧ q = off + bef r u m
end
section
variable {F : (r : Nat) → Nat → BT KV r → Prop} {mn mx : Nat} {n : Nat} {t : BT KV n}
theorem Pos.nxt {fs : List (Nat × Int)} {p : Nat} (hp : Pos F mn mx t fs p) : Nxt F mn mx t fs (p + 1) := by
  obtain ⟨b, j, fs', r, u, off, rfl, h1, h2, h3, h4⟩ := hp
  exact ⟨b, j + 1, fs', r, u, off, by rw [show ((j + 1 : Nat) : Int) - 1 = j by omega], h1, h2, by omega, .inr (by omega), h4⟩
theorem Up.len : ∀ {fs : List (Nat × Int)} {r : Nat} {u : BT KV r} {off : Nat}, Up F mn mx t fs r u off → fs.length + r = n
  | [], r, u, off, ⟨h, _⟩ => by
    obtain rfl : r = n := congrArg Sigma.fst h
    simp
  | f :: fs, r, u, off, ⟨v, c, o', _, _, _, _, _, _, h⟩ => by
    have := Up.len h
    simp only [List.length_cons]; omega
theorem Up.val (hv : Val mn mx n t) (h1 : 1 ≤ mn) (hi : 1 ≤ (itemsB n t).length) : ∀ {fs : List (Nat × Int)} {r : Nat} {u : BT KV r} {off : Nat}, Up F mn mx t fs r u off → Val mn mx r u ∧ 1 ≤ (itemsB r u).length
  | [], r, u, off, ⟨h, _⟩ => by cases h; exact ⟨hv, hi⟩
  | f :: fs, r, u, off, ⟨v, c, o', _, g2, _, _, g5, _, _⟩ => by
    obtain ⟨a, b⟩ := g5.2.2 u (List.mem_of_getElem? g2)
    exact ⟨a, by omega⟩
theorem Up.flat : ∀ {fs : List (Nat × Int)} {r : Nat} {u : BT KV r} {off : Nat}, Up F mn mx t fs r u off → ∃ A B, flatB n t = A ++ (flatB r u ++ B) ∧ A.length = off
  | [], r, u, off, ⟨h, h2⟩ => by cases h; exact ⟨[], [], by simp, h2.symm⟩
  | f :: fs, r, u, off, ⟨v, c, o', _, g2, g3, _, g5, _, g7⟩ => by
    obtain ⟨A, B, e1, e2⟩ := Up.flat g7
    obtain ⟨B', e3⟩ := ah_at (xs := v.1) g5.2.1 g2
    refine ⟨A ++ ahead v.1 v.2 c, B' ++ B, ?_, by rw [List.length_append, e2, g3]⟩
    rw [e1]
    have e : flatB (r + 1) v = flatB (r + 1) ((v.1, v.2) : BT KV (r + 1)) := rfl
    rw [e, e3]; simp
theorem bef_item {r : Nat} {u : BT KV r} {j : Nat} {x : KV} (hv : Val mn mx r u) (hx : (itemsB r u)[j]? = some x) : 1 ≤ bef r u (j + 1) ∧ (flatB r u)[bef r u (j + 1) - 1]? = some x := by
  cases r with
  | zero => exact ⟨by show 1 ≤ j + 1; omega, hx⟩
  | succ r =>
    obtain ⟨xs, ts⟩ := u
    have hl : ts.length = xs.length + 1 := hv.2.1
    have hx : xs[j]? = some x := hx
    have hj := (List.getElem?_eq_some_iff.1 hx).1
    obtain ⟨v, hv2⟩ : ∃ v, ts[j]? = some v := ⟨_, List.getElem?_eq_getElem (by omega)⟩
    obtain ⟨B, hB⟩ := ah_at2 hl hv2 hx
    have hs := ah_succ hl hx hv2
    have hb : bef (r + 1) ((xs, ts) : BT KV (r + 1)) (j + 1) = (ahead xs ts j).length + (flatB r v).length + 1 := by
      show (ahead xs ts (j + 1)).length = _
      rw [hs]; simp; omega
    rw [hb, hB]
    refine ⟨by omega, ?_⟩
    rw [Nat.add_sub_cancel, List.append_assoc, List.getElem?_append_right (by omega), List.append_assoc, List.getElem?_append_right (by omega), show (ahead xs ts j).length + (flatB r v).length - (ahead xs ts j).length - (flatB r v).length = 0 by omega]
    rfl
theorem Pos.item (hv : Val mn mx n t) (h1 : 1 ≤ mn) (hi : 1 ≤ (itemsB n t).length) {b j : Nat} {fs : List (Nat × Int)} {r : Nat} {u : BT KV r} {off p : Nat} {x : KV} (hu : Up F mn mx t fs r u off) (hx : (itemsB r u)[j]? = some x) (hp : p + 1 = off + bef r u (j + 1)) : (flatB n t)[p]? = some x := by
  obtain ⟨A, B, e1, e2⟩ := hu.flat
  obtain ⟨g1, g2⟩ := bef_item (hu.val hv h1 hi).1 hx
  have hlt := (List.getElem?_eq_some_iff.1 g2).1
  rw [e1, List.getElem?_append_right (by omega), List.getElem?_append_left (by omega), ← g2]
  congr 1; omega
theorem bef_last {r : Nat} {u : BT KV (r + 1)} {w : BT KV r} (hv : Val mn mx (r + 1) u) (hw : u.2[u.1.length]? = some w) : (ahead u.1 u.2 u.1.length).length + (flatB r w).length = (flatB (r + 1) u).length := by
  have := ah_last (xs := u.1) hv.2.1 hw
  have e : flatB (r + 1) u = flatB (r + 1) ((u.1, u.2) : BT KV (r + 1)) := rfl
  rw [e, this, List.length_append]
end
def LFr : Lay (Nat × Int) where
  sz := 2
  cells f := [kptr f.1, .int .i64 f.2]
  len _ := rfl
  one _ v hv := by simp only [List.mem_cons, List.not_mem_nil, or_false] at hv; rcases hv with rfl | rfl <;> rfl
  pos := by decide
def itC (tr : PA) (sk ats ate : Bool) (s : SlT) (x : KV) : List Value :=
  [.pointer (some tr.val), .bool false, .bool sk, .bool ats, .bool ate, .slice (s.1.map PA.val) s.2.1 s.2.2, .int .i64 x.2, .int .i64 x.1]
def ItC (a tr : PA) (sk ats ate : Bool) (fs : List (Nat × Int)) (x : KV) : Ck := ExC (α := SlT) (fun s => OwnL LFr s fs.reverse) fun s =>
  StC [Ow a (itC tr sk ats ate s x) 0, SlC s LFr.sz (LFr.flat fs.reverse)]
section
variable {h h0 : H} {G0 : PA → Prop} {l : List Ck} {Q : Ex → List AV → H → Prop}
theorem open_it {a tr : PA} {sk ats ate : Bool} {fs : List (Nat × Int)} {x : KV} (s : St h0 G0 (ItC a tr sk ats ate fs x :: l) h) : ∃ t : SlT, OwnL LFr t fs.reverse ∧ St h0 G0 (Ow a (itC tr sk ats ate t x) 0 :: SlC t LFr.sz (LFr.flat fs.reverse) :: l) h := by
  obtain ⟨t, ht, s⟩ := s.ex_out
  exact ⟨t, ht, s.st_out⟩
theorem shut_itS {a tr : PA} {sk ats ate : Bool} {fs : List (Nat × Int)} {x : KV} {t : SlT} (s : St h0 G0 (Ow a (itC tr sk ats ate t x) 0 :: SlC t LFr.sz (LFr.flat fs.reverse) :: l) h) (ht : OwnL LFr t fs.reverse) : St h0 G0 (ItC a tr sk ats ate fs x :: l) h :=
  St.ex_in (α := SlT) t ht (St.st_in (m := [_, _]) s)
theorem it_top {a tr : PA} {sk ats ate : Bool} {fs : List (Nat × Int)} {x : KV} {t : SlT} (s : St h0 G0 (Ow a (itC tr sk ats ate t x) 0 :: SlC t LFr.sz (LFr.flat fs.reverse) :: l) h) (ht : OwnL LFr t fs.reverse) (hf : fs ≠ []) :
    ∃ p c, fs.length ≤ c ∧ St h0 G0 (Ow a (itC tr sk ats ate (some p, fs.length, c) x) 0 :: Ow p (LFr.flat fs.reverse) ((c - fs.length) * LFr.sz) :: l) h := by
  obtain ⟨p, n, c, rfl, hc, hl, s⟩ := s.pull1.open_sl (ht.2.2.resolve_left fun e => hf (by simpa using e))
  have hn : n = fs.length := by have := ht.1; simpa using this
  subst hn
  exact ⟨p, c, hc, s.pull1⟩
theorem shut_it {a tr p : PA} {sk ats ate : Bool} {fs : List (Nat × Int)} {x : KV} {c k : Nat} {ws vs : List Value} (s : St h0 G0 (Ow a ws 0 :: Ow p vs k :: l) h) (hw : ws = itC tr sk ats ate (some p, fs.length, c) x) (hv : vs = LFr.flat fs.reverse) (hc : fs.length ≤ c) (hk : k = (c - fs.length) * LFr.sz) : St h0 G0 (ItC a tr sk ats ate fs x :: l) h := by
  subst hw hv hk
  have s := s.pull1.close_sl (n := fs.length) (c := c) (sz := LFr.sz) hc (by rw [LFr.flat_length, List.length_reverse])
  exact shut_itS s.pull1 ⟨by simp, hc, .inr rfl⟩
theorem sl_none {s1 : Option PA} {s2 s3 sz : Nat} {vs : List Value} (s : St h0 G0 (SlC (s1, s2, s3) sz vs :: l) h) : St h0 G0 (SlC (s1, 0, s3) sz [] :: l) h := by
  refine s.turn (l := [_]) (l' := [_]) fun F hF => ?_
  obtain ⟨F1, F2, ⟨⟨h1, h2, h3⟩, e1⟩, e2, e3, e4⟩ := hF
  refine ⟨F1, F2, ⟨⟨by simp, Nat.zero_le _, ?_⟩, e1⟩, e2, e3, e4⟩
  rcases h3 with h3 | ⟨p, hp, ho⟩
  · exact .inl h3
  · have ho' : Own h p (([] : List Value) ++ vs) ((s3 - s2) * sz) := ho
    have hk : vs.length + (s3 - s2) * sz = (s3 - 0) * sz := by
      have h1 : vs.length = s2 * sz := h1
      have h2 : s2 ≤ s3 := h2
      rw [h1, ← Nat.add_mul]; congr 1; omega
    have := ho'.shrink
    rw [hk] at this
    exact .inr ⟨p, hp, this⟩
theorem w_fp {p : PA} {gs : List (Nat × Int)} (hr : rds h p (LFr.flat gs)) {i : Nat} {f : Nat × Int} (hf : gs[i]? = some f) {m : Option PA → M} (hw : wp Try.prog (m (some (f.1, 0))) Q h) : wp Try.prog (.load (p.1, p.2 + mulN i 2) .ptr m) Q h := by
  refine w_ptr (some (f.1, 0)) ?_ hw
  have := hr (i * 2 + 0) _ (LFr.flat_get (j := 0) hf rfl)
  rw [mulN_eq]; rw [Nat.add_zero] at this; exact this
theorem w_fi {p : PA} {gs : List (Nat × Int)} (hr : rds h p (LFr.flat gs)) {i : Nat} {f : Nat × Int} (hf : gs[i]? = some f) {m : Int → M} (hw : wp Try.prog (m f.2) Q h) : wp Try.prog (.load (p.1, p.2 + mulN i 2 + 1) (.int .i64) m) Q h := by
  refine w_int f.2 ?_ hw
  have := hr (i * 2 + 1) _ (LFr.flat_get (j := 1) hf rfl)
  rw [mulN_eq]; simpa [Nat.add_assoc] using this
theorem frs (s : St h0 G0 l h) {p : PA} {gs : List (Nat × Int)} {k : Nat} {l' : List Value → List Ck} [Fi l p (LFr.flat gs) 0 k l'] : rds h p (LFr.flat gs) := s.rds (a := p) (vs := LFr.flat gs) (j := 0) (LFr.flat gs) (fun i v h => by rw [Nat.zero_add]; exact h)
theorem flat_setF : ∀ (gs : List (Nat × Int)) (i : Nat) (f : Nat × Int) (v : Int), gs[i]? = some f → (LFr.flat gs).set (i * 2 + 1) (.int .i64 v) = LFr.flat (gs.set i (f.1, v))
  | [], _, _, _, h => by simp at h
  | g :: gs, 0, f, v, h => by obtain rfl : g = f := by simpa using h
                              rfl
  | g :: gs, i + 1, f, v, h => by
    have ih := flat_setF gs i f v (by simpa using h)
    show (kptr g.1 :: .int .i64 g.2 :: LFr.flat gs : List Value).set ((i + 1) * 2 + 1) _ = kptr g.1 :: .int .i64 g.2 :: LFr.flat (gs.set i (f.1, v))
    rw [← ih, show (i + 1) * 2 + 1 = i * 2 + 1 + 2 by omega]
    rfl
theorem st_fi (s : St h0 G0 l h) {p : PA} {gs : List (Nat × Int)} {k : Nat} {l' : List Value → List Ck} [Fi l p (LFr.flat gs) 0 k l'] {i : Nat} {f : Nat × Int} (hf : gs[i]? = some f) {v : Int} {m : M}
    (hw : ∀ h', St h0 G0 (l' (LFr.flat (gs.set i (f.1, v)))) h' → wp Try.prog m Q h') : wp Try.prog (.store (p.1, p.2 + mulN i 2 + 1) (.int .i64 v) m) Q h := by
  have hi := (List.getElem?_eq_some_iff.1 hf).1
  rw [mulN_eq, Nat.add_assoc]
  haveI := fi_shift (l := l) (a := p) (vs := LFr.flat gs) (k := k) (l' := l') (i * 2 + 1)
  refine st_store s (a := (p.1, p.2 + (i * 2 + 1))) (j := i * 2 + 1) (by rw [LFr.flat_length]; show i * 2 + 1 < gs.length * 2; omega) fun h' S => hw h' ?_
  rw [show (Cell.int .i64 v).val = Value.int .i64 v from rfl, flat_setF _ _ _ _ hf] at S
  exact S
theorem slBase_z (p : Option PA) (c sz : Nat) : slBase p c 0 sz = p := by
  cases p with
  | some p => exact slBase_zero
  | none => unfold slBase; split <;> rfl
theorem rev_get (f : Nat × Int) (fs : List (Nat × Int)) : ((f :: fs).reverse)[(f :: fs).length - 1]? = some f := by
  rw [List.reverse_cons, List.length_cons, Nat.add_sub_cancel, List.getElem?_append_right (by simp)]; simp
theorem rev_set (f g : Nat × Int) (fs : List (Nat × Int)) : ((f :: fs).reverse).set ((f :: fs).length - 1) g = (g :: fs).reverse := by
  rw [List.reverse_cons, List.length_cons, Nat.add_sub_cancel, List.set_append_right _ _ (by simp)]; simp
structure Fw (iso : Int) (F : (r : Nat) → Nat → BT KV r → Prop) (h : H) (G : PA → Prop) : Prop where
  nd : ∀ r b u, F r b u → Bes (TrC L iso r b u) h G
  kd : ∀ r b (v : BT KV (r + 1)), F (r + 1) b v → ∃ (hb : Nat) (q : PA) (c : Nat), Bes (RdC (b, 3) (.pointer (some (PA.val (hb, 0))))) h G ∧ Bes (RdC (hb, 0) (.slice (some q.val) v.2.length c)) h G ∧
    ∀ (i : Nat) (u : BT KV r), v.2[i]? = some u → ∃ k, Bes (RdC (q.1, q.2 + i) (kptr k)) h G ∧ F r k u
theorem Fw.step {iso : Int} {F : (r : Nat) → Nat → BT KV r → Prop} (f : Fw iso F h0 G0) (s : St h0 G0 l h) {G : PA → Prop} (hG : ∀ x, G x → G0 x ∨ h0.size ≤ x.1) : Fw iso F h G :=
  ⟨fun r b u hu => (f.nd r b u hu).step s hG, fun r b v hv => by
    obtain ⟨hb, q, c, h1, h2, h3⟩ := f.kd r b v hv
    exact ⟨hb, q, c, h1.step s hG, h2.step s hG, fun i u hu => by
      obtain ⟨k, g1, g2⟩ := h3 i u hu
      exact ⟨k, g1.step s hG, g2⟩⟩⟩
theorem Fw.mk' {iso : Int} {G : PA → Prop} : Fw iso (fun r b u => Bes (TrC L iso r b u) h G) h G :=
  ⟨fun _ _ _ h => h, fun r b v hv => hv.kids⟩
structure Tf (tr : PA) (iso : Int) (F : (r : Nat) → Nat → BT KV r → Prop) (mn mx n b : Nat) (t : BT KV n) (h : H) (G : PA → Prop) : Prop where
  fw : Fw iso F h G
  root : Bes (RdC (tr.1, tr.2 + 2) (.pointer (some (PA.val (b, 0))))) h G
  iso : Bes (RdC (tr.1, tr.2) (.int .u64 iso)) h G
  here : F n b t
  val : Val mn mx n t
  one : 1 ≤ mn
  its : 1 ≤ (itemsB n t).length
  big : mx ≤ 255
  hgt : n ≤ 4294967295
theorem Tf.step {tr : PA} {iso : Int} {F : (r : Nat) → Nat → BT KV r → Prop} {mn mx n b : Nat} {t : BT KV n} (f : Tf tr iso F mn mx n b t h0 G0) (s : St h0 G0 l h) {G : PA → Prop} (hG : ∀ x, G x → G0 x ∨ h0.size ≤ x.1) : Tf tr iso F mn mx n b t h G :=
  ⟨f.fw.step s hG, f.root.step s hG, f.iso.step s hG, f.here, f.val, f.one, f.its, f.big, f.hgt⟩
theorem Tf.now {tr : PA} {iso : Int} {F : (r : Nat) → Nat → BT KV r → Prop} {mn mx n b : Nat} {t : BT KV n} (f : Tf tr iso F mn mx n b t h0 G0) (s : St h0 G0 l h) : Tf tr iso F mn mx n b t h G0 := f.step s fun _ hx => .inl hx
end
section
variable {h h0 : H} {G0 : PA → Prop} {l : List Ck} {tr a : PA} {iso : Int} {F : (r : Nat) → Nat → BT KV r → Prop} {mn mx n b0 : Nat} {t : BT KV n}
theorem w_tail {R : SV [.c .bool] → H → Prop} {sk ats ate : Bool} {fs : List (Nat × Int)} {p : PA} {c k q : Nat} {x0 : KV} (f : Tf tr iso F mn mx n b0 t h0 G0) (hp : Pos F mn mx t fs q)
    (S : St h0 G0 (Ow a (itC tr sk ats ate (some p, fs.length, c) x0) 0 :: Ow p (LFr.flat fs.reverse) k :: l) h)
    (hw : ∀ h' x, (flatB n t)[q]? = some x → St h0 G0 (Ow a (itC tr sk ats ate (some p, fs.length, c) x) 0 :: Ow p (LFr.flat fs.reverse) k :: l) h' → R (true, ()) h') :
    wp Try.prog (.load (a.fst, a.snd + 5) (.sl) fun s24 =>
      .load (a.fst, a.snd + 5) (.sl) fun s25 =>
      .guard (InK IntKind.i64 ((↑s25.snd.fst : Int) - 1)) <|
      .nonnil (s24.fst) fun p26 =>
      .guard (((0 : Int) ≤ (↑s25.snd.fst : Int) - 1) ∧ (((↑s25.snd.fst : Int) - 1 : Int) < (↑s24.snd.fst : Int))) <|
      .load (p26.fst, p26.snd + mulN ((↑s25.snd.fst : Int) - 1).toNat 2) (.ptr) fun q27 =>
      .nonnil (q27) fun p28 =>
      .load (p28.fst, p28.snd + 2) (.sl) fun s29 =>
      .load (p26.fst, p26.snd + mulN ((↑s25.snd.fst : Int) - 1).toNat 2 + 1) (.int .i64) fun i30 =>
      .nonnil (s29.fst) fun p31 =>
      .guard (((0 : Int) ≤ i30) ∧ ((i30 : Int) < (↑s29.snd.fst : Int))) <|
      .load (p31.fst, p31.snd + mulN (Int.toNat i30) 2) (.int .i64) fun i32 =>
      .load (p31.fst, p31.snd + mulN (Int.toNat i30) 2 + 1) (.int .i64) fun i33 =>
      .store (a.fst, a.snd + 6) (.int .i64 (i32)) <|
      .store (a.fst, a.snd + 7) (.int .i64 (i33)) <|
      .done .ret [.c (.tt)]) (Ret (TR false [.c .bool] R)) h := by
  obtain ⟨b, j, fs', r, u, off, rfl, hu, hF, hj, hq⟩ := hp
  have hlen := hu.len
  have hn := f.hgt
  obtain ⟨pi, ci, kp, hci, _, _, _, b2, _, br⟩ := (f.fw.nd r b u hF).nd
  have hxj := List.getElem?_eq_getElem hj
  have hx := Pos.item (b := b) f.val f.one f.its hu hxj hq
  have htop := rev_get (b, (j : Int)) fs'
  refine ld_sls S rfl (ld_sls S rfl (w_guard (inK64 (by simp <;> omega) (by simp <;> omega)) (w_nonnil (w_guard ⟨by simp <;> omega, by simp <;> omega⟩ ?_))))
  dsimp only
  rw [toNat_pred]
  refine w_fp (frs S.pull1) htop (w_nonnil (w_sl (some pi, (itemsB r u).length, ci) (b2.now S).rd (w_fi (frs S.pull1) htop (w_nonnil (w_guard ⟨by show (0 : Int) ≤ (j : Int); omega, by show (j : Int) < ((itemsB r u).length : Int); omega⟩ ?_)))))
  dsimp only
  rw [Int.toNat_natCast]
  refine w_it (br.now S).rds hxj ?_
  refine st_store S (lt_ble rfl) fun _ S => ?_
  refine st_store S (lt_ble rfl) fun _ S => ?_
  exact rt_1 rfl (hw _ _ hx S)
theorem w_left {Q : Ex → List AV → H → Prop} {e : Nat} {sk ats ate : Bool} {x0 : KV} {fs : List (Nat × Int)} {r b q : Nat} {s : SlT} {u : BT KV r} (f : Tf tr iso F mn mx n b0 t h0 G0) (hu : Up F mn mx t fs r u q) (hF : F r b u) (hs : OwnL LFr s fs.reverse)
    (S : St h0 G0 [Ow a (itC tr sk ats ate s x0) 0, SlC s LFr.sz (LFr.flat fs.reverse)] h)
    (hw : ∀ h' fs' p' c', Pos F mn mx t fs' q → fs'.length ≤ c' → St h0 G0 [Ow a (itC tr sk ats ate (some p', fs'.length, c') x0) 0, Ow p' (LFr.flat fs'.reverse) ((c' - fs'.length) * LFr.sz)] h' → wp Try.prog (.done (.exit e) []) Q h') :
    wp Try.prog (.loop [.c (.ptr)] [.c (.ptr (some (b, 0)))] fun y10 =>
          .load (a.fst, a.snd + 5) (.sl) fun s11 =>
          .alloc ty_btree_mapIterStackItem_int_int [.ptr (y10.fst), .int .i64 (0)] fun n12 =>
          .append ty_btree_mapIterStackItem_int_int 2 16 [.ptr none, .int .i64 (0)] ((s11.fst), s11.snd.fst, s11.snd.snd) ((some (n12, 0)), 1, 1) fun s13 =>
          .store (a.fst, a.snd + 5) (.sl (s13.fst) (s13.snd.fst) (s13.snd.snd)) <|
          .call fn_ni_leaf [.c (.ptr (y10.fst))] false [.c (.bool)] fun r14 =>
          .ite (r14.fst)
          (.done (.exit e) [])
          (.load (a.fst, a.snd) (.ptr) fun q15 =>
            .nonnil (y10.fst) fun p16 =>
            .load (p16.fst, p16.snd + 3) (.ptr) fun q17 =>
            .nonnil (q17) fun p18 =>
            .load p18 (.sl) fun s19 =>
            .nonnil (s19.fst) fun p20 =>
            .guard (((0 : Int) ≤ 0) ∧ ((0 : Int) < (↑s19.snd.fst : Int))) <|
            .load (a.fst, a.snd + 1) (.bool) fun b21 =>
            .call fn_mi_isoLoad [.c (.ptr (q15)), .c (.addr (p20.fst, p20.snd)), .c (.bool (b21))] false [.c (.ptr)] fun r22 =>
            .done .normal [.c (.ptr (r22.fst))])) Q h := by
  refine w_lp (fun r y h' => ∃ (b : Nat) (u : BT KV r) (fs : List (Nat × Int)) (s : SlT), y = (some (b, 0), ()) ∧ Up F mn mx t fs r u q ∧ F r b u ∧ OwnL LFr s fs.reverse ∧
    St h0 G0 [Ow a (itC tr sk ats ate s x0) 0, SlC s LFr.sz (LFr.flat fs.reverse)] h') r rfl ⟨b, u, fs, s, rfl, hu, hF, hs, S⟩ ?_
  clear S hu hF hs
  rintro r _ _ ⟨b, u, fs, ⟨s1, s2, s3⟩, rfl, hu, hF, hs, S⟩
  have hfl : fs.reverse.length = fs.length := List.length_reverse
  have hlen := hu.len
  have hn := f.hgt
  obtain ⟨hv, hi⟩ := hu.val f.val f.one f.its
  obtain ⟨pi, ci, kp, hci, hkp, b0, _, b2, b3, br⟩ := (f.fw.nd r b u hF).nd
  refine ld_sl S s1 s2 s3 rfl ?_
  refine st_alloc S fun n12 _ S => ?_
  refine st_apo (L := LFr) (xs := fs.reverse) (y := (b, 0)) S hs rfl rfl (S.rsl (LFr.flat [(b, 0)]) 1 1 2 (fun i v h => by rw [Nat.zero_add]; exact h) rfl) ⟨by omega, by omega⟩ fun s' _ hs' S => ?_
  have er : fs.reverse ++ [(b, (0 : Int))] = ((b, (0 : Int)) :: fs).reverse := by rw [List.reverse_cons]
  rw [er] at S hs'
  refine st_store S (lt_ble rfl) fun _ S => ?_
  have S : St h0 G0 [Ow a (itC tr sk ats ate s' x0) 0, SlC s' LFr.sz (LFr.flat ((b, (0 : Int)) :: fs).reverse)] _ := S.only [.ow a, .sl s']
  refine w_callT (c_leafp (kp := kp) (b3.now S).rd) ?_
  rintro _ _ ⟨rfl, rfl⟩
  cases r with
  | zero =>
    obtain ⟨p', c', hc', S⟩ := it_top S hs' (by simp)
    refine w_true hkp (ln_e (hw _ ((b, (0 : Int)) :: fs) p' c' ?_ hc' S))
    exact ⟨b, 0, fs, 0, u, q, rfl, hu, hF, hi, rfl⟩
  | succ r =>
    obtain ⟨hb, qq, cc, k1, k2, k3⟩ := f.fw.kd r b u hF
    have hl : u.2.length = u.1.length + 1 := hv.2.1
    obtain ⟨v, hv0⟩ : ∃ v, u.2[0]? = some v := ⟨_, List.getElem?_eq_getElem (by omega)⟩
    obtain ⟨kid, g1, g2⟩ := k3 0 v hv0
    refine w_false hkp ?_
    refine ld_some S rfl (w_nonnil (w_ptr (some (hb, 0)) (k1.now S).rd (w_nonnil (w_sl (some qq, u.2.length, cc) (k2.now S).rd (w_nonnil (w_guard ⟨by omega, by show (0 : Int) < (u.2.length : Int); omega⟩ (ld_bool S rfl ?_)))))))
    obtain ⟨_, _, _, _, _, i0, _⟩ := (f.fw.nd r kid v g2).nd
    refine w_callV (args' := [.c (.addr tr), .c (.addr (qq.1, qq.2)), .c (.bool false)]) rfl (c_isoLoad (b := kid) (by have := (g1.now S).rd; simpa using this) (i0.now S).rd (f.iso.now S).rd) ?_
    rintro _ _ ⟨rfl, rfl⟩
    refine ln_n rfl r ⟨kid, v, (b, (0 : Int)) :: fs, s', rfl, ?_, g2, hs', S⟩ (by omega)
    exact ⟨u, 0, q, rfl, hv0, by rw [ah_zero]; rfl, hF, hv, hi, hu⟩
theorem w_right {Q : Ex → List AV → H → Prop} {e : Nat} {sk ats ate : Bool} {x0 : KV} {fs : List (Nat × Int)} {r b q off : Nat} {s : SlT} {u : BT KV r} (f : Tf tr iso F mn mx n b0 t h0 G0) (hu : Up F mn mx t fs r u off) (hq : q + 1 = off + (flatB r u).length) (hF : F r b u) (hs : OwnL LFr s fs.reverse)
    (S : St h0 G0 [Ow a (itC tr sk ats ate s x0) 0, SlC s LFr.sz (LFr.flat fs.reverse)] h)
    (hw : ∀ h' fs' p' c', Pos F mn mx t fs' q → fs'.length ≤ c' → St h0 G0 [Ow a (itC tr sk ats ate (some p', fs'.length, c') x0) 0, Ow p' (LFr.flat fs'.reverse) ((c' - fs'.length) * LFr.sz)] h' → wp Try.prog (.done (.exit e) []) Q h') :
    wp Try.prog (.loop [.c (.ptr)] [.c (.ptr (some (b, 0)))] fun y10 =>
          .load (a.fst, a.snd + 5) (.sl) fun s11 =>
          .nonnil (y10.fst) fun p12 =>
          .load (p12.fst, p12.snd + 2) (.sl) fun s13 =>
          .alloc ty_btree_mapIterStackItem_int_int [.ptr (y10.fst), .int .i64 ((↑s13.snd.fst : Int))] fun n14 =>
          .held (a.fst, a.snd + 5) (.sl (s11.fst) (s11.snd.fst) (s11.snd.snd)) <|
          .append ty_btree_mapIterStackItem_int_int 2 16 [.ptr none, .int .i64 (0)] ((s11.fst), s11.snd.fst, s11.snd.snd) ((some (n14, 0)), 1, 1) fun s15 =>
          .store (a.fst, a.snd + 5) (.sl (s15.fst) (s15.snd.fst) (s15.snd.snd)) <|
          .call fn_ni_leaf [.c (.ptr (y10.fst))] false [.c (.bool)] fun r16 =>
          .ite (r16.fst)
          (.load (a.fst, a.snd + 5) (.sl) fun s17 =>
            .load (a.fst, a.snd + 5) (.sl) fun s18 =>
            .guard (InK IntKind.i64 ((↑s18.snd.fst : Int) - 1)) <|
            .nonnil (s17.fst) fun p19 =>
            .guard (((0 : Int) ≤ (↑s18.snd.fst : Int) - 1) ∧ (((↑s18.snd.fst : Int) - 1 : Int) < (↑s17.snd.fst : Int))) <|
            .load (p19.fst, p19.snd + mulN ((↑s18.snd.fst : Int) - 1).toNat 2 + 1) (.int .i64) fun i20 =>
            .guard (InK IntKind.i64 (i20 - 1)) <|
            .nonnil (s17.fst) fun p21 =>
            .guard (((0 : Int) ≤ (↑s18.snd.fst : Int) - 1) ∧ (((↑s18.snd.fst : Int) - 1 : Int) < (↑s17.snd.fst : Int))) <|
            .store (p21.fst, p21.snd + mulN ((↑s18.snd.fst : Int) - 1).toNat 2 + 1) (.int .i64 (i20 - 1)) <|
            .done (.exit e) [])
          (.load (a.fst, a.snd) (.ptr) fun q22 =>
            .nonnil (y10.fst) fun p23 =>
            .load (p23.fst, p23.snd + 3) (.ptr) fun q24 =>
            .nonnil (q24) fun p25 =>
            .load p25 (.sl) fun s26 =>
            .nonnil (y10.fst) fun p27 =>
            .load (p27.fst, p27.snd + 2) (.sl) fun s28 =>
            .nonnil (s26.fst) fun p29 =>
            .guard (((0 : Int) ≤ (↑s28.snd.fst : Int)) ∧ (((↑s28.snd.fst : Int) : Int) < (↑s26.snd.fst : Int))) <|
            .load (a.fst, a.snd + 1) (.bool) fun b30 =>
            .call fn_mi_isoLoad [.c (.ptr (q22)), .c (.addr (p29.fst, p29.snd + (↑s28.snd.fst : Int).toNat)), .c (.bool (b30))] false [.c (.ptr)] fun r31 =>
            .done .normal [.c (.ptr (r31.fst))])) Q h := by
  refine w_lp (fun r y h' => ∃ (b : Nat) (u : BT KV r) (fs : List (Nat × Int)) (s : SlT) (off : Nat), y = (some (b, 0), ()) ∧ Up F mn mx t fs r u off ∧ q + 1 = off + (flatB r u).length ∧ F r b u ∧ OwnL LFr s fs.reverse ∧
    St h0 G0 [Ow a (itC tr sk ats ate s x0) 0, SlC s LFr.sz (LFr.flat fs.reverse)] h') r rfl ⟨b, u, fs, s, off, rfl, hu, hq, hF, hs, S⟩ ?_
  clear S hu hF hs hq
  rintro r _ _ ⟨b, u, fs, ⟨s1, s2, s3⟩, off, rfl, hu, hq, hF, hs, S⟩
  have hfl : fs.reverse.length = fs.length := List.length_reverse
  have hlen := hu.len
  have hn := f.hgt
  have hmx := f.big
  obtain ⟨hv, hi⟩ := hu.val f.val f.one f.its
  have hil := Val.items hv
  obtain ⟨pi, ci, kp, hci, hkp, b0, _, b2, b3, br⟩ := (f.fw.nd r b u hF).nd
  refine ld_sl S s1 s2 s3 rfl (w_nonnil (w_sl (some pi, (itemsB r u).length, ci) (b2.now S).rd ?_))
  refine st_alloc S fun n12 _ S => ?_
  refine st_held S rfl ?_
  refine st_apo (L := LFr) (xs := fs.reverse) (y := (b, ((itemsB r u).length : Int))) S hs rfl rfl (S.rsl (LFr.flat [(b, ((itemsB r u).length : Int))]) 1 1 2 (fun i v h => by rw [Nat.zero_add]; exact h) rfl) ⟨by omega, by omega⟩ fun s' _ hs' S => ?_
  have er : fs.reverse ++ [(b, ((itemsB r u).length : Int))] = ((b, ((itemsB r u).length : Int)) :: fs).reverse := by rw [List.reverse_cons]
  rw [er] at S hs'
  refine st_store S (lt_ble rfl) fun _ S => ?_
  have S : St h0 G0 [Ow a (itC tr sk ats ate s' x0) 0, SlC s' LFr.sz (LFr.flat ((b, ((itemsB r u).length : Int)) :: fs).reverse)] _ := S.only [.ow a, .sl s']
  refine w_callT (c_leafp (kp := kp) (b3.now S).rd) ?_
  rintro _ _ ⟨rfl, rfl⟩
  cases r with
  | zero =>
    obtain ⟨p', c', hc', S⟩ := it_top S hs' (by simp)
    have htop := rev_get (b, ((itemsB 0 u).length : Int)) fs
    refine w_true hkp ?_
    refine ld_sls S rfl (ld_sls S rfl (w_guard (inK64 (by simp <;> omega) (by simp <;> omega)) (w_nonnil (w_guard ⟨by simp <;> omega, by simp <;> omega⟩ ?_))))
    dsimp only
    rw [toNat_pred]
    refine w_fi (frs S.pull1) htop (w_guard (inK64 (by dsimp only; omega) (by dsimp only; omega)) (w_nonnil (w_guard ⟨by simp <;> omega, by simp <;> omega⟩ ?_)))
    refine st_fi S htop fun _ S => ?_
    rw [rev_set] at S
    dsimp only at S
    refine ln_e (hw _ ((b, ((itemsB 0 u).length : Int) - 1) :: fs) p' c' ?_ hc' S)
    have hfl : flatB 0 u = itemsB 0 u := rfl
    rw [hfl] at hq
    exact ⟨b, (itemsB 0 u).length - 1, fs, 0, u, off, by rw [show (((itemsB 0 u).length - 1 : Nat) : Int) = ((itemsB 0 u).length : Int) - 1 by omega], hu, hF, by omega, by show q + 1 = off + ((itemsB 0 u).length - 1 + 1); omega⟩
  | succ r =>
    obtain ⟨hb, qq, cc, k1, k2, k3⟩ := f.fw.kd r b u hF
    have hl : u.2.length = u.1.length + 1 := hv.2.1
    have hi : 1 ≤ u.1.length := hi
    have hie : (itemsB (r + 1) u).length = u.1.length := rfl
    rw [hie] at b2 S
    obtain ⟨v, hv0⟩ : ∃ v, u.2[u.1.length]? = some v := ⟨_, List.getElem?_eq_getElem (by omega)⟩
    obtain ⟨kid, g1, g2⟩ := k3 u.1.length v hv0
    have hbl := bef_last hv hv0
    refine w_false hkp ?_
    refine ld_some S rfl (w_nonnil (w_ptr (some (hb, 0)) (k1.now S).rd (w_nonnil (w_sl (some qq, u.2.length, cc) (k2.now S).rd (w_nonnil (w_sl (some pi, u.1.length, ci) (b2.now S).rd (w_nonnil (w_guard ⟨by show (0 : Int) ≤ (u.1.length : Int); omega, by show (u.1.length : Int) < (u.2.length : Int); omega⟩ (ld_bool S rfl ?_)))))))))
    obtain ⟨_, _, _, _, _, i0, _⟩ := (f.fw.nd r kid v g2).nd
    dsimp only
    rw [Int.toNat_natCast]
    refine w_callV (args' := [.c (.addr tr), .c (.addr (qq.1, qq.2 + u.1.length)), .c (.bool false)]) rfl (c_isoLoad (b := kid) (g1.now S).rd (i0.now S).rd (f.iso.now S).rd) ?_
    rintro _ _ ⟨rfl, rfl⟩
    refine ln_n rfl r ⟨kid, v, (b, (u.1.length : Int)) :: fs, s', off + (ahead u.1 u.2 u.1.length).length, rfl, ?_, by omega, g2, hs', S⟩ (by omega)
    exact ⟨u, u.1.length, off, rfl, hv0, rfl, hF, hv, hi, hu⟩
end
end Go.Proofs.Ytlmiafbcgfegpaa.MI
