/-
  The tree of items: what DeleteAscend leaves; frames of a stack; counts lowered along it. Conditions: none.
-/
import Derived.Test.YtegnpimlfphncaaYea
import Derived.Test.YtegnpimlfphncaaYna
import Derived.Test.YtegnpimlfphncaaSp
import Derived.Test.YtegnpimlfphncaaVa
set_option linter.unusedVariables false
set_option linter.unusedSimpArgs false
set_option linter.unusedSectionVars false
set_option maxRecDepth 100000
namespace Go.Proofs.Ytegnpimlfphncaa
open Go
section
variable {I : Type} {go : List I → I → Int} {dn rm acc : List I} {x : I}
def das (go : List I → I → Int) : List I → List I → List I × List I
  | acc, [] => (acc, [])
  | acc, x :: xs => if go acc x = 2 then das go (acc ++ [x]) xs else if go acc x = 1 then ((das go (acc ++ [x]) xs).1, x :: (das go (acc ++ [x]) xs).2) else (acc ++ [x], x :: xs)
def Fn (go : List I → I → Int) (dn rm acc : List I) : List I × List I := ((das go acc rm).1, dn ++ (das go acc rm).2)
theorem das_del (h : go acc x = 2) : Fn go dn (x :: rm) acc = Fn go dn rm (acc ++ [x]) := by simp [Fn, das, h]
theorem das_keep (h : go acc x = 1) : Fn go dn (x :: rm) acc = Fn go (dn ++ [x]) rm (acc ++ [x]) := by simp [Fn, das, h]
theorem das_stop (h2 : go acc x ≠ 2) (h1 : go acc x ≠ 1) : Fn go dn (x :: rm) acc = (acc ++ [x], dn ++ x :: rm) := by simp [Fn, das, h1, h2]
theorem das_nil : Fn go dn [] acc = (acc, dn) := by simp [Fn, das]
def Cba (P : Program) (f : Value) (arg : I → List AV) (K : List I → Ck) (go : List I → I → Int) (mx : Nat) : Prop :=
  (∀ acc x, go acc x = 0 ∨ go acc x = 1 ∨ go acc x = 2) ∧
  ∀ (h : H) (G : PA → Prop) (acc : List I) (x : I), acc.length < mx → Star [K acc] h G → callOf P f ((arg x).map AV.val).toArray h (TR false [.c (.int .i64)] fun r h' => r = (go acc x, ()) ∧ St h G [K (acc ++ [x])] h')
section
variable {P : Program} {Q : Ex → List AV → H → Prop} {h h0 : H} {G0 : PA → Prop} {l : List Ck}
theorem st_cba {f : Value} {arg : I → List AV} {K : List I → Ck} {mx : Nat} {r : List Ck} (s : St h0 G0 (K acc :: r) h) (hcb : Cba P f arg K go mx) (x : I) (hl : acc.length < mx) {args : List AV} (ha : args.map AV.val = (arg x).map AV.val) {k : SV [.c (.int .i64)] → M}
    (hw : ∀ h', St h0 G0 (K (acc ++ [x]) :: r) h' → wp P (k (go acc x, ())) Q h') : wp P (.callv f args false [.c (.int .i64)] k) Q h := by
  obtain ⟨⟨G, h1, h2⟩, h3⟩ := s
  obtain ⟨A, B, a1, a2, a3, a4⟩ := Star.split (l := [K acc]) (m := r) h1
  have hc := hcb.2 h A acc x hl a1
  rw [← ha] at hc
  refine w_callOf hc fun v h' ⟨y, e, hy, hS⟩ => ?_
  subst hy
  refine ⟨(go acc x, ()), e, hw h' ?_⟩
  obtain ⟨⟨C, c1, c2⟩, c3⟩ := hS
  have hB := a2.lt
  refine ⟨⟨un C B, Star.append c1 (a2.out c3 a3.symm) (fun x hC hx => (c2 x hC).elim (fun hA => a3 x hA hx) (fun hs => Nat.not_le_of_lt (hB x hx) hs)), fun x hx => ?_⟩,
    h3.then c3 fun x hx hA => (h2 x ((a4 x).2 (.inl hA))).elim id (fun hs => absurd hx (Nat.not_lt_of_le hs))⟩
  rcases hx with hC | hB'
  · rcases c2 x hC with hA | hs
    · exact h2 x ((a4 x).2 (.inl hA))
    · exact .inr (Nat.le_trans h3.size hs)
  · exact h2 x ((a4 x).2 (.inr hB'))
end
end
end Go.Proofs.Ytegnpimlfphncaa
namespace Go.Proofs.Ytegnpimlfphncaa.TG
open Go Go.Proofs.Ytegnpimlfphncaa
def LFr : Lay (Nat × Int) where
  sz := 2
  cells f := [kptr f.1, .int .i64 f.2]
  len _ := rfl
  one _ v hv := by simp only [List.mem_cons, List.not_mem_nil, or_false] at hv; rcases hv with rfl | rfl <;> rfl
  pos := by decide
section
variable {h h0 : H} {G0 : PA → Prop} {l : List Ck} {Q : Ex → List AV → H → Prop}
theorem sl_none {s1 : Option PA} {s2 s3 sz : Nat} {vs : List Value} (s : St h0 G0 (SlC (s1, s2, s3) sz vs :: l) h) : St h0 G0 (SlC (s1, 0, s3) sz [] :: l) h := by
  refine s.turn (l := [_]) (l' := [_]) fun F hF => ?_
  obtain ⟨F1, F2, ⟨⟨h1, h2, h3⟩, e1⟩, e2, e3, e4⟩ := hF
  refine ⟨F1, F2, ⟨⟨by simp, Nat.zero_le _, ?_⟩, e1⟩, e2, e3, e4⟩
  rcases h3 with h3 | ⟨p, hp, ho⟩
  · exact .inl h3
  · have ho' : Own h p (([] : List Value) ++ vs) ((s3 - s2) * sz) := ho
    have hk : vs.length + (s3 - s2) * sz = (s3 - 0) * sz := by
      have h1 : vs.length = s2 * sz := h1
      have h2 : s2 ≤ s3 := h2
      rw [h1, ← Nat.add_mul]; congr 1; omega
    have := ho'.shrink
    rw [hk] at this
    exact .inr ⟨p, hp, this⟩
theorem w_fp {p : PA} {gs : List (Nat × Int)} (hr : rds h p (LFr.flat gs)) {i : Nat} {f : Nat × Int} (hf : gs[i]? = some f) {m : Option PA → M} (hw : wp Try.prog (m (some (f.1, 0))) Q h) : wp Try.prog (.load (p.1, p.2 + mulN i 2) .ptr m) Q h := by
  refine w_ptr (some (f.1, 0)) ?_ hw
  have := hr (i * 2 + 0) _ (LFr.flat_get (j := 0) hf rfl)
  rw [mulN_eq]; rw [Nat.add_zero] at this; exact this
theorem w_fi {p : PA} {gs : List (Nat × Int)} (hr : rds h p (LFr.flat gs)) {i : Nat} {f : Nat × Int} (hf : gs[i]? = some f) {m : Int → M} (hw : wp Try.prog (m f.2) Q h) : wp Try.prog (.load (p.1, p.2 + mulN i 2 + 1) (.int .i64) m) Q h := by
  refine w_int f.2 ?_ hw
  have := hr (i * 2 + 1) _ (LFr.flat_get (j := 1) hf rfl)
  rw [mulN_eq]; simpa [Nat.add_assoc] using this
theorem frs (s : St h0 G0 l h) {p : PA} {gs : List (Nat × Int)} {k : Nat} {l' : List Value → List Ck} [Fi l p (LFr.flat gs) 0 k l'] : rds h p (LFr.flat gs) := s.rds (a := p) (vs := LFr.flat gs) (j := 0) (LFr.flat gs) (fun i v h => by rw [Nat.zero_add]; exact h)
theorem Zp.last {n : Nat} : {r : Nat} → (z : Zp n r) → (b : Nat) → ∃ c gs, z.stk b = gs ++ [(b, c)]
  | _, .top, b => ⟨0, [], rfl⟩
  | _, .dn z x, b => ⟨_, _, rfl⟩
theorem w_dec {iso dl : Int} {e k N kk : Nat} {ps : PA} {gs : List (Nat × Int)} {fs : List En} (hdl : dl = (k : Int)) (hN : N = gs.length) (hid : gs.map (fun f : Nat × Int => f.1) = fs.map (fun e : En => e.1)) (hb : ∀ e ∈ fs, k ≤ e.2.1 ∧ e.2.1 ≤ 4294967296) (hN2 : N ≤ 4294967296)
    (S : St h0 G0 (StC (fs.map (enC iso)) :: Ow ps (LFr.flat gs) kk :: l) h)
    (hw : ∀ h', St h0 G0 (StC ((fs.map (dcE k)).map (enC iso)) :: Ow ps (LFr.flat gs) kk :: l) h' → wp Try.prog (.done (.exit e) []) Q h') :
    wp Try.prog (.loop [.c (.int .i64)] [.c (.int .i64 (0))] fun y95 =>
      .ite (decide (y95.fst < (↑N : Int)))
      (.nonnil (some ps) fun p96 =>
        .guard (((0 : Int) ≤ y95.fst) ∧ ((y95.fst : Int) < (↑N : Int))) <|
        .load (p96.fst, p96.snd + mulN (Int.toNat y95.fst) 2) (.ptr) fun q97 =>
        .nonnil (q97) fun p98 =>
        .load (p98.fst, p98.snd + 1) (.int .i64) fun i99 =>
        .guard (InK IntKind.i64 (i99 - dl)) <|
        .nonnil (q97) fun p100 =>
        .store (p100.fst, p100.snd + 1) (.int .i64 (i99 - dl)) <|
        .guard (InK IntKind.i64 (y95.fst + 1)) <|
        .done .normal [.c (.int .i64 (y95.fst + 1))])
      (.done (.exit e) [])) Q h := by
  have hfl : fs.length = gs.length := by have := congrArg List.length hid; simpa using this.symm
  refine w_lp (fun r y h' => ∃ i : Nat, y = ((i : Int), ()) ∧ i + r = N ∧ St h0 G0 (StC (((fs.take i).map (dcE k) ++ fs.drop i).map (enC iso)) :: Ow ps (LFr.flat gs) kk :: l) h') N rfl ⟨0, rfl, by omega, by simpa using S⟩ ?_
  clear S
  rintro r _ _ ⟨i, rfl, hi, S⟩
  by_cases hlt : i < N
  · have hgi := List.getElem?_eq_getElem (show i < gs.length by omega)
    have hil : i < fs.length := by omega
    have hfi := List.getElem?_eq_getElem hil
    have hid1 : gs[i].1 = fs[i].1 := by
      have := congrArg (fun l => l[i]?) hid
      simp only [List.getElem?_map, hgi, hfi, Option.map_some] at this
      exact Option.some.inj this
    obtain ⟨b1, b2⟩ := hb fs[i] (List.getElem_mem hil)
    rw [List.drop_eq_getElem_cons hil, List.map_append, List.map_cons] at S
    have S := st_mid S
    have S : St h0 G0 (Ow (fs[i].1, 0) (nodeC iso fs[i].2.1 fs[i].2.2.1 fs[i].2.2.2) 0 :: _) _ := S
    refine w_true (lt_t (by (first | omega | ((try dsimp only [Sh.T, Sh1.T]); omega)))) (w_nonnil (w_guard ⟨by (first | omega | ((try dsimp only [Sh.T, Sh1.T]); omega)), by (first | omega | ((try dsimp only [Sh.T, Sh1.T]); omega))⟩ ?_))
    dsimp only
    rw [Int.toNat_natCast]
    refine w_fp (frs S) hgi ?_
    rw [hid1]
    refine w_nonnil (ld_int S rfl (w_guard (inK64 (by (first | omega | ((try dsimp only [Sh.T, Sh1.T]); omega))) (by (first | omega | ((try dsimp only [Sh.T, Sh1.T]); omega)))) (w_nonnil ?_)))
    refine st_store S (lt_ble rfl) fun _ S => ?_
    have S := S.re (fs[i].1, 0) (nodeC iso (fs[i].2.1 - k) fs[i].2.2.1 fs[i].2.2.2) 0 rfl (nodeC_cnt (by omega)) rfl
    have S : St h0 G0 (enC iso (dcE k fs[i]) :: _) _ := S
    have S := st_dim S
    refine w_guard (inK64 (by (first | omega | ((try dsimp only [Sh.T, Sh1.T]); omega))) (by (first | omega | ((try dsimp only [Sh.T, Sh1.T]); omega)))) (ln_n rfl (r - 1) ⟨i + 1, rfl, by omega, ?_⟩ (by omega))
    rw [List.take_succ_eq_append_getElem hil, List.map_append, List.map_append, List.map_append]
    rw [List.append_assoc]
    exact S
  · rw [List.take_of_length_le (by omega), List.drop_eq_nil_of_le (by omega), List.append_nil] at S
    exact w_false (lt_f (by (first | omega | ((try dsimp only [Sh.T, Sh1.T]); omega)))) (ln_e (hw _ S))
theorem zp_in {iso : Int} {n r m b cnt : Nat} {z : Zp n r} {s : SlT} {kp : Option PA} (S : St h0 G0 (Ow (b, 0) (nodeC iso cnt s kp) 0 :: ZsC iso z m :: l) h) : St h0 G0 (StC ((z.sp m ++ [((b, cnt, s, kp) : En)]).map (enC iso)) :: l) h := by
  have S := st_joi ((st_eno S).pull1)
  rw [List.map_append]
  exact S
theorem zp_ou {iso : Int} {n r m b cnt : Nat} {z : Zp n r} {s : SlT} {kp : Option PA} (S : St h0 G0 (StC ((z.sp m ++ [((b, cnt, s, kp) : En)]).map (enC iso)) :: l) h) : St h0 G0 (Ow (b, 0) (nodeC iso cnt s kp) 0 :: ZsC iso z m :: l) h := by
  rw [List.map_append] at S
  exact st_one (st_spl S).pull1
end
end Go.Proofs.Ytegnpimlfphncaa.TG
