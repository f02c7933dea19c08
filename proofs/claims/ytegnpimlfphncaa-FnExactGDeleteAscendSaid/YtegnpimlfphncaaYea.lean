/-
  The tree of items: a node with all that lies around it. Conditions: none.
-/
import Derived.Test.YtegnpimlfphncaaYdf
import Derived.Test.YtegnpimlfphncaaYhs
import Derived.Test.YtegnpimlfphncaaWu
set_option linter.unusedVariables false
set_option linter.unusedSimpArgs false
set_option linter.unusedSectionVars false
set_option maxRecDepth 100000
namespace Go.Proofs.Ytegnpimlfphncaa.TG
open Go Go.Proofs.Ytegnpimlfphncaa
structure Fm (r : Nat) where
  b : Nat
  p : PA
  c : Nat
  hb : Nat
  q : PA
  d : Nat
  ka : List Nat
  kb : List Nat
  C : List KV
  D : List KV
  A : List (BT KV r)
  B : List (BT KV r)
def Fm.put {r : Nat} (x : Fm r) (u : BT KV r) : BT KV (r + 1) := (x.C ++ x.D, x.A ++ u :: x.B)
def Fm.lf {r : Nat} (x : Fm r) : List KV := pre (x.A.map (flatB r)) x.C
def Fm.rg {r : Nat} (x : Fm r) : List KV := post x.D (x.B.map (flatB r))
structure Fm.Ok {r : Nat} (mn mx : Nat) (x : Fm r) : Prop where
  cl : (x.C ++ x.D).length ≤ x.c
  dl : x.ka.length + 1 + x.kb.length ≤ x.d
  la : x.ka.length = x.A.length
  lb : x.kb.length = x.B.length
  ac : x.A.length = x.C.length
  bd : x.B.length = x.D.length
  one : 1 ≤ (x.C ++ x.D).length
  xm : (x.C ++ x.D).length ≤ mx
  kv : ∀ k ∈ x.A ++ x.B, Val mn mx r k ∧ mn ≤ (itemsB r k).length
theorem Fm.Ok.flat {r mn mx : Nat} {x : Fm r} (o : x.Ok mn mx) (u : BT KV r) : flatB (r + 1) (x.put u) = x.lf ++ (flatB r u ++ x.rg) := by
  show weave (x.C ++ x.D) ((x.A ++ u :: x.B).map (flatB r)) = _
  rw [List.map_append, List.map_cons]
  exact weave_split _ _ _ _ _ (by rw [List.length_map]; exact o.ac)
theorem Fm.Ok.val {r mn mx : Nat} {x : Fm r} (o : x.Ok mn mx) {u : BT KV r} (hu : Val mn mx r u) (hm : mn ≤ (itemsB r u).length) : Val mn mx (r + 1) (x.put u) := by
  refine ⟨o.xm, ?_, fun k hk => ?_⟩
  · have h1 := o.ac; have h2 := o.bd
    show (x.A ++ u :: x.B).length = (x.C ++ x.D).length + 1
    simp; omega
  · have hk : k ∈ x.A ++ u :: x.B := hk
    rcases List.mem_append.1 hk with hk | hk
    · exact o.kv k (List.mem_append.2 (.inl hk))
    · rcases List.mem_cons.1 hk with rfl | hk
      · exact ⟨hu, hm⟩
      · exact o.kv k (List.mem_append.2 (.inr hk))
inductive Zp (n : Nat) : Nat → Type
  | top : Zp n n
  | dn {r : Nat} (z : Zp n (r + 1)) (x : Fm r) : Zp n r
abbrev En := Nat × Nat × SlT × Option PA
def enC (iso : Int) (e : En) : Ck := Ow (e.1, 0) (nodeC iso e.2.1 e.2.2.1 e.2.2.2) 0
namespace Zp
variable {n : Nat}
def put : {r : Nat} → Zp n r → BT KV r → BT KV n
  | _, .top, u => u
  | _, .dn z x, u => put z (x.put u)
def lf : {r : Nat} → Zp n r → List KV
  | _, .top => []
  | _, .dn z x => lf z ++ x.lf
def rg : {r : Nat} → Zp n r → List KV
  | _, .top => []
  | _, .dn z x => x.rg ++ rg z
def tp : {r : Nat} → Zp n r → Bool
  | _, .top => true
  | _, .dn _ _ => false
def Ok (b0 mn mx : Nat) : {r : Nat} → Zp n r → Nat → Prop
  | _, .top, b => b = b0
  | _, .dn z x, _ => Ok b0 mn mx z x.b ∧ x.Ok mn mx ∧ (z.tp = false → mn ≤ (x.C ++ x.D).length)
def stk : {r : Nat} → Zp n r → Nat → List (Nat × Int)
  | _, .top, b => [(b, 0)]
  | _, .dn z x, b => stk z x.b ++ [(b, (x.A.length : Int))]
def sp : {r : Nat} → Zp n r → Nat → List En
  | _, .top, _ => []
  | _, .dn z x, m => sp z (x.lf.length + (m + x.rg.length)) ++ [(x.b, x.lf.length + (m + x.rg.length), (some x.p, (x.C ++ x.D).length, x.c), some (x.hb, 0))]
def rs (iso : Int) : {r : Nat} → Zp n r → Nat → List Ck
  | _, .top, _ => []
  | r, .dn z x, b => [Ow x.p (L.flat (x.C ++ x.D)) ((x.c - (x.C ++ x.D).length) * L.sz), Ow (x.hb, 0) (hdC (some x.q, x.ka.length + 1 + x.kb.length, x.d)) 0, Ow x.q (LK.flat ((x.ka ++ b :: x.kb).map some)) ((x.d - (x.ka.length + 1 + x.kb.length)) * LK.sz),
      FoC L iso r x.kb x.B, FoC L iso r x.ka x.A] ++ rs iso z x.b
theorem len : {r : Nat} → (z : Zp n r) → (b : Nat) → (z.stk b).length + r = n + 1
  | _, .top, b => by show 1 + n = n + 1; omega
  | r, .dn z x, b => by
    have := len z x.b
    show (stk z x.b ++ [(b, (x.A.length : Int))]).length + r = n + 1
    simp; omega
theorem ids : {r : Nat} → (z : Zp n r) → (b m : Nat) → (z.stk b).map (fun f : Nat × Int => f.1) = (z.sp m).map (fun e : En => e.1) ++ [b]
  | _, .top, b, m => rfl
  | r, .dn z x, b, m => by
    show (stk z x.b ++ [(b, (x.A.length : Int))]).map (fun f : Nat × Int => f.1) = (sp z _ ++ [_]).map (fun e : En => e.1) ++ [b]
    rw [List.map_append, List.map_append, ids z x.b (x.lf.length + (m + x.rg.length))]; rfl
theorem flat {b0 mn mx : Nat} : {r : Nat} → {z : Zp n r} → {b : Nat} → z.Ok b0 mn mx b → (u : BT KV r) → flatB n (z.put u) = z.lf ++ (flatB r u ++ z.rg)
  | _, .top, b, _, u => by show flatB n u = [] ++ (flatB n u ++ []); simp
  | r, .dn z x, b, ⟨h1, h2, h3⟩, u => by
    show flatB n (z.put (x.put u)) = (z.lf ++ x.lf) ++ (flatB r u ++ (x.rg ++ z.rg))
    rw [flat h1, h2.flat]; simp
theorem val {b0 mn mx : Nat} : {r : Nat} → {z : Zp n r} → {b : Nat} → z.Ok b0 mn mx b → {u : BT KV r} → Val mn mx r u → (z.tp = false → mn ≤ (itemsB r u).length) → Val mn mx n (z.put u)
  | _, .top, b, _, u, hu, _ => hu
  | r, .dn z x, b, ⟨h1, h2, h3⟩, u, hu, hm => val (z := z) h1 (h2.val hu (hm rfl)) h3
theorem its {b0 mn mx : Nat} : {r : Nat} → {z : Zp n r} → {b : Nat} → z.Ok b0 mn mx b → {u : BT KV r} → 1 ≤ (itemsB r u).length → 1 ≤ (itemsB n (z.put u)).length
  | _, .top, b, _, u, hu => hu
  | r, .dn z x, b, ⟨h1, h2, h3⟩, u, hu => its (z := z) h1 (u := x.put u) h2.one
theorem cnts : {r : Nat} → (z : Zp n r) → (m : Nat) → ∀ e ∈ z.sp m, m ≤ e.2.1 ∧ e.2.1 ≤ z.lf.length + (m + z.rg.length)
  | _, .top, m, e, h => by cases h
  | r, .dn z x, m, e, h => by
    have h : e ∈ sp z (x.lf.length + (m + x.rg.length)) ++ [(x.b, x.lf.length + (m + x.rg.length), (some x.p, (x.C ++ x.D).length, x.c), some (x.hb, 0))] := h
    have e1 : (lf (.dn z x)).length = z.lf.length + x.lf.length := by show (z.lf ++ x.lf).length = _; simp
    have e2 : (rg (.dn z x)).length = x.rg.length + z.rg.length := by show (x.rg ++ z.rg).length = _; simp
    rw [e1, e2]
    rcases List.mem_append.1 h with h | h
    · have := cnts z _ e h
      omega
    · simp only [List.mem_cons, List.not_mem_nil, or_false] at h
      subst h
      dsimp only
      omega
end Zp
def dcE (k : Nat) (e : En) : En := (e.1, e.2.1 - k, e.2.2)
theorem Zp.spd {n : Nat} (k : Nat) : {r : Nat} → (z : Zp n r) → (m : Nat) → k ≤ m → (z.sp m).map (dcE k) = z.sp (m - k)
  | _, .top, m, h => rfl
  | r, .dn z x, m, h => by
    show (sp z _ ++ [_]).map (dcE k) = sp z _ ++ [_]
    rw [List.map_append, Zp.spd k z _ (by omega)]
    have e : x.lf.length + (m + x.rg.length) - k = x.lf.length + (m - k + x.rg.length) := by omega
    rw [e]
    simp only [List.map_cons, List.map_nil, dcE, e]
def ZsC {n r : Nat} (iso : Int) (z : Zp n r) (m : Nat) : Ck := StC ((z.sp m).map (enC iso))
def ZrC {n r : Nat} (iso : Int) (z : Zp n r) (b : Nat) : Ck := StC (z.rs iso b)
instance pk_zs {n r m : Nat} {iso : Int} {z : Zp n r} {l : List Ck} : Pk (.kd none) (ZsC iso z m :: l) (ZsC iso z m) l := ⟨.refl _⟩
instance pk_zr {n r b : Nat} {iso : Int} {z : Zp n r} {l : List Ck} : Pk (.fo []) (ZrC iso z b :: l) (ZrC iso z b) l := ⟨.refl _⟩
section
variable {h h0 : H} {G0 : PA → Prop} {l A B : List Ck}
theorem st_spl (s : St h0 G0 (StC (A ++ B) :: l) h) : St h0 G0 (StC A :: StC B :: l) h := by
  have s := s.st_out
  rw [List.append_assoc] at s
  have s := St.st_in (m := A) s
  exact (St.st_in (m := B) (s.perm List.perm_middle.symm)).pull1
theorem st_joi (s : St h0 G0 (StC A :: StC B :: l) h) : St h0 G0 (StC (A ++ B) :: l) h := by
  have s := (s.pull1.st_out).perm List.perm_middle
  have s := s.st_out
  rw [← List.append_assoc] at s
  exact St.st_in (m := A ++ B) s
theorem st_one {c : Ck} (s : St h0 G0 (StC [c] :: l) h) : St h0 G0 (c :: l) h := s.st_out
theorem st_eno {c : Ck} (s : St h0 G0 (c :: l) h) : St h0 G0 (StC [c] :: l) h := St.st_in (m := [c]) s
theorem st_mid {c : Ck} (s : St h0 G0 (StC (A ++ c :: B) :: l) h) : St h0 G0 (c :: StC (A ++ B) :: l) h := by
  have s := s.st_out
  rw [List.append_assoc] at s
  have s := s.perm (l := A ++ (c :: B ++ l)) (m := c :: ((A ++ B) ++ l)) (by rw [List.append_assoc]; exact List.perm_middle)
  exact (St.st_in (m := A ++ B) (s.perm List.perm_middle.symm)).pull1
theorem st_dim {c : Ck} (s : St h0 G0 (c :: StC (A ++ B) :: l) h) : St h0 G0 (StC (A ++ c :: B) :: l) h := by
  have s := (s.pull1.st_out).perm List.perm_middle
  have s := s.perm (l := c :: ((A ++ B) ++ l)) (m := A ++ (c :: B ++ l)) (by rw [List.append_assoc]; exact List.perm_middle.symm)
  rw [← List.append_assoc] at s
  exact St.st_in (m := A ++ c :: B) s
end
section
variable {h h0 : H} {G0 : PA → Prop} {l : List Ck} {iso : Int} {n b0 mn mx : Nat}
theorem zp_up {r b m : Nat} {z : Zp n (r + 1)} {x : Fm r} {u : BT KV r} (o : x.Ok mn mx) (hm : m = (flatB r u).length) (s : St h0 G0 (TrC L iso r b u :: ZsC iso (.dn z x) m :: ZrC iso (.dn z x) b :: l) h) :
    St h0 G0 (TrC L iso (r + 1) x.b (x.put u) :: ZsC iso z (flatB (r + 1) (x.put u)).length :: ZrC iso z x.b :: l) h := by
  have hfl : (flatB (r + 1) (x.put u)).length = x.lf.length + (m + x.rg.length) := by rw [o.flat, hm]; simp
  rw [hfl]
  have e1 : ZsC iso (.dn z x) m = StC ((z.sp (x.lf.length + (m + x.rg.length))).map (enC iso) ++ [enC iso (x.b, x.lf.length + (m + x.rg.length), (some x.p, (x.C ++ x.D).length, x.c), some (x.hb, 0))]) := by
    show StC ((z.sp _ ++ [_]).map (enC iso)) = _
    rw [List.map_append]; rfl
  rw [e1] at s
  have s := (st_one (st_spl s.pull1).pull1)
  -- own :: spine :: tree :: rest :: l
  have s := s.pull3
  have s := st_spl (A := [Ow x.p (L.flat (x.C ++ x.D)) ((x.c - (x.C ++ x.D).length) * L.sz), Ow (x.hb, 0) (hdC (some x.q, x.ka.length + 1 + x.kb.length, x.d)) 0, Ow x.q (LK.flat ((x.ka ++ b :: x.kb).map some)) ((x.d - (x.ka.length + 1 + x.kb.length)) * LK.sz), FoC L iso r x.kb x.B, FoC L iso r x.ka x.A]) s
  have s := s.st_out
  have s : St h0 G0 (Ow x.p (L.flat (x.C ++ x.D)) ((x.c - (x.C ++ x.D).length) * L.sz) :: Ow (x.hb, 0) (hdC (some x.q, x.ka.length + 1 + x.kb.length, x.d)) 0 :: Ow x.q (LK.flat ((x.ka ++ b :: x.kb).map some)) ((x.d - (x.ka.length + 1 + x.kb.length)) * LK.sz) :: FoC L iso r x.kb x.B :: FoC L iso r x.ka x.A ::
    StC (z.rs iso x.b) :: Ow (x.b, 0) (nodeC iso (x.lf.length + (m + x.rg.length)) (some x.p, (x.C ++ x.D).length, x.c) (some (x.hb, 0))) 0 :: StC ((z.sp (x.lf.length + (m + x.rg.length))).map (enC iso)) :: TrC L iso r b u :: l) h := s
  have s := s.pull8.pull4.pull1
  have s := fo_cons L iso s
  have s := fo_app L iso (s.pull4)
  have s := s.ats [.ow (x.b, 0), .ow x.p, .ow (x.hb, 0), .ow x.q, .fo (x.ka ++ b :: x.kb)]
  have hcd := o.dl
  have s := shut_node L iso (xs := x.C ++ x.D) (ts := x.A ++ u :: x.B) s rfl rfl rfl (LK_flat _) rfl (by simp; omega) (by rw [← hfl]; rfl) o.cl rfl hcd (Nat.mul_one _)
  exact s.pull2.pull1
theorem zp_all : ∀ {r : Nat} {z : Zp n r} {b m : Nat} {u : BT KV r}, z.Ok b0 mn mx b → m = (flatB r u).length → St h0 G0 (TrC L iso r b u :: ZsC iso z m :: ZrC iso z b :: l) h → St h0 G0 (TrC L iso n b0 (z.put u) :: l) h
  | _, .top, b, m, u, ho, _, s => by
    have ho : b = b0 := ho
    subst ho
    have s := s.pull2.st_out
    have s : St h0 G0 (TrC L iso n b u :: StC [] :: l) h := s
    exact s.pull1.st_out
  | r, .dn z x, b, m, u, ho, hm, s => zp_all (z := z) (u := x.put u) ho.1 rfl (zp_up ho.2.1 hm s)
theorem zp_dn {r b i m m2 c d hb cnt k : Nat} {p q : PA} {ks : List Nat} {z : Zp n (r + 1)} {xs : List KV} {ts : List (BT KV r)} {u : BT KV r}
    (s : St h0 G0 (Ow (b, 0) (nodeC iso cnt (some p, m, c) (some (hb, 0))) 0 :: Ow p (L.flat xs) ((c - m) * L.sz) :: Ow (hb, 0) (hdC (some q, m2, d)) 0 :: Ow q (LK.flat (ks.map some)) ((d - m2) * LK.sz) :: TrC L iso r k u :: FoC L iso r (ks.drop (i + 1)) (ts.drop (i + 1)) :: FoC L iso r (ks.take i) (ts.take i) :: ZsC iso z cnt :: ZrC iso z b :: l) h)
    (hm : m = xs.length) (hm2 : m2 = ks.length) (hc : m ≤ c) (hd : m2 ≤ d) (hl : ks.length = ts.length) (hk : ks[i]? = some k) (hu : ts[i]? = some u) (hcnt : cnt = (flatB (r + 1) ((xs, ts) : BT KV (r + 1))).length) (hv : Val mn mx (r + 1) (xs, ts)) (h1 : 1 ≤ xs.length) :
    ∃ x : Fm r, x.Ok mn mx ∧ x.b = b ∧ x.put u = (xs, ts) ∧ x.C = xs.take i ∧ x.D = xs.drop i ∧ x.A = ts.take i ∧ x.B = ts.drop (i + 1) ∧
      St h0 G0 (TrC L iso r k u :: ZsC iso (.dn z x) (flatB r u).length :: ZrC iso (.dn z x) k :: l) h := by
  have hl2 : ts.length = xs.length + 1 := hv.2.1
  have hi2 := (List.getElem?_eq_some_iff.1 hu).1
  have hi : i ≤ xs.length := by omega
  obtain ⟨h3, h4⟩ := List.getElem?_eq_some_iff.1 hu
  obtain ⟨h5, h6⟩ := List.getElem?_eq_some_iff.1 hk
  have et : ts.take i ++ u :: ts.drop (i + 1) = ts := by rw [← h4, ← List.drop_eq_getElem_cons h3, List.take_append_drop]
  have ek : ks.take i ++ k :: ks.drop (i + 1) = ks := by rw [← h6, ← List.drop_eq_getElem_cons h5, List.take_append_drop]
  have ex : xs.take i ++ xs.drop i = xs := List.take_append_drop i xs
  have lk : (ks.take i).length + 1 + (ks.drop (i + 1)).length = ks.length := by simp; omega
  obtain ⟨x, rfl⟩ : ∃ x : Fm r, x = ⟨b, p, c, hb, q, d, ks.take i, ks.drop (i + 1), xs.take i, xs.drop i, ts.take i, ts.drop (i + 1)⟩ := ⟨_, rfl⟩
  have ho : Fm.Ok mn mx (⟨b, p, c, hb, q, d, ks.take i, ks.drop (i + 1), xs.take i, xs.drop i, ts.take i, ts.drop (i + 1)⟩ : Fm r) := by
    refine ⟨by show (xs.take i ++ xs.drop i).length ≤ c; rw [ex]; omega, by show (ks.take i).length + 1 + (ks.drop (i + 1)).length ≤ d; rw [lk]; omega, by simp; omega, by simp; omega, by simp; omega, by simp; omega, by show 1 ≤ (xs.take i ++ xs.drop i).length; rw [ex]; exact h1, by show (xs.take i ++ xs.drop i).length ≤ mx; rw [ex]; exact hv.1, fun w hw => ?_⟩
    have hw : w ∈ ts.take i ++ ts.drop (i + 1) := hw
    refine hv.2.2 w ?_
    rcases List.mem_append.1 hw with hw | hw
    · exact List.mem_of_mem_take hw
    · exact List.mem_of_mem_drop hw
  have hput : Fm.put (⟨b, p, c, hb, q, d, ks.take i, ks.drop (i + 1), xs.take i, xs.drop i, ts.take i, ts.drop (i + 1)⟩ : Fm r) u = (xs, ts) := by
    show ((xs.take i ++ xs.drop i, ts.take i ++ u :: ts.drop (i + 1)) : List KV × List (BT KV r)) = _
    rw [ex, et]
  refine ⟨_, ho, rfl, hput, rfl, rfl, rfl, rfl, ?_⟩
  have hfl := congrArg List.length (ho.flat u)
  rw [hput, ← hcnt] at hfl
  simp only [List.length_append] at hfl
  subst hm hm2
  have s := (s.at (.ow q)).re q (LK.flat ((ks.take i ++ k :: ks.drop (i + 1)).map some)) ((d - ((ks.take i).length + 1 + (ks.drop (i + 1)).length)) * LK.sz) rfl (by rw [ek]) (by rw [lk])
  have s := (s.at (.ow (hb, 0))).re (hb, 0) (hdC (some q, (ks.take i).length + 1 + (ks.drop (i + 1)).length, d)) 0 rfl (by rw [lk]) rfl
  have s := (s.at (.ow p)).re p (L.flat (xs.take i ++ xs.drop i)) ((c - (xs.take i ++ xs.drop i).length) * L.sz) rfl (by rw [ex]) (by rw [ex])
  have s := (s.at (.ow (b, 0))).re (b, 0) (nodeC iso cnt (some p, (xs.take i ++ xs.drop i).length, c) (some (hb, 0))) 0 rfl (by rw [ex]) rfl
  have s := s.ats [.ow (b, 0), .kd none, .ow p, .ow (hb, 0), .ow q, .fo (ks.drop (i + 1)), .fo (ks.take i), .fo [], .tr k]
  rw [hfl] at s
  have s := st_joi ((st_eno s).pull1)
  have s := s.perm (l := [_] ++ ([Ow p (L.flat (xs.take i ++ xs.drop i)) ((c - (xs.take i ++ xs.drop i).length) * L.sz), Ow (hb, 0) (hdC (some q, (ks.take i).length + 1 + (ks.drop (i + 1)).length, d)) 0, Ow q (LK.flat ((ks.take i ++ k :: ks.drop (i + 1)).map some)) ((d - ((ks.take i).length + 1 + (ks.drop (i + 1)).length)) * LK.sz), FoC L iso r (ks.drop (i + 1)) (ts.drop (i + 1)), FoC L iso r (ks.take i) (ts.take i)] ++ (ZrC iso z b :: TrC L iso r k u :: l)))
    (m := [Ow p (L.flat (xs.take i ++ xs.drop i)) ((c - (xs.take i ++ xs.drop i).length) * L.sz), Ow (hb, 0) (hdC (some q, (ks.take i).length + 1 + (ks.drop (i + 1)).length, d)) 0, Ow q (LK.flat ((ks.take i ++ k :: ks.drop (i + 1)).map some)) ((d - ((ks.take i).length + 1 + (ks.drop (i + 1)).length)) * LK.sz), FoC L iso r (ks.drop (i + 1)) (ts.drop (i + 1)), FoC L iso r (ks.take i) (ts.take i)] ++ ([_] ++ (ZrC iso z b :: TrC L iso r k u :: l))) (by
      rw [← List.append_assoc, ← List.append_assoc]
      exact List.perm_append_comm.append_right _)
  have s := St.st_in s
  have s := st_joi s.pull2.pull1
  have s := s.pull1.pull2
  have e1 : ∀ (x : Fm r) (m : Nat), ZsC iso (.dn z x) m = StC ((z.sp (x.lf.length + (m + x.rg.length))).map (enC iso) ++ [enC iso (x.b, x.lf.length + (m + x.rg.length), (some x.p, (x.C ++ x.D).length, x.c), some (x.hb, 0))]) := fun x m => by
    show StC ((z.sp _ ++ [_]).map (enC iso)) = _
    rw [List.map_append]; rfl
  rw [e1]
  exact s
end
end Go.Proofs.Ytegnpimlfphncaa.TG
