/-
  The tree of items: a leaf, and a node, as DeleteAscend goes through them. Conditions: none.
-/
import Derived.Test.YtegnpimlfphncaaYdf
import Derived.Test.YtegnpimlfphncaaYhs
import Derived.Test.YtegnpimlfphncaaWu
import Derived.Test.YtegnpimlfphncaaYna
import Derived.Test.YtegnpimlfphncaaSp
import Derived.Test.YtegnpimlfphncaaVa
set_option linter.unusedVariables false
set_option linter.unusedSimpArgs false
set_option linter.unusedSectionVars false
set_option maxRecDepth 100000
namespace Go.Proofs.Ytegnpimlfphncaa.TG
open Go Go.Proofs.Ytegnpimlfphncaa
structure Fm (r : Nat) where
  b : Nat
  p : PA
  c : Nat
  hb : Nat
  q : PA
  d : Nat
  ka : List Nat
  kb : List Nat
  C : List KV
  D : List KV
  A : List (BT KV r)
  B : List (BT KV r)
def Fm.put {r : Nat} (x : Fm r) (u : BT KV r) : BT KV (r + 1) := (x.C ++ x.D, x.A ++ u :: x.B)
def Fm.lf {r : Nat} (x : Fm r) : List KV := pre (x.A.map (flatB r)) x.C
def Fm.rg {r : Nat} (x : Fm r) : List KV := post x.D (x.B.map (flatB r))
structure Fm.Ok {r : Nat} (mn mx : Nat) (x : Fm r) : Prop where
  cl : (x.C ++ x.D).length ≤ x.c
  dl : x.ka.length + 1 + x.kb.length ≤ x.d
  la : x.ka.length = x.A.length
  lb : x.kb.length = x.B.length
  ac : x.A.length = x.C.length
  bd : x.B.length = x.D.length
  one : 1 ≤ (x.C ++ x.D).length
  xm : (x.C ++ x.D).length ≤ mx
  kv : ∀ k ∈ x.A ++ x.B, Val mn mx r k ∧ mn ≤ (itemsB r k).length
theorem Fm.Ok.flat {r mn mx : Nat} {x : Fm r} (o : x.Ok mn mx) (u : BT KV r) : flatB (r + 1) (x.put u) = x.lf ++ (flatB r u ++ x.rg) := by
  show weave (x.C ++ x.D) ((x.A ++ u :: x.B).map (flatB r)) = _
  rw [List.map_append, List.map_cons]
  exact weave_split _ _ _ _ _ (by rw [List.length_map]; exact o.ac)
theorem Fm.Ok.val {r mn mx : Nat} {x : Fm r} (o : x.Ok mn mx) {u : BT KV r} (hu : Val mn mx r u) (hm : mn ≤ (itemsB r u).length) : Val mn mx (r + 1) (x.put u) := by
  refine ⟨o.xm, ?_, fun k hk => ?_⟩
  · have h1 := o.ac; have h2 := o.bd
    show (x.A ++ u :: x.B).length = (x.C ++ x.D).length + 1
    simp; omega
  · have hk : k ∈ x.A ++ u :: x.B := hk
    rcases List.mem_append.1 hk with hk | hk
    · exact o.kv k (List.mem_append.2 (.inl hk))
    · rcases List.mem_cons.1 hk with rfl | hk
      · exact ⟨hu, hm⟩
      · exact o.kv k (List.mem_append.2 (.inr hk))
inductive Zp (n : Nat) : Nat → Type
  | top : Zp n n
  | dn {r : Nat} (z : Zp n (r + 1)) (x : Fm r) : Zp n r
abbrev En := Nat × Nat × SlT × Option PA
def enC (iso : Int) (e : En) : Ck := Ow (e.1, 0) (nodeC iso e.2.1 e.2.2.1 e.2.2.2) 0
namespace Zp
variable {n : Nat}
def put : {r : Nat} → Zp n r → BT KV r → BT KV n
  | _, .top, u => u
  | _, .dn z x, u => put z (x.put u)
def lf : {r : Nat} → Zp n r → List KV
  | _, .top => []
  | _, .dn z x => lf z ++ x.lf
def rg : {r : Nat} → Zp n r → List KV
  | _, .top => []
  | _, .dn z x => x.rg ++ rg z
def tp : {r : Nat} → Zp n r → Bool
  | _, .top => true
  | _, .dn _ _ => false
def Ok (b0 mn mx : Nat) : {r : Nat} → Zp n r → Nat → Prop
  | _, .top, b => b = b0
  | _, .dn z x, _ => Ok b0 mn mx z x.b ∧ x.Ok mn mx ∧ (z.tp = false → mn ≤ (x.C ++ x.D).length)
def stk : {r : Nat} → Zp n r → Nat → List (Nat × Int)
  | _, .top, b => [(b, 0)]
  | _, .dn z x, b => stk z x.b ++ [(b, (x.A.length : Int))]
def sp : {r : Nat} → Zp n r → Nat → List En
  | _, .top, _ => []
  | _, .dn z x, m => sp z (x.lf.length + (m + x.rg.length)) ++ [(x.b, x.lf.length + (m + x.rg.length), (some x.p, (x.C ++ x.D).length, x.c), some (x.hb, 0))]
def rs (iso : Int) : {r : Nat} → Zp n r → Nat → List Ck
  | _, .top, _ => []
  | r, .dn z x, b => [Ow x.p (L.flat (x.C ++ x.D)) ((x.c - (x.C ++ x.D).length) * L.sz), Ow (x.hb, 0) (hdC (some x.q, x.ka.length + 1 + x.kb.length, x.d)) 0, Ow x.q (LK.flat ((x.ka ++ b :: x.kb).map some)) ((x.d - (x.ka.length + 1 + x.kb.length)) * LK.sz),
      FoC L iso r x.kb x.B, FoC L iso r x.ka x.A] ++ rs iso z x.b
theorem len : {r : Nat} → (z : Zp n r) → (b : Nat) → (z.stk b).length + r = n + 1
  | _, .top, b => by show 1 + n = n + 1; omega
  | r, .dn z x, b => by
    have := len z x.b
    show (stk z x.b ++ [(b, (x.A.length : Int))]).length + r = n + 1
    simp; omega
theorem ids : {r : Nat} → (z : Zp n r) → (b m : Nat) → (z.stk b).map (fun f : Nat × Int => f.1) = (z.sp m).map (fun e : En => e.1) ++ [b]
  | _, .top, b, m => rfl
  | r, .dn z x, b, m => by
    show (stk z x.b ++ [(b, (x.A.length : Int))]).map (fun f : Nat × Int => f.1) = (sp z _ ++ [_]).map (fun e : En => e.1) ++ [b]
    rw [List.map_append, List.map_append, ids z x.b (x.lf.length + (m + x.rg.length))]; rfl
theorem flat {b0 mn mx : Nat} : {r : Nat} → {z : Zp n r} → {b : Nat} → z.Ok b0 mn mx b → (u : BT KV r) → flatB n (z.put u) = z.lf ++ (flatB r u ++ z.rg)
  | _, .top, b, _, u => by show flatB n u = [] ++ (flatB n u ++ []); simp
  | r, .dn z x, b, ⟨h1, h2, h3⟩, u => by
    show flatB n (z.put (x.put u)) = (z.lf ++ x.lf) ++ (flatB r u ++ (x.rg ++ z.rg))
    rw [flat h1, h2.flat]; simp
theorem val {b0 mn mx : Nat} : {r : Nat} → {z : Zp n r} → {b : Nat} → z.Ok b0 mn mx b → {u : BT KV r} → Val mn mx r u → (z.tp = false → mn ≤ (itemsB r u).length) → Val mn mx n (z.put u)
  | _, .top, b, _, u, hu, _ => hu
  | r, .dn z x, b, ⟨h1, h2, h3⟩, u, hu, hm => val (z := z) h1 (h2.val hu (hm rfl)) h3
theorem its {b0 mn mx : Nat} : {r : Nat} → {z : Zp n r} → {b : Nat} → z.Ok b0 mn mx b → {u : BT KV r} → 1 ≤ (itemsB r u).length → 1 ≤ (itemsB n (z.put u)).length
  | _, .top, b, _, u, hu => hu
  | r, .dn z x, b, ⟨h1, h2, h3⟩, u, hu => its (z := z) h1 (u := x.put u) h2.one
theorem cnts : {r : Nat} → (z : Zp n r) → (m : Nat) → ∀ e ∈ z.sp m, m ≤ e.2.1 ∧ e.2.1 ≤ z.lf.length + (m + z.rg.length)
  | _, .top, m, e, h => by cases h
  | r, .dn z x, m, e, h => by
    have h : e ∈ sp z (x.lf.length + (m + x.rg.length)) ++ [(x.b, x.lf.length + (m + x.rg.length), (some x.p, (x.C ++ x.D).length, x.c), some (x.hb, 0))] := h
    have e1 : (lf (.dn z x)).length = z.lf.length + x.lf.length := by show (z.lf ++ x.lf).length = _; simp
    have e2 : (rg (.dn z x)).length = x.rg.length + z.rg.length := by show (x.rg ++ z.rg).length = _; simp
    rw [e1, e2]
    rcases List.mem_append.1 h with h | h
    · have := cnts z _ e h
      omega
    · simp only [List.mem_cons, List.not_mem_nil, or_false] at h
      subst h
      dsimp only
      omega
end Zp
def dcE (k : Nat) (e : En) : En := (e.1, e.2.1 - k, e.2.2)
theorem Zp.spd {n : Nat} (k : Nat) : {r : Nat} → (z : Zp n r) → (m : Nat) → k ≤ m → (z.sp m).map (dcE k) = z.sp (m - k)
  | _, .top, m, h => rfl
  | r, .dn z x, m, h => by
    show (sp z _ ++ [_]).map (dcE k) = sp z _ ++ [_]
    rw [List.map_append, Zp.spd k z _ (by omega)]
    have e : x.lf.length + (m + x.rg.length) - k = x.lf.length + (m - k + x.rg.length) := by omega
    rw [e]
    simp only [List.map_cons, List.map_nil, dcE, e]
def ZsC {n r : Nat} (iso : Int) (z : Zp n r) (m : Nat) : Ck := StC ((z.sp m).map (enC iso))
def ZrC {n r : Nat} (iso : Int) (z : Zp n r) (b : Nat) : Ck := StC (z.rs iso b)
instance pk_zs {n r m : Nat} {iso : Int} {z : Zp n r} {l : List Ck} : Pk (.kd none) (ZsC iso z m :: l) (ZsC iso z m) l := ⟨.refl _⟩
instance pk_zr {n r b : Nat} {iso : Int} {z : Zp n r} {l : List Ck} : Pk (.fo []) (ZrC iso z b :: l) (ZrC iso z b) l := ⟨.refl _⟩
section
variable {h h0 : H} {G0 : PA → Prop} {l A B : List Ck}
theorem st_spl (s : St h0 G0 (StC (A ++ B) :: l) h) : St h0 G0 (StC A :: StC B :: l) h := by
  have s := s.st_out
  rw [List.append_assoc] at s
  have s := St.st_in (m := A) s
  exact (St.st_in (m := B) (s.perm List.perm_middle.symm)).pull1
theorem st_joi (s : St h0 G0 (StC A :: StC B :: l) h) : St h0 G0 (StC (A ++ B) :: l) h := by
  have s := (s.pull1.st_out).perm List.perm_middle
  have s := s.st_out
  rw [← List.append_assoc] at s
  exact St.st_in (m := A ++ B) s
theorem st_one {c : Ck} (s : St h0 G0 (StC [c] :: l) h) : St h0 G0 (c :: l) h := s.st_out
theorem st_eno {c : Ck} (s : St h0 G0 (c :: l) h) : St h0 G0 (StC [c] :: l) h := St.st_in (m := [c]) s
theorem st_mid {c : Ck} (s : St h0 G0 (StC (A ++ c :: B) :: l) h) : St h0 G0 (c :: StC (A ++ B) :: l) h := by
  have s := s.st_out
  rw [List.append_assoc] at s
  have s := s.perm (l := A ++ (c :: B ++ l)) (m := c :: ((A ++ B) ++ l)) (by rw [List.append_assoc]; exact List.perm_middle)
  exact (St.st_in (m := A ++ B) (s.perm List.perm_middle.symm)).pull1
theorem st_dim {c : Ck} (s : St h0 G0 (c :: StC (A ++ B) :: l) h) : St h0 G0 (StC (A ++ c :: B) :: l) h := by
  have s := (s.pull1.st_out).perm List.perm_middle
  have s := s.perm (l := c :: ((A ++ B) ++ l)) (m := A ++ (c :: B ++ l)) (by rw [List.append_assoc]; exact List.perm_middle.symm)
  rw [← List.append_assoc] at s
  exact St.st_in (m := A ++ c :: B) s
end
section
variable {h h0 : H} {G0 : PA → Prop} {l : List Ck} {iso : Int} {n b0 mn mx : Nat}
theorem zp_up {r b m : Nat} {z : Zp n (r + 1)} {x : Fm r} {u : BT KV r} (o : x.Ok mn mx) (hm : m = (flatB r u).length) (s : St h0 G0 (TrC L iso r b u :: ZsC iso (.dn z x) m :: ZrC iso (.dn z x) b :: l) h) :
    St h0 G0 (TrC L iso (r + 1) x.b (x.put u) :: ZsC iso z (flatB (r + 1) (x.put u)).length :: ZrC iso z x.b :: l) h := by
  have hfl : (flatB (r + 1) (x.put u)).length = x.lf.length + (m + x.rg.length) := by rw [o.flat, hm]; simp
  rw [hfl]
  have e1 : ZsC iso (.dn z x) m = StC ((z.sp (x.lf.length + (m + x.rg.length))).map (enC iso) ++ [enC iso (x.b, x.lf.length + (m + x.rg.length), (some x.p, (x.C ++ x.D).length, x.c), some (x.hb, 0))]) := by
    show StC ((z.sp _ ++ [_]).map (enC iso)) = _
    rw [List.map_append]; rfl
  rw [e1] at s
  have s := (st_one (st_spl s.pull1).pull1)
  -- own :: spine :: tree :: rest :: l
  have s := s.pull3
  have s := st_spl (A := [Ow x.p (L.flat (x.C ++ x.D)) ((x.c - (x.C ++ x.D).length) * L.sz), Ow (x.hb, 0) (hdC (some x.q, x.ka.length + 1 + x.kb.length, x.d)) 0, Ow x.q (LK.flat ((x.ka ++ b :: x.kb).map some)) ((x.d - (x.ka.length + 1 + x.kb.length)) * LK.sz), FoC L iso r x.kb x.B, FoC L iso r x.ka x.A]) s
  have s := s.st_out
  have s : St h0 G0 (Ow x.p (L.flat (x.C ++ x.D)) ((x.c - (x.C ++ x.D).length) * L.sz) :: Ow (x.hb, 0) (hdC (some x.q, x.ka.length + 1 + x.kb.length, x.d)) 0 :: Ow x.q (LK.flat ((x.ka ++ b :: x.kb).map some)) ((x.d - (x.ka.length + 1 + x.kb.length)) * LK.sz) :: FoC L iso r x.kb x.B :: FoC L iso r x.ka x.A ::
    StC (z.rs iso x.b) :: Ow (x.b, 0) (nodeC iso (x.lf.length + (m + x.rg.length)) (some x.p, (x.C ++ x.D).length, x.c) (some (x.hb, 0))) 0 :: StC ((z.sp (x.lf.length + (m + x.rg.length))).map (enC iso)) :: TrC L iso r b u :: l) h := s
  have s := s.pull8.pull4.pull1
  have s := fo_cons L iso s
  have s := fo_app L iso (s.pull4)
  have s := s.ats [.ow (x.b, 0), .ow x.p, .ow (x.hb, 0), .ow x.q, .fo (x.ka ++ b :: x.kb)]
  have hcd := o.dl
  have s := shut_node L iso (xs := x.C ++ x.D) (ts := x.A ++ u :: x.B) s rfl rfl rfl (LK_flat _) rfl (by simp; omega) (by rw [← hfl]; rfl) o.cl rfl hcd (Nat.mul_one _)
  exact s.pull2.pull1
theorem zp_all : ∀ {r : Nat} {z : Zp n r} {b m : Nat} {u : BT KV r}, z.Ok b0 mn mx b → m = (flatB r u).length → St h0 G0 (TrC L iso r b u :: ZsC iso z m :: ZrC iso z b :: l) h → St h0 G0 (TrC L iso n b0 (z.put u) :: l) h
  | _, .top, b, m, u, ho, _, s => by
    have ho : b = b0 := ho
    subst ho
    have s := s.pull2.st_out
    have s : St h0 G0 (TrC L iso n b u :: StC [] :: l) h := s
    exact s.pull1.st_out
  | r, .dn z x, b, m, u, ho, hm, s => zp_all (z := z) (u := x.put u) ho.1 rfl (zp_up ho.2.1 hm s)
theorem zp_dn {r b i m m2 c d hb cnt k : Nat} {p q : PA} {ks : List Nat} {z : Zp n (r + 1)} {xs : List KV} {ts : List (BT KV r)} {u : BT KV r}
    (s : St h0 G0 (Ow (b, 0) (nodeC iso cnt (some p, m, c) (some (hb, 0))) 0 :: Ow p (L.flat xs) ((c - m) * L.sz) :: Ow (hb, 0) (hdC (some q, m2, d)) 0 :: Ow q (LK.flat (ks.map some)) ((d - m2) * LK.sz) :: TrC L iso r k u :: FoC L iso r (ks.drop (i + 1)) (ts.drop (i + 1)) :: FoC L iso r (ks.take i) (ts.take i) :: ZsC iso z cnt :: ZrC iso z b :: l) h)
    (hm : m = xs.length) (hm2 : m2 = ks.length) (hc : m ≤ c) (hd : m2 ≤ d) (hl : ks.length = ts.length) (hk : ks[i]? = some k) (hu : ts[i]? = some u) (hcnt : cnt = (flatB (r + 1) ((xs, ts) : BT KV (r + 1))).length) (hv : Val mn mx (r + 1) (xs, ts)) (h1 : 1 ≤ xs.length) :
    ∃ x : Fm r, x.Ok mn mx ∧ x.b = b ∧ x.put u = (xs, ts) ∧ x.C = xs.take i ∧ x.D = xs.drop i ∧ x.A = ts.take i ∧ x.B = ts.drop (i + 1) ∧
      St h0 G0 (TrC L iso r k u :: ZsC iso (.dn z x) (flatB r u).length :: ZrC iso (.dn z x) k :: l) h := by
  have hl2 : ts.length = xs.length + 1 := hv.2.1
  have hi2 := (List.getElem?_eq_some_iff.1 hu).1
  have hi : i ≤ xs.length := by omega
  obtain ⟨h3, h4⟩ := List.getElem?_eq_some_iff.1 hu
  obtain ⟨h5, h6⟩ := List.getElem?_eq_some_iff.1 hk
  have et : ts.take i ++ u :: ts.drop (i + 1) = ts := by rw [← h4, ← List.drop_eq_getElem_cons h3, List.take_append_drop]
  have ek : ks.take i ++ k :: ks.drop (i + 1) = ks := by rw [← h6, ← List.drop_eq_getElem_cons h5, List.take_append_drop]
  have ex : xs.take i ++ xs.drop i = xs := List.take_append_drop i xs
  have lk : (ks.take i).length + 1 + (ks.drop (i + 1)).length = ks.length := by simp; omega
  obtain ⟨x, rfl⟩ : ∃ x : Fm r, x = ⟨b, p, c, hb, q, d, ks.take i, ks.drop (i + 1), xs.take i, xs.drop i, ts.take i, ts.drop (i + 1)⟩ := ⟨_, rfl⟩
  have ho : Fm.Ok mn mx (⟨b, p, c, hb, q, d, ks.take i, ks.drop (i + 1), xs.take i, xs.drop i, ts.take i, ts.drop (i + 1)⟩ : Fm r) := by
    refine ⟨by show (xs.take i ++ xs.drop i).length ≤ c; rw [ex]; omega, by show (ks.take i).length + 1 + (ks.drop (i + 1)).length ≤ d; rw [lk]; omega, by simp; omega, by simp; omega, by simp; omega, by simp; omega, by show 1 ≤ (xs.take i ++ xs.drop i).length; rw [ex]; exact h1, by show (xs.take i ++ xs.drop i).length ≤ mx; rw [ex]; exact hv.1, fun w hw => ?_⟩
    have hw : w ∈ ts.take i ++ ts.drop (i + 1) := hw
    refine hv.2.2 w ?_
    rcases List.mem_append.1 hw with hw | hw
    · exact List.mem_of_mem_take hw
    · exact List.mem_of_mem_drop hw
  have hput : Fm.put (⟨b, p, c, hb, q, d, ks.take i, ks.drop (i + 1), xs.take i, xs.drop i, ts.take i, ts.drop (i + 1)⟩ : Fm r) u = (xs, ts) := by
    show ((xs.take i ++ xs.drop i, ts.take i ++ u :: ts.drop (i + 1)) : List KV × List (BT KV r)) = _
    rw [ex, et]
  refine ⟨_, ho, rfl, hput, rfl, rfl, rfl, rfl, ?_⟩
  have hfl := congrArg List.length (ho.flat u)
  rw [hput, ← hcnt] at hfl
  simp only [List.length_append] at hfl
  subst hm hm2
  have s := (s.at (.ow q)).re q (LK.flat ((ks.take i ++ k :: ks.drop (i + 1)).map some)) ((d - ((ks.take i).length + 1 + (ks.drop (i + 1)).length)) * LK.sz) rfl (by rw [ek]) (by rw [lk])
  have s := (s.at (.ow (hb, 0))).re (hb, 0) (hdC (some q, (ks.take i).length + 1 + (ks.drop (i + 1)).length, d)) 0 rfl (by rw [lk]) rfl
  have s := (s.at (.ow p)).re p (L.flat (xs.take i ++ xs.drop i)) ((c - (xs.take i ++ xs.drop i).length) * L.sz) rfl (by rw [ex]) (by rw [ex])
  have s := (s.at (.ow (b, 0))).re (b, 0) (nodeC iso cnt (some p, (xs.take i ++ xs.drop i).length, c) (some (hb, 0))) 0 rfl (by rw [ex]) rfl
  have s := s.ats [.ow (b, 0), .kd none, .ow p, .ow (hb, 0), .ow q, .fo (ks.drop (i + 1)), .fo (ks.take i), .fo [], .tr k]
  rw [hfl] at s
  have s := st_joi ((st_eno s).pull1)
  have s := s.perm (l := [_] ++ ([Ow p (L.flat (xs.take i ++ xs.drop i)) ((c - (xs.take i ++ xs.drop i).length) * L.sz), Ow (hb, 0) (hdC (some q, (ks.take i).length + 1 + (ks.drop (i + 1)).length, d)) 0, Ow q (LK.flat ((ks.take i ++ k :: ks.drop (i + 1)).map some)) ((d - ((ks.take i).length + 1 + (ks.drop (i + 1)).length)) * LK.sz), FoC L iso r (ks.drop (i + 1)) (ts.drop (i + 1)), FoC L iso r (ks.take i) (ts.take i)] ++ (ZrC iso z b :: TrC L iso r k u :: l)))
    (m := [Ow p (L.flat (xs.take i ++ xs.drop i)) ((c - (xs.take i ++ xs.drop i).length) * L.sz), Ow (hb, 0) (hdC (some q, (ks.take i).length + 1 + (ks.drop (i + 1)).length, d)) 0, Ow q (LK.flat ((ks.take i ++ k :: ks.drop (i + 1)).map some)) ((d - ((ks.take i).length + 1 + (ks.drop (i + 1)).length)) * LK.sz), FoC L iso r (ks.drop (i + 1)) (ts.drop (i + 1)), FoC L iso r (ks.take i) (ts.take i)] ++ ([_] ++ (ZrC iso z b :: TrC L iso r k u :: l))) (by
      rw [← List.append_assoc, ← List.append_assoc]
      exact List.perm_append_comm.append_right _)
  have s := St.st_in s
  have s := st_joi s.pull2.pull1
  have s := s.pull1.pull2
  have e1 : ∀ (x : Fm r) (m : Nat), ZsC iso (.dn z x) m = StC ((z.sp (x.lf.length + (m + x.rg.length))).map (enC iso) ++ [enC iso (x.b, x.lf.length + (m + x.rg.length), (some x.p, (x.C ++ x.D).length, x.c), some (x.hb, 0))]) := fun x m => by
    show StC ((z.sp _ ++ [_]).map (enC iso)) = _
    rw [List.map_append]; rfl
  rw [e1]
  exact s
end
end Go.Proofs.Ytegnpimlfphncaa.TG
set_option linter.unusedVariables false
set_option linter.unusedSimpArgs false
set_option linter.unusedSectionVars false
set_option maxRecDepth 100000
namespace Go.Proofs.Ytegnpimlfphncaa
open Go
section
variable {I : Type} {go : List I → I → Int} {dn rm acc : List I} {x : I}
def das (go : List I → I → Int) : List I → List I → List I × List I
  | acc, [] => (acc, [])
  | acc, x :: xs => if go acc x = 2 then das go (acc ++ [x]) xs else if go acc x = 1 then ((das go (acc ++ [x]) xs).1, x :: (das go (acc ++ [x]) xs).2) else (acc ++ [x], x :: xs)
def Fn (go : List I → I → Int) (dn rm acc : List I) : List I × List I := ((das go acc rm).1, dn ++ (das go acc rm).2)
section
variable {P : Program} {Q : Ex → List AV → H → Prop} {h h0 : H} {G0 : PA → Prop} {l : List Ck}
end
end
end Go.Proofs.Ytegnpimlfphncaa
namespace Go.Proofs.Ytegnpimlfphncaa.TG
open Go Go.Proofs.Ytegnpimlfphncaa
def LFr : Lay (Nat × Int) where
  sz := 2
  cells f := [kptr f.1, .int .i64 f.2]
  len _ := rfl
  one _ v hv := by simp only [List.mem_cons, List.not_mem_nil, or_false] at hv; rcases hv with rfl | rfl <;> rfl
  pos := by decide
section
variable {h h0 : H} {G0 : PA → Prop} {l : List Ck} {Q : Ex → List AV → H → Prop}
theorem sl_none {s1 : Option PA} {s2 s3 sz : Nat} {vs : List Value} (s : St h0 G0 (SlC (s1, s2, s3) sz vs :: l) h) : St h0 G0 (SlC (s1, 0, s3) sz [] :: l) h := by
  refine s.turn (l := [_]) (l' := [_]) fun F hF => ?_
  obtain ⟨F1, F2, ⟨⟨h1, h2, h3⟩, e1⟩, e2, e3, e4⟩ := hF
  refine ⟨F1, F2, ⟨⟨by simp, Nat.zero_le _, ?_⟩, e1⟩, e2, e3, e4⟩
  rcases h3 with h3 | ⟨p, hp, ho⟩
  · exact .inl h3
  · have ho' : Own h p (([] : List Value) ++ vs) ((s3 - s2) * sz) := ho
    have hk : vs.length + (s3 - s2) * sz = (s3 - 0) * sz := by
      have h1 : vs.length = s2 * sz := h1
      have h2 : s2 ≤ s3 := h2
      rw [h1, ← Nat.add_mul]; congr 1; omega
    have := ho'.shrink
    rw [hk] at this
    exact .inr ⟨p, hp, this⟩
theorem w_fp {p : PA} {gs : List (Nat × Int)} (hr : rds h p (LFr.flat gs)) {i : Nat} {f : Nat × Int} (hf : gs[i]? = some f) {m : Option PA → M} (hw : wp Try.prog (m (some (f.1, 0))) Q h) : wp Try.prog (.load (p.1, p.2 + mulN i 2) .ptr m) Q h := by
  refine w_ptr (some (f.1, 0)) ?_ hw
  have := hr (i * 2 + 0) _ (LFr.flat_get (j := 0) hf rfl)
  rw [mulN_eq]; rw [Nat.add_zero] at this; exact this
theorem w_fi {p : PA} {gs : List (Nat × Int)} (hr : rds h p (LFr.flat gs)) {i : Nat} {f : Nat × Int} (hf : gs[i]? = some f) {m : Int → M} (hw : wp Try.prog (m f.2) Q h) : wp Try.prog (.load (p.1, p.2 + mulN i 2 + 1) (.int .i64) m) Q h := by
  refine w_int f.2 ?_ hw
  have := hr (i * 2 + 1) _ (LFr.flat_get (j := 1) hf rfl)
  rw [mulN_eq]; simpa [Nat.add_assoc] using this
theorem frs (s : St h0 G0 l h) {p : PA} {gs : List (Nat × Int)} {k : Nat} {l' : List Value → List Ck} [Fi l p (LFr.flat gs) 0 k l'] : rds h p (LFr.flat gs) := s.rds (a := p) (vs := LFr.flat gs) (j := 0) (LFr.flat gs) (fun i v h => by rw [Nat.zero_add]; exact h)
theorem Zp.last {n : Nat} : {r : Nat} → (z : Zp n r) → (b : Nat) → ∃ c gs, z.stk b = gs ++ [(b, c)]
  | _, .top, b => ⟨0, [], rfl⟩
  | _, .dn z x, b => ⟨_, _, rfl⟩
theorem w_dec {iso dl : Int} {e k N kk : Nat} {ps : PA} {gs : List (Nat × Int)} {fs : List En} (hdl : dl = (k : Int)) (hN : N = gs.length) (hid : gs.map (fun f : Nat × Int => f.1) = fs.map (fun e : En => e.1)) (hb : ∀ e ∈ fs, k ≤ e.2.1 ∧ e.2.1 ≤ 4294967296) (hN2 : N ≤ 4294967296)
    (S : St h0 G0 (StC (fs.map (enC iso)) :: Ow ps (LFr.flat gs) kk :: l) h)
    (hw : ∀ h', St h0 G0 (StC ((fs.map (dcE k)).map (enC iso)) :: Ow ps (LFr.flat gs) kk :: l) h' → wp Try.prog (.done (.exit e) []) Q h') :
    wp Try.prog (.loop [.c (.int .i64)] [.c (.int .i64 (0))] fun y95 =>
      .ite (decide (y95.fst < (↑N : Int)))
      (.nonnil (some ps) fun p96 =>
        .guard (((0 : Int) ≤ y95.fst) ∧ ((y95.fst : Int) < (↑N : Int))) <|
        .load (p96.fst, p96.snd + mulN (Int.toNat y95.fst) 2) (.ptr) fun q97 =>
        .nonnil (q97) fun p98 =>
        .load (p98.fst, p98.snd + 1) (.int .i64) fun i99 =>
        .guard (InK IntKind.i64 (i99 - dl)) <|
        .nonnil (q97) fun p100 =>
        .store (p100.fst, p100.snd + 1) (.int .i64 (i99 - dl)) <|
        .guard (InK IntKind.i64 (y95.fst + 1)) <|
        .done .normal [.c (.int .i64 (y95.fst + 1))])
      (.done (.exit e) [])) Q h := by
  have hfl : fs.length = gs.length := by have := congrArg List.length hid; simpa using this.symm
  refine w_lp (fun r y h' => ∃ i : Nat, y = ((i : Int), ()) ∧ i + r = N ∧ St h0 G0 (StC (((fs.take i).map (dcE k) ++ fs.drop i).map (enC iso)) :: Ow ps (LFr.flat gs) kk :: l) h') N rfl ⟨0, rfl, by omega, by simpa using S⟩ ?_
  clear S
  rintro r _ _ ⟨i, rfl, hi, S⟩
  by_cases hlt : i < N
  · have hgi := List.getElem?_eq_getElem (show i < gs.length by omega)
    have hil : i < fs.length := by omega
    have hfi := List.getElem?_eq_getElem hil
    have hid1 : gs[i].1 = fs[i].1 := by
      have := congrArg (fun l => l[i]?) hid
      simp only [List.getElem?_map, hgi, hfi, Option.map_some] at this
      exact Option.some.inj this
    obtain ⟨b1, b2⟩ := hb fs[i] (List.getElem_mem hil)
    rw [List.drop_eq_getElem_cons hil, List.map_append, List.map_cons] at S
    have S := st_mid S
    have S : St h0 G0 (Ow (fs[i].1, 0) (nodeC iso fs[i].2.1 fs[i].2.2.1 fs[i].2.2.2) 0 :: _) _ := S
    refine w_true (lt_t (by (first | omega | ((try dsimp only [Sh.T, Sh1.T]); omega)))) (w_nonnil (w_guard ⟨by (first | omega | ((try dsimp only [Sh.T, Sh1.T]); omega)), by (first | omega | ((try dsimp only [Sh.T, Sh1.T]); omega))⟩ ?_))
    dsimp only
    rw [Int.toNat_natCast]
    refine w_fp (frs S) hgi ?_
    rw [hid1]
    refine w_nonnil (ld_int S rfl (w_guard (inK64 (by (first | omega | ((try dsimp only [Sh.T, Sh1.T]); omega))) (by (first | omega | ((try dsimp only [Sh.T, Sh1.T]); omega)))) (w_nonnil ?_)))
    refine st_store S (lt_ble rfl) fun _ S => ?_
    have S := S.re (fs[i].1, 0) (nodeC iso (fs[i].2.1 - k) fs[i].2.2.1 fs[i].2.2.2) 0 rfl (nodeC_cnt (by omega)) rfl
    have S : St h0 G0 (enC iso (dcE k fs[i]) :: _) _ := S
    have S := st_dim S
    refine w_guard (inK64 (by (first | omega | ((try dsimp only [Sh.T, Sh1.T]); omega))) (by (first | omega | ((try dsimp only [Sh.T, Sh1.T]); omega)))) (ln_n rfl (r - 1) ⟨i + 1, rfl, by omega, ?_⟩ (by omega))
    rw [List.take_succ_eq_append_getElem hil, List.map_append, List.map_append, List.map_append]
    rw [List.append_assoc]
    exact S
  · rw [List.take_of_length_le (by omega), List.drop_eq_nil_of_le (by omega), List.append_nil] at S
    exact w_false (lt_f (by (first | omega | ((try dsimp only [Sh.T, Sh1.T]); omega)))) (ln_e (hw _ S))
theorem zp_in {iso : Int} {n r m b cnt : Nat} {z : Zp n r} {s : SlT} {kp : Option PA} (S : St h0 G0 (Ow (b, 0) (nodeC iso cnt s kp) 0 :: ZsC iso z m :: l) h) : St h0 G0 (StC ((z.sp m ++ [((b, cnt, s, kp) : En)]).map (enC iso)) :: l) h := by
  have S := st_joi ((st_eno S).pull1)
  rw [List.map_append]
  exact S
theorem zp_ou {iso : Int} {n r m b cnt : Nat} {z : Zp n r} {s : SlT} {kp : Option PA} (S : St h0 G0 (StC ((z.sp m ++ [((b, cnt, s, kp) : En)]).map (enC iso)) :: l) h) : St h0 G0 (Ow (b, 0) (nodeC iso cnt s kp) 0 :: ZsC iso z m :: l) h := by
  rw [List.map_append] at S
  exact st_one (st_spl S).pull1
end
end Go.Proofs.Ytegnpimlfphncaa.TG
set_option linter.unusedVariables false
set_option linter.unusedSimpArgs false
set_option linter.unusedSectionVars false
set_option maxRecDepth 100000
namespace Go.Proofs.Ytegnpimlfphncaa.TG
open Go Go.Proofs.Ytegnpimlfphncaa
def Zp.all {n r : Nat} (z : Zp n r) (u : BT KV r) : List KV := z.lf ++ (flatB r u ++ z.rg)
structure Lu (o : List Int) (b0 dg rnd : Nat) {n r : Nat} (z : Zp n r) (b : Nat) (u : BT KV r) : Prop where
  ok : z.Ok b0 dg (2 * dg + 1) b
  val : Val dg (2 * dg + 1) r u
  mn : z.tp = false → dg ≤ (itemsB r u).length
  one : 1 ≤ (itemsB r u).length
  srt : Srt (ltO o) (z.all u)
  top : (z.all u).length ≤ rnd
structure Lv (o : List Int) (go : List KV → KV → Int) (FF : List KV × List KV) (b0 dg rnd lim : Nat) {n : Nat} (z : Zp n 0) (b : Nat) (xs : List KV) (i : Nat) (acc : List KV) : Prop where
  lu : Lu o b0 dg rnd z b (xs : BT KV 0)
  le : i ≤ xs.length
  fn : Fn go (z.lf ++ xs.take i) (xs.drop i ++ z.rg) acc = FF
  nn : acc.length + ((xs.length - i) + z.rg.length) ≤ lim
structure Lim (b0 dg rnd : Nat) : Prop where
  one : 1 ≤ dg
  big : 2 * dg + 1 ≤ 255
  rnd : rnd ≤ 4294967295
section
variable {o : List Int} {go : List KV → KV → Int} {FF : List KV × List KV} {b0 dg rnd lim n : Nat} {z : Zp n 0} {b i j : Nat} {xs acc : List KV}
theorem Zp.all_len {r : Nat} (z : Zp n r) (u : BT KV r) : (z.all u).length = z.lf.length + ((flatB r u).length + z.rg.length) := by simp [Zp.all]
theorem Lu.cut (hl : Lim b0 dg rnd) (lu : Lu o b0 dg rnd z b (xs : BT KV 0)) (h : i + j ≤ xs.length) (h2 : j + dg ≤ xs.length) : (xs.take i ++ xs.drop (i + j)).length = xs.length - j ∧ Lu o b0 dg rnd z b (xs.take i ++ xs.drop (i + j) : BT KV 0) := by
  have hlen : (xs.take i ++ xs.drop (i + j)).length = xs.length - j := by simp; omega
  have h1 := hl.one
  have hv : xs.length ≤ 2 * dg + 1 := lu.val
  have hsub : (z.all (r := 0) (xs.take i ++ xs.drop (i + j))).Sublist (z.all (r := 0) xs) := by
    refine List.Sublist.append (List.Sublist.refl _) (List.Sublist.append ?_ (List.Sublist.refl _))
    show (xs.take i ++ xs.drop (i + j)).Sublist xs
    conv => rhs; rw [← List.take_append_drop i xs]
    refine List.Sublist.append (List.Sublist.refl _) ?_
    rw [← List.drop_drop]
    exact List.drop_sublist _ _
  refine ⟨hlen, lu.ok, ?_, fun _ => ?_, ?_, lu.srt.sublist hsub, Nat.le_trans hsub.length_le lu.top⟩
  · show (xs.take i ++ xs.drop (i + j)).length ≤ 2 * dg + 1
    omega
  · show dg ≤ (xs.take i ++ xs.drop (i + j)).length
    omega
  · show 1 ≤ (xs.take i ++ xs.drop (i + j)).length
    omega
end
section
variable {h h0 : H} {G0 : PA → Prop} {Q : Ex → List AV → H → Prop} {ls : Value} {oc : Ck} {o : List Int} {K : List KV → Ck} {go : List KV → KV → Int} {f : Value} {FF : List KV × List KV} {b0 dg rnd lim n n0 : Nat} {iso : Int} {ctr : Option PA} {a0 nh ps : PA} {pv : KV} {cs : Nat}
end
end Go.Proofs.Ytegnpimlfphncaa.TG
set_option linter.unusedVariables false
set_option linter.unusedSimpArgs false
set_option linter.unusedSectionVars false
set_option maxRecDepth 100000
namespace Go.Proofs.Ytegnpimlfphncaa.TG
open Go Go.Proofs.Ytegnpimlfphncaa
structure Rv (o : List Int) (go : List KV → KV → Int) (FF : List KV × List KV) (lim : Nat) (cur : List KV) (pv : KV) (acc : List KV) : Prop where
  fn : Fn go (cur.take (pos (ltO o) cur pv)) (cur.drop (pos (ltO o) cur pv)) acc = FF
  nn : acc.length + (cur.length - pos (ltO o) cur pv) ≤ lim
section
variable {o : List Int} {go : List KV → KV → Int} {FF : List KV × List KV} {lim : Nat} {A B acc : List KV} {x : KV}
theorem del_at2 (hs : Srt (ltO o) (A ++ x :: B)) : del (ltO o) (A ++ x :: B) x = A ++ B ∧ pos (ltO o) (A ++ B) x = A.length := by
  obtain ⟨h1, h2, h3⟩ := srt_append.1 hs
  obtain ⟨h4, h5⟩ := List.pairwise_cons.1 h2
  refine ⟨?_, pos_app (fun a ha => h3 a ha x (by simp)) fun b hb => ?_⟩
  · rw [(fnd_at (ordO o) hs (j := A.length) (x := x) (y := x) (get_mid rfl) ((ordO o).irr x) ((ordO o).irr x)).2.2]
    exact erase_mid rfl
  · cases B with
    | nil => cases hb
    | cons c B =>
      obtain rfl : c = b := by simpa using hb
      exact (ordO o).asym (h4 c (by simp))
end
section
variable {h h0 : H} {G0 : PA → Prop} {Q : Ex → List AV → H → Prop} {ls : Value} {oc : Ck} {o : List Int} {K : List KV → Ck} {go : List KV → KV → Int} {f : Value} {FF : List KV × List KV} {b0 dg rnd lim n n0 : Nat} {iso : Int} {ctr : Option PA} {a0 nh ps : PA} {pv : KV} {cs : Nat} {l : List Ck}
theorem fold_map {r b m : Nat} {z : Zp n r} {u : BT KV r} (hl : Lim b0 dg rnd) (lu : Lu o b0 dg rnd z b u) (hm : m = (flatB r u).length) (S : St h0 G0 (TrC L iso r b u :: ZsC iso z m :: ZrC iso z b :: Ow a0 (mapC ls iso ctr (some (b0, 0)) (z.all u).length dg (2 * dg + 1) false false) 0 :: l) h) : St h0 G0 (MpC ls o iso dg a0 (z.all u) :: l) h :=
  shut_map (zp_all lu.ok hm S).pull1 rfl (Zp.flat lu.ok u) lu.srt (Zp.val lu.ok lu.val lu.mn) (Zp.its lu.ok lu.one) ⟨rfl, hl.one, hl.big⟩
theorem fold_leaf {z : Zp n 0} {b c : Nat} {p : PA} {xs acc : List KV} (hl : Lim b0 dg rnd) (lu : Lu o b0 dg rnd z b (xs : BT KV 0)) (hc : xs.length ≤ c)
    (S : St h0 G0 [K acc, Ow a0 (mapC ls iso ctr (some (b0, 0)) (z.all (r := 0) xs).length dg (2 * dg + 1) false false) 0, Ow (n0, 0) (L.cells pv) 0, HtC (some nh), Ow ps (LFr.flat (z.stk b)) ((cs - (z.stk b).length) * LFr.sz), ZsC iso z xs.length, ZrC iso z b, Ow (b, 0) (nodeC iso xs.length (some p, xs.length, c) none) 0, Ow p (L.flat xs) ((c - xs.length) * L.sz)] h) :
    St h0 G0 [K acc, MpC ls o iso dg a0 (z.all (r := 0) xs), Ow (n0, 0) (L.cells pv) 0, HtC (some nh), Ow ps (LFr.flat (z.stk b)) ((cs - (z.stk b).length) * LFr.sz)] h := by
  have S := shut_leaf L iso (xs := xs) (S.ats [.ow (b, 0), .ow p]) rfl rfl rfl rfl hc rfl
  have S := fold_map hl lu rfl (S.ats [.tr b, .kd none, .fo [], .ow a0])
  exact S.ats [.ck (K acc), .mp a0]
end
end Go.Proofs.Ytegnpimlfphncaa.TG
set_option linter.unusedVariables false
set_option linter.unusedSimpArgs false
set_option linter.unusedSectionVars false
set_option maxRecDepth 100000
namespace Go.Proofs.Ytegnpimlfphncaa.TG
open Go Go.Proofs.Ytegnpimlfphncaa
structure Bv (o : List Int) (go : List KV → KV → Int) (FF : List KV × List KV) (b0 dg rnd lim R : Nat) {n r : Nat} (z : Zp n (r + 1)) (b : Nat) (u : BT KV (r + 1)) (i : Nat) (acc : List KV) : Prop where
  lu : Lu o b0 dg rnd z b u
  lt : i < u.1.length
  fn : ∃ A, flatB (r + 1) u = A ++ post (u.1.drop i) ((u.2.map (flatB r)).drop (i + 1)) ∧ Fn go (z.lf ++ A) (post (u.1.drop i) ((u.2.map (flatB r)).drop (i + 1)) ++ z.rg) acc = FF
  nn : acc.length + ((post (u.1.drop i) ((u.2.map (flatB r)).drop (i + 1))).length + z.rg.length) ≤ lim
  rm : (post (u.1.drop i) ((u.2.map (flatB r)).drop (i + 1))).length + z.rg.length ≤ R
theorem Zp.all_put {n r mn mx : Nat} {z : Zp n (r + 1)} {x : Fm r} (o : x.Ok mn mx) (u : BT KV r) : z.all (x.put u) = (Zp.dn z x).all u := by
  show z.lf ++ (flatB (r + 1) (x.put u) ++ z.rg) = (z.lf ++ x.lf) ++ (flatB r u ++ (x.rg ++ z.rg))
  rw [o.flat]; simp
theorem Lu.up {o : List Int} {b0 dg rnd n r b : Nat} {z : Zp n (r + 1)} {x : Fm r} {u : BT KV r} (lu : Lu o b0 dg rnd (.dn z x) b u) : Lu o b0 dg rnd z x.b (x.put u) := by
  obtain ⟨h1, h2, h3⟩ := lu.ok
  exact ⟨h1, h2.val lu.val (lu.mn rfl), h3, h2.one, by rw [Zp.all_put h2]; exact lu.srt, by rw [Zp.all_put h2]; exact lu.top⟩
section
variable {h h0 : H} {G0 : PA → Prop} {Q : Ex → List AV → H → Prop} {ls : Value} {oc : Ck} {o : List Int} {K : List KV → Ck} {go : List KV → KV → Int} {f : Value} {FF : List KV × List KV} {b0 dg rnd lim n n0 : Nat} {iso : Int} {ctr : Option PA} {a0 nh ps : PA} {pv : KV} {cs : Nat} {l : List Ck}
theorem Lu.dn {r b k : Nat} {z : Zp n (r + 1)} {x : Fm r} {v : BT KV r} (hl : Lim b0 dg rnd) (lu : Lu o b0 dg rnd z b (x.put v)) (hx : x.Ok dg (2 * dg + 1)) (hb : x.b = b) : Lu o b0 dg rnd (.dn z x) k v := by
  have h1 := hl.one
  have hv : Val dg (2 * dg + 1) r v ∧ dg ≤ (itemsB r v).length := lu.val.2.2 v (by show v ∈ x.A ++ v :: x.B; simp)
  exact ⟨⟨by rw [hb]; exact lu.ok, hx, lu.mn⟩, hv.1, fun _ => hv.2, by omega, by rw [← Zp.all_put hx]; exact lu.srt, by rw [← Zp.all_put hx]; exact lu.top⟩
end
end Go.Proofs.Ytegnpimlfphncaa.TG
set_option linter.unusedVariables false
set_option linter.unusedSimpArgs false
set_option linter.unusedSectionVars false
set_option maxRecDepth 100000
namespace Go.Proofs.Ytegnpimlfphncaa.TG
open Go Go.Proofs.Ytegnpimlfphncaa
structure Pv (o : List Int) (go : List KV → KV → Int) (FF : List KV × List KV) (b0 dg rnd lim : Nat) {n r : Nat} (z : Zp n r) (b : Nat) (u : BT KV r) (pv : KV) (acc : List KV) : Prop where
  lu : Lu o b0 dg rnd z b u
  lo : ∀ a ∈ z.lf, ltO o a pv = true
  hi : ∀ a ∈ z.rg, ltO o pv a = true
  fn : Fn go (z.lf ++ (flatB r u).take (pos (ltO o) (flatB r u) pv)) ((flatB r u).drop (pos (ltO o) (flatB r u) pv) ++ z.rg) acc = FF
  nn : acc.length + (((flatB r u).length - pos (ltO o) (flatB r u) pv) + z.rg.length) ≤ lim
section
variable {h h0 : H} {G0 : PA → Prop} {Q : Ex → List AV → H → Prop} {ls : Value} {oc : Ck} {o : List Int} {K : List KV → Ck} {go : List KV → KV → Int} {f : Value} {FF : List KV × List KV} {b0 dg rnd lim n n0 : Nat} {iso : Int} {ctr : Option PA} {a0 nh ps : PA} {pv : KV} {cs : Nat} {l : List Ck}
theorem fold_all {r b : Nat} {z : Zp n r} {u : BT KV r} {acc : List KV} (hl : Lim b0 dg rnd) (lu : Lu o b0 dg rnd z b u) (S : St h0 G0 [K acc, Ow a0 (mapC ls iso ctr (some (b0, 0)) (z.all u).length dg (2 * dg + 1) false false) 0, Ow (n0, 0) (L.cells pv) 0, HtC (some nh), Ow ps (LFr.flat (z.stk b)) ((cs - (z.stk b).length) * LFr.sz), ZsC iso z (flatB r u).length, ZrC iso z b, TrC L iso r b u] h) :
    St h0 G0 [K acc, MpC ls o iso dg a0 (z.all u), Ow (n0, 0) (L.cells pv) 0, HtC (some nh), Ow ps (LFr.flat (z.stk b)) ((cs - (z.stk b).length) * LFr.sz)] h := by
  have S := fold_map hl lu rfl (S.ats [.tr b, .kd none, .fo [], .ow a0])
  exact S.ats [.ck (K acc), .mp a0]
end
end Go.Proofs.Ytegnpimlfphncaa.TG
