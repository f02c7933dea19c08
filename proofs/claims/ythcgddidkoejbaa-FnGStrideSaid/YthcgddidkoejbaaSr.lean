/-
  Numbers in the order of the multiples of a step; numbers without a common divisor. Conditions: none.
-/
import Derived.Test.YthcgddidkoejbaaPl
import Derived.Test.YthcgddidkoejbaaVa
import Derived.Test.YthcgddidkoejbaaIt
set_option linter.unusedVariables false
set_option linter.unusedSimpArgs false
set_option linter.unusedSectionVars false
set_option maxRecDepth 100000
namespace Go.Proofs.Ythcgddidkoejbaa
open Go

def M_laws_stride (a0 : Int) (a1 : Int) : M :=
  .bind (some 0) (.loop [.c (.int .i64), .c (.sl)] [.c (.int .i64 (0)), .c (.sl none (0) (0))] fun y0 =>
      .ite (decide (y0.fst < a0))
      (.guard (InK IntKind.i64 (y0.fst * a1)) <|
        .guard ((a0 : Int) ≠ 0) <|
        .alloc ty_impl_Item [.int .i64 ((y0.fst * a1).tmod a0), .int .i64 (y0.fst)] fun n1 =>
        .append ty_impl_Item 2 16 [.int .i64 (0), .int .i64 (0)] ((y0.snd.fst.fst), y0.snd.fst.snd.fst, y0.snd.fst.snd.snd) ((some (n1, 0)), 1, 1) fun s2 =>
        .guard (InK IntKind.i64 (y0.fst + 1)) <|
        .done .normal [.c (.int .i64 (y0.fst + 1)), .c (.sl (s2.fst) (s2.snd.fst) (s2.snd.snd))])
      (.done (.exit 0) [.c (.sl (y0.snd.fst.fst) (y0.snd.fst.snd.fst) (y0.snd.fst.snd.snd))])) [.c (.sl)] fun x3 =>
  .done .ret [.c (.sl (x3.fst.fst) (x3.fst.snd.fst) (x3.fst.snd.snd))]

theorem den_laws_stride (a0 : Int) (a1 : Int) : denFn Try.prog Try.f36 [.c (.int .i64 a0), .c (.int .i64 a1)] = M_laws_stride a0 a1 := by kernel_rfl
theorem hc_laws_stride (a0 : Int) (a1 : Int) {h : H} {R : Value → H → Prop} (hw : wp Try.prog (M_laws_stride a0 a1) (Ret R) h) : HC Try.prog fn_laws_stride (List.map AV.val [.c (.int .i64 a0), .c (.int .i64 a1)]).toArray h R :=
  den_calls hmix Try.func36 (of_decide_eq_true rfl) (by rw [den_laws_stride]; exact hw)

def M_laws_coprime (a0 : Int) (a1 : Int) : M :=
  .bind (some 0) (.loop [.c (.int .i64), .c (.int .i64)] [.c (.int .i64 (a1)), .c (.int .i64 (a0))] fun y0 =>
      .ite (decide (y0.fst > 0))
      (.guard ((y0.fst : Int) ≠ 0) <|
        .done .normal [.c (.int .i64 (Int.tmod y0.snd.fst y0.fst)), .c (.int .i64 (y0.fst))])
      (.done (.exit 0) [.c (.int .i64 (y0.snd.fst))])) [.c (.int .i64)] fun x1 =>
  .done .ret [.c (.bool (x1.fst == 1))]

theorem den_laws_coprime (a0 : Int) (a1 : Int) : denFn Try.prog Try.f35 [.c (.int .i64 a0), .c (.int .i64 a1)] = M_laws_coprime a0 a1 := by kernel_rfl
theorem hc_laws_coprime (a0 : Int) (a1 : Int) {h : H} {R : Value → H → Prop} (hw : wp Try.prog (M_laws_coprime a0 a1) (Ret R) h) : HC Try.prog fn_laws_coprime (List.map AV.val [.c (.int .i64 a0), .c (.int .i64 a1)]).toArray h R :=
  den_calls hmix Try.func35 (of_decide_eq_true rfl) (by rw [den_laws_coprime]; exact hw)


/-- The items of 'stride'. -/
def strideO (n s : Nat) : List IV := (List.range n).map fun i => (((i * s % n : Nat) : Int), (i : Int))
theorem strideO_len (n s : Nat) : (strideO n s).length = n := by simp [strideO]
/-- Two strictly ascending lists with the same members are equal. -/
theorem asc_eq : ∀ {xs ys : List Int}, xs.Pairwise (· < ·) → ys.Pairwise (· < ·) → (∀ a, a ∈ xs ↔ a ∈ ys) → xs = ys
  | [], [], _, _, _ => rfl
  | [], y :: ys, _, _, h => absurd ((h y).2 (by simp)) (by simp)
  | x :: xs, [], _, _, h => absurd ((h x).1 (by simp)) (by simp)
  | x :: xs, y :: ys, hx, hy, h => by
    have hx' := List.pairwise_cons.1 hx
    have hy' := List.pairwise_cons.1 hy
    have e : x = y := by
      have h1 := (h x).1 (by simp)
      have h2 := (h y).2 (by simp)
      rcases List.mem_cons.1 h1 with e | h1
      · exact e
      rcases List.mem_cons.1 h2 with e | h2
      · exact e.symm
      have := hx'.1 y h2
      have := hy'.1 x h1
      omega
    subst e
    rw [asc_eq hx'.2 hy'.2 fun a => ?_]
    constructor
    · intro ha
      have hlt := hx'.1 a ha
      rcases List.mem_cons.1 ((h a).1 (by simp [ha])) with e | h1
      · omega
      · exact h1
    · intro ha
      have hlt := hy'.1 a ha
      rcases List.mem_cons.1 ((h a).2 (by simp [ha])) with e | h1
      · omega
      · exact h1
/-- All numbers below n are keys. -/
theorem stride_keys {n s : Nat} {x y : Int} (hc : x * n + y * s = 1) : (treeO [] (strideO n s)).map (·.1) = (List.range n).map Int.ofNat := by
  refine asc_eq ?_ ?_ fun a => ?_
  · rw [List.pairwise_map, List.pairwise_iff_getElem]
    intro i j hi hj hij
    exact tree_asc hij (List.getElem?_eq_getElem hi) (List.getElem?_eq_getElem hj)
  · rw [List.pairwise_map]
    exact List.pairwise_lt_range.imp (fun h => Int.ofNat_lt.2 h)
  · simp only [List.mem_map, List.mem_range]
    constructor
    · rintro ⟨b, hb, rfl⟩
      have h1 := (mem_tree _ b).1 hb
      obtain ⟨c, hc, e⟩ : ∃ c ∈ strideO n s, c.1 = b.1 := by
        refine Classical.byContradiction fun h2 => ?_
        have h3 : ∀ zs : List IV, (∀ c ∈ zs, c.1 ≠ b.1) → lastO zs b.1 = none := by
          intro zs
          induction zs using snoc_ind with
          | h0 => intro _; rfl
          | h1 zs z ih =>
            intro h
            rw [lastO_snoc, if_neg (h z (by simp)), ih fun c hc => h c (by simp [hc])]
        rw [h3 _ fun c hc e => h2 ⟨c, hc, e⟩] at h1
        cases h1
      simp only [strideO, List.mem_map, List.mem_range] at hc
      obtain ⟨i, hi, rfl⟩ := hc
      exact ⟨i * s % n, Nat.mod_lt _ (by omega), e⟩
    · rintro ⟨i, hi, rfl⟩
      have hn : 0 < (n : Int) := by omega
      obtain ⟨m, hm⟩ : ∃ m : Nat, (m : Int) = ((i : Int) * y) % n := ⟨(((i : Int) * y) % n).toNat, Int.toNat_of_nonneg (Int.emod_nonneg _ (by omega))⟩
      have hmn : m < n := by have := Int.emod_lt_of_pos ((i : Int) * y) hn; omega
      have key : ((m * s % n : Nat) : Int) = i := by
        rw [Int.natCast_emod, Int.natCast_mul, hm, Int.mul_emod, Int.emod_emod, ← Int.mul_emod, Int.mul_assoc]
        rw [show y * (s : Int) = 1 - x * n by omega]
        rw [Int.mul_sub, Int.mul_one, ← Int.mul_assoc, Int.sub_mul_emod_self_right]
        exact Int.emod_eq_of_lt (by omega) (by omega)
      obtain ⟨v, hv⟩ := key_tree (xs := strideO n s) (x := (((m * s % n : Nat) : Int), (m : Int))) (by simp only [strideO, List.mem_map, List.mem_range]; exact ⟨m, hmn, rfl⟩)
      exact ⟨_, hv, key⟩
theorem stride_tree_len {n s : Nat} {x y : Int} (hc : x * n + y * s = 1) : (treeO [] (strideO n s)).length = n := by
  have := congrArg List.length (stride_keys hc)
  simpa using this
theorem stride_get {n s : Nat} {x y : Int} (hc : x * n + y * s = 1) {i : Nat} (hi : i < n) : ∃ v, (treeO [] (strideO n s))[i]? = some ((i : Int), v) := by
  have h1 := congrArg (fun l => l[i]?) (stride_keys hc)
  simp only [List.getElem?_map, List.getElem?_range hi] at h1
  cases h2 : (treeO [] (strideO n s))[i]? with
  | none => rw [h2] at h1; cases h1
  | some b =>
    rw [h2] at h1
    have h3 : b.1 = (i : Int) := Option.some.inj h1
    exact ⟨b.2, by rw [← h3]⟩
section
variable {h : H}
theorem c_stride {n s : Nat} (hn : n ≤ 4000) (hs : s ≤ 65535) {G : PA → Prop} (hG : Star [] h G) :
    HT Try.prog fn_laws_stride [.c (.int .i64 n), .c (.int .i64 s)] false [.c .sl] h fun r h' => ∃ post, (∃ t : SlT, r = (t, ()) ∧ OwnL LT t (strideO n s) ∧ post = [SlC t LT.sz (LT.flat (strideO n s))]) ∧ St h G post h' := by
  apply hc_laws_stride
  unfold M_laws_stride
  have S := sl_nil LT (St.start hG)
  refine w_bnd (w_lp (fun r y h' => ∃ (i : Nat) (t : SlT), y = ((i : Int), t, ()) ∧ i + r = n ∧ OwnL LT t ((strideO n s).take i) ∧ St h G [SlC t LT.sz (LT.flat ((strideO n s).take i))] h') n rfl
    ⟨0, (none, 0, 0), rfl, by omega, ⟨by simp, Nat.le_refl _, .inl rfl⟩, by simpa using S⟩ ?_)
  rintro r _ _ ⟨i, ⟨t1, t2, t3⟩, rfl, hi, ht, S⟩
  by_cases hlt : i < n
  · have hl := strideO_len n s
    have htl : ((strideO n s).take i).length = i := by rw [List.length_take, strideO_len]; omega
    have hxi : (strideO n s)[i]'(by omega) = (((i * s % n : Nat) : Int), (i : Int)) := by simp [strideO]
    have hm : i * s ≤ 4000 * 65535 := Nat.mul_le_mul (by omega) hs
    have e1 : ((i : Int) * (s : Int)) = ((i * s : Nat) : Int) := (Int.natCast_mul _ _).symm
    have e2 : ((i * s : Nat) : Int).tmod n = ((i * s % n : Nat) : Int) := (Int.ofNat_tmod _ _).symm
    refine w_true (lt_t (by (first | omega | ((try dsimp only [Sh.T, Sh1.T]); omega)))) ?_
    dsimp only
    rw [e1, e2]
    refine w_guard (inK64 (by (first | omega | ((try dsimp only [Sh.T, Sh1.T]); omega))) (by (first | omega | ((try dsimp only [Sh.T, Sh1.T]); omega)))) (w_guard (by (first | omega | ((try dsimp only [Sh.T, Sh1.T]); omega))) ?_)
    refine st_alloc S fun n6 _ S => ?_
    refine st_apo (L := LT) (xs := (strideO n s).take i) (y := (((i * s % n : Nat) : Int), (i : Int))) S ht rfl rfl (S.rsl (LT.flat [_]) 1 1 2 (fun i v h => by rw [Nat.zero_add]; exact h) rfl) ⟨by omega, by omega⟩ fun s' _ hs' S => ?_
    rw [← hxi, ← take_snoc (by omega)] at hs' S
    refine w_guard (inK64 (by (first | omega | ((try dsimp only [Sh.T, Sh1.T]); omega))) (by (first | omega | ((try dsimp only [Sh.T, Sh1.T]); omega)))) ?_
    exact ln_n rfl (r - 1) ⟨i + 1, s', rfl, by omega, hs', S.only [.sl s']⟩ (by omega)
  · rw [List.take_of_length_le (by rw [strideO_len]; omega)] at ht S
    exact w_false (lt_f (by (first | omega | ((try dsimp only [Sh.T, Sh1.T]); omega)))) (ln_e (bd_e rfl (rt_1 rfl ⟨_, ⟨_, rfl, ht, rfl⟩, S⟩)))
theorem c_coprime {a b : Nat} (ha : a ≤ 4294967296) (hb : b ≤ 4294967296) : HT Try.prog fn_laws_coprime [.c (.int .i64 a), .c (.int .i64 b)] false [.c .bool] h fun r h' => (∃ e : Bool, r = (e, ()) ∧ (e = true → ∃ x y : Int, x * a + y * b = 1)) ∧ h' = h := by
  apply hc_laws_coprime
  unfold M_laws_coprime
  refine w_bnd (w_lp (fun r y h' => ∃ (u v : Nat), y = ((v : Int), (u : Int), ()) ∧ v = r ∧ h' = h ∧ ((∃ x y : Int, x * u + y * v = 1) → ∃ x y : Int, x * a + y * b = 1)) b rfl ⟨a, b, rfl, rfl, rfl, id⟩ ?_)
  rintro r _ _ ⟨u, v, rfl, rfl, rfl, hI⟩
  by_cases hv : 0 < v
  · have e2 : ((u : Nat) : Int).tmod v = ((u % v : Nat) : Int) := (Int.ofNat_tmod _ _).symm
    refine w_true (lt_t (by (first | omega | ((try dsimp only [Sh.T, Sh1.T]); omega)))) (w_guard (by (first | omega | ((try dsimp only [Sh.T, Sh1.T]); omega))) ?_)
    dsimp only
    rw [e2]
    refine ln_n rfl (u % v) ⟨v, u % v, rfl, rfl, rfl, fun ⟨x, y, e⟩ => hI ⟨y, x - y * ((u / v : Nat) : Int), ?_⟩⟩ (Nat.mod_lt _ hv)
    have hd : (u : Int) = (v : Int) * ((u / v : Nat) : Int) + ((u % v : Nat) : Int) := by
      have := (Nat.div_add_mod u v).symm
      have h2 : (u : Int) = ((v * (u / v) + u % v : Nat) : Int) := by rw [← this]
      rw [h2, Int.natCast_add, Int.natCast_mul]
    rw [hd, Int.mul_add, Int.sub_mul]
    have e3 : y * ((v : Int) * ((u / v : Nat) : Int)) = y * ((u / v : Nat) : Int) * v := by rw [Int.mul_comm (v : Int), Int.mul_assoc]
    omega
  · obtain rfl : v = 0 := by omega
    refine w_false (lt_f (by (first | omega | ((try dsimp only [Sh.T, Sh1.T]); omega)))) (ln_e (bd_e rfl (rt_1 rfl ⟨⟨_, rfl, fun he => hI ⟨1, 0, ?_⟩⟩, rfl⟩)))
    have : (u : Int) = 1 := by simpa using he
    omega
end
end Go.Proofs.Ythcgddidkoejbaa
