/-
  The tree of interfaces: the lists of its nodes handed on in order. Conditions: none.
-/
import Derived.Test.YtlmiafbcgfegpaaPgR
import Derived.Test.YtlmiafbcgfegpaaZna
import Derived.Test.YtlmiafbcgfegpaaZga
set_option linter.unusedVariables false
set_option linter.unusedSimpArgs false
set_option linter.unusedSectionVars false
set_option maxRecDepth 100000
namespace Go.Proofs.Ytlmiafbcgfegpaa.TB
open Go Go.Proofs.Ytlmiafbcgfegpaa
def mapW : (n : Nat) → BT KV n → BT (List KV) n
  | 0, xs => ([xs] : List (List KV))
  | n + 1, t => (t.1.map (fun x => [x]), t.2.map (mapW n))
def wkB (n : Nat) (t : BT KV n) : List (List KV) := flatB n (mapW n t)
section
variable {Q : Ex → List AV → H → Prop} {h h0 : H} {G0 : PA → Prop}
theorem Bes.part {p : PA} {vs : List Value} {G : PA → Prop} (d : Bes (RsC p vs) h G) (j k : Nat) (hk : j + k ≤ vs.length) : Bes (RsC (p.1, p.2 + j) ((vs.drop j).take k)) h G := by
  obtain ⟨F, hF, hd⟩ := d
  have hr : rds h p vs := Bes.rds ⟨F, hF, hd⟩
  refine ⟨_, ⟨fun i v hv => ?_, fun _ => Iff.rfl⟩, fun x hx hG => hd x ((hF.2 x).2 ?_) hG⟩
  · rw [List.getElem?_take] at hv
    split at hv
    · rw [List.getElem?_drop] at hv
      have := hr _ _ hv
      rw [Nat.add_assoc]; exact this
    · cases hv
  · obtain ⟨e1, e2, e3⟩ := hx
    have hl : ((vs.drop j).take k).length = k := by rw [List.length_take, List.length_drop]; omega
    rw [hl] at e3
    refine ⟨e1, ?_, ?_⟩
    · have : p.2 + j ≤ x.2 := e2
      omega
    · have : x.2 < p.2 + j + k := e3
      omega
def CbW (f : Value) (K : List (List KV) → Ck) (N : Nat) : Prop :=
  ∀ (h : H) (G : PA → Prop) (acc : List (List KV)) (p : PA) (cap : Nat) (xs : List KV), acc.length < N → xs.length ≤ 255 → xs.length ≤ cap → Bes (RsC p (L.flat xs)) h G → Star [K acc] h G →
    callOf Try.prog f (List.map AV.val [.c (.sl (some p) xs.length cap)]).toArray h (TR false [.c .bool] fun r h' => r = (true, ()) ∧ St h G [K (acc ++ [xs])] h')
theorem st_cbW {f : Value} {K : List (List KV) → Ck} {N : Nat} {acc : List (List KV)} {r : List Ck} (s : St h0 G0 (K acc :: r) h) (hcb : CbW f K N) {p : PA} {cap : Nat} {xs : List KV} (hb : Bes (RsC p (L.flat xs)) h (fun x => G0 x ∨ h0.size ≤ x.1)) (hl : acc.length < N) (hx : xs.length ≤ 255) (hc : xs.length ≤ cap) {args : List AV} (ha : args.map AV.val = List.map AV.val [.c (.sl (some p) xs.length cap)]) {k : SV [.c .bool] → M}
    (hw : ∀ h', St h0 G0 (K (acc ++ [xs]) :: r) h' → wp Try.prog (k (true, ())) Q h') : wp Try.prog (.callv f args false [.c .bool] k) Q h := by
  obtain ⟨⟨G, h1, h2⟩, h3⟩ := s
  obtain ⟨A, B, a1, a2, a3, a4⟩ := Star.split (l := [K acc]) (m := r) h1
  have hcc := hcb h A acc p cap xs hl hx hc (hb.sub fun x hx => h2 x ((a4 x).2 (.inl hx))) a1
  rw [← ha] at hcc
  refine w_callOf hcc fun v h' ⟨y, e, hy, hS⟩ => ?_
  subst hy
  refine ⟨(true, ()), e, hw h' ?_⟩
  obtain ⟨⟨C, c1, c2⟩, c3⟩ := hS
  have hB := a2.lt
  refine ⟨⟨un C B, Star.append c1 (a2.out c3 a3.symm) (fun x hC hx => (c2 x hC).elim (fun hA => a3 x hA hx) (fun hs => Nat.not_le_of_lt (hB x hx) hs)), fun x hx => ?_⟩,
    h3.then c3 fun x hx hA => (h2 x ((a4 x).2 (.inl hA))).elim id (fun hs => absurd hx (Nat.not_lt_of_le hs))⟩
  rcases hx with hC | hB'
  · rcases c2 x hC with hA | hs
    · exact h2 x ((a4 x).2 (.inl hA))
    · exact .inr (Nat.le_trans h3.size hs)
  · exact h2 x ((a4 x).2 (.inr hB'))
end
section
variable {ls : Value} {oc : Ck} {o : List Int} {hp : Option PA} {h : H}
set_option maxHeartbeats 1000000 in
theorem c_nodeWalk {a0 : PA} {iso : Int} {m : Bool} {mn mx N : Nat} {f : Value} {K : List (List KV) → Ck} (hcb : CbW f K N) (hmx : mx ≤ 255) : ∀ (n : Nat) {b : Nat} {t : BT KV n} {a1 : PA} {h : H} {G : PA → Prop} {acc : List (List KV)},
    Bes (TrC L iso n b t) h G → Bes (RdC (a0.1, a0.2) (.int .u64 iso)) h G → rd h a1 = some (kptr b) → Val mn mx n t → acc.length + (wkB n t).length ≤ N → Star [K acc] h G →
    HT Try.prog fn_tb_nodeWalk [.c (.addr a0), .c (.addr a1), .c (.raw f), .c (.bool m)] false [.c .bool] h fun r h' =>
      ∃ post, (r = (true, ()) ∧ post = [K (acc ++ wkB n t)]) ∧ St h G post h'
  | 0, b, t, a1, h, G, acc, hT, hA, h1, hv, hlen, hG => by
    apply hc_tb_nodeWalk
    unfold M_tb_nodeWalk
    have S := St.start hG
    obtain ⟨p, c, kp, hc, hkp, b0, b1, b2, b3, br⟩ := hT.nd
    have hil : (itemsB 0 t).length ≤ mx := hv
    refine w_callT (c_isoLoad h1 b0.rd hA.rd) ?_
    rintro _ h ⟨rfl, rfl⟩
    refine w_callT (c_leafp b3.rd) ?_
    rintro _ h ⟨rfl, rfl⟩
    have hl1 : acc.length + 1 ≤ N := hlen
    refine w_bnd (w_true hkp (w_nonnil (w_sl (some p, (itemsB 0 t).length, c) b2.rd ?_)))
    refine st_cbW S hcb (br.all S) (by omega) (by omega) hc rfl fun h3 S => ?_
    exact w_false rfl (bd_n rfl (rt_1 rfl ⟨_, ⟨rfl, rfl⟩, S⟩))
  | n + 1, b, t, a1, h, G, acc, hT, hA, h1, hv, hlen, hG => by
    apply hc_tb_nodeWalk
    unfold M_tb_nodeWalk
    have S := St.start hG
    obtain ⟨p, c, kp, hc, hkp, b0, b1, b2, b3, br⟩ := hT.nd
    obtain ⟨hb, q, d, x3, x0, hk⟩ := hT.kids
    obtain ⟨is, ts⟩ := t
    have hl2 : ts.length = is.length + 1 := hv.2.1
    have hil : is.length ≤ mx := hv.1
    have hc : is.length ≤ c := hc
    have hlW : (ts.map (mapW n)).length = (is.map (fun x => [x])).length + 1 := by rw [List.length_map, List.length_map, hl2]
    refine w_callT (c_isoLoad h1 b0.rd hA.rd) ?_
    rintro _ h ⟨rfl, rfl⟩
    refine w_callT (c_leafp b3.rd) ?_
    rintro _ h ⟨rfl, rfl⟩
    refine w_bnd (w_false hkp ?_)
    have b2 : Bes (RdC (b, 2) (.slice (some p.val) is.length c)) h G := b2
    have br : Bes (RsC p (L.flat is)) h G := br
    refine w_mid' (some 0) (fun (_ : SV []) h' => St h G [K (acc ++ ahead (is.map (fun x => [x])) (ts.map (mapW n)) is.length)] h') ?_ ?_
    · refine w_lp (fun r y h' => ∃ i : Nat, y = ((i : Int), ()) ∧ i + r = is.length ∧ St h G [K (acc ++ ahead (is.map (fun x => [x])) (ts.map (mapW n)) i)] h') is.length rfl ⟨0, rfl, by omega, by rw [ah_zero, List.append_nil]; exact S⟩ ?_
      clear S
      rintro r _ h2 ⟨i, rfl, hi, S⟩
      obtain ⟨u, hu⟩ : ∃ u, ts[i]? = some u := ⟨_, List.getElem?_eq_getElem (by omega)⟩
      have huW : (ts.map (mapW n))[i]? = some (mapW n u) := by rw [List.getElem?_map, hu]; rfl
      obtain ⟨kid, kr, kt⟩ := hk i u hu
      have hal := ah_len hlW huW
      by_cases hlt : i < is.length
      · have hxi := List.getElem?_eq_getElem hlt
        have hxW : (is.map (fun x => [x]))[i]? = some [is[i]] := by rw [List.getElem?_map, hxi]; rfl
        have hsuc := ah_succ hlW hxW huW
        try simp only [Int.toNat_natCast, toNat_succ, toNat_succ2, toNat_pred]
        refine w_nonnil (w_sl (some p, is.length, c) (b2.now S).rd (w_true (lt_t (by (first | omega | ((try dsimp only [Sh.T, Sh1.T]); omega)))) ?_))
        refine w_nonnil (w_ptr (some (hb, 0)) (x3.now S).rd (w_nonnil (w_sl (some q, ts.length, d) (x0.now S).rd (w_nonnil (w_guard ⟨by (first | omega | ((try dsimp only [Sh.T, Sh1.T]); omega)), by (first | omega | ((try dsimp only [Sh.T, Sh1.T]); omega))⟩ ?_)))))
        try simp only [Int.toNat_natCast, toNat_succ, toNat_succ2, toNat_pred]
        have hlenW : (wkB (n + 1) ((is, ts) : BT KV (n + 1))).length = (flatB (n + 1) ((is.map (fun x => [x]), ts.map (mapW n)) : BT (List KV) (n + 1))).length := rfl
        have hwu : (wkB n u).length = (flatB n (mapW n u)).length := rfl
        have hml : (is.map (fun x => [x])).length = is.length := List.length_map _
        refine st_callF S [.ck (K (acc ++ ahead (is.map (fun x => [x])) (ts.map (mapW n)) i))] (fun G' hG' hsub => c_nodeWalk hcb hmx n (kt.step S hsub) (hA.step S hsub) (kr.now S).rd (hv.2.2 u (List.mem_of_getElem? hu)).1 (by rw [List.length_append]; omega) hG') ?_
        rintro _ _ h3 ⟨rfl, rfl⟩ S
        dsimp only [List.cons_append, List.nil_append] at S
        refine w_false rfl (w_nonnil (w_sl (some p, is.length, c) (b2.now S).rd (w_guard (inK64 (by (first | omega | ((try dsimp only [Sh.T, Sh1.T]); omega))) (by (first | omega | ((try dsimp only [Sh.T, Sh1.T]); omega)))) (w_guard ⟨⟨by (first | omega | ((try dsimp only [Sh.T, Sh1.T]); omega)), by (first | omega | ((try dsimp only [Sh.T, Sh1.T]); omega))⟩, by (first | omega | ((try dsimp only [Sh.T, Sh1.T]); omega)), by (first | omega | ((try dsimp only [Sh.T, Sh1.T]); omega))⟩ ?_))))
        have hbp := Bes.part (br.all S) i 1 (by rw [L.flat_length]; show i + 1 ≤ is.length * 1; omega)
        have hfp : ((L.flat is).drop i).take 1 = L.flat [is[i]] := by
          have g1 := L.flat_drop is i
          rw [show i * L.sz = i from Nat.mul_one i] at g1
          have g2 := L.flat_take (is.drop i) 1
          rw [show 1 * L.sz = 1 from rfl] at g2
          rw [g1, g2, List.drop_eq_getElem_cons hlt]; rfl
        rw [hfp] at hbp
        have e : slBase (some p) c i 1 = some (p.1, p.2 + i) := by rw [slBase_in (by omega), Nat.mul_one]
        try simp only [Int.toNat_natCast, toNat_succ, toNat_succ2, toNat_pred]
        refine st_cbW (p := (p.1, p.2 + i)) (cap := c - i) (xs := [is[i]]) S hcb hbp (by rw [List.length_append, List.length_append]; omega) (by simp) (by simp; omega) (by rw [e, show i + 1 - i = 1 by omega]; rfl) fun h5 S => ?_
        have e2 : acc ++ ahead (is.map (fun x => [x])) (ts.map (mapW n)) i ++ wkB n u ++ [[is[i]]] = acc ++ ahead (is.map (fun x => [x])) (ts.map (mapW n)) (i + 1) := by rw [hsuc]; simp [wkB]
        rw [e2] at S
        refine w_false rfl (w_guard (inK64 (by (first | omega | ((try dsimp only [Sh.T, Sh1.T]); omega))) (by (first | omega | ((try dsimp only [Sh.T, Sh1.T]); omega)))) ?_)
        exact ln_n rfl (r - 1) ⟨i + 1, rfl, by omega, S⟩ (by omega)
      · have hie : i = is.length := by omega
        subst hie
        exact w_nonnil (w_sl (some p, is.length, c) (b2.now S).rd (w_false (lt_f (by (first | omega | ((try dsimp only [Sh.T, Sh1.T]); omega)))) (ln_e (md_e rfl S))))
    clear S
    rintro _ h4 S
    obtain ⟨u, hu⟩ : ∃ u, ts[is.length]? = some u := ⟨_, List.getElem?_eq_getElem (by omega)⟩
    have hml : (is.map (fun x => [x])).length = is.length := List.length_map _
    have huW : (ts.map (mapW n))[(is.map (fun x => [x])).length]? = some (mapW n u) := by rw [hml, List.getElem?_map, hu]; rfl
    obtain ⟨kid, kr, kt⟩ := hk _ u hu
    have hla := ah_last hlW huW
    rw [hml] at hla
    have hlenW : (wkB (n + 1) ((is, ts) : BT KV (n + 1))) = ahead (is.map (fun x => [x])) (ts.map (mapW n)) is.length ++ wkB n u := hla
    have hll := congrArg List.length hlenW
    rw [List.length_append] at hll
    refine w_nonnil (w_ptr (some (hb, 0)) (x3.now S).rd (w_nonnil (w_sl (some q, ts.length, d) (x0.now S).rd (w_nonnil (w_sl (some p, is.length, c) (b2.now S).rd (w_nonnil (w_guard ⟨by (first | omega | ((try dsimp only [Sh.T, Sh1.T]); omega)), by (first | omega | ((try dsimp only [Sh.T, Sh1.T]); omega))⟩ ?_)))))))
    try simp only [Int.toNat_natCast, toNat_succ, toNat_succ2, toNat_pred]
    refine st_callF S [.ck (K (acc ++ ahead (is.map (fun x => [x])) (ts.map (mapW n)) is.length))] (fun G' hG' hsub => c_nodeWalk hcb hmx n (kt.step S hsub) (hA.step S hsub) (kr.now S).rd (hv.2.2 u (List.mem_of_getElem? hu)).1 (by rw [List.length_append]; omega) hG') ?_
    rintro _ _ h3 ⟨rfl, rfl⟩ S
    dsimp only [List.cons_append, List.nil_append] at S
    refine w_false rfl (bd_n rfl (rt_1 rfl ⟨_, ⟨rfl, rfl⟩, ?_⟩))
    rw [hlenW, ← List.append_assoc]; exact S
end
section
variable {I : Type}
theorem post_flat : ∀ (xs : List I) (tss : List (List (List I))), (post (xs.map fun x => [x]) tss).flatten = post xs (tss.map List.flatten)
  | [], tss => by cases tss <;> rfl
  | _ :: _, [] => rfl
  | x :: xs, t :: tss => by
    have ih := post_flat xs tss
    simp only [List.map_cons, post, List.flatten_cons, List.flatten_append, ih]
    rfl
theorem weave_flat (xs : List I) (tss : List (List (List I))) : (weave (xs.map fun x => [x]) tss).flatten = weave xs (tss.map List.flatten) := by
  cases tss with
  | nil => rfl
  | cons t tss => simp only [weave, List.map_cons, List.flatten_append, post_flat]
theorem mem_post {a : I} : ∀ {xs : List I} {tss : List (List I)}, a ∈ post xs tss → a ∈ xs ∨ ∃ t ∈ tss, a ∈ t
  | [], tss, h => by cases tss <;> cases h
  | _ :: _, [], h => by cases h
  | x :: xs, t :: tss, h => by
    simp only [post, List.mem_cons, List.mem_append] at h
    rcases h with rfl | h | h
    · exact .inl (List.mem_cons_self ..)
    · exact .inr ⟨t, List.mem_cons_self .., h⟩
    · rcases mem_post h with h | ⟨t', h1, h2⟩
      · exact .inl (List.mem_cons_of_mem _ h)
      · exact .inr ⟨t', List.mem_cons_of_mem _ h1, h2⟩
theorem mem_weave2 {a : I} {xs : List I} {tss : List (List I)} (h : a ∈ weave xs tss) : a ∈ xs ∨ ∃ t ∈ tss, a ∈ t := by
  cases tss with
  | nil => cases h
  | cons t tss =>
    simp only [weave, List.mem_append] at h
    rcases h with h | h
    · exact .inr ⟨t, List.mem_cons_self .., h⟩
    · rcases mem_post h with h | ⟨t', h1, h2⟩
      · exact .inl h
      · exact .inr ⟨t', List.mem_cons_of_mem _ h1, h2⟩
theorem len_flat : ∀ (l : List (List I)), (∀ xs ∈ l, xs ≠ []) → l.length ≤ l.flatten.length
  | [], _ => Nat.le_refl _
  | xs :: l, h => by
    have ih := len_flat l fun ys hy => h ys (List.mem_cons_of_mem _ hy)
    have : 0 < xs.length := List.length_pos_iff.2 (h xs (List.mem_cons_self ..))
    simp only [List.length_cons, List.flatten_cons, List.length_append]
    omega
end
theorem wk_flat : ∀ (n : Nat) (t : BT KV n), (wkB n t).flatten = flatB n t
  | 0, xs => by show [xs].flatten = xs; simp
  | n + 1, (xs, ts) => by
    show (weave (xs.map fun x => [x]) ((ts.map (mapW n)).map (flatB n))).flatten = weave xs (ts.map (flatB n))
    rw [weave_flat, List.map_map, List.map_map]
    congr 1
    exact List.map_congr_left fun u _ => wk_flat n u
theorem wk_ne {mn mx : Nat} (h1 : 1 ≤ mn) : ∀ (n : Nat) (t : BT KV n), Val mn mx n t → 1 ≤ (itemsB n t).length → ∀ xs ∈ wkB n t, xs ≠ []
  | 0, xs, _, hi => fun ys hy => by
    have hy : ys ∈ [xs] := hy
    rw [List.mem_singleton] at hy
    subst hy
    have hi : 1 ≤ ys.length := hi
    exact List.length_pos_iff.1 hi
  | n + 1, (xs, ts), hv, _ => fun ys hy => by
    rcases mem_weave2 (show ys ∈ weave (xs.map fun x => [x]) ((ts.map (mapW n)).map (flatB n)) from hy) with h | ⟨t', h2, h3⟩
    · obtain ⟨x, _, rfl⟩ := List.mem_map.1 h
      simp
    · rw [List.map_map] at h2
      obtain ⟨u, hu, rfl⟩ := List.mem_map.1 h2
      have hvu := hv.2.2 u hu
      exact wk_ne h1 n u hvu.1 (by omega) ys h3
theorem wk_len {mn mx : Nat} (h1 : 1 ≤ mn) (n : Nat) (t : BT KV n) (hv : Val mn mx n t) (hi : 1 ≤ (itemsB n t).length) : (wkB n t).length ≤ (flatB n t).length := by
  have := len_flat (wkB n t) (wk_ne h1 n t hv hi)
  rw [wk_flat] at this; exact this
end Go.Proofs.Ytlmiafbcgfegpaa.TB
