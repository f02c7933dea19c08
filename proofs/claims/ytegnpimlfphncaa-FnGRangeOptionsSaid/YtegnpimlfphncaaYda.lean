/-
  The map tg: deleting from a leaf. Conditions: none.
-/
import Derived.Test.YtegnpimlfphncaaPgD
import Derived.Test.YtegnpimlfphncaaYga
import Derived.Test.YtegnpimlfphncaaQg
set_option linter.unusedVariables false
set_option linter.unusedSimpArgs false
set_option linter.unusedSectionVars false
set_option maxRecDepth 100000
namespace Go.Proofs.Ytegnpimlfphncaa.TG
open Go Go.Proofs.Ytegnpimlfphncaa
section
variable {ls : Value} {oc : Ck} {o : List Int} {hp : Option PA} {dep : Nat} {h : H}
def tgt (o : List Int) (mx : Bool) (l : List KV) (k : KV) : Option KV := match mx with
  | true => l.getLast?
  | false => fnd (ltO o) l k
def rmv (o : List Int) (mx : Bool) (l : List KV) (k : KV) : List KV := match mx with
  | true => l.dropLast
  | false => del (ltO o) l k
def GdX (o : List Int) (k : KV) (n : Nat) (t t' : BT KV n) : Prop := ∀ Cp : List KV → Prop, Icl Cp → Gd Cp (fun a => ltO o a k = false) n t → Gd Cp (fun a => ltO o k a = true) n t'
def DelR (o : List Int) (hp : Option PA) (a0 : PA) (mc : List Value) (iso : Int) (mn mx n b : Nat) (t : BT KV n) (m : Bool) (k : KV) (x : SV [.agg [.int .i64, .int .i64], .c .bool]) (post : List Ck) : Prop :=
  ∃ t' : BT KV n, post = [Ow a0 mc 0, TrC L iso n b t', HtC hp] ∧
    ((tgt o m (flatB n t) k = none ∧ x = (((0, 0, ()) : SV1 [.int .i64, .int .i64]), false, ()) ∧ t' = t) ∨
     (∃ y, tgt o m (flatB n t) k = some y ∧ x = (((y.1, y.2, ()) : SV1 [.int .i64, .int .i64]), true, ()) ∧ flatB n t' = rmv o m (flatB n t) k ∧ Val mn mx n t' ∧ (itemsB n t).length ≤ (itemsB n t').length + 1 ∧ (m = false → GdX o k n t t')))
theorem erase_del {xs : List KV} {k : KV} {y : KV} (hf : fnd (ltO o) xs k = some y) : xs.eraseIdx (pos (ltO o) xs k) = del (ltO o) xs k := by
  unfold del
  rw [hf, List.eraseIdx_eq_take_drop_succ]; rfl
set_option maxHeartbeats 1000000 in
theorem c_delLeaf {a0 pn : PA} {b mn mx : Nat} {iso cnt : Int} {ctr root : Option PA} {cv icv : Bool} {xs : List KV} {m : Bool} {k : KV} (hh : HsOK hp) (hls : Lss ls oc o) (hdep : dep ≤ 4294967296) (hs : Srt (ltO o) xs) (hi1 : 0 < xs.length) (hv : xs.length ≤ mx) (hm : mx ≤ 255)
    (hpn : rd h pn = some (kptr b)) {G : PA → Prop} (hoc : Bes oc h G) (hG : Star [Ow a0 (mapC ls iso ctr root cnt mn mx cv icv) 0, TrC L iso 0 b xs, HtC hp] h G) :
    HT Try.prog fn_tg_delete [.c (.addr a0), .c (.addr pn), .c (.bool m), .agg [.int .i64 k.1, .int .i64 k.2], .c (.ptr hp), .c (.int .i64 dep)] true [.agg [.int .i64, .int .i64], .c .bool] h fun x h' => ∃ post, DelR o hp a0 (mapC ls iso ctr root cnt mn mx cv icv) iso mn mx 0 b xs m k x post ∧ St h G post h' := by
  apply hc_tg_delete
  unfold M_tg_delete
  obtain ⟨p, c, hc, S⟩ := open_leaf L iso ((St.start hG).at (.tr b))
  simp only [itemsB] at hc S
  refine st_allocK S fun n0 _ S hold => ?_
  refine st_allocK S fun n1 h1 S hold1 => ?_
  refine w_callT (c_isoLoad (m := true) (hold1 _ _ (hold _ _ hpn)) (S.rd rfl) (S.rd rfl)) ?_
  rintro _ h1 ⟨rfl, rfl⟩
  have S := S.ats [.ck (HtC hp), .ow (n1, 0), .ow (n0, 0), .ow (b, 0), .ow p, .ow a0]
  refine w_mid' none (fun (y : SV [.c .bool, .c (.int .i64)]) h' => ∃ (f : Bool) (i : Nat), y = (f, (i : Int), ()) ∧ i ≤ xs.length ∧ (f = true → i < xs.length ∧ xs[i]? = tgt o m xs k ∧ xs.eraseIdx i = rmv o m xs k) ∧ (f = false → tgt o m xs k = none) ∧
    St h G [HtC hp, Ow (n1, 0) (L.cells (0, 0)) 0, Ow (n0, 0) (L.cells k) 0, Ow (b, 0) (nodeC iso xs.length (some p, xs.length, c) none) 0, Ow p (L.flat xs) ((c - xs.length) * L.sz), Ow a0 (mapC ls iso ctr root cnt mn mx cv icv) 0] h') ?_ ?_
  · refine w_ite (fun hb => ?_) (fun hb => ?_)
    · subst hb
      repeat (first | refine w_nonnil ?_ | refine ld_it S (by assumption) ?_ | refine ld_int S rfl ?_ | refine ld_sls S rfl ?_ | refine st_it S (by first | omega | (dsimp only; omega)) fun _ S => ?_ | refine st_store S (lt_ble rfl) fun _ S => ?_ | refine st_alloc S fun _ _ S => ?_ | refine w_guard (by (first | exact inK64 (by omega) (by omega) | omega | (constructor <;> omega) | ((try dsimp only [Sh.T, Sh1.T]); first | exact inK64 (by omega) (by omega) | omega | exact ⟨by decide, inK64 (by omega) (by omega)⟩ | trivial))) ?_ | refine w_true (b := true) rfl ?_ | refine w_false (b := false) rfl ?_ | refine w_guard (show noMeths _ _ by show _ = _; kernel_rfl) ?_ | (refine w_callT (c_leafp (kp := none) (S.rd rfl)) ?_; rintro _ _ ⟨rfl, rfl⟩) | (refine w_callT (c_leafp (kp := some _) (S.rd rfl)) ?_; rintro _ _ ⟨rfl, rfl⟩) | (refine w_callT (c_leafp (S.rd rfl)) ?_; rintro _ _ ⟨rfl, rfl⟩) )
      refine md_n rfl ⟨true, xs.length - 1, by rw [show ((xs.length - 1 : Nat) : Int) = (xs.length : Int) - 1 by omega], by omega, fun _ => ⟨by omega, ?_, erase_last⟩, (fun h => by cases h), S⟩
      rw [tgt, List.getLast?_eq_getElem?]
    · subst hb
      refine ld_int S rfl (ld_int S rfl ?_)
      refine st_callS S [.ck (HtC hp)] (fun G B hG hB hd hsub => c_find hh hls (a1 := (b, 0)) (x := k) (kp := none) (bes hB hd rfl) (besR hB hd) (bes hB hd rfl) (bes hB hd rfl) (hoc.step S hsub) hs hi1 (by omega) hdep hG) ?_
      rintro _ _ _ ⟨rfl, rfl⟩ S
      refine md_n rfl ⟨(fnd (ltO o) xs k).isSome, pos (ltO o) xs k, rfl, pos_le _ _, fun hf => ?_, fun hf => by simpa [tgt] using hf, S⟩
      obtain ⟨y, hy⟩ := Option.isSome_iff_exists.1 hf
      obtain ⟨h1, h2, _⟩ := fnd_some_lt hy
      exact ⟨h1, by rw [h2, tgt, hy], erase_del hy⟩
  clear S
  rintro _ _ ⟨f, i, rfl, hil, hT, hF, S⟩
  simp only [Int.toNat_natCast, toNat_succ, toNat_succ2, toNat_pred]
  repeat (first | refine w_nonnil ?_ | refine ld_it S (by assumption) ?_ | refine ld_int S rfl ?_ | refine ld_sls S rfl ?_ | refine st_it S (by first | omega | (dsimp only; omega)) fun _ S => ?_ | refine st_store S (lt_ble rfl) fun _ S => ?_ | refine st_alloc S fun _ _ S => ?_ | refine w_guard (by (first | exact inK64 (by omega) (by omega) | omega | (constructor <;> omega) | ((try dsimp only [Sh.T, Sh1.T]); first | exact inK64 (by omega) (by omega) | omega | exact ⟨by decide, inK64 (by omega) (by omega)⟩ | trivial))) ?_ | refine w_true (b := true) rfl ?_ | refine w_false (b := false) rfl ?_ | refine w_guard (show noMeths _ _ by show _ = _; kernel_rfl) ?_ | (refine w_callT (c_leafp (kp := none) (S.rd rfl)) ?_; rintro _ _ ⟨rfl, rfl⟩) | (refine w_callT (c_leafp (kp := some _) (S.rd rfl)) ?_; rintro _ _ ⟨rfl, rfl⟩) | (refine w_callT (c_leafp (S.rd rfl)) ?_; rintro _ _ ⟨rfl, rfl⟩) )
  cases f with
  | false =>
    refine w_false rfl ?_
    repeat (first | refine w_nonnil ?_ | refine ld_it S (by assumption) ?_ | refine ld_int S rfl ?_ | refine ld_sls S rfl ?_ | refine st_it S (by first | omega | (dsimp only; omega)) fun _ S => ?_ | refine st_store S (lt_ble rfl) fun _ S => ?_ | refine st_alloc S fun _ _ S => ?_ | refine w_guard (by (first | exact inK64 (by omega) (by omega) | omega | (constructor <;> omega) | ((try dsimp only [Sh.T, Sh1.T]); first | exact inK64 (by omega) (by omega) | omega | exact ⟨by decide, inK64 (by omega) (by omega)⟩ | trivial))) ?_ | refine w_true (b := true) rfl ?_ | refine w_false (b := false) rfl ?_ | refine w_guard (show noMeths _ _ by show _ = _; kernel_rfl) ?_ | (refine w_callT (c_leafp (kp := none) (S.rd rfl)) ?_; rintro _ _ ⟨rfl, rfl⟩) | (refine w_callT (c_leafp (kp := some _) (S.rd rfl)) ?_; rintro _ _ ⟨rfl, rfl⟩) | (refine w_callT (c_leafp (S.rd rfl)) ?_; rintro _ _ ⟨rfl, rfl⟩) )
    refine rt_n rfl rfl ⟨_, ⟨xs, rfl, .inl ⟨hF rfl, rfl, rfl⟩⟩, ?_⟩
    have S := shut_leaf L iso (xs := xs) (S.ats [.ow (b, 0), .ow p]) rfl rfl rfl rfl hc rfl
    exact S.only [.ow a0, .tr b, .ck (HtC hp)]
  | true =>
    obtain ⟨hi, hx, hrm⟩ := hT rfl
    refine w_true rfl ?_
    obtain ⟨y, hy⟩ : ∃ y, xs[i]? = some y := ⟨xs[i], List.getElem?_eq_getElem hi⟩
    repeat (first | refine w_nonnil ?_ | refine ld_it S (by assumption) ?_ | refine ld_int S rfl ?_ | refine ld_sls S rfl ?_ | refine st_it S (by first | omega | (dsimp only; omega)) fun _ S => ?_ | refine st_store S (lt_ble rfl) fun _ S => ?_ | refine st_alloc S fun _ _ S => ?_ | refine w_guard (by (first | exact inK64 (by omega) (by omega) | omega | (constructor <;> omega) | ((try dsimp only [Sh.T, Sh1.T]); first | exact inK64 (by omega) (by omega) | omega | exact ⟨by decide, inK64 (by omega) (by omega)⟩ | trivial))) ?_ | refine w_true (b := true) rfl ?_ | refine w_false (b := false) rfl ?_ | refine w_guard (show noMeths _ _ by show _ = _; kernel_rfl) ?_ | (refine w_callT (c_leafp (kp := none) (S.rd rfl)) ?_; rintro _ _ ⟨rfl, rfl⟩) | (refine w_callT (c_leafp (kp := some _) (S.rd rfl)) ?_; rintro _ _ ⟨rfl, rfl⟩) | (refine w_callT (c_leafp (S.rd rfl)) ?_; rintro _ _ ⟨rfl, rfl⟩) )
    refine st_copyI (L := L) (ys := xs) (n := xs.length) S rfl rfl (by omega) (by omega) hc fun _ mm hmm S => ?_
    obtain rfl : mm = xs.length - (i + 1) := by rw [hmm]; show min _ _ = _; omega
    obtain ⟨zs, hz⟩ : ∃ zs, zs = (xs.take i ++ ((xs.drop (i + 1)).take (xs.length - (i + 1)) ++ xs.drop (i + (xs.length - (i + 1))))) := ⟨_, rfl⟩
    have hzl : zs.length = xs.length := by rw [hz]; simp; omega
    have hzd : zs.set (xs.length - 1) (0, 0) = xs.eraseIdx i ++ [(0, 0)] := by rw [hz]; exact del_list hi
    rw [← hz] at S
    clear hz hmm
    repeat (first | refine w_nonnil ?_ | refine ld_it S (by assumption) ?_ | refine ld_int S rfl ?_ | refine ld_sls S rfl ?_ | refine st_it S (by first | omega | (dsimp only; omega)) fun _ S => ?_ | refine st_store S (lt_ble rfl) fun _ S => ?_ | refine st_alloc S fun _ _ S => ?_ | refine w_guard (by (first | exact inK64 (by omega) (by omega) | omega | (constructor <;> omega) | ((try dsimp only [Sh.T, Sh1.T]); first | exact inK64 (by omega) (by omega) | omega | exact ⟨by decide, inK64 (by omega) (by omega)⟩ | trivial))) ?_ | refine w_true (b := true) rfl ?_ | refine w_false (b := false) rfl ?_ | refine w_guard (show noMeths _ _ by show _ = _; kernel_rfl) ?_ | (refine w_callT (c_leafp (kp := none) (S.rd rfl)) ?_; rintro _ _ ⟨rfl, rfl⟩) | (refine w_callT (c_leafp (kp := some _) (S.rd rfl)) ?_; rintro _ _ ⟨rfl, rfl⟩) | (refine w_callT (c_leafp (S.rd rfl)) ?_; rintro _ _ ⟨rfl, rfl⟩) )
    have he : (xs.eraseIdx i).length = xs.length - 1 := List.length_eraseIdx_of_lt hi
    have S := ((S.at (.ow p)).re p _ _ rfl (by rw [hzd, L.flat_append]) rfl).shrink
    have S := shut_leaf L iso (xs := xs.eraseIdx i) (cnt := (xs.eraseIdx i).length) (n := (xs.eraseIdx i).length) (c := c) (S.ats [.ow (b, 0), .ow p]) (by simp [nodeC, Cell.val, slBase_zero, he]; omega) rfl rfl rfl (by omega) (by
      rw [L.flat_length, he, ← Nat.add_mul]; congr 1; show 1 + _ = _; omega)
    refine rt_n rfl rfl ⟨_, ⟨xs.eraseIdx i, rfl, .inr ⟨y, by rw [← hy, hx]; rfl, rfl, hrm, ?_, ?_, fun _ _ _ _ => trivial⟩⟩, S.only [.ow a0, .tr b, .ck (HtC hp)]⟩
    · show (xs.eraseIdx i).length ≤ mx
      omega
    · show xs.length ≤ (xs.eraseIdx i).length + 1
      omega
end
end Go.Proofs.Ytegnpimlfphncaa.TG
