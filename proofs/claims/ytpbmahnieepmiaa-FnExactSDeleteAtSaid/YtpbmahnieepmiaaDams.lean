/-
  The map ms: deleting from a leaf. Conditions: none.
-/
import Derived.Test.YtpbmahnieepmiaaPgD
import Derived.Test.YtpbmahnieepmiaaMams
set_option linter.unusedVariables false
set_option linter.unusedSimpArgs false
set_option linter.unusedSectionVars false
set_option maxRecDepth 100000
namespace Go.Proofs.Ytpbmahnieepmiaa.MS
open Go Go.Proofs.Ytpbmahnieepmiaa
section
variable {h : H}
def tgt (mx : Bool) (l : List KV) (k : Int) : Option KV := match mx with
  | true => l.getLast?
  | false => fnd lt l (k, ())
def rmv (mx : Bool) (l : List KV) (k : Int) : List KV := match mx with
  | true => l.dropLast
  | false => del lt l (k, ())
def DelR (a0 : PA) (mc : List Value) (iso : Int) (mn mx n b : Nat) (t : BT KV n) (m : Bool) (k : Int) (x : SV [.agg [.int .i64], .c .bool]) (post : List Ck) : Prop :=
  ∃ t' : BT KV n, post = [Ow a0 mc 0, TrC L iso n b t'] ∧
    ((tgt m (flatB n t) k = none ∧ x = (((z0).1, ()), false, ()) ∧ t' = t) ∨
     (∃ y, tgt m (flatB n t) k = some y ∧ x = (((y).1, ()), true, ()) ∧ flatB n t' = rmv m (flatB n t) k ∧ Val mn mx n t' ∧ (itemsB n t).length ≤ (itemsB n t').length + 1))
theorem erase_del {xs : List KV} {k : Int} {y : KV} (hf : fnd lt xs (k, ()) = some y) : xs.eraseIdx (pos lt xs (k, ())) = del lt xs (k, ()) := by
  unfold del
  rw [hf, List.eraseIdx_eq_take_drop_succ]; rfl
set_option maxHeartbeats 1000000 in
theorem c_delLeaf {a0 pn : PA} {b mn mx : Nat} {iso cnt : Int} {ctr root : Option PA} {cv icv : Bool} {xs : List KV} {m : Bool} {k : Int} (hs : Srt lt xs) (hv : xs.length ≤ mx) (hm : mx ≤ 1073741823) (hne : m = true → xs ≠ [])
    (hp : rd h pn = some (kptr b)) {G : PA → Prop} (hG : Star [Ow a0 (mapC iso ctr root cnt mn mx cv icv) 0, TrC L iso 0 b xs] h G) :
    HT Try.prog fn_ms_delete [.c (.addr a0), .c (.addr pn), .c (.bool m), .c (.int .i64 k)] true [.agg [.int .i64], .c .bool] h fun x h' => ∃ post, DelR a0 (mapC iso ctr root cnt mn mx cv icv) iso mn mx 0 b xs m k x post ∧ St h G post h' := by
  apply hc_ms_delete
  unfold M_ms_delete
  obtain ⟨p, c, hc, S⟩ := open_leaf L iso ((St.start hG).at (.tr b))
  simp only [itemsB] at hc S
  refine st_allocK S fun n0 h1 S hold => ?_
  refine w_callT (c_isoLoad (m := true) (hold _ _ hp) (S.rd rfl) (S.rd rfl)) ?_
  rintro _ h1 ⟨rfl, rfl⟩
  refine w_bind (fun vs h' => h' = h1 ∧ ∃ (f : Bool) (i : Nat), vs.map AV.val = [.bool f, .int .i64 i] ∧ i ≤ xs.length ∧ (f = true → i < xs.length ∧ xs[i]? = tgt m xs k ∧ xs.eraseIdx i = rmv m xs k) ∧ (f = false → tgt m xs k = none)) ?_ ?_
  · refine w_ite (fun hb => ?_) (fun hb => ?_)
    · subst hb
      have h1 : 0 < xs.length := List.length_pos_iff.2 (hne rfl)
      repeat (first | refine st_there (fun _ h => h) S (lt_ble rfl) ?_ | refine th_it S (by first | omega | (dsimp only; omega)) ?_ | refine w_there hok ?_ | refine w_nonnil ?_ | refine ld_it S (by assumption) ?_ | refine ld_it0 S (by assumption) ?_ | refine ld_val S (by assumption) ?_ | refine ld_key S (by assumption) ?_ | refine ld_int S rfl ?_ | refine w_int _ (S.cnt _) ?_ | refine ld_kid S (by assumption) ?_ | refine ld_kid0 S (by assumption) ?_ | refine ld_some S rfl ?_ | refine ld_ptr S _ rfl ?_ | refine ld_sls S rfl ?_ | refine ld_nil S rfl ?_ | refine ld_bool S rfl ?_ | refine st_it S (by first | omega | (dsimp only; omega)) fun _ S => ?_ | refine st_it0 S (by first | omega | (dsimp only; omega)) fun _ S => ?_ | refine st_kid S (by first | omega | (dsimp only; omega)) none rfl fun _ S => ?_ | refine st_kid S (by first | omega | (dsimp only; omega)) (some _) rfl fun _ S => ?_ | refine st_kid0 S (by first | omega | (dsimp only; omega)) (some _) rfl fun _ S => ?_ | refine st_store S (lt_ble rfl) fun _ S => ?_ | refine st_alloc S fun _ _ S => ?_ | refine st_held S rfl ?_ | refine w_guard (by (first | exact inK64 (by omega) (by omega) | omega | (constructor <;> omega) | ((try dsimp only [Sh.T, Sh1.T]); first | exact inK64 (by omega) (by omega) | omega | exact ⟨by decide, inK64 (by omega) (by omega)⟩ | trivial))) ?_ | refine bd_n rfl ?_ | refine bd_e rfl ?_ | refine bd_r ?_ | refine bd_p ?_ | refine ln_r ?_ | refine ln_e ?_ | refine w_true (b := true) rfl ?_ | refine w_false (b := false) rfl ?_ | refine w_guard (show noMeths _ _ by show _ = _; kernel_rfl) ?_ | (refine w_callT (c_leafp (kp := none) (S.rd rfl)) ?_; rintro _ _ ⟨rfl, rfl⟩) | (refine w_callT (c_leafp (kp := some _) (S.rd rfl)) ?_; rintro _ _ ⟨rfl, rfl⟩) | (refine w_callT (c_leafp (S.rd rfl)) ?_; rintro _ _ ⟨rfl, rfl⟩) | (refine w_callT (c_leaf (kp := none) (S.rd rfl)) ?_; rintro _ _ ⟨rfl, rfl⟩) | (refine w_callT (c_leaf (kp := some _) (S.rd rfl)) ?_; rintro _ _ ⟨rfl, rfl⟩))
      refine ⟨rfl, true, xs.length - 1, ?_, by omega, fun _ => ⟨by omega, ?_, erase_last⟩, fun h => by cases h⟩
      · simp only [List.map, AV.val, Cell.val]
        rw [show ((xs.length : Int) - 1) = ((xs.length - 1 : Nat) : Int) by omega]
      · rw [tgt, List.getLast?_eq_getElem?]
    · subst hb
      refine w_callT (c_search (a1 := (b, 0)) (p := p) (xs := xs) (c := c) (S.rd rfl) (S.rds (L.flat xs) fun i v h => by rw [Nat.zero_add]; exact h) hs (by omega)) ?_
      rintro _ _ ⟨rfl, rfl⟩
      refine ⟨rfl, (fnd lt xs (k, ())).isSome, pos lt xs (k, ()), rfl, pos_le _ _, fun hf => ?_, fun hf => by simpa [tgt] using hf⟩
      obtain ⟨y, hy⟩ := Option.isSome_iff_exists.1 hf
      obtain ⟨h1, h2, _⟩ := fnd_some_lt hy
      exact ⟨h1, by rw [h2, tgt, hy], erase_del hy⟩
  rintro vs _ ⟨rfl, f, i, e, hil, hT, hF⟩
  refine ⟨(f, (i : Int), ()), e.symm, ?_⟩
  simp only [Int.toNat_natCast, toNat_succ, toNat_succ2, toNat_pred]
  repeat (first | refine st_there (fun _ h => h) S (lt_ble rfl) ?_ | refine th_it S (by first | omega | (dsimp only; omega)) ?_ | refine w_there hok ?_ | refine w_nonnil ?_ | refine ld_it S (by assumption) ?_ | refine ld_it0 S (by assumption) ?_ | refine ld_val S (by assumption) ?_ | refine ld_key S (by assumption) ?_ | refine ld_int S rfl ?_ | refine w_int _ (S.cnt _) ?_ | refine ld_kid S (by assumption) ?_ | refine ld_kid0 S (by assumption) ?_ | refine ld_some S rfl ?_ | refine ld_ptr S _ rfl ?_ | refine ld_sls S rfl ?_ | refine ld_nil S rfl ?_ | refine ld_bool S rfl ?_ | refine st_it S (by first | omega | (dsimp only; omega)) fun _ S => ?_ | refine st_it0 S (by first | omega | (dsimp only; omega)) fun _ S => ?_ | refine st_kid S (by first | omega | (dsimp only; omega)) none rfl fun _ S => ?_ | refine st_kid S (by first | omega | (dsimp only; omega)) (some _) rfl fun _ S => ?_ | refine st_kid0 S (by first | omega | (dsimp only; omega)) (some _) rfl fun _ S => ?_ | refine st_store S (lt_ble rfl) fun _ S => ?_ | refine st_alloc S fun _ _ S => ?_ | refine st_held S rfl ?_ | refine w_guard (by (first | exact inK64 (by omega) (by omega) | omega | (constructor <;> omega) | ((try dsimp only [Sh.T, Sh1.T]); first | exact inK64 (by omega) (by omega) | omega | exact ⟨by decide, inK64 (by omega) (by omega)⟩ | trivial))) ?_ | refine bd_n rfl ?_ | refine bd_e rfl ?_ | refine bd_r ?_ | refine bd_p ?_ | refine ln_r ?_ | refine ln_e ?_ | refine w_true (b := true) rfl ?_ | refine w_false (b := false) rfl ?_ | refine w_guard (show noMeths _ _ by show _ = _; kernel_rfl) ?_ | (refine w_callT (c_leafp (kp := none) (S.rd rfl)) ?_; rintro _ _ ⟨rfl, rfl⟩) | (refine w_callT (c_leafp (kp := some _) (S.rd rfl)) ?_; rintro _ _ ⟨rfl, rfl⟩) | (refine w_callT (c_leafp (S.rd rfl)) ?_; rintro _ _ ⟨rfl, rfl⟩) | (refine w_callT (c_leaf (kp := none) (S.rd rfl)) ?_; rintro _ _ ⟨rfl, rfl⟩) | (refine w_callT (c_leaf (kp := some _) (S.rd rfl)) ?_; rintro _ _ ⟨rfl, rfl⟩))
  cases f with
  | false =>
    refine w_false rfl ?_
    repeat (first | refine st_there (fun _ h => h) S (lt_ble rfl) ?_ | refine th_it S (by first | omega | (dsimp only; omega)) ?_ | refine w_there hok ?_ | refine w_nonnil ?_ | refine ld_it S (by assumption) ?_ | refine ld_it0 S (by assumption) ?_ | refine ld_val S (by assumption) ?_ | refine ld_key S (by assumption) ?_ | refine ld_int S rfl ?_ | refine w_int _ (S.cnt _) ?_ | refine ld_kid S (by assumption) ?_ | refine ld_kid0 S (by assumption) ?_ | refine ld_some S rfl ?_ | refine ld_ptr S _ rfl ?_ | refine ld_sls S rfl ?_ | refine ld_nil S rfl ?_ | refine ld_bool S rfl ?_ | refine st_it S (by first | omega | (dsimp only; omega)) fun _ S => ?_ | refine st_it0 S (by first | omega | (dsimp only; omega)) fun _ S => ?_ | refine st_kid S (by first | omega | (dsimp only; omega)) none rfl fun _ S => ?_ | refine st_kid S (by first | omega | (dsimp only; omega)) (some _) rfl fun _ S => ?_ | refine st_kid0 S (by first | omega | (dsimp only; omega)) (some _) rfl fun _ S => ?_ | refine st_store S (lt_ble rfl) fun _ S => ?_ | refine st_alloc S fun _ _ S => ?_ | refine st_held S rfl ?_ | refine w_guard (by (first | exact inK64 (by omega) (by omega) | omega | (constructor <;> omega) | ((try dsimp only [Sh.T, Sh1.T]); first | exact inK64 (by omega) (by omega) | omega | exact ⟨by decide, inK64 (by omega) (by omega)⟩ | trivial))) ?_ | refine bd_n rfl ?_ | refine bd_e rfl ?_ | refine bd_r ?_ | refine bd_p ?_ | refine ln_r ?_ | refine ln_e ?_ | refine w_true (b := true) rfl ?_ | refine w_false (b := false) rfl ?_ | refine w_guard (show noMeths _ _ by show _ = _; kernel_rfl) ?_ | (refine w_callT (c_leafp (kp := none) (S.rd rfl)) ?_; rintro _ _ ⟨rfl, rfl⟩) | (refine w_callT (c_leafp (kp := some _) (S.rd rfl)) ?_; rintro _ _ ⟨rfl, rfl⟩) | (refine w_callT (c_leafp (S.rd rfl)) ?_; rintro _ _ ⟨rfl, rfl⟩) | (refine w_callT (c_leaf (kp := none) (S.rd rfl)) ?_; rintro _ _ ⟨rfl, rfl⟩) | (refine w_callT (c_leaf (kp := some _) (S.rd rfl)) ?_; rintro _ _ ⟨rfl, rfl⟩))
    refine rt_n rfl rfl ⟨_, ⟨xs, rfl, .inl ⟨hF rfl, rfl, rfl⟩⟩, ?_⟩
    have S := shut_leaf L iso (xs := xs) (S.ats [.ow (b, 0), .ow p]) rfl rfl rfl rfl hc rfl
    exact S.only [.ow a0, .tr b]
  | true =>
    obtain ⟨hi, hx, hrm⟩ := hT rfl
    refine w_true rfl ?_
    obtain ⟨y, hy⟩ : ∃ y, xs[i]? = some y := ⟨xs[i], List.getElem?_eq_getElem hi⟩
    repeat (first | refine st_there (fun _ h => h) S (lt_ble rfl) ?_ | refine th_it S (by first | omega | (dsimp only; omega)) ?_ | refine w_there hok ?_ | refine w_nonnil ?_ | refine ld_it S (by assumption) ?_ | refine ld_it0 S (by assumption) ?_ | refine ld_val S (by assumption) ?_ | refine ld_key S (by assumption) ?_ | refine ld_int S rfl ?_ | refine w_int _ (S.cnt _) ?_ | refine ld_kid S (by assumption) ?_ | refine ld_kid0 S (by assumption) ?_ | refine ld_some S rfl ?_ | refine ld_ptr S _ rfl ?_ | refine ld_sls S rfl ?_ | refine ld_nil S rfl ?_ | refine ld_bool S rfl ?_ | refine st_it S (by first | omega | (dsimp only; omega)) fun _ S => ?_ | refine st_it0 S (by first | omega | (dsimp only; omega)) fun _ S => ?_ | refine st_kid S (by first | omega | (dsimp only; omega)) none rfl fun _ S => ?_ | refine st_kid S (by first | omega | (dsimp only; omega)) (some _) rfl fun _ S => ?_ | refine st_kid0 S (by first | omega | (dsimp only; omega)) (some _) rfl fun _ S => ?_ | refine st_store S (lt_ble rfl) fun _ S => ?_ | refine st_alloc S fun _ _ S => ?_ | refine st_held S rfl ?_ | refine w_guard (by (first | exact inK64 (by omega) (by omega) | omega | (constructor <;> omega) | ((try dsimp only [Sh.T, Sh1.T]); first | exact inK64 (by omega) (by omega) | omega | exact ⟨by decide, inK64 (by omega) (by omega)⟩ | trivial))) ?_ | refine bd_n rfl ?_ | refine bd_e rfl ?_ | refine bd_r ?_ | refine bd_p ?_ | refine ln_r ?_ | refine ln_e ?_ | refine w_true (b := true) rfl ?_ | refine w_false (b := false) rfl ?_ | refine w_guard (show noMeths _ _ by show _ = _; kernel_rfl) ?_ | (refine w_callT (c_leafp (kp := none) (S.rd rfl)) ?_; rintro _ _ ⟨rfl, rfl⟩) | (refine w_callT (c_leafp (kp := some _) (S.rd rfl)) ?_; rintro _ _ ⟨rfl, rfl⟩) | (refine w_callT (c_leafp (S.rd rfl)) ?_; rintro _ _ ⟨rfl, rfl⟩) | (refine w_callT (c_leaf (kp := none) (S.rd rfl)) ?_; rintro _ _ ⟨rfl, rfl⟩) | (refine w_callT (c_leaf (kp := some _) (S.rd rfl)) ?_; rintro _ _ ⟨rfl, rfl⟩))
    refine st_copyI (L := L) (ys := xs) (n := xs.length) S rfl rfl (by omega) (by omega) hc fun _ mm hmm S => ?_
    obtain rfl : mm = xs.length - (i + 1) := by rw [hmm]; show min _ _ = _; omega
    obtain ⟨zs, hz⟩ : ∃ zs, zs = (xs.take i ++ ((xs.drop (i + 1)).take (xs.length - (i + 1)) ++ xs.drop (i + (xs.length - (i + 1))))) := ⟨_, rfl⟩
    have hzl : zs.length = xs.length := by rw [hz]; simp; omega
    have hzd : zs.set (xs.length - 1) ((0, ()) : KV) = xs.eraseIdx i ++ [((0, ()) : KV)] := by rw [hz]; exact del_list hi
    rw [← hz] at S
    clear hz hmm
    repeat (first | refine st_there (fun _ h => h) S (lt_ble rfl) ?_ | refine th_it S (by first | omega | (dsimp only; omega)) ?_ | refine w_there hok ?_ | refine w_nonnil ?_ | refine ld_it S (by assumption) ?_ | refine ld_it0 S (by assumption) ?_ | refine ld_val S (by assumption) ?_ | refine ld_key S (by assumption) ?_ | refine ld_int S rfl ?_ | refine w_int _ (S.cnt _) ?_ | refine ld_kid S (by assumption) ?_ | refine ld_kid0 S (by assumption) ?_ | refine ld_some S rfl ?_ | refine ld_ptr S _ rfl ?_ | refine ld_sls S rfl ?_ | refine ld_nil S rfl ?_ | refine ld_bool S rfl ?_ | refine st_it S (by first | omega | (dsimp only; omega)) fun _ S => ?_ | refine st_it0 S (by first | omega | (dsimp only; omega)) fun _ S => ?_ | refine st_kid S (by first | omega | (dsimp only; omega)) none rfl fun _ S => ?_ | refine st_kid S (by first | omega | (dsimp only; omega)) (some _) rfl fun _ S => ?_ | refine st_kid0 S (by first | omega | (dsimp only; omega)) (some _) rfl fun _ S => ?_ | refine st_store S (lt_ble rfl) fun _ S => ?_ | refine st_alloc S fun _ _ S => ?_ | refine st_held S rfl ?_ | refine w_guard (by (first | exact inK64 (by omega) (by omega) | omega | (constructor <;> omega) | ((try dsimp only [Sh.T, Sh1.T]); first | exact inK64 (by omega) (by omega) | omega | exact ⟨by decide, inK64 (by omega) (by omega)⟩ | trivial))) ?_ | refine bd_n rfl ?_ | refine bd_e rfl ?_ | refine bd_r ?_ | refine bd_p ?_ | refine ln_r ?_ | refine ln_e ?_ | refine w_true (b := true) rfl ?_ | refine w_false (b := false) rfl ?_ | refine w_guard (show noMeths _ _ by show _ = _; kernel_rfl) ?_ | (refine w_callT (c_leafp (kp := none) (S.rd rfl)) ?_; rintro _ _ ⟨rfl, rfl⟩) | (refine w_callT (c_leafp (kp := some _) (S.rd rfl)) ?_; rintro _ _ ⟨rfl, rfl⟩) | (refine w_callT (c_leafp (S.rd rfl)) ?_; rintro _ _ ⟨rfl, rfl⟩) | (refine w_callT (c_leaf (kp := none) (S.rd rfl)) ?_; rintro _ _ ⟨rfl, rfl⟩) | (refine w_callT (c_leaf (kp := some _) (S.rd rfl)) ?_; rintro _ _ ⟨rfl, rfl⟩))
    have he : (xs.eraseIdx i).length = xs.length - 1 := List.length_eraseIdx_of_lt hi
    have S := ((S.at (.ow p)).re p _ _ rfl (by rw [hzd, L.flat_append]) rfl).shrink
    have S := shut_leaf L iso (xs := xs.eraseIdx i) (cnt := (xs.eraseIdx i).length) (n := (xs.eraseIdx i).length) (c := c) (S.ats [.ow (b, 0), .ow p]) (by simp [nodeC, Cell.val, slBase_zero, he]; omega) rfl rfl rfl (by omega) (by
      rw [L.flat_length, he, ← Nat.add_mul]; congr 1; show 1 + _ = _; omega)
    refine rt_n rfl rfl ⟨_, ⟨xs.eraseIdx i, rfl, .inr ⟨y, by rw [← hy, hx]; rfl, rfl, hrm, ?_, ?_⟩⟩, S.only [.ow a0, .tr b]⟩
    · show (xs.eraseIdx i).length ≤ mx
      omega
    · show xs.length ≤ (xs.eraseIdx i).length + 1
      omega
end
end Go.Proofs.Ytpbmahnieepmiaa.MS
