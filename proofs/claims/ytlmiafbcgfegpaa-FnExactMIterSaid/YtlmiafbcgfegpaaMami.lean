/-
  The map mi: isoLoad, newNode, updateCount. Conditions: none.
-/
import Derived.Test.YtlmiafbcgfegpaaPgA
import Derived.Test.YtlmiafbcgfegpaaIami
set_option linter.unusedVariables false
set_option linter.unusedSimpArgs false
set_option linter.unusedSectionVars false
set_option maxRecDepth 100000
namespace Go.Proofs.Ytlmiafbcgfegpaa.MI
open Go Go.Proofs.Ytlmiafbcgfegpaa
section
variable {h h0 : H} {G0 : PA → Prop} {l : List Ck}
def mapC (iso : Int) (ctr root : Option PA) (cnt : Int) (mn mx : Nat) (cv icv : Bool) : List Value :=
  [.int .u64 iso, .pointer (ctr.map PA.val), .pointer (root.map PA.val), .int .i64 cnt, .int .i64 0, .int .i64 0, .int .i64 mn, .int .i64 mx, .bool cv, .bool icv]
theorem c_isoLoad {a0 pn : PA} {b : Nat} {iso : Int} {m : Bool} (h1 : rd h pn = some (kptr b)) (h2 : rd h (b, 0) = some (.int .u64 iso)) (h3 : rd h (a0.1, a0.2) = some (.int .u64 iso)) :
    HT Try.prog fn_mi_isoLoad [.c (.addr a0), .c (.addr pn), .c (.bool m)] false [.c .ptr] h fun x h' => x = (some (b, 0), ()) ∧ h' = h := by
  apply hc_mi_isoLoad
  unfold M_mi_isoLoad
  have e : (iso != iso) = false := by simp
  refine w_bnd (w_ite (fun _ => w_ptr (some (b, 0)) h1 (w_nonnil (w_int iso h2 (w_int iso h3 (bd_n rfl ?_))))) (fun _ => bd_n rfl ?_))
  · rw [e]
    exact w_bnd (w_false rfl (bd_n rfl (w_ptr (some (b, 0)) h1 (rt_1 rfl ⟨rfl, rfl⟩))))
  · exact w_bnd (w_false rfl (bd_n rfl (w_ptr (some (b, 0)) h1 (rt_1 rfl ⟨rfl, rfl⟩))))
theorem c_newLeaf {a0 : PA} {iso : Int} (hi : rd h (a0.1, a0.2) = some (.int .u64 iso)) {G : PA → Prop} (hG : Star [] h G) :
    HT Try.prog fn_mi_newNode [.c (.addr a0), .c (.bool true)] false [.c .ptr] h fun x h' => ∃ post, (∃ n, x = (some (n, 0), ()) ∧ post = [Ow (n, 0) (nodeC iso 0 (none, 0, 0) none) 0]) ∧ St h G post h' := by
  apply hc_mi_newNode
  unfold M_mi_newNode
  refine st_alloc (St.start hG) fun n h1 S => ?_
  refine w_int iso (S.old hi (hG _)) ?_
  repeat (first | refine w_nonnil ?_ | refine ld_it S (by assumption) ?_ | refine ld_it0 S (by assumption) ?_ | refine ld_val S (by assumption) ?_ | refine ld_key S (by assumption) ?_ | refine ld_int S rfl ?_ | refine w_int _ (S.cnt _) ?_ | refine ld_kid S (by assumption) ?_ | refine ld_kid0 S (by assumption) ?_ | refine ld_some S rfl ?_ | refine ld_ptr S _ rfl ?_ | refine ld_sls S rfl ?_ | refine ld_nil S rfl ?_ | refine ld_bool S rfl ?_ | refine st_it S (by first | omega | (dsimp only; omega)) fun _ S => ?_ | refine st_it0 S (by first | omega | (dsimp only; omega)) fun _ S => ?_ | refine st_kid S (by first | omega | (dsimp only; omega)) none rfl fun _ S => ?_ | refine st_kid S (by first | omega | (dsimp only; omega)) (some _) rfl fun _ S => ?_ | refine st_kid0 S (by first | omega | (dsimp only; omega)) (some _) rfl fun _ S => ?_ | refine st_store S (lt_ble rfl) fun _ S => ?_ | refine st_alloc S fun _ _ S => ?_ | refine st_held S rfl ?_ | refine w_guard (by (first | exact inK64 (by omega) (by omega) | omega | (constructor <;> omega) | ((try dsimp only [Sh.T, Sh1.T]); first | exact inK64 (by omega) (by omega) | omega | exact ⟨by decide, inK64 (by omega) (by omega)⟩ | trivial))) ?_ | refine w_bnd ?_ | refine bd_n rfl ?_ | refine bd_e rfl ?_ | refine bd_r ?_ | refine bd_p ?_ | refine ln_r ?_ | refine ln_e ?_ | refine w_true (b := true) rfl ?_ | refine w_false (b := false) rfl ?_ | refine w_guard (show noMeths _ _ by show _ = _; kernel_rfl) ?_ | (refine w_callT (c_leafp (kp := none) (S.rd rfl)) ?_; rintro _ _ ⟨rfl, rfl⟩) | (refine w_callT (c_leafp (kp := some _) (S.rd rfl)) ?_; rintro _ _ ⟨rfl, rfl⟩) | (refine w_callT (c_leafp (S.rd rfl)) ?_; rintro _ _ ⟨rfl, rfl⟩) | (refine w_callT (c_leaf (kp := none) (S.rd rfl)) ?_; rintro _ _ ⟨rfl, rfl⟩) | (refine w_callT (c_leaf (kp := some _) (S.rd rfl)) ?_; rintro _ _ ⟨rfl, rfl⟩))
  exact rt_1 rfl ⟨_, ⟨n, rfl, rfl⟩, S⟩
theorem c_newBranch {a0 : PA} {iso : Int} (hi : rd h (a0.1, a0.2) = some (.int .u64 iso)) {G : PA → Prop} (hG : Star [] h G) :
    HT Try.prog fn_mi_newNode [.c (.addr a0), .c (.bool false)] false [.c .ptr] h fun x h' => ∃ post, (∃ n m, x = (some (n, 0), ()) ∧ post = [Ow (n, 0) (nodeC iso 0 (none, 0, 0) (some (m, 0))) 0, Ow (m, 0) (hdC (none, 0, 0)) 0]) ∧ St h G post h' := by
  apply hc_mi_newNode
  unfold M_mi_newNode
  refine st_alloc (St.start hG) fun n h1 S => ?_
  refine w_int iso (S.old hi (hG _)) ?_
  refine st_store S (lt_ble rfl) fun _ S => ?_
  refine w_bnd (w_true rfl ?_)
  refine st_alloc S fun m _ S => ?_
  repeat (first | refine w_nonnil ?_ | refine ld_it S (by assumption) ?_ | refine ld_it0 S (by assumption) ?_ | refine ld_val S (by assumption) ?_ | refine ld_key S (by assumption) ?_ | refine ld_int S rfl ?_ | refine w_int _ (S.cnt _) ?_ | refine ld_kid S (by assumption) ?_ | refine ld_kid0 S (by assumption) ?_ | refine ld_some S rfl ?_ | refine ld_ptr S _ rfl ?_ | refine ld_sls S rfl ?_ | refine ld_nil S rfl ?_ | refine ld_bool S rfl ?_ | refine st_it S (by first | omega | (dsimp only; omega)) fun _ S => ?_ | refine st_it0 S (by first | omega | (dsimp only; omega)) fun _ S => ?_ | refine st_kid S (by first | omega | (dsimp only; omega)) none rfl fun _ S => ?_ | refine st_kid S (by first | omega | (dsimp only; omega)) (some _) rfl fun _ S => ?_ | refine st_kid0 S (by first | omega | (dsimp only; omega)) (some _) rfl fun _ S => ?_ | refine st_store S (lt_ble rfl) fun _ S => ?_ | refine st_alloc S fun _ _ S => ?_ | refine st_held S rfl ?_ | refine w_guard (by (first | exact inK64 (by omega) (by omega) | omega | (constructor <;> omega) | ((try dsimp only [Sh.T, Sh1.T]); first | exact inK64 (by omega) (by omega) | omega | exact ⟨by decide, inK64 (by omega) (by omega)⟩ | trivial))) ?_ | refine w_bnd ?_ | refine bd_n rfl ?_ | refine bd_e rfl ?_ | refine bd_r ?_ | refine bd_p ?_ | refine ln_r ?_ | refine ln_e ?_ | refine w_true (b := true) rfl ?_ | refine w_false (b := false) rfl ?_ | refine w_guard (show noMeths _ _ by show _ = _; kernel_rfl) ?_ | (refine w_callT (c_leafp (kp := none) (S.rd rfl)) ?_; rintro _ _ ⟨rfl, rfl⟩) | (refine w_callT (c_leafp (kp := some _) (S.rd rfl)) ?_; rintro _ _ ⟨rfl, rfl⟩) | (refine w_callT (c_leafp (S.rd rfl)) ?_; rintro _ _ ⟨rfl, rfl⟩) | (refine w_callT (c_leaf (kp := none) (S.rd rfl)) ?_; rintro _ _ ⟨rfl, rfl⟩) | (refine w_callT (c_leaf (kp := some _) (S.rd rfl)) ?_; rintro _ _ ⟨rfl, rfl⟩))
  exact rt_1 rfl ⟨_, ⟨n, m, rfl, rfl⟩, S.only [.ow (n, 0), .ow (m, 0)]⟩
theorem c_updateLeaf {b : Nat} {iso c0 : Int} {p : PA} {n c : Nat} {G : PA → Prop} (hG : Star [Ow (b, 0) [.int .u64 iso, .int .i64 c0, .slice (some p.val) n c, .pointer none] 0] h G) :
    HT Try.prog fn_ni_updateCount [.c (.addr (b, 0))] true [] h fun x h' => ∃ post, post = [Ow (b, 0) (nodeC iso n (some p, n, c) none) 0] ∧ St h G post h' := by
  apply hc_ni_updateCount
  unfold M_ni_updateCount
  have S := St.start hG
  repeat (first | refine w_nonnil ?_ | refine ld_it S (by assumption) ?_ | refine ld_it0 S (by assumption) ?_ | refine ld_val S (by assumption) ?_ | refine ld_key S (by assumption) ?_ | refine ld_int S rfl ?_ | refine w_int _ (S.cnt _) ?_ | refine ld_kid S (by assumption) ?_ | refine ld_kid0 S (by assumption) ?_ | refine ld_some S rfl ?_ | refine ld_ptr S _ rfl ?_ | refine ld_sls S rfl ?_ | refine ld_nil S rfl ?_ | refine ld_bool S rfl ?_ | refine st_it S (by first | omega | (dsimp only; omega)) fun _ S => ?_ | refine st_it0 S (by first | omega | (dsimp only; omega)) fun _ S => ?_ | refine st_kid S (by first | omega | (dsimp only; omega)) none rfl fun _ S => ?_ | refine st_kid S (by first | omega | (dsimp only; omega)) (some _) rfl fun _ S => ?_ | refine st_kid0 S (by first | omega | (dsimp only; omega)) (some _) rfl fun _ S => ?_ | refine st_store S (lt_ble rfl) fun _ S => ?_ | refine st_alloc S fun _ _ S => ?_ | refine st_held S rfl ?_ | refine w_guard (by (first | exact inK64 (by omega) (by omega) | omega | (constructor <;> omega) | ((try dsimp only [Sh.T, Sh1.T]); first | exact inK64 (by omega) (by omega) | omega | exact ⟨by decide, inK64 (by omega) (by omega)⟩ | trivial))) ?_ | refine w_bnd ?_ | refine bd_n rfl ?_ | refine bd_e rfl ?_ | refine bd_r ?_ | refine bd_p ?_ | refine ln_r ?_ | refine ln_e ?_ | refine w_true (b := true) rfl ?_ | refine w_false (b := false) rfl ?_ | refine w_guard (show noMeths _ _ by show _ = _; kernel_rfl) ?_ | (refine w_callT (c_leafp (kp := none) (S.rd rfl)) ?_; rintro _ _ ⟨rfl, rfl⟩) | (refine w_callT (c_leafp (kp := some _) (S.rd rfl)) ?_; rintro _ _ ⟨rfl, rfl⟩) | (refine w_callT (c_leafp (S.rd rfl)) ?_; rintro _ _ ⟨rfl, rfl⟩) | (refine w_callT (c_leaf (kp := none) (S.rd rfl)) ?_; rintro _ _ ⟨rfl, rfl⟩) | (refine w_callT (c_leaf (kp := some _) (S.rd rfl)) ?_; rintro _ _ ⟨rfl, rfl⟩))
  exact rt_n rfl rfl ⟨_, rfl, S⟩
end
end Go.Proofs.Ytlmiafbcgfegpaa.MI
