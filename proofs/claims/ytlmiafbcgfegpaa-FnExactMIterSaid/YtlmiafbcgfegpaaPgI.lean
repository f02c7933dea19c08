/-
  Functions of the translation as typed programs, and that each is its function's reading. Written by a program of ours (gen2.py). Conditions: none.
-/
import Derived.Test.YtlmiafbcgfegpaaNm
namespace Go.Proofs.Ytlmiafbcgfegpaa
open Go
set_option maxRecDepth 100000
set_option linter.unusedVariables false
def M_ii_First (a0 : PA) : M :=
  .load (a0.fst, a0.snd) (.ptr) fun q0 =>
  .ite (Option.isNone q0)
  (.done .ret [.c (.ff)])
  (.store (a0.fst, a0.snd + 4) (.ff) <|
    .store (a0.fst, a0.snd + 3) (.ff) <|
    .store (a0.fst, a0.snd + 2) (.tt) <|
    .load (a0.fst, a0.snd + 5) (.sl) fun s1 =>
    .guard (((0 : Int) ≤ 0) ∧ ((0 : Int) ≤ (↑s1.snd.snd : Int))) <|
    .store (a0.fst, a0.snd + 5) (.sl (slBase s1.fst s1.snd.snd 0 2) (0) (s1.snd.snd - 0)) <|
    .load (a0.fst, a0.snd) (.ptr) fun q2 =>
    .nonnil (q2) fun p3 =>
    .load (p3.fst, p3.snd + 2) (.ptr) fun q4 =>
    .ite (Option.isNone q4)
    (.done .ret [.c (.ff)])
    (.load (a0.fst, a0.snd) (.ptr) fun q5 =>
      .load (a0.fst, a0.snd) (.ptr) fun q6 =>
      .nonnil (q6) fun p7 =>
      .load (a0.fst, a0.snd + 1) (.bool) fun b8 =>
      .call fn_mi_isoLoad [.c (.ptr (q5)), .c (.addr (p7.fst, p7.snd + 2)), .c (.bool (b8))] false [.c (.ptr)] fun r9 =>
      .bind (some 0) (.loop [.c (.ptr)] [.c (.ptr (r9.fst))] fun y10 =>
          .load (a0.fst, a0.snd + 5) (.sl) fun s11 =>
          .alloc ty_btree_mapIterStackItem_int_int [.ptr (y10.fst), .int .i64 (0)] fun n12 =>
          .append ty_btree_mapIterStackItem_int_int 2 16 [.ptr none, .int .i64 (0)] ((s11.fst), s11.snd.fst, s11.snd.snd) ((some (n12, 0)), 1, 1) fun s13 =>
          .store (a0.fst, a0.snd + 5) (.sl (s13.fst) (s13.snd.fst) (s13.snd.snd)) <|
          .call fn_ni_leaf [.c (.ptr (y10.fst))] false [.c (.bool)] fun r14 =>
          .ite (r14.fst)
          (.done (.exit 0) [])
          (.load (a0.fst, a0.snd) (.ptr) fun q15 =>
            .nonnil (y10.fst) fun p16 =>
            .load (p16.fst, p16.snd + 3) (.ptr) fun q17 =>
            .nonnil (q17) fun p18 =>
            .load p18 (.sl) fun s19 =>
            .nonnil (s19.fst) fun p20 =>
            .guard (((0 : Int) ≤ 0) ∧ ((0 : Int) < (↑s19.snd.fst : Int))) <|
            .load (a0.fst, a0.snd + 1) (.bool) fun b21 =>
            .call fn_mi_isoLoad [.c (.ptr (q15)), .c (.addr (p20.fst, p20.snd)), .c (.bool (b21))] false [.c (.ptr)] fun r22 =>
            .done .normal [.c (.ptr (r22.fst))])) [] fun x23 =>
      .load (a0.fst, a0.snd + 5) (.sl) fun s24 =>
      .load (a0.fst, a0.snd + 5) (.sl) fun s25 =>
      .guard (InK IntKind.i64 ((↑s25.snd.fst : Int) - 1)) <|
      .nonnil (s24.fst) fun p26 =>
      .guard (((0 : Int) ≤ (↑s25.snd.fst : Int) - 1) ∧ (((↑s25.snd.fst : Int) - 1 : Int) < (↑s24.snd.fst : Int))) <|
      .load (p26.fst, p26.snd + mulN ((↑s25.snd.fst : Int) - 1).toNat 2) (.ptr) fun q27 =>
      .nonnil (q27) fun p28 =>
      .load (p28.fst, p28.snd + 2) (.sl) fun s29 =>
      .load (p26.fst, p26.snd + mulN ((↑s25.snd.fst : Int) - 1).toNat 2 + 1) (.int .i64) fun i30 =>
      .nonnil (s29.fst) fun p31 =>
      .guard (((0 : Int) ≤ i30) ∧ ((i30 : Int) < (↑s29.snd.fst : Int))) <|
      .load (p31.fst, p31.snd + mulN (Int.toNat i30) 2) (.int .i64) fun i32 =>
      .load (p31.fst, p31.snd + mulN (Int.toNat i30) 2 + 1) (.int .i64) fun i33 =>
      .store (a0.fst, a0.snd + 6) (.int .i64 (i32)) <|
      .store (a0.fst, a0.snd + 7) (.int .i64 (i33)) <|
      .done .ret [.c (.tt)]))
theorem den_ii_First (a0 : PA) : denFn Try.prog Try.f107 [.c (.addr a0)] = M_ii_First a0 := by kernel_rfl
theorem hc_ii_First (a0 : PA) {h : H} {R : Value → H → Prop} (hw : wp Try.prog (M_ii_First a0) (Ret R) h) : HC Try.prog fn_ii_First (List.map AV.val [.c (.addr a0)]).toArray h R :=
  den_calls hmix Try.func107 (of_decide_eq_true rfl) (by rw [den_ii_First]; exact hw)
def M_ii_Key (a0 : PA) : M :=
  .load (a0.fst, a0.snd + 7) (.int .i64) fun i0 =>
  .done .ret [.c (.int .i64 (i0))]
theorem den_ii_Key (a0 : PA) : denFn Try.prog Try.f109 [.c (.addr a0)] = M_ii_Key a0 := by kernel_rfl
theorem hc_ii_Key (a0 : PA) {h : H} {R : Value → H → Prop} (hw : wp Try.prog (M_ii_Key a0) (Ret R) h) : HC Try.prog fn_ii_Key (List.map AV.val [.c (.addr a0)]).toArray h R :=
  den_calls hmix Try.func109 (of_decide_eq_true rfl) (by rw [den_ii_Key]; exact hw)
def M_ii_Last (a0 : PA) : M :=
  .load (a0.fst, a0.snd) (.ptr) fun q0 =>
  .ite (Option.isNone q0)
  (.done .ret [.c (.ff)])
  (.store (a0.fst, a0.snd + 2) (.tt) <|
    .load (a0.fst, a0.snd + 5) (.sl) fun s1 =>
    .guard (((0 : Int) ≤ 0) ∧ ((0 : Int) ≤ (↑s1.snd.snd : Int))) <|
    .store (a0.fst, a0.snd + 5) (.sl (slBase s1.fst s1.snd.snd 0 2) (0) (s1.snd.snd - 0)) <|
    .load (a0.fst, a0.snd) (.ptr) fun q2 =>
    .nonnil (q2) fun p3 =>
    .load (p3.fst, p3.snd + 2) (.ptr) fun q4 =>
    .ite (Option.isNone q4)
    (.done .ret [.c (.ff)])
    (.load (a0.fst, a0.snd) (.ptr) fun q5 =>
      .load (a0.fst, a0.snd) (.ptr) fun q6 =>
      .nonnil (q6) fun p7 =>
      .load (a0.fst, a0.snd + 1) (.bool) fun b8 =>
      .call fn_mi_isoLoad [.c (.ptr (q5)), .c (.addr (p7.fst, p7.snd + 2)), .c (.bool (b8))] false [.c (.ptr)] fun r9 =>
      .bind (some 0) (.loop [.c (.ptr)] [.c (.ptr (r9.fst))] fun y10 =>
          .load (a0.fst, a0.snd + 5) (.sl) fun s11 =>
          .nonnil (y10.fst) fun p12 =>
          .load (p12.fst, p12.snd + 2) (.sl) fun s13 =>
          .alloc ty_btree_mapIterStackItem_int_int [.ptr (y10.fst), .int .i64 ((↑s13.snd.fst : Int))] fun n14 =>
          .held (a0.fst, a0.snd + 5) (.sl (s11.fst) (s11.snd.fst) (s11.snd.snd)) <|
          .append ty_btree_mapIterStackItem_int_int 2 16 [.ptr none, .int .i64 (0)] ((s11.fst), s11.snd.fst, s11.snd.snd) ((some (n14, 0)), 1, 1) fun s15 =>
          .store (a0.fst, a0.snd + 5) (.sl (s15.fst) (s15.snd.fst) (s15.snd.snd)) <|
          .call fn_ni_leaf [.c (.ptr (y10.fst))] false [.c (.bool)] fun r16 =>
          .ite (r16.fst)
          (.load (a0.fst, a0.snd + 5) (.sl) fun s17 =>
            .load (a0.fst, a0.snd + 5) (.sl) fun s18 =>
            .guard (InK IntKind.i64 ((↑s18.snd.fst : Int) - 1)) <|
            .nonnil (s17.fst) fun p19 =>
            .guard (((0 : Int) ≤ (↑s18.snd.fst : Int) - 1) ∧ (((↑s18.snd.fst : Int) - 1 : Int) < (↑s17.snd.fst : Int))) <|
            .load (p19.fst, p19.snd + mulN ((↑s18.snd.fst : Int) - 1).toNat 2 + 1) (.int .i64) fun i20 =>
            .guard (InK IntKind.i64 (i20 - 1)) <|
            .nonnil (s17.fst) fun p21 =>
            .guard (((0 : Int) ≤ (↑s18.snd.fst : Int) - 1) ∧ (((↑s18.snd.fst : Int) - 1 : Int) < (↑s17.snd.fst : Int))) <|
            .store (p21.fst, p21.snd + mulN ((↑s18.snd.fst : Int) - 1).toNat 2 + 1) (.int .i64 (i20 - 1)) <|
            .done (.exit 0) [])
          (.load (a0.fst, a0.snd) (.ptr) fun q22 =>
            .nonnil (y10.fst) fun p23 =>
            .load (p23.fst, p23.snd + 3) (.ptr) fun q24 =>
            .nonnil (q24) fun p25 =>
            .load p25 (.sl) fun s26 =>
            .nonnil (y10.fst) fun p27 =>
            .load (p27.fst, p27.snd + 2) (.sl) fun s28 =>
            .nonnil (s26.fst) fun p29 =>
            .guard (((0 : Int) ≤ (↑s28.snd.fst : Int)) ∧ (((↑s28.snd.fst : Int) : Int) < (↑s26.snd.fst : Int))) <|
            .load (a0.fst, a0.snd + 1) (.bool) fun b30 =>
            .call fn_mi_isoLoad [.c (.ptr (q22)), .c (.addr (p29.fst, p29.snd + (↑s28.snd.fst : Int).toNat)), .c (.bool (b30))] false [.c (.ptr)] fun r31 =>
            .done .normal [.c (.ptr (r31.fst))])) [] fun x32 =>
      .load (a0.fst, a0.snd + 5) (.sl) fun s33 =>
      .load (a0.fst, a0.snd + 5) (.sl) fun s34 =>
      .guard (InK IntKind.i64 ((↑s34.snd.fst : Int) - 1)) <|
      .nonnil (s33.fst) fun p35 =>
      .guard (((0 : Int) ≤ (↑s34.snd.fst : Int) - 1) ∧ (((↑s34.snd.fst : Int) - 1 : Int) < (↑s33.snd.fst : Int))) <|
      .load (p35.fst, p35.snd + mulN ((↑s34.snd.fst : Int) - 1).toNat 2) (.ptr) fun q36 =>
      .nonnil (q36) fun p37 =>
      .load (p37.fst, p37.snd + 2) (.sl) fun s38 =>
      .load (p35.fst, p35.snd + mulN ((↑s34.snd.fst : Int) - 1).toNat 2 + 1) (.int .i64) fun i39 =>
      .nonnil (s38.fst) fun p40 =>
      .guard (((0 : Int) ≤ i39) ∧ ((i39 : Int) < (↑s38.snd.fst : Int))) <|
      .load (p40.fst, p40.snd + mulN (Int.toNat i39) 2) (.int .i64) fun i41 =>
      .load (p40.fst, p40.snd + mulN (Int.toNat i39) 2 + 1) (.int .i64) fun i42 =>
      .store (a0.fst, a0.snd + 6) (.int .i64 (i41)) <|
      .store (a0.fst, a0.snd + 7) (.int .i64 (i42)) <|
      .done .ret [.c (.tt)]))
theorem den_ii_Last (a0 : PA) : denFn Try.prog Try.f103 [.c (.addr a0)] = M_ii_Last a0 := by kernel_rfl
theorem hc_ii_Last (a0 : PA) {h : H} {R : Value → H → Prop} (hw : wp Try.prog (M_ii_Last a0) (Ret R) h) : HC Try.prog fn_ii_Last (List.map AV.val [.c (.addr a0)]).toArray h R :=
  den_calls hmix Try.func103 (of_decide_eq_true rfl) (by rw [den_ii_Last]; exact hw)
def M_ii_Next (a0 : PA) : M :=
  .load (a0.fst, a0.snd) (.ptr) fun q0 =>
  .ite (Option.isNone q0)
  (.done .ret [.c (.ff)])
  (.load (a0.fst, a0.snd + 2) (.bool) fun b1 =>
    .ite (!b1)
    (.call fn_ii_First [.c (.addr a0)] false [.c (.bool)] fun r2 =>
      .done .ret [.c (.bool (r2.fst))])
    (.load (a0.fst, a0.snd + 5) (.sl) fun s3 =>
      .ite ((↑s3.snd.fst : Int) == 0)
      (.load (a0.fst, a0.snd + 3) (.bool) fun b4 =>
        .ite (b4)
        (.bind none (.call fn_ii_First [.c (.addr a0)] false [.c (.bool)] fun r5 =>
            .ite (r5.fst)
            (.call fn_ii_Next [.c (.addr a0)] false [.c (.bool)] fun r6 =>
              .done .normal [.c (.bool (r6.fst))])
            (.done .normal [.c (.ff)])) [.c (.bool)] fun x7 =>
          .done .ret [.c (.bool (x7.fst))])
        (.done .ret [.c (.ff)]))
      (.load (a0.fst, a0.snd + 5) (.sl) fun s8 =>
        .load (a0.fst, a0.snd + 5) (.sl) fun s9 =>
        .guard (InK IntKind.i64 ((↑s9.snd.fst : Int) - 1)) <|
        .nonnil (s8.fst) fun p10 =>
        .guard (((0 : Int) ≤ (↑s9.snd.fst : Int) - 1) ∧ (((↑s9.snd.fst : Int) - 1 : Int) < (↑s8.snd.fst : Int))) <|
        .load (p10.fst, p10.snd + mulN ((↑s9.snd.fst : Int) - 1).toNat 2 + 1) (.int .i64) fun i11 =>
        .guard (InK IntKind.i64 (i11 + 1)) <|
        .store (p10.fst, p10.snd + mulN ((↑s9.snd.fst : Int) - 1).toNat 2 + 1) (.int .i64 (i11 + 1)) <|
        .load (p10.fst, p10.snd + mulN ((↑s9.snd.fst : Int) - 1).toNat 2) (.ptr) fun q12 =>
        .call fn_ni_leaf [.c (.ptr (q12))] false [.c (.bool)] fun r13 =>
        .bind none (.ite (r13.fst)
          (.load (p10.fst, p10.snd + mulN ((↑s9.snd.fst : Int) - 1).toNat 2 + 1) (.int .i64) fun i14 =>
            .load (p10.fst, p10.snd + mulN ((↑s9.snd.fst : Int) - 1).toNat 2) (.ptr) fun q15 =>
            .nonnil (q15) fun p16 =>
            .load (p16.fst, p16.snd + 2) (.sl) fun s17 =>
            .bind none (.ite (i14 == (↑s17.snd.fst : Int))
              (.bind (some 0) (.loop [] [] fun y18 =>
                    .load (a0.fst, a0.snd + 5) (.sl) fun s19 =>
                    .load (a0.fst, a0.snd + 5) (.sl) fun s20 =>
                    .guard (InK IntKind.i64 ((↑s20.snd.fst : Int) - 1)) <|
                    .guard (((0 : Int) ≤ (↑s20.snd.fst : Int) - 1) ∧ (((↑s20.snd.fst : Int) - 1 : Int) ≤ (↑s19.snd.snd : Int))) <|
                    .store (a0.fst, a0.snd + 5) (.sl (slBase s19.fst s19.snd.snd 0 2) (((↑s20.snd.fst : Int) - 1).toNat - 0) (s19.snd.snd - 0)) <|
                    .load (a0.fst, a0.snd + 5) (.sl) fun s21 =>
                    .ite ((↑s21.snd.fst : Int) == 0)
                    (.store (a0.fst, a0.snd + 4) (.tt) <|
                      .done .ret [.c (.ff)])
                    (.load (a0.fst, a0.snd + 5) (.sl) fun s22 =>
                      .load (a0.fst, a0.snd + 5) (.sl) fun s23 =>
                      .guard (InK IntKind.i64 ((↑s23.snd.fst : Int) - 1)) <|
                      .nonnil (s22.fst) fun p24 =>
                      .guard (((0 : Int) ≤ (↑s23.snd.fst : Int) - 1) ∧ (((↑s23.snd.fst : Int) - 1 : Int) < (↑s22.snd.fst : Int))) <|
                      .load (p24.fst, p24.snd + mulN ((↑s23.snd.fst : Int) - 1).toNat 2 + 1) (.int .i64) fun i25 =>
                      .load (p24.fst, p24.snd + mulN ((↑s23.snd.fst : Int) - 1).toNat 2) (.ptr) fun q26 =>
                      .nonnil (q26) fun p27 =>
                      .load (p27.fst, p27.snd + 2) (.sl) fun s28 =>
                      .ite (decide (i25 < (↑s28.snd.fst : Int)))
                      (.done (.exit 0) [])
                      (.done .normal []))) [] fun x29 =>
                .done .normal [])
              (.done .normal [])) [] fun x30 =>
            .done .normal [])
          (.load (a0.fst, a0.snd) (.ptr) fun q31 =>
            .load (p10.fst, p10.snd + mulN ((↑s9.snd.fst : Int) - 1).toNat 2) (.ptr) fun q32 =>
            .nonnil (q32) fun p33 =>
            .load (p33.fst, p33.snd + 3) (.ptr) fun q34 =>
            .nonnil (q34) fun p35 =>
            .load p35 (.sl) fun s36 =>
            .load (p10.fst, p10.snd + mulN ((↑s9.snd.fst : Int) - 1).toNat 2 + 1) (.int .i64) fun i37 =>
            .nonnil (s36.fst) fun p38 =>
            .guard (((0 : Int) ≤ i37) ∧ ((i37 : Int) < (↑s36.snd.fst : Int))) <|
            .load (a0.fst, a0.snd + 1) (.bool) fun b39 =>
            .call fn_mi_isoLoad [.c (.ptr (q31)), .c (.addr (p38.fst, p38.snd + Int.toNat i37)), .c (.bool (b39))] false [.c (.ptr)] fun r40 =>
            .bind (some 2) (.loop [.c (.ptr)] [.c (.ptr (r40.fst))] fun y41 =>
                .load (a0.fst, a0.snd + 5) (.sl) fun s42 =>
                .alloc ty_btree_mapIterStackItem_int_int [.ptr (y41.fst), .int .i64 (0)] fun n43 =>
                .append ty_btree_mapIterStackItem_int_int 2 16 [.ptr none, .int .i64 (0)] ((s42.fst), s42.snd.fst, s42.snd.snd) ((some (n43, 0)), 1, 1) fun s44 =>
                .store (a0.fst, a0.snd + 5) (.sl (s44.fst) (s44.snd.fst) (s44.snd.snd)) <|
                .call fn_ni_leaf [.c (.ptr (y41.fst))] false [.c (.bool)] fun r45 =>
                .ite (r45.fst)
                (.done (.exit 2) [])
                (.load (a0.fst, a0.snd) (.ptr) fun q46 =>
                  .nonnil (y41.fst) fun p47 =>
                  .load (p47.fst, p47.snd + 3) (.ptr) fun q48 =>
                  .nonnil (q48) fun p49 =>
                  .load p49 (.sl) fun s50 =>
                  .nonnil (s50.fst) fun p51 =>
                  .guard (((0 : Int) ≤ 0) ∧ ((0 : Int) < (↑s50.snd.fst : Int))) <|
                  .load (a0.fst, a0.snd + 1) (.bool) fun b52 =>
                  .call fn_mi_isoLoad [.c (.ptr (q46)), .c (.addr (p51.fst, p51.snd)), .c (.bool (b52))] false [.c (.ptr)] fun r53 =>
                  .done .normal [.c (.ptr (r53.fst))])) [] fun x54 =>
            .done .normal [])) [] fun x55 =>
        .load (a0.fst, a0.snd + 5) (.sl) fun s56 =>
        .load (a0.fst, a0.snd + 5) (.sl) fun s57 =>
        .guard (InK IntKind.i64 ((↑s57.snd.fst : Int) - 1)) <|
        .nonnil (s56.fst) fun p58 =>
        .guard (((0 : Int) ≤ (↑s57.snd.fst : Int) - 1) ∧ (((↑s57.snd.fst : Int) - 1 : Int) < (↑s56.snd.fst : Int))) <|
        .load (p58.fst, p58.snd + mulN ((↑s57.snd.fst : Int) - 1).toNat 2) (.ptr) fun q59 =>
        .nonnil (q59) fun p60 =>
        .load (p60.fst, p60.snd + 2) (.sl) fun s61 =>
        .load (p58.fst, p58.snd + mulN ((↑s57.snd.fst : Int) - 1).toNat 2 + 1) (.int .i64) fun i62 =>
        .nonnil (s61.fst) fun p63 =>
        .guard (((0 : Int) ≤ i62) ∧ ((i62 : Int) < (↑s61.snd.fst : Int))) <|
        .load (p63.fst, p63.snd + mulN (Int.toNat i62) 2) (.int .i64) fun i64 =>
        .load (p63.fst, p63.snd + mulN (Int.toNat i62) 2 + 1) (.int .i64) fun i65 =>
        .store (a0.fst, a0.snd + 6) (.int .i64 (i64)) <|
        .store (a0.fst, a0.snd + 7) (.int .i64 (i65)) <|
        .done .ret [.c (.tt)])))
theorem den_ii_Next (a0 : PA) : denFn Try.prog Try.f104 [.c (.addr a0)] = M_ii_Next a0 := by kernel_rfl
theorem hc_ii_Next (a0 : PA) {h : H} {R : Value → H → Prop} (hw : wp Try.prog (M_ii_Next a0) (Ret R) h) : HC Try.prog fn_ii_Next (List.map AV.val [.c (.addr a0)]).toArray h R :=
  den_calls hmix Try.func104 (of_decide_eq_true rfl) (by rw [den_ii_Next]; exact hw)
def M_ii_Prev (a0 : PA) : M :=
  .load (a0.fst, a0.snd) (.ptr) fun q0 =>
  .ite (Option.isNone q0)
  (.done .ret [.c (.ff)])
  (.load (a0.fst, a0.snd + 2) (.bool) fun b1 =>
    .ite (!b1)
    (.done .ret [.c (.ff)])
    (.load (a0.fst, a0.snd + 5) (.sl) fun s2 =>
      .ite ((↑s2.snd.fst : Int) == 0)
      (.load (a0.fst, a0.snd + 4) (.bool) fun b3 =>
        .ite (b3)
        (.bind none (.call fn_ii_Last [.c (.addr a0)] false [.c (.bool)] fun r4 =>
            .ite (r4.fst)
            (.call fn_ii_Prev [.c (.addr a0)] false [.c (.bool)] fun r5 =>
              .done .normal [.c (.bool (r5.fst))])
            (.done .normal [.c (.ff)])) [.c (.bool)] fun x6 =>
          .done .ret [.c (.bool (x6.fst))])
        (.done .ret [.c (.ff)]))
      (.load (a0.fst, a0.snd + 5) (.sl) fun s7 =>
        .load (a0.fst, a0.snd + 5) (.sl) fun s8 =>
        .guard (InK IntKind.i64 ((↑s8.snd.fst : Int) - 1)) <|
        .nonnil (s7.fst) fun p9 =>
        .guard (((0 : Int) ≤ (↑s8.snd.fst : Int) - 1) ∧ (((↑s8.snd.fst : Int) - 1 : Int) < (↑s7.snd.fst : Int))) <|
        .load (p9.fst, p9.snd + mulN ((↑s8.snd.fst : Int) - 1).toNat 2) (.ptr) fun q10 =>
        .call fn_ni_leaf [.c (.ptr (q10))] false [.c (.bool)] fun r11 =>
        .bind none (.ite (r11.fst)
          (.load (p9.fst, p9.snd + mulN ((↑s8.snd.fst : Int) - 1).toNat 2 + 1) (.int .i64) fun i12 =>
            .guard (InK IntKind.i64 (i12 - 1)) <|
            .store (p9.fst, p9.snd + mulN ((↑s8.snd.fst : Int) - 1).toNat 2 + 1) (.int .i64 (i12 - 1)) <|
            .load (p9.fst, p9.snd + mulN ((↑s8.snd.fst : Int) - 1).toNat 2 + 1) (.int .i64) fun i13 =>
            .bind none (.ite (i13 == -1)
              (.bind (some 0) (.loop [] [] fun y14 =>
                    .load (a0.fst, a0.snd + 5) (.sl) fun s15 =>
                    .load (a0.fst, a0.snd + 5) (.sl) fun s16 =>
                    .guard (InK IntKind.i64 ((↑s16.snd.fst : Int) - 1)) <|
                    .guard (((0 : Int) ≤ (↑s16.snd.fst : Int) - 1) ∧ (((↑s16.snd.fst : Int) - 1 : Int) ≤ (↑s15.snd.snd : Int))) <|
                    .store (a0.fst, a0.snd + 5) (.sl (slBase s15.fst s15.snd.snd 0 2) (((↑s16.snd.fst : Int) - 1).toNat - 0) (s15.snd.snd - 0)) <|
                    .load (a0.fst, a0.snd + 5) (.sl) fun s17 =>
                    .ite ((↑s17.snd.fst : Int) == 0)
                    (.store (a0.fst, a0.snd + 3) (.tt) <|
                      .done .ret [.c (.ff)])
                    (.load (a0.fst, a0.snd + 5) (.sl) fun s18 =>
                      .load (a0.fst, a0.snd + 5) (.sl) fun s19 =>
                      .guard (InK IntKind.i64 ((↑s19.snd.fst : Int) - 1)) <|
                      .nonnil (s18.fst) fun p20 =>
                      .guard (((0 : Int) ≤ (↑s19.snd.fst : Int) - 1) ∧ (((↑s19.snd.fst : Int) - 1 : Int) < (↑s18.snd.fst : Int))) <|
                      .load (p20.fst, p20.snd + mulN ((↑s19.snd.fst : Int) - 1).toNat 2 + 1) (.int .i64) fun i21 =>
                      .guard (InK IntKind.i64 (i21 - 1)) <|
                      .store (p20.fst, p20.snd + mulN ((↑s19.snd.fst : Int) - 1).toNat 2 + 1) (.int .i64 (i21 - 1)) <|
                      .load (p20.fst, p20.snd + mulN ((↑s19.snd.fst : Int) - 1).toNat 2 + 1) (.int .i64) fun i22 =>
                      .ite (decide (i22 > -1))
                      (.done (.exit 0) [])
                      (.done .normal []))) [] fun x23 =>
                .done .normal [])
              (.done .normal [])) [] fun x24 =>
            .done .normal [])
          (.load (a0.fst, a0.snd) (.ptr) fun q25 =>
            .load (p9.fst, p9.snd + mulN ((↑s8.snd.fst : Int) - 1).toNat 2) (.ptr) fun q26 =>
            .nonnil (q26) fun p27 =>
            .load (p27.fst, p27.snd + 3) (.ptr) fun q28 =>
            .nonnil (q28) fun p29 =>
            .load p29 (.sl) fun s30 =>
            .load (p9.fst, p9.snd + mulN ((↑s8.snd.fst : Int) - 1).toNat 2 + 1) (.int .i64) fun i31 =>
            .nonnil (s30.fst) fun p32 =>
            .guard (((0 : Int) ≤ i31) ∧ ((i31 : Int) < (↑s30.snd.fst : Int))) <|
            .load (a0.fst, a0.snd + 1) (.bool) fun b33 =>
            .call fn_mi_isoLoad [.c (.ptr (q25)), .c (.addr (p32.fst, p32.snd + Int.toNat i31)), .c (.bool (b33))] false [.c (.ptr)] fun r34 =>
            .bind (some 2) (.loop [.c (.ptr)] [.c (.ptr (r34.fst))] fun y35 =>
                .load (a0.fst, a0.snd + 5) (.sl) fun s36 =>
                .nonnil (y35.fst) fun p37 =>
                .load (p37.fst, p37.snd + 2) (.sl) fun s38 =>
                .alloc ty_btree_mapIterStackItem_int_int [.ptr (y35.fst), .int .i64 ((↑s38.snd.fst : Int))] fun n39 =>
                .held (a0.fst, a0.snd + 5) (.sl (s36.fst) (s36.snd.fst) (s36.snd.snd)) <|
                .append ty_btree_mapIterStackItem_int_int 2 16 [.ptr none, .int .i64 (0)] ((s36.fst), s36.snd.fst, s36.snd.snd) ((some (n39, 0)), 1, 1) fun s40 =>
                .store (a0.fst, a0.snd + 5) (.sl (s40.fst) (s40.snd.fst) (s40.snd.snd)) <|
                .call fn_ni_leaf [.c (.ptr (y35.fst))] false [.c (.bool)] fun r41 =>
                .ite (r41.fst)
                (.load (a0.fst, a0.snd + 5) (.sl) fun s42 =>
                  .load (a0.fst, a0.snd + 5) (.sl) fun s43 =>
                  .guard (InK IntKind.i64 ((↑s43.snd.fst : Int) - 1)) <|
                  .nonnil (s42.fst) fun p44 =>
                  .guard (((0 : Int) ≤ (↑s43.snd.fst : Int) - 1) ∧ (((↑s43.snd.fst : Int) - 1 : Int) < (↑s42.snd.fst : Int))) <|
                  .load (p44.fst, p44.snd + mulN ((↑s43.snd.fst : Int) - 1).toNat 2 + 1) (.int .i64) fun i45 =>
                  .guard (InK IntKind.i64 (i45 - 1)) <|
                  .nonnil (s42.fst) fun p46 =>
                  .guard (((0 : Int) ≤ (↑s43.snd.fst : Int) - 1) ∧ (((↑s43.snd.fst : Int) - 1 : Int) < (↑s42.snd.fst : Int))) <|
                  .store (p46.fst, p46.snd + mulN ((↑s43.snd.fst : Int) - 1).toNat 2 + 1) (.int .i64 (i45 - 1)) <|
                  .done (.exit 2) [])
                (.load (a0.fst, a0.snd) (.ptr) fun q47 =>
                  .nonnil (y35.fst) fun p48 =>
                  .load (p48.fst, p48.snd + 3) (.ptr) fun q49 =>
                  .nonnil (q49) fun p50 =>
                  .load p50 (.sl) fun s51 =>
                  .nonnil (y35.fst) fun p52 =>
                  .load (p52.fst, p52.snd + 2) (.sl) fun s53 =>
                  .nonnil (s51.fst) fun p54 =>
                  .guard (((0 : Int) ≤ (↑s53.snd.fst : Int)) ∧ (((↑s53.snd.fst : Int) : Int) < (↑s51.snd.fst : Int))) <|
                  .load (a0.fst, a0.snd + 1) (.bool) fun b55 =>
                  .call fn_mi_isoLoad [.c (.ptr (q47)), .c (.addr (p54.fst, p54.snd + (↑s53.snd.fst : Int).toNat)), .c (.bool (b55))] false [.c (.ptr)] fun r56 =>
                  .done .normal [.c (.ptr (r56.fst))])) [] fun x57 =>
            .done .normal [])) [] fun x58 =>
        .load (a0.fst, a0.snd + 5) (.sl) fun s59 =>
        .load (a0.fst, a0.snd + 5) (.sl) fun s60 =>
        .guard (InK IntKind.i64 ((↑s60.snd.fst : Int) - 1)) <|
        .nonnil (s59.fst) fun p61 =>
        .guard (((0 : Int) ≤ (↑s60.snd.fst : Int) - 1) ∧ (((↑s60.snd.fst : Int) - 1 : Int) < (↑s59.snd.fst : Int))) <|
        .load (p61.fst, p61.snd + mulN ((↑s60.snd.fst : Int) - 1).toNat 2) (.ptr) fun q62 =>
        .nonnil (q62) fun p63 =>
        .load (p63.fst, p63.snd + 2) (.sl) fun s64 =>
        .load (p61.fst, p61.snd + mulN ((↑s60.snd.fst : Int) - 1).toNat 2 + 1) (.int .i64) fun i65 =>
        .nonnil (s64.fst) fun p66 =>
        .guard (((0 : Int) ≤ i65) ∧ ((i65 : Int) < (↑s64.snd.fst : Int))) <|
        .load (p66.fst, p66.snd + mulN (Int.toNat i65) 2) (.int .i64) fun i67 =>
        .load (p66.fst, p66.snd + mulN (Int.toNat i65) 2 + 1) (.int .i64) fun i68 =>
        .store (a0.fst, a0.snd + 6) (.int .i64 (i67)) <|
        .store (a0.fst, a0.snd + 7) (.int .i64 (i68)) <|
        .done .ret [.c (.tt)])))
theorem den_ii_Prev (a0 : PA) : denFn Try.prog Try.f105 [.c (.addr a0)] = M_ii_Prev a0 := by kernel_rfl
theorem hc_ii_Prev (a0 : PA) {h : H} {R : Value → H → Prop} (hw : wp Try.prog (M_ii_Prev a0) (Ret R) h) : HC Try.prog fn_ii_Prev (List.map AV.val [.c (.addr a0)]).toArray h R :=
  den_calls hmix Try.func105 (of_decide_eq_true rfl) (by rw [den_ii_Prev]; exact hw)
def M_ii_Seek (a0 : PA) (a1 : Int) : M :=
  .load (a0.fst, a0.snd) (.ptr) fun q0 =>
  .ite (Option.isNone q0)
  (.done .ret [.c (.ff)])
  (.store (a0.fst, a0.snd + 2) (.tt) <|
    .load (a0.fst, a0.snd + 5) (.sl) fun s1 =>
    .guard (((0 : Int) ≤ 0) ∧ ((0 : Int) ≤ (↑s1.snd.snd : Int))) <|
    .store (a0.fst, a0.snd + 5) (.sl (slBase s1.fst s1.snd.snd 0 2) (0) (s1.snd.snd - 0)) <|
    .load (a0.fst, a0.snd) (.ptr) fun q2 =>
    .nonnil (q2) fun p3 =>
    .load (p3.fst, p3.snd + 2) (.ptr) fun q4 =>
    .ite (Option.isNone q4)
    (.done .ret [.c (.ff)])
    (.load (a0.fst, a0.snd) (.ptr) fun q5 =>
      .load (a0.fst, a0.snd) (.ptr) fun q6 =>
      .nonnil (q6) fun p7 =>
      .load (a0.fst, a0.snd + 1) (.bool) fun b8 =>
      .call fn_mi_isoLoad [.c (.ptr (q5)), .c (.addr (p7.fst, p7.snd + 2)), .c (.bool (b8))] false [.c (.ptr)] fun r9 =>
      .loop [.c (.ptr)] [.c (.ptr (r9.fst))] fun y10 =>
        .load (a0.fst, a0.snd) (.ptr) fun q11 =>
        .call fn_mi_search [.c (.ptr (q11)), .c (.ptr (y10.fst)), .c (.int .i64 (a1))] true [.c (.int .i64), .c (.bool)] fun r12 =>
        .load (a0.fst, a0.snd + 5) (.sl) fun s13 =>
        .alloc ty_btree_mapIterStackItem_int_int [.ptr (y10.fst), .int .i64 (r12.fst)] fun n14 =>
        .append ty_btree_mapIterStackItem_int_int 2 16 [.ptr none, .int .i64 (0)] ((s13.fst), s13.snd.fst, s13.snd.snd) ((some (n14, 0)), 1, 1) fun s15 =>
        .store (a0.fst, a0.snd + 5) (.sl (s15.fst) (s15.snd.fst) (s15.snd.snd)) <|
        .ite (r12.snd.fst)
        (.nonnil (y10.fst) fun p16 =>
          .load (p16.fst, p16.snd + 2) (.sl) fun s17 =>
          .nonnil (s17.fst) fun p18 =>
          .guard (((0 : Int) ≤ r12.fst) ∧ ((r12.fst : Int) < (↑s17.snd.fst : Int))) <|
          .load (p18.fst, p18.snd + mulN (Int.toNat r12.fst) 2) (.int .i64) fun i19 =>
          .load (p18.fst, p18.snd + mulN (Int.toNat r12.fst) 2 + 1) (.int .i64) fun i20 =>
          .store (a0.fst, a0.snd + 6) (.int .i64 (i19)) <|
          .store (a0.fst, a0.snd + 7) (.int .i64 (i20)) <|
          .done .ret [.c (.tt)])
        (.call fn_ni_leaf [.c (.ptr (y10.fst))] false [.c (.bool)] fun r21 =>
          .ite (r21.fst)
          (.load (a0.fst, a0.snd + 5) (.sl) fun s22 =>
            .load (a0.fst, a0.snd + 5) (.sl) fun s23 =>
            .guard (InK IntKind.i64 ((↑s23.snd.fst : Int) - 1)) <|
            .nonnil (s22.fst) fun p24 =>
            .guard (((0 : Int) ≤ (↑s23.snd.fst : Int) - 1) ∧ (((↑s23.snd.fst : Int) - 1 : Int) < (↑s22.snd.fst : Int))) <|
            .load (p24.fst, p24.snd + mulN ((↑s23.snd.fst : Int) - 1).toNat 2 + 1) (.int .i64) fun i25 =>
            .guard (InK IntKind.i64 (i25 - 1)) <|
            .nonnil (s22.fst) fun p26 =>
            .guard (((0 : Int) ≤ (↑s23.snd.fst : Int) - 1) ∧ (((↑s23.snd.fst : Int) - 1 : Int) < (↑s22.snd.fst : Int))) <|
            .store (p26.fst, p26.snd + mulN ((↑s23.snd.fst : Int) - 1).toNat 2 + 1) (.int .i64 (i25 - 1)) <|
            .call fn_ii_Next [.c (.addr a0)] false [.c (.bool)] fun r27 =>
            .done .ret [.c (.bool (r27.fst))])
          (.load (a0.fst, a0.snd) (.ptr) fun q28 =>
            .nonnil (y10.fst) fun p29 =>
            .load (p29.fst, p29.snd + 3) (.ptr) fun q30 =>
            .nonnil (q30) fun p31 =>
            .load p31 (.sl) fun s32 =>
            .nonnil (s32.fst) fun p33 =>
            .guard (((0 : Int) ≤ r12.fst) ∧ ((r12.fst : Int) < (↑s32.snd.fst : Int))) <|
            .load (a0.fst, a0.snd + 1) (.bool) fun b34 =>
            .call fn_mi_isoLoad [.c (.ptr (q28)), .c (.addr (p33.fst, p33.snd + Int.toNat r12.fst)), .c (.bool (b34))] false [.c (.ptr)] fun r35 =>
            .done .normal [.c (.ptr (r35.fst))]))))
theorem den_ii_Seek (a0 : PA) (a1 : Int) : denFn Try.prog Try.f106 [.c (.addr a0), .c (.int .i64 a1)] = M_ii_Seek a0 a1 := by kernel_rfl
theorem hc_ii_Seek (a0 : PA) (a1 : Int) {h : H} {R : Value → H → Prop} (hw : wp Try.prog (M_ii_Seek a0 a1) (Ret R) h) : HC Try.prog fn_ii_Seek (List.map AV.val [.c (.addr a0), .c (.int .i64 a1)]).toArray h R :=
  den_calls hmix Try.func106 (of_decide_eq_true rfl) (by rw [den_ii_Seek]; exact hw)
def M_ii_Value (a0 : PA) : M :=
  .load (a0.fst, a0.snd + 6) (.int .i64) fun i0 =>
  .done .ret [.c (.int .i64 (i0))]
theorem den_ii_Value (a0 : PA) : denFn Try.prog Try.f110 [.c (.addr a0)] = M_ii_Value a0 := by kernel_rfl
theorem hc_ii_Value (a0 : PA) {h : H} {R : Value → H → Prop} (hw : wp Try.prog (M_ii_Value a0) (Ret R) h) : HC Try.prog fn_ii_Value (List.map AV.val [.c (.addr a0)]).toArray h R :=
  den_calls hmix Try.func110 (of_decide_eq_true rfl) (by rw [den_ii_Value]; exact hw)
def M_mi_Iter (a0 : PA) : M :=
  .alloc ty_btree_MapIter_int_int [.ptr none, .ff, .ff, .ff, .ff, .sl none (0) (0), .int .i64 (0), .int .i64 (0)] fun n0 =>
  .call fn_mi_iter [.c (.addr a0), .c (.ff)] false [.agg [.ptr, .bool, .bool, .bool, .bool, .sl, .int .i64, .int .i64]] fun r1 =>
  .store (n0, 0) (.ptr (r1.fst.fst)) <|
  .store (n0, 1) (.bool (r1.fst.snd.fst)) <|
  .store (n0, 2) (.bool (r1.fst.snd.snd.fst)) <|
  .store (n0, 3) (.bool (r1.fst.snd.snd.snd.fst)) <|
  .store (n0, 4) (.bool (r1.fst.snd.snd.snd.snd.fst)) <|
  .store (n0, 5) (.sl (r1.fst.snd.snd.snd.snd.snd.fst.fst) (r1.fst.snd.snd.snd.snd.snd.fst.snd.fst) (r1.fst.snd.snd.snd.snd.snd.fst.snd.snd)) <|
  .store (n0, 6) (.int .i64 (r1.fst.snd.snd.snd.snd.snd.snd.fst)) <|
  .store (n0, 7) (.int .i64 (r1.fst.snd.snd.snd.snd.snd.snd.snd.fst)) <|
  .load (n0, 0) (.ptr) fun q2 =>
  .load (n0, 1) (.bool) fun b3 =>
  .load (n0, 2) (.bool) fun b4 =>
  .load (n0, 3) (.bool) fun b5 =>
  .load (n0, 4) (.bool) fun b6 =>
  .load (n0, 5) (.sl) fun s7 =>
  .load (n0, 6) (.int .i64) fun i8 =>
  .load (n0, 7) (.int .i64) fun i9 =>
  .done .ret [.agg [.ptr (q2), .bool (b3), .bool (b4), .bool (b5), .bool (b6), .sl (s7.fst) (s7.snd.fst) (s7.snd.snd), .int .i64 (i8), .int .i64 (i9)]]
theorem den_mi_Iter (a0 : PA) : denFn Try.prog Try.f70 [.c (.addr a0)] = M_mi_Iter a0 := by kernel_rfl
theorem hc_mi_Iter (a0 : PA) {h : H} {R : Value → H → Prop} (hw : wp Try.prog (M_mi_Iter a0) (Ret R) h) : HC Try.prog fn_mi_Iter (List.map AV.val [.c (.addr a0)]).toArray h R :=
  den_calls hmix Try.func70 (of_decide_eq_true rfl) (by rw [den_mi_Iter]; exact hw)
def M_mi_iter (a0 : PA) (a1 : Bool) : M :=
  .alloc ty_btree_MapIter_int_int [.ptr none, .ff, .ff, .ff, .ff, .sl none (0) (0), .int .i64 (0), .int .i64 (0)] fun n0 =>
  .alloc ty_btree_MapIter_int_int [.ptr none, .ff, .ff, .ff, .ff, .sl none (0) (0), .int .i64 (0), .int .i64 (0)] fun n1 =>
  .store (n1, 0) (.addr a0) <|
  .store (n1, 1) (.bool (a1)) <|
  .load (n1, 0) (.ptr) fun q2 =>
  .load (n1, 1) (.bool) fun b3 =>
  .load (n1, 2) (.bool) fun b4 =>
  .load (n1, 3) (.bool) fun b5 =>
  .load (n1, 4) (.bool) fun b6 =>
  .load (n1, 5) (.sl) fun s7 =>
  .load (n1, 6) (.int .i64) fun i8 =>
  .load (n1, 7) (.int .i64) fun i9 =>
  .store (n0, 0) (.ptr (q2)) <|
  .store (n0, 1) (.bool (b3)) <|
  .store (n0, 2) (.bool (b4)) <|
  .store (n0, 3) (.bool (b5)) <|
  .store (n0, 4) (.bool (b6)) <|
  .store (n0, 5) (.sl (s7.fst) (s7.snd.fst) (s7.snd.snd)) <|
  .store (n0, 6) (.int .i64 (i8)) <|
  .store (n0, 7) (.int .i64 (i9)) <|
  .load (n0, 0) (.ptr) fun q10 =>
  .load (n0, 1) (.bool) fun b11 =>
  .load (n0, 2) (.bool) fun b12 =>
  .load (n0, 3) (.bool) fun b13 =>
  .load (n0, 4) (.bool) fun b14 =>
  .load (n0, 5) (.sl) fun s15 =>
  .load (n0, 6) (.int .i64) fun i16 =>
  .load (n0, 7) (.int .i64) fun i17 =>
  .done .ret [.agg [.ptr (q10), .bool (b11), .bool (b12), .bool (b13), .bool (b14), .sl (s15.fst) (s15.snd.fst) (s15.snd.snd), .int .i64 (i16), .int .i64 (i17)]]
theorem den_mi_iter (a0 : PA) (a1 : Bool) : denFn Try.prog Try.f102 [.c (.addr a0), .c (.bool a1)] = M_mi_iter a0 a1 := by kernel_rfl
theorem hc_mi_iter (a0 : PA) (a1 : Bool) {h : H} {R : Value → H → Prop} (hw : wp Try.prog (M_mi_iter a0 a1) (Ret R) h) : HC Try.prog fn_mi_iter (List.map AV.val [.c (.addr a0), .c (.bool a1)]).toArray h R :=
  den_calls hmix Try.func102 (of_decide_eq_true rfl) (by rw [den_mi_iter]; exact hw)
end Go.Proofs.Ytlmiafbcgfegpaa
