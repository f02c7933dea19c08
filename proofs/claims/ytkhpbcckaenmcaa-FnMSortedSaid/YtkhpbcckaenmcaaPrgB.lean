/-
  Functions of the translation as typed programs, and that each is its function's reading. Written by a program of ours (gen2.py). Conditions: none.
-/
import Derived.Test.YtkhpbcckaenmcaaNm
namespace Go.Proofs.Ytkhpbcckaenmcaa
open Go
set_option maxRecDepth 100000
set_option linter.unusedVariables false

def M_ii_First (a0 : PA) : M :=
  .load (a0.fst, a0.snd) (.ptr) fun q0 =>
  .ite (Option.isNone q0)
  (.done .ret [.c (.ff)])
  (.store (a0.fst, a0.snd + 4) (.ff) <|
    .store (a0.fst, a0.snd + 3) (.ff) <|
    .store (a0.fst, a0.snd + 2) (.tt) <|
    .load (a0.fst, a0.snd + 5) (.sl) fun s1 =>
    .guard (((0 : Int) ≤ 0) ∧ ((0 : Int) ≤ (↑s1.snd.snd : Int))) <|
    .store (a0.fst, a0.snd + 5) (.sl (slBase s1.fst s1.snd.snd 0 2) (0) (s1.snd.snd - 0)) <|
    .load (a0.fst, a0.snd) (.ptr) fun q2 =>
    .nonnil (q2) fun p3 =>
    .load (p3.fst, p3.snd + 2) (.ptr) fun q4 =>
    .ite (Option.isNone q4)
    (.done .ret [.c (.ff)])
    (.load (a0.fst, a0.snd) (.ptr) fun q5 =>
      .load (a0.fst, a0.snd) (.ptr) fun q6 =>
      .nonnil (q6) fun p7 =>
      .load (a0.fst, a0.snd + 1) (.bool) fun b8 =>
      .call fn_mi_isoLoad [.c (.ptr (q5)), .c (.addr (p7.fst, p7.snd + 2)), .c (.bool (b8))] false [.c (.ptr)] fun r9 =>
      .bind (some 0) (.loop [.c (.ptr)] [.c (.ptr (r9.fst))] fun y10 =>
          .load (a0.fst, a0.snd + 5) (.sl) fun s11 =>
          .alloc ty_btree_mapIterStackItem_int_int [.ptr (y10.fst), .int .i64 (0)] fun n12 =>
          .append ty_btree_mapIterStackItem_int_int 2 16 [.ptr none, .int .i64 (0)] ((s11.fst), s11.snd.fst, s11.snd.snd) ((some (n12, 0)), 1, 1) fun s13 =>
          .store (a0.fst, a0.snd + 5) (.sl (s13.fst) (s13.snd.fst) (s13.snd.snd)) <|
          .call fn_ni_leaf [.c (.ptr (y10.fst))] false [.c (.bool)] fun r14 =>
          .ite (r14.fst)
          (.done (.exit 0) [])
          (.load (a0.fst, a0.snd) (.ptr) fun q15 =>
            .nonnil (y10.fst) fun p16 =>
            .load (p16.fst, p16.snd + 3) (.ptr) fun q17 =>
            .nonnil (q17) fun p18 =>
            .load p18 (.sl) fun s19 =>
            .nonnil (s19.fst) fun p20 =>
            .guard (((0 : Int) ≤ 0) ∧ ((0 : Int) < (↑s19.snd.fst : Int))) <|
            .load (a0.fst, a0.snd + 1) (.bool) fun b21 =>
            .call fn_mi_isoLoad [.c (.ptr (q15)), .c (.addr (p20.fst, p20.snd)), .c (.bool (b21))] false [.c (.ptr)] fun r22 =>
            .done .normal [.c (.ptr (r22.fst))])) [] fun x23 =>
      .load (a0.fst, a0.snd + 5) (.sl) fun s24 =>
      .load (a0.fst, a0.snd + 5) (.sl) fun s25 =>
      .guard (InK IntKind.i64 ((↑s25.snd.fst : Int) - 1)) <|
      .nonnil (s24.fst) fun p26 =>
      .guard (((0 : Int) ≤ (↑s25.snd.fst : Int) - 1) ∧ (((↑s25.snd.fst : Int) - 1 : Int) < (↑s24.snd.fst : Int))) <|
      .load (p26.fst, p26.snd + mulN ((↑s25.snd.fst : Int) - 1).toNat 2) (.ptr) fun q27 =>
      .nonnil (q27) fun p28 =>
      .load (p28.fst, p28.snd + 2) (.sl) fun s29 =>
      .load (p26.fst, p26.snd + mulN ((↑s25.snd.fst : Int) - 1).toNat 2 + 1) (.int .i64) fun i30 =>
      .nonnil (s29.fst) fun p31 =>
      .guard (((0 : Int) ≤ i30) ∧ ((i30 : Int) < (↑s29.snd.fst : Int))) <|
      .load (p31.fst, p31.snd + mulN (Int.toNat i30) 2) (.int .i64) fun i32 =>
      .load (p31.fst, p31.snd + mulN (Int.toNat i30) 2 + 1) (.int .i64) fun i33 =>
      .store (a0.fst, a0.snd + 6) (.int .i64 (i32)) <|
      .store (a0.fst, a0.snd + 7) (.int .i64 (i33)) <|
      .done .ret [.c (.tt)]))

theorem den_ii_First (a0 : PA) : denFn Try.prog Try.f115 [.c (.addr a0)] = M_ii_First a0 := by kernel_rfl
theorem hc_ii_First (a0 : PA) {h : H} {R : Value → H → Prop} (hw : wp Try.prog (M_ii_First a0) (Ret R) h) : HC Try.prog fn_ii_First (List.map AV.val [.c (.addr a0)]).toArray h R :=
  den_calls hmix Try.func115 (of_decide_eq_true rfl) (by rw [den_ii_First]; exact hw)

def M_ii_Key (a0 : PA) : M :=
  .load (a0.fst, a0.snd + 7) (.int .i64) fun i0 =>
  .done .ret [.c (.int .i64 (i0))]

theorem den_ii_Key (a0 : PA) : denFn Try.prog Try.f116 [.c (.addr a0)] = M_ii_Key a0 := by kernel_rfl
theorem hc_ii_Key (a0 : PA) {h : H} {R : Value → H → Prop} (hw : wp Try.prog (M_ii_Key a0) (Ret R) h) : HC Try.prog fn_ii_Key (List.map AV.val [.c (.addr a0)]).toArray h R :=
  den_calls hmix Try.func116 (of_decide_eq_true rfl) (by rw [den_ii_Key]; exact hw)

def M_ii_Last (a0 : PA) : M :=
  .load (a0.fst, a0.snd) (.ptr) fun q0 =>
  .ite (Option.isNone q0)
  (.done .ret [.c (.ff)])
  (.store (a0.fst, a0.snd + 2) (.tt) <|
    .load (a0.fst, a0.snd + 5) (.sl) fun s1 =>
    .guard (((0 : Int) ≤ 0) ∧ ((0 : Int) ≤ (↑s1.snd.snd : Int))) <|
    .store (a0.fst, a0.snd + 5) (.sl (slBase s1.fst s1.snd.snd 0 2) (0) (s1.snd.snd - 0)) <|
    .load (a0.fst, a0.snd) (.ptr) fun q2 =>
    .nonnil (q2) fun p3 =>
    .load (p3.fst, p3.snd + 2) (.ptr) fun q4 =>
    .ite (Option.isNone q4)
    (.done .ret [.c (.ff)])
    (.load (a0.fst, a0.snd) (.ptr) fun q5 =>
      .load (a0.fst, a0.snd) (.ptr) fun q6 =>
      .nonnil (q6) fun p7 =>
      .load (a0.fst, a0.snd + 1) (.bool) fun b8 =>
      .call fn_mi_isoLoad [.c (.ptr (q5)), .c (.addr (p7.fst, p7.snd + 2)), .c (.bool (b8))] false [.c (.ptr)] fun r9 =>
      .bind (some 0) (.loop [.c (.ptr)] [.c (.ptr (r9.fst))] fun y10 =>
          .load (a0.fst, a0.snd + 5) (.sl) fun s11 =>
          .nonnil (y10.fst) fun p12 =>
          .load (p12.fst, p12.snd + 2) (.sl) fun s13 =>
          .alloc ty_btree_mapIterStackItem_int_int [.ptr (y10.fst), .int .i64 ((↑s13.snd.fst : Int))] fun n14 =>
          .held (a0.fst, a0.snd + 5) (.sl (s11.fst) (s11.snd.fst) (s11.snd.snd)) <|
          .append ty_btree_mapIterStackItem_int_int 2 16 [.ptr none, .int .i64 (0)] ((s11.fst), s11.snd.fst, s11.snd.snd) ((some (n14, 0)), 1, 1) fun s15 =>
          .store (a0.fst, a0.snd + 5) (.sl (s15.fst) (s15.snd.fst) (s15.snd.snd)) <|
          .call fn_ni_leaf [.c (.ptr (y10.fst))] false [.c (.bool)] fun r16 =>
          .ite (r16.fst)
          (.load (a0.fst, a0.snd + 5) (.sl) fun s17 =>
            .load (a0.fst, a0.snd + 5) (.sl) fun s18 =>
            .guard (InK IntKind.i64 ((↑s18.snd.fst : Int) - 1)) <|
            .nonnil (s17.fst) fun p19 =>
            .guard (((0 : Int) ≤ (↑s18.snd.fst : Int) - 1) ∧ (((↑s18.snd.fst : Int) - 1 : Int) < (↑s17.snd.fst : Int))) <|
            .load (p19.fst, p19.snd + mulN ((↑s18.snd.fst : Int) - 1).toNat 2 + 1) (.int .i64) fun i20 =>
            .guard (InK IntKind.i64 (i20 - 1)) <|
            .nonnil (s17.fst) fun p21 =>
            .guard (((0 : Int) ≤ (↑s18.snd.fst : Int) - 1) ∧ (((↑s18.snd.fst : Int) - 1 : Int) < (↑s17.snd.fst : Int))) <|
            .store (p21.fst, p21.snd + mulN ((↑s18.snd.fst : Int) - 1).toNat 2 + 1) (.int .i64 (i20 - 1)) <|
            .done (.exit 0) [])
          (.load (a0.fst, a0.snd) (.ptr) fun q22 =>
            .nonnil (y10.fst) fun p23 =>
            .load (p23.fst, p23.snd + 3) (.ptr) fun q24 =>
            .nonnil (q24) fun p25 =>
            .load p25 (.sl) fun s26 =>
            .nonnil (y10.fst) fun p27 =>
            .load (p27.fst, p27.snd + 2) (.sl) fun s28 =>
            .nonnil (s26.fst) fun p29 =>
            .guard (((0 : Int) ≤ (↑s28.snd.fst : Int)) ∧ (((↑s28.snd.fst : Int) : Int) < (↑s26.snd.fst : Int))) <|
            .load (a0.fst, a0.snd + 1) (.bool) fun b30 =>
            .call fn_mi_isoLoad [.c (.ptr (q22)), .c (.addr (p29.fst, p29.snd + (↑s28.snd.fst : Int).toNat)), .c (.bool (b30))] false [.c (.ptr)] fun r31 =>
            .done .normal [.c (.ptr (r31.fst))])) [] fun x32 =>
      .load (a0.fst, a0.snd + 5) (.sl) fun s33 =>
      .load (a0.fst, a0.snd + 5) (.sl) fun s34 =>
      .guard (InK IntKind.i64 ((↑s34.snd.fst : Int) - 1)) <|
      .nonnil (s33.fst) fun p35 =>
      .guard (((0 : Int) ≤ (↑s34.snd.fst : Int) - 1) ∧ (((↑s34.snd.fst : Int) - 1 : Int) < (↑s33.snd.fst : Int))) <|
      .load (p35.fst, p35.snd + mulN ((↑s34.snd.fst : Int) - 1).toNat 2) (.ptr) fun q36 =>
      .nonnil (q36) fun p37 =>
      .load (p37.fst, p37.snd + 2) (.sl) fun s38 =>
      .load (p35.fst, p35.snd + mulN ((↑s34.snd.fst : Int) - 1).toNat 2 + 1) (.int .i64) fun i39 =>
      .nonnil (s38.fst) fun p40 =>
      .guard (((0 : Int) ≤ i39) ∧ ((i39 : Int) < (↑s38.snd.fst : Int))) <|
      .load (p40.fst, p40.snd + mulN (Int.toNat i39) 2) (.int .i64) fun i41 =>
      .load (p40.fst, p40.snd + mulN (Int.toNat i39) 2 + 1) (.int .i64) fun i42 =>
      .store (a0.fst, a0.snd + 6) (.int .i64 (i41)) <|
      .store (a0.fst, a0.snd + 7) (.int .i64 (i42)) <|
      .done .ret [.c (.tt)]))

theorem den_ii_Last (a0 : PA) : denFn Try.prog Try.f111 [.c (.addr a0)] = M_ii_Last a0 := by kernel_rfl
theorem hc_ii_Last (a0 : PA) {h : H} {R : Value → H → Prop} (hw : wp Try.prog (M_ii_Last a0) (Ret R) h) : HC Try.prog fn_ii_Last (List.map AV.val [.c (.addr a0)]).toArray h R :=
  den_calls hmix Try.func111 (of_decide_eq_true rfl) (by rw [den_ii_Last]; exact hw)

def M_ii_Next (a0 : PA) : M :=
  .load (a0.fst, a0.snd) (.ptr) fun q0 =>
  .ite (Option.isNone q0)
  (.done .ret [.c (.ff)])
  (.load (a0.fst, a0.snd + 2) (.bool) fun b1 =>
    .ite (!b1)
    (.call fn_ii_First [.c (.addr a0)] false [.c (.bool)] fun r2 =>
      .done .ret [.c (.bool (r2.fst))])
    (.load (a0.fst, a0.snd + 5) (.sl) fun s3 =>
      .ite ((↑s3.snd.fst : Int) == 0)
      (.load (a0.fst, a0.snd + 3) (.bool) fun b4 =>
        .ite (b4)
        (.bind none (.call fn_ii_First [.c (.addr a0)] false [.c (.bool)] fun r5 =>
            .ite (r5.fst)
            (.call fn_ii_Next [.c (.addr a0)] false [.c (.bool)] fun r6 =>
              .done .normal [.c (.bool (r6.fst))])
            (.done .normal [.c (.ff)])) [.c (.bool)] fun x7 =>
          .done .ret [.c (.bool (x7.fst))])
        (.done .ret [.c (.ff)]))
      (.load (a0.fst, a0.snd + 5) (.sl) fun s8 =>
        .load (a0.fst, a0.snd + 5) (.sl) fun s9 =>
        .guard (InK IntKind.i64 ((↑s9.snd.fst : Int) - 1)) <|
        .nonnil (s8.fst) fun p10 =>
        .guard (((0 : Int) ≤ (↑s9.snd.fst : Int) - 1) ∧ (((↑s9.snd.fst : Int) - 1 : Int) < (↑s8.snd.fst : Int))) <|
        .load (p10.fst, p10.snd + mulN ((↑s9.snd.fst : Int) - 1).toNat 2 + 1) (.int .i64) fun i11 =>
        .guard (InK IntKind.i64 (i11 + 1)) <|
        .store (p10.fst, p10.snd + mulN ((↑s9.snd.fst : Int) - 1).toNat 2 + 1) (.int .i64 (i11 + 1)) <|
        .load (p10.fst, p10.snd + mulN ((↑s9.snd.fst : Int) - 1).toNat 2) (.ptr) fun q12 =>
        .call fn_ni_leaf [.c (.ptr (q12))] false [.c (.bool)] fun r13 =>
        .bind none (.ite (r13.fst)
          (.load (p10.fst, p10.snd + mulN ((↑s9.snd.fst : Int) - 1).toNat 2 + 1) (.int .i64) fun i14 =>
            .load (p10.fst, p10.snd + mulN ((↑s9.snd.fst : Int) - 1).toNat 2) (.ptr) fun q15 =>
            .nonnil (q15) fun p16 =>
            .load (p16.fst, p16.snd + 2) (.sl) fun s17 =>
            .bind none (.ite (i14 == (↑s17.snd.fst : Int))
              (.bind (some 0) (.loop [] [] fun y18 =>
                    .load (a0.fst, a0.snd + 5) (.sl) fun s19 =>
                    .load (a0.fst, a0.snd + 5) (.sl) fun s20 =>
                    .guard (InK IntKind.i64 ((↑s20.snd.fst : Int) - 1)) <|
                    .guard (((0 : Int) ≤ (↑s20.snd.fst : Int) - 1) ∧ (((↑s20.snd.fst : Int) - 1 : Int) ≤ (↑s19.snd.snd : Int))) <|
                    .store (a0.fst, a0.snd + 5) (.sl (slBase s19.fst s19.snd.snd 0 2) (((↑s20.snd.fst : Int) - 1).toNat - 0) (s19.snd.snd - 0)) <|
                    .load (a0.fst, a0.snd + 5) (.sl) fun s21 =>
                    .ite ((↑s21.snd.fst : Int) == 0)
                    (.store (a0.fst, a0.snd + 4) (.tt) <|
                      .done .ret [.c (.ff)])
                    (.load (a0.fst, a0.snd + 5) (.sl) fun s22 =>
                      .load (a0.fst, a0.snd + 5) (.sl) fun s23 =>
                      .guard (InK IntKind.i64 ((↑s23.snd.fst : Int) - 1)) <|
                      .nonnil (s22.fst) fun p24 =>
                      .guard (((0 : Int) ≤ (↑s23.snd.fst : Int) - 1) ∧ (((↑s23.snd.fst : Int) - 1 : Int) < (↑s22.snd.fst : Int))) <|
                      .load (p24.fst, p24.snd + mulN ((↑s23.snd.fst : Int) - 1).toNat 2 + 1) (.int .i64) fun i25 =>
                      .load (p24.fst, p24.snd + mulN ((↑s23.snd.fst : Int) - 1).toNat 2) (.ptr) fun q26 =>
                      .nonnil (q26) fun p27 =>
                      .load (p27.fst, p27.snd + 2) (.sl) fun s28 =>
                      .ite (decide (i25 < (↑s28.snd.fst : Int)))
                      (.done (.exit 0) [])
                      (.done .normal []))) [] fun x29 =>
                .done .normal [])
              (.done .normal [])) [] fun x30 =>
            .done .normal [])
          (.load (a0.fst, a0.snd) (.ptr) fun q31 =>
            .load (p10.fst, p10.snd + mulN ((↑s9.snd.fst : Int) - 1).toNat 2) (.ptr) fun q32 =>
            .nonnil (q32) fun p33 =>
            .load (p33.fst, p33.snd + 3) (.ptr) fun q34 =>
            .nonnil (q34) fun p35 =>
            .load p35 (.sl) fun s36 =>
            .load (p10.fst, p10.snd + mulN ((↑s9.snd.fst : Int) - 1).toNat 2 + 1) (.int .i64) fun i37 =>
            .nonnil (s36.fst) fun p38 =>
            .guard (((0 : Int) ≤ i37) ∧ ((i37 : Int) < (↑s36.snd.fst : Int))) <|
            .load (a0.fst, a0.snd + 1) (.bool) fun b39 =>
            .call fn_mi_isoLoad [.c (.ptr (q31)), .c (.addr (p38.fst, p38.snd + Int.toNat i37)), .c (.bool (b39))] false [.c (.ptr)] fun r40 =>
            .bind (some 2) (.loop [.c (.ptr)] [.c (.ptr (r40.fst))] fun y41 =>
                .load (a0.fst, a0.snd + 5) (.sl) fun s42 =>
                .alloc ty_btree_mapIterStackItem_int_int [.ptr (y41.fst), .int .i64 (0)] fun n43 =>
                .append ty_btree_mapIterStackItem_int_int 2 16 [.ptr none, .int .i64 (0)] ((s42.fst), s42.snd.fst, s42.snd.snd) ((some (n43, 0)), 1, 1) fun s44 =>
                .store (a0.fst, a0.snd + 5) (.sl (s44.fst) (s44.snd.fst) (s44.snd.snd)) <|
                .call fn_ni_leaf [.c (.ptr (y41.fst))] false [.c (.bool)] fun r45 =>
                .ite (r45.fst)
                (.done (.exit 2) [])
                (.load (a0.fst, a0.snd) (.ptr) fun q46 =>
                  .nonnil (y41.fst) fun p47 =>
                  .load (p47.fst, p47.snd + 3) (.ptr) fun q48 =>
                  .nonnil (q48) fun p49 =>
                  .load p49 (.sl) fun s50 =>
                  .nonnil (s50.fst) fun p51 =>
                  .guard (((0 : Int) ≤ 0) ∧ ((0 : Int) < (↑s50.snd.fst : Int))) <|
                  .load (a0.fst, a0.snd + 1) (.bool) fun b52 =>
                  .call fn_mi_isoLoad [.c (.ptr (q46)), .c (.addr (p51.fst, p51.snd)), .c (.bool (b52))] false [.c (.ptr)] fun r53 =>
                  .done .normal [.c (.ptr (r53.fst))])) [] fun x54 =>
            .done .normal [])) [] fun x55 =>
        .load (a0.fst, a0.snd + 5) (.sl) fun s56 =>
        .load (a0.fst, a0.snd + 5) (.sl) fun s57 =>
        .guard (InK IntKind.i64 ((↑s57.snd.fst : Int) - 1)) <|
        .nonnil (s56.fst) fun p58 =>
        .guard (((0 : Int) ≤ (↑s57.snd.fst : Int) - 1) ∧ (((↑s57.snd.fst : Int) - 1 : Int) < (↑s56.snd.fst : Int))) <|
        .load (p58.fst, p58.snd + mulN ((↑s57.snd.fst : Int) - 1).toNat 2) (.ptr) fun q59 =>
        .nonnil (q59) fun p60 =>
        .load (p60.fst, p60.snd + 2) (.sl) fun s61 =>
        .load (p58.fst, p58.snd + mulN ((↑s57.snd.fst : Int) - 1).toNat 2 + 1) (.int .i64) fun i62 =>
        .nonnil (s61.fst) fun p63 =>
        .guard (((0 : Int) ≤ i62) ∧ ((i62 : Int) < (↑s61.snd.fst : Int))) <|
        .load (p63.fst, p63.snd + mulN (Int.toNat i62) 2) (.int .i64) fun i64 =>
        .load (p63.fst, p63.snd + mulN (Int.toNat i62) 2 + 1) (.int .i64) fun i65 =>
        .store (a0.fst, a0.snd + 6) (.int .i64 (i64)) <|
        .store (a0.fst, a0.snd + 7) (.int .i64 (i65)) <|
        .done .ret [.c (.tt)])))

theorem den_ii_Next (a0 : PA) : denFn Try.prog Try.f112 [.c (.addr a0)] = M_ii_Next a0 := by kernel_rfl
theorem hc_ii_Next (a0 : PA) {h : H} {R : Value → H → Prop} (hw : wp Try.prog (M_ii_Next a0) (Ret R) h) : HC Try.prog fn_ii_Next (List.map AV.val [.c (.addr a0)]).toArray h R :=
  den_calls hmix Try.func112 (of_decide_eq_true rfl) (by rw [den_ii_Next]; exact hw)

def M_ii_Prev (a0 : PA) : M :=
  .load (a0.fst, a0.snd) (.ptr) fun q0 =>
  .ite (Option.isNone q0)
  (.done .ret [.c (.ff)])
  (.load (a0.fst, a0.snd + 2) (.bool) fun b1 =>
    .ite (!b1)
    (.done .ret [.c (.ff)])
    (.load (a0.fst, a0.snd + 5) (.sl) fun s2 =>
      .ite ((↑s2.snd.fst : Int) == 0)
      (.load (a0.fst, a0.snd + 4) (.bool) fun b3 =>
        .ite (b3)
        (.bind none (.call fn_ii_Last [.c (.addr a0)] false [.c (.bool)] fun r4 =>
            .ite (r4.fst)
            (.call fn_ii_Prev [.c (.addr a0)] false [.c (.bool)] fun r5 =>
              .done .normal [.c (.bool (r5.fst))])
            (.done .normal [.c (.ff)])) [.c (.bool)] fun x6 =>
          .done .ret [.c (.bool (x6.fst))])
        (.done .ret [.c (.ff)]))
      (.load (a0.fst, a0.snd + 5) (.sl) fun s7 =>
        .load (a0.fst, a0.snd + 5) (.sl) fun s8 =>
        .guard (InK IntKind.i64 ((↑s8.snd.fst : Int) - 1)) <|
        .nonnil (s7.fst) fun p9 =>
        .guard (((0 : Int) ≤ (↑s8.snd.fst : Int) - 1) ∧ (((↑s8.snd.fst : Int) - 1 : Int) < (↑s7.snd.fst : Int))) <|
        .load (p9.fst, p9.snd + mulN ((↑s8.snd.fst : Int) - 1).toNat 2) (.ptr) fun q10 =>
        .call fn_ni_leaf [.c (.ptr (q10))] false [.c (.bool)] fun r11 =>
        .bind none (.ite (r11.fst)
          (.load (p9.fst, p9.snd + mulN ((↑s8.snd.fst : Int) - 1).toNat 2 + 1) (.int .i64) fun i12 =>
            .guard (InK IntKind.i64 (i12 - 1)) <|
            .store (p9.fst, p9.snd + mulN ((↑s8.snd.fst : Int) - 1).toNat 2 + 1) (.int .i64 (i12 - 1)) <|
            .load (p9.fst, p9.snd + mulN ((↑s8.snd.fst : Int) - 1).toNat 2 + 1) (.int .i64) fun i13 =>
            .bind none (.ite (i13 == -1)
              (.bind (some 0) (.loop [] [] fun y14 =>
                    .load (a0.fst, a0.snd + 5) (.sl) fun s15 =>
                    .load (a0.fst, a0.snd + 5) (.sl) fun s16 =>
                    .guard (InK IntKind.i64 ((↑s16.snd.fst : Int) - 1)) <|
                    .guard (((0 : Int) ≤ (↑s16.snd.fst : Int) - 1) ∧ (((↑s16.snd.fst : Int) - 1 : Int) ≤ (↑s15.snd.snd : Int))) <|
                    .store (a0.fst, a0.snd + 5) (.sl (slBase s15.fst s15.snd.snd 0 2) (((↑s16.snd.fst : Int) - 1).toNat - 0) (s15.snd.snd - 0)) <|
                    .load (a0.fst, a0.snd + 5) (.sl) fun s17 =>
                    .ite ((↑s17.snd.fst : Int) == 0)
                    (.store (a0.fst, a0.snd + 3) (.tt) <|
                      .done .ret [.c (.ff)])
                    (.load (a0.fst, a0.snd + 5) (.sl) fun s18 =>
                      .load (a0.fst, a0.snd + 5) (.sl) fun s19 =>
                      .guard (InK IntKind.i64 ((↑s19.snd.fst : Int) - 1)) <|
                      .nonnil (s18.fst) fun p20 =>
                      .guard (((0 : Int) ≤ (↑s19.snd.fst : Int) - 1) ∧ (((↑s19.snd.fst : Int) - 1 : Int) < (↑s18.snd.fst : Int))) <|
                      .load (p20.fst, p20.snd + mulN ((↑s19.snd.fst : Int) - 1).toNat 2 + 1) (.int .i64) fun i21 =>
                      .guard (InK IntKind.i64 (i21 - 1)) <|
                      .store (p20.fst, p20.snd + mulN ((↑s19.snd.fst : Int) - 1).toNat 2 + 1) (.int .i64 (i21 - 1)) <|
                      .load (p20.fst, p20.snd + mulN ((↑s19.snd.fst : Int) - 1).toNat 2 + 1) (.int .i64) fun i22 =>
                      .ite (decide (i22 > -1))
                      (.done (.exit 0) [])
                      (.done .normal []))) [] fun x23 =>
                .done .normal [])
              (.done .normal [])) [] fun x24 =>
            .done .normal [])
          (.load (a0.fst, a0.snd) (.ptr) fun q25 =>
            .load (p9.fst, p9.snd + mulN ((↑s8.snd.fst : Int) - 1).toNat 2) (.ptr) fun q26 =>
            .nonnil (q26) fun p27 =>
            .load (p27.fst, p27.snd + 3) (.ptr) fun q28 =>
            .nonnil (q28) fun p29 =>
            .load p29 (.sl) fun s30 =>
            .load (p9.fst, p9.snd + mulN ((↑s8.snd.fst : Int) - 1).toNat 2 + 1) (.int .i64) fun i31 =>
            .nonnil (s30.fst) fun p32 =>
            .guard (((0 : Int) ≤ i31) ∧ ((i31 : Int) < (↑s30.snd.fst : Int))) <|
            .load (a0.fst, a0.snd + 1) (.bool) fun b33 =>
            .call fn_mi_isoLoad [.c (.ptr (q25)), .c (.addr (p32.fst, p32.snd + Int.toNat i31)), .c (.bool (b33))] false [.c (.ptr)] fun r34 =>
            .bind (some 2) (.loop [.c (.ptr)] [.c (.ptr (r34.fst))] fun y35 =>
                .load (a0.fst, a0.snd + 5) (.sl) fun s36 =>
                .nonnil (y35.fst) fun p37 =>
                .load (p37.fst, p37.snd + 2) (.sl) fun s38 =>
                .alloc ty_btree_mapIterStackItem_int_int [.ptr (y35.fst), .int .i64 ((↑s38.snd.fst : Int))] fun n39 =>
                .held (a0.fst, a0.snd + 5) (.sl (s36.fst) (s36.snd.fst) (s36.snd.snd)) <|
                .append ty_btree_mapIterStackItem_int_int 2 16 [.ptr none, .int .i64 (0)] ((s36.fst), s36.snd.fst, s36.snd.snd) ((some (n39, 0)), 1, 1) fun s40 =>
                .store (a0.fst, a0.snd + 5) (.sl (s40.fst) (s40.snd.fst) (s40.snd.snd)) <|
                .call fn_ni_leaf [.c (.ptr (y35.fst))] false [.c (.bool)] fun r41 =>
                .ite (r41.fst)
                (.load (a0.fst, a0.snd + 5) (.sl) fun s42 =>
                  .load (a0.fst, a0.snd + 5) (.sl) fun s43 =>
                  .guard (InK IntKind.i64 ((↑s43.snd.fst : Int) - 1)) <|
                  .nonnil (s42.fst) fun p44 =>
                  .guard (((0 : Int) ≤ (↑s43.snd.fst : Int) - 1) ∧ (((↑s43.snd.fst : Int) - 1 : Int) < (↑s42.snd.fst : Int))) <|
                  .load (p44.fst, p44.snd + mulN ((↑s43.snd.fst : Int) - 1).toNat 2 + 1) (.int .i64) fun i45 =>
                  .guard (InK IntKind.i64 (i45 - 1)) <|
                  .nonnil (s42.fst) fun p46 =>
                  .guard (((0 : Int) ≤ (↑s43.snd.fst : Int) - 1) ∧ (((↑s43.snd.fst : Int) - 1 : Int) < (↑s42.snd.fst : Int))) <|
                  .store (p46.fst, p46.snd + mulN ((↑s43.snd.fst : Int) - 1).toNat 2 + 1) (.int .i64 (i45 - 1)) <|
                  .done (.exit 2) [])
                (.load (a0.fst, a0.snd) (.ptr) fun q47 =>
                  .nonnil (y35.fst) fun p48 =>
                  .load (p48.fst, p48.snd + 3) (.ptr) fun q49 =>
                  .nonnil (q49) fun p50 =>
                  .load p50 (.sl) fun s51 =>
                  .nonnil (y35.fst) fun p52 =>
                  .load (p52.fst, p52.snd + 2) (.sl) fun s53 =>
                  .nonnil (s51.fst) fun p54 =>
                  .guard (((0 : Int) ≤ (↑s53.snd.fst : Int)) ∧ (((↑s53.snd.fst : Int) : Int) < (↑s51.snd.fst : Int))) <|
                  .load (a0.fst, a0.snd + 1) (.bool) fun b55 =>
                  .call fn_mi_isoLoad [.c (.ptr (q47)), .c (.addr (p54.fst, p54.snd + (↑s53.snd.fst : Int).toNat)), .c (.bool (b55))] false [.c (.ptr)] fun r56 =>
                  .done .normal [.c (.ptr (r56.fst))])) [] fun x57 =>
            .done .normal [])) [] fun x58 =>
        .load (a0.fst, a0.snd + 5) (.sl) fun s59 =>
        .load (a0.fst, a0.snd + 5) (.sl) fun s60 =>
        .guard (InK IntKind.i64 ((↑s60.snd.fst : Int) - 1)) <|
        .nonnil (s59.fst) fun p61 =>
        .guard (((0 : Int) ≤ (↑s60.snd.fst : Int) - 1) ∧ (((↑s60.snd.fst : Int) - 1 : Int) < (↑s59.snd.fst : Int))) <|
        .load (p61.fst, p61.snd + mulN ((↑s60.snd.fst : Int) - 1).toNat 2) (.ptr) fun q62 =>
        .nonnil (q62) fun p63 =>
        .load (p63.fst, p63.snd + 2) (.sl) fun s64 =>
        .load (p61.fst, p61.snd + mulN ((↑s60.snd.fst : Int) - 1).toNat 2 + 1) (.int .i64) fun i65 =>
        .nonnil (s64.fst) fun p66 =>
        .guard (((0 : Int) ≤ i65) ∧ ((i65 : Int) < (↑s64.snd.fst : Int))) <|
        .load (p66.fst, p66.snd + mulN (Int.toNat i65) 2) (.int .i64) fun i67 =>
        .load (p66.fst, p66.snd + mulN (Int.toNat i65) 2 + 1) (.int .i64) fun i68 =>
        .store (a0.fst, a0.snd + 6) (.int .i64 (i67)) <|
        .store (a0.fst, a0.snd + 7) (.int .i64 (i68)) <|
        .done .ret [.c (.tt)])))

theorem den_ii_Prev (a0 : PA) : denFn Try.prog Try.f113 [.c (.addr a0)] = M_ii_Prev a0 := by kernel_rfl
theorem hc_ii_Prev (a0 : PA) {h : H} {R : Value → H → Prop} (hw : wp Try.prog (M_ii_Prev a0) (Ret R) h) : HC Try.prog fn_ii_Prev (List.map AV.val [.c (.addr a0)]).toArray h R :=
  den_calls hmix Try.func113 (of_decide_eq_true rfl) (by rw [den_ii_Prev]; exact hw)

def M_ii_Seek (a0 : PA) (a1 : Int) : M :=
  .load (a0.fst, a0.snd) (.ptr) fun q0 =>
  .ite (Option.isNone q0)
  (.done .ret [.c (.ff)])
  (.store (a0.fst, a0.snd + 2) (.tt) <|
    .load (a0.fst, a0.snd + 5) (.sl) fun s1 =>
    .guard (((0 : Int) ≤ 0) ∧ ((0 : Int) ≤ (↑s1.snd.snd : Int))) <|
    .store (a0.fst, a0.snd + 5) (.sl (slBase s1.fst s1.snd.snd 0 2) (0) (s1.snd.snd - 0)) <|
    .load (a0.fst, a0.snd) (.ptr) fun q2 =>
    .nonnil (q2) fun p3 =>
    .load (p3.fst, p3.snd + 2) (.ptr) fun q4 =>
    .ite (Option.isNone q4)
    (.done .ret [.c (.ff)])
    (.load (a0.fst, a0.snd) (.ptr) fun q5 =>
      .load (a0.fst, a0.snd) (.ptr) fun q6 =>
      .nonnil (q6) fun p7 =>
      .load (a0.fst, a0.snd + 1) (.bool) fun b8 =>
      .call fn_mi_isoLoad [.c (.ptr (q5)), .c (.addr (p7.fst, p7.snd + 2)), .c (.bool (b8))] false [.c (.ptr)] fun r9 =>
      .loop [.c (.ptr)] [.c (.ptr (r9.fst))] fun y10 =>
        .load (a0.fst, a0.snd) (.ptr) fun q11 =>
        .call fn_mi_search [.c (.ptr (q11)), .c (.ptr (y10.fst)), .c (.int .i64 (a1))] true [.c (.int .i64), .c (.bool)] fun r12 =>
        .load (a0.fst, a0.snd + 5) (.sl) fun s13 =>
        .alloc ty_btree_mapIterStackItem_int_int [.ptr (y10.fst), .int .i64 (r12.fst)] fun n14 =>
        .append ty_btree_mapIterStackItem_int_int 2 16 [.ptr none, .int .i64 (0)] ((s13.fst), s13.snd.fst, s13.snd.snd) ((some (n14, 0)), 1, 1) fun s15 =>
        .store (a0.fst, a0.snd + 5) (.sl (s15.fst) (s15.snd.fst) (s15.snd.snd)) <|
        .ite (r12.snd.fst)
        (.nonnil (y10.fst) fun p16 =>
          .load (p16.fst, p16.snd + 2) (.sl) fun s17 =>
          .nonnil (s17.fst) fun p18 =>
          .guard (((0 : Int) ≤ r12.fst) ∧ ((r12.fst : Int) < (↑s17.snd.fst : Int))) <|
          .load (p18.fst, p18.snd + mulN (Int.toNat r12.fst) 2) (.int .i64) fun i19 =>
          .load (p18.fst, p18.snd + mulN (Int.toNat r12.fst) 2 + 1) (.int .i64) fun i20 =>
          .store (a0.fst, a0.snd + 6) (.int .i64 (i19)) <|
          .store (a0.fst, a0.snd + 7) (.int .i64 (i20)) <|
          .done .ret [.c (.tt)])
        (.call fn_ni_leaf [.c (.ptr (y10.fst))] false [.c (.bool)] fun r21 =>
          .ite (r21.fst)
          (.load (a0.fst, a0.snd + 5) (.sl) fun s22 =>
            .load (a0.fst, a0.snd + 5) (.sl) fun s23 =>
            .guard (InK IntKind.i64 ((↑s23.snd.fst : Int) - 1)) <|
            .nonnil (s22.fst) fun p24 =>
            .guard (((0 : Int) ≤ (↑s23.snd.fst : Int) - 1) ∧ (((↑s23.snd.fst : Int) - 1 : Int) < (↑s22.snd.fst : Int))) <|
            .load (p24.fst, p24.snd + mulN ((↑s23.snd.fst : Int) - 1).toNat 2 + 1) (.int .i64) fun i25 =>
            .guard (InK IntKind.i64 (i25 - 1)) <|
            .nonnil (s22.fst) fun p26 =>
            .guard (((0 : Int) ≤ (↑s23.snd.fst : Int) - 1) ∧ (((↑s23.snd.fst : Int) - 1 : Int) < (↑s22.snd.fst : Int))) <|
            .store (p26.fst, p26.snd + mulN ((↑s23.snd.fst : Int) - 1).toNat 2 + 1) (.int .i64 (i25 - 1)) <|
            .call fn_ii_Next [.c (.addr a0)] false [.c (.bool)] fun r27 =>
            .done .ret [.c (.bool (r27.fst))])
          (.load (a0.fst, a0.snd) (.ptr) fun q28 =>
            .nonnil (y10.fst) fun p29 =>
            .load (p29.fst, p29.snd + 3) (.ptr) fun q30 =>
            .nonnil (q30) fun p31 =>
            .load p31 (.sl) fun s32 =>
            .nonnil (s32.fst) fun p33 =>
            .guard (((0 : Int) ≤ r12.fst) ∧ ((r12.fst : Int) < (↑s32.snd.fst : Int))) <|
            .load (a0.fst, a0.snd + 1) (.bool) fun b34 =>
            .call fn_mi_isoLoad [.c (.ptr (q28)), .c (.addr (p33.fst, p33.snd + Int.toNat r12.fst)), .c (.bool (b34))] false [.c (.ptr)] fun r35 =>
            .done .normal [.c (.ptr (r35.fst))]))))

theorem den_ii_Seek (a0 : PA) (a1 : Int) : denFn Try.prog Try.f114 [.c (.addr a0), .c (.int .i64 a1)] = M_ii_Seek a0 a1 := by kernel_rfl
theorem hc_ii_Seek (a0 : PA) (a1 : Int) {h : H} {R : Value → H → Prop} (hw : wp Try.prog (M_ii_Seek a0 a1) (Ret R) h) : HC Try.prog fn_ii_Seek (List.map AV.val [.c (.addr a0), .c (.int .i64 a1)]).toArray h R :=
  den_calls hmix Try.func114 (of_decide_eq_true rfl) (by rw [den_ii_Seek]; exact hw)

def M_ii_Value (a0 : PA) : M :=
  .load (a0.fst, a0.snd + 6) (.int .i64) fun i0 =>
  .done .ret [.c (.int .i64 (i0))]

theorem den_ii_Value (a0 : PA) : denFn Try.prog Try.f117 [.c (.addr a0)] = M_ii_Value a0 := by kernel_rfl
theorem hc_ii_Value (a0 : PA) {h : H} {R : Value → H → Prop} (hw : wp Try.prog (M_ii_Value a0) (Ret R) h) : HC Try.prog fn_ii_Value (List.map AV.val [.c (.addr a0)]).toArray h R :=
  den_calls hmix Try.func117 (of_decide_eq_true rfl) (by rw [den_ii_Value]; exact hw)

def M_impl_MAscend (a0 : Int) (a1p : Option PA) (a1l : Nat) (a1c : Nat) (a2 : Int) (a3 : Int) : M :=
  .alloc ty_sl_impl_Item [.sl none (0) (0)] fun n0 =>
  .call fn_impl_growMap [.c (.int .i64 (a0)), .c (.sl (a1p) (a1l) (a1c))] false [.c (.ptr)] fun r1 =>
  .call fn_impl_pairs [.c (.addr (n0, 0)), .c (.int .i64 (a3))] false [.c (.raw)] fun r2 =>
  .call fn_mi_Ascend [.c (.ptr (r1.fst)), .c (.int .i64 (a2)), .c (.raw (r2.fst))] true [] fun r3 =>
  .load (n0, 0) (.sl) fun s4 =>
  .done .ret [.c (.sl (s4.fst) (s4.snd.fst) (s4.snd.snd))]

theorem den_impl_MAscend (a0 : Int) (a1p : Option PA) (a1l : Nat) (a1c : Nat) (a2 : Int) (a3 : Int) : denFn Try.prog Try.f57 [.c (.int .i64 a0), .c (.sl a1p a1l a1c), .c (.int .i64 a2), .c (.int .i64 a3)] = M_impl_MAscend a0 a1p a1l a1c a2 a3 := by kernel_rfl
theorem hc_impl_MAscend (a0 : Int) (a1p : Option PA) (a1l : Nat) (a1c : Nat) (a2 : Int) (a3 : Int) {h : H} {R : Value → H → Prop} (hw : wp Try.prog (M_impl_MAscend a0 a1p a1l a1c a2 a3) (Ret R) h) : HC Try.prog fn_impl_MAscend (List.map AV.val [.c (.int .i64 a0), .c (.sl a1p a1l a1c), .c (.int .i64 a2), .c (.int .i64 a3)]).toArray h R :=
  den_calls hmix Try.func57 (of_decide_eq_true rfl) (by rw [den_impl_MAscend]; exact hw)

def M_impl_MDelete (a0 : Int) (a1p : Option PA) (a1l : Nat) (a1c : Nat) (a2p : Option PA) (a2l : Nat) (a2c : Nat) : M :=
  .call fn_impl_growMap [.c (.int .i64 (a0)), .c (.sl (a1p) (a1l) (a1c))] false [.c (.ptr)] fun r0 =>
  .bind (some 0) (.loop [.c (.int .i64), .c (.sl)] [.c (.int .i64 (0)), .c (.sl none (0) (0))] fun y1 =>
      .ite (decide (y1.fst < (↑a2l : Int)))
      (.nonnil (a2p) fun p2 =>
        .guard (((0 : Int) ≤ y1.fst) ∧ ((y1.fst : Int) < (↑a2l : Int))) <|
        .load (p2.fst, p2.snd + Int.toNat y1.fst) (.int .i64) fun i3 =>
        .call fn_mi_Delete [.c (.ptr (r0.fst)), .c (.int .i64 (i3))] true [.c (.int .i64), .c (.bool)] fun r4 =>
        .call fn_impl_pair [.c (.int .i64 (i3)), .c (.int .i64 (r4.fst)), .c (.bool (r4.snd.fst))] false [.agg [.int .i64, .int .i64, .bool]] fun r5 =>
        .alloc ty_impl_Found [.int .i64 (r5.fst.fst), .int .i64 (r5.fst.snd.fst), .bool (r5.fst.snd.snd.fst)] fun n6 =>
        .append ty_impl_Found 3 24 [.int .i64 (0), .int .i64 (0), .ff] ((y1.snd.fst.fst), y1.snd.fst.snd.fst, y1.snd.fst.snd.snd) ((some (n6, 0)), 1, 1) fun s7 =>
        .guard (InK IntKind.i64 (y1.fst + 1)) <|
        .done .normal [.c (.int .i64 (y1.fst + 1)), .c (.sl (s7.fst) (s7.snd.fst) (s7.snd.snd))])
      (.done (.exit 0) [.c (.sl (y1.snd.fst.fst) (y1.snd.fst.snd.fst) (y1.snd.fst.snd.snd))])) [.c (.sl)] fun x8 =>
  .call fn_impl_entries [.c (.ptr (r0.fst))] false [.c (.sl)] fun r9 =>
  .done .ret [.c (.sl (x8.fst.fst) (x8.fst.snd.fst) (x8.fst.snd.snd)), .c (.sl (r9.fst.fst) (r9.fst.snd.fst) (r9.fst.snd.snd))]

theorem den_impl_MDelete (a0 : Int) (a1p : Option PA) (a1l : Nat) (a1c : Nat) (a2p : Option PA) (a2l : Nat) (a2c : Nat) : denFn Try.prog Try.f37 [.c (.int .i64 a0), .c (.sl a1p a1l a1c), .c (.sl a2p a2l a2c)] = M_impl_MDelete a0 a1p a1l a1c a2p a2l a2c := by kernel_rfl
theorem hc_impl_MDelete (a0 : Int) (a1p : Option PA) (a1l : Nat) (a1c : Nat) (a2p : Option PA) (a2l : Nat) (a2c : Nat) {h : H} {R : Value → H → Prop} (hw : wp Try.prog (M_impl_MDelete a0 a1p a1l a1c a2p a2l a2c) (Ret R) h) : HC Try.prog fn_impl_MDelete (List.map AV.val [.c (.int .i64 a0), .c (.sl a1p a1l a1c), .c (.sl a2p a2l a2c)]).toArray h R :=
  den_calls hmix Try.func37 (of_decide_eq_true rfl) (by rw [den_impl_MDelete]; exact hw)

def M_impl_MDeleteAt (a0 : Int) (a1p : Option PA) (a1l : Nat) (a1c : Nat) (a2p : Option PA) (a2l : Nat) (a2c : Nat) : M :=
  .call fn_impl_growMap [.c (.int .i64 (a0)), .c (.sl (a1p) (a1l) (a1c))] false [.c (.ptr)] fun r0 =>
  .bind (some 0) (.loop [.c (.int .i64), .c (.sl)] [.c (.int .i64 (0)), .c (.sl none (0) (0))] fun y1 =>
      .ite (decide (y1.fst < (↑a2l : Int)))
      (.nonnil (a2p) fun p2 =>
        .guard (((0 : Int) ≤ y1.fst) ∧ ((y1.fst : Int) < (↑a2l : Int))) <|
        .load (p2.fst, p2.snd + Int.toNat y1.fst) (.int .i64) fun i3 =>
        .call fn_mi_DeleteAt [.c (.ptr (r0.fst)), .c (.int .i64 (i3))] true [.c (.int .i64), .c (.int .i64), .c (.bool)] fun r4 =>
        .call fn_impl_pair [.c (.int .i64 (r4.fst)), .c (.int .i64 (r4.snd.fst)), .c (.bool (r4.snd.snd.fst))] false [.agg [.int .i64, .int .i64, .bool]] fun r5 =>
        .alloc ty_impl_Found [.int .i64 (r5.fst.fst), .int .i64 (r5.fst.snd.fst), .bool (r5.fst.snd.snd.fst)] fun n6 =>
        .append ty_impl_Found 3 24 [.int .i64 (0), .int .i64 (0), .ff] ((y1.snd.fst.fst), y1.snd.fst.snd.fst, y1.snd.fst.snd.snd) ((some (n6, 0)), 1, 1) fun s7 =>
        .guard (InK IntKind.i64 (y1.fst + 1)) <|
        .done .normal [.c (.int .i64 (y1.fst + 1)), .c (.sl (s7.fst) (s7.snd.fst) (s7.snd.snd))])
      (.done (.exit 0) [.c (.sl (y1.snd.fst.fst) (y1.snd.fst.snd.fst) (y1.snd.fst.snd.snd))])) [.c (.sl)] fun x8 =>
  .call fn_impl_entries [.c (.ptr (r0.fst))] false [.c (.sl)] fun r9 =>
  .done .ret [.c (.sl (x8.fst.fst) (x8.fst.snd.fst) (x8.fst.snd.snd)), .c (.sl (r9.fst.fst) (r9.fst.snd.fst) (r9.fst.snd.snd))]

theorem den_impl_MDeleteAt (a0 : Int) (a1p : Option PA) (a1l : Nat) (a1c : Nat) (a2p : Option PA) (a2l : Nat) (a2c : Nat) : denFn Try.prog Try.f31 [.c (.int .i64 a0), .c (.sl a1p a1l a1c), .c (.sl a2p a2l a2c)] = M_impl_MDeleteAt a0 a1p a1l a1c a2p a2l a2c := by kernel_rfl
theorem hc_impl_MDeleteAt (a0 : Int) (a1p : Option PA) (a1l : Nat) (a1c : Nat) (a2p : Option PA) (a2l : Nat) (a2c : Nat) {h : H} {R : Value → H → Prop} (hw : wp Try.prog (M_impl_MDeleteAt a0 a1p a1l a1c a2p a2l a2c) (Ret R) h) : HC Try.prog fn_impl_MDeleteAt (List.map AV.val [.c (.int .i64 a0), .c (.sl a1p a1l a1c), .c (.sl a2p a2l a2c)]).toArray h R :=
  den_calls hmix Try.func31 (of_decide_eq_true rfl) (by rw [den_impl_MDeleteAt]; exact hw)

def M_impl_MGet (a0 : Int) (a1p : Option PA) (a1l : Nat) (a1c : Nat) (a2p : Option PA) (a2l : Nat) (a2c : Nat) : M :=
  .call fn_impl_growMap [.c (.int .i64 (a0)), .c (.sl (a1p) (a1l) (a1c))] false [.c (.ptr)] fun r0 =>
  .bind (some 0) (.loop [.c (.int .i64), .c (.sl)] [.c (.int .i64 (0)), .c (.sl none (0) (0))] fun y1 =>
      .ite (decide (y1.fst < (↑a2l : Int)))
      (.nonnil (a2p) fun p2 =>
        .guard (((0 : Int) ≤ y1.fst) ∧ ((y1.fst : Int) < (↑a2l : Int))) <|
        .load (p2.fst, p2.snd + Int.toNat y1.fst) (.int .i64) fun i3 =>
        .call fn_mi_Get [.c (.ptr (r0.fst)), .c (.int .i64 (i3))] true [.c (.int .i64), .c (.bool)] fun r4 =>
        .call fn_impl_pair [.c (.int .i64 (i3)), .c (.int .i64 (r4.fst)), .c (.bool (r4.snd.fst))] false [.agg [.int .i64, .int .i64, .bool]] fun r5 =>
        .alloc ty_impl_Found [.int .i64 (r5.fst.fst), .int .i64 (r5.fst.snd.fst), .bool (r5.fst.snd.snd.fst)] fun n6 =>
        .append ty_impl_Found 3 24 [.int .i64 (0), .int .i64 (0), .ff] ((y1.snd.fst.fst), y1.snd.fst.snd.fst, y1.snd.fst.snd.snd) ((some (n6, 0)), 1, 1) fun s7 =>
        .guard (InK IntKind.i64 (y1.fst + 1)) <|
        .done .normal [.c (.int .i64 (y1.fst + 1)), .c (.sl (s7.fst) (s7.snd.fst) (s7.snd.snd))])
      (.done (.exit 0) [.c (.sl (y1.snd.fst.fst) (y1.snd.fst.snd.fst) (y1.snd.fst.snd.snd))])) [.c (.sl)] fun x8 =>
  .done .ret [.c (.sl (x8.fst.fst) (x8.fst.snd.fst) (x8.fst.snd.snd))]

theorem den_impl_MGet (a0 : Int) (a1p : Option PA) (a1l : Nat) (a1c : Nat) (a2p : Option PA) (a2l : Nat) (a2c : Nat) : denFn Try.prog Try.f36 [.c (.int .i64 a0), .c (.sl a1p a1l a1c), .c (.sl a2p a2l a2c)] = M_impl_MGet a0 a1p a1l a1c a2p a2l a2c := by kernel_rfl
theorem hc_impl_MGet (a0 : Int) (a1p : Option PA) (a1l : Nat) (a1c : Nat) (a2p : Option PA) (a2l : Nat) (a2c : Nat) {h : H} {R : Value → H → Prop} (hw : wp Try.prog (M_impl_MGet a0 a1p a1l a1c a2p a2l a2c) (Ret R) h) : HC Try.prog fn_impl_MGet (List.map AV.val [.c (.int .i64 a0), .c (.sl a1p a1l a1c), .c (.sl a2p a2l a2c)]).toArray h R :=
  den_calls hmix Try.func36 (of_decide_eq_true rfl) (by rw [den_impl_MGet]; exact hw)

def M_impl_MGetMut (a0 : Int) (a1p : Option PA) (a1l : Nat) (a1c : Nat) (a2p : Option PA) (a2l : Nat) (a2c : Nat) : M :=
  .call fn_impl_growMap [.c (.int .i64 (a0)), .c (.sl (a1p) (a1l) (a1c))] false [.c (.ptr)] fun r0 =>
  .bind (some 0) (.loop [.c (.int .i64), .c (.sl)] [.c (.int .i64 (0)), .c (.sl none (0) (0))] fun y1 =>
      .ite (decide (y1.fst < (↑a2l : Int)))
      (.nonnil (a2p) fun p2 =>
        .guard (((0 : Int) ≤ y1.fst) ∧ ((y1.fst : Int) < (↑a2l : Int))) <|
        .load (p2.fst, p2.snd + Int.toNat y1.fst) (.int .i64) fun i3 =>
        .call fn_mi_GetMut [.c (.ptr (r0.fst)), .c (.int .i64 (i3))] true [.c (.int .i64), .c (.bool)] fun r4 =>
        .call fn_impl_pair [.c (.int .i64 (i3)), .c (.int .i64 (r4.fst)), .c (.bool (r4.snd.fst))] false [.agg [.int .i64, .int .i64, .bool]] fun r5 =>
        .alloc ty_impl_Found [.int .i64 (r5.fst.fst), .int .i64 (r5.fst.snd.fst), .bool (r5.fst.snd.snd.fst)] fun n6 =>
        .append ty_impl_Found 3 24 [.int .i64 (0), .int .i64 (0), .ff] ((y1.snd.fst.fst), y1.snd.fst.snd.fst, y1.snd.fst.snd.snd) ((some (n6, 0)), 1, 1) fun s7 =>
        .guard (InK IntKind.i64 (y1.fst + 1)) <|
        .done .normal [.c (.int .i64 (y1.fst + 1)), .c (.sl (s7.fst) (s7.snd.fst) (s7.snd.snd))])
      (.done (.exit 0) [.c (.sl (y1.snd.fst.fst) (y1.snd.fst.snd.fst) (y1.snd.fst.snd.snd))])) [.c (.sl)] fun x8 =>
  .done .ret [.c (.sl (x8.fst.fst) (x8.fst.snd.fst) (x8.fst.snd.snd))]

theorem den_impl_MGetMut (a0 : Int) (a1p : Option PA) (a1l : Nat) (a1c : Nat) (a2p : Option PA) (a2l : Nat) (a2c : Nat) : denFn Try.prog Try.f48 [.c (.int .i64 a0), .c (.sl a1p a1l a1c), .c (.sl a2p a2l a2c)] = M_impl_MGetMut a0 a1p a1l a1c a2p a2l a2c := by kernel_rfl
theorem hc_impl_MGetMut (a0 : Int) (a1p : Option PA) (a1l : Nat) (a1c : Nat) (a2p : Option PA) (a2l : Nat) (a2c : Nat) {h : H} {R : Value → H → Prop} (hw : wp Try.prog (M_impl_MGetMut a0 a1p a1l a1c a2p a2l a2c) (Ret R) h) : HC Try.prog fn_impl_MGetMut (List.map AV.val [.c (.int .i64 a0), .c (.sl a1p a1l a1c), .c (.sl a2p a2l a2c)]).toArray h R :=
  den_calls hmix Try.func48 (of_decide_eq_true rfl) (by rw [den_impl_MGetMut]; exact hw)

def M_impl_MIter (a0 : Int) (a1p : Option PA) (a1l : Nat) (a1c : Nat) (a2p : Option PA) (a2l : Nat) (a2c : Nat) : M :=
  .call fn_impl_growMap [.c (.int .i64 (a0)), .c (.sl (a1p) (a1l) (a1c))] false [.c (.ptr)] fun r0 =>
  .call fn_mi_Iter [.c (.ptr (r0.fst))] false [.agg [.ptr, .bool, .bool, .bool, .bool, .sl, .int .i64, .int .i64]] fun r1 =>
  .alloc ty_btree_MapIter_int_int [.ptr none, .ff, .ff, .ff, .ff, .sl none (0) (0), .int .i64 (0), .int .i64 (0)] fun n2 =>
  .store (n2, 0) (.ptr (r1.fst.fst)) <|
  .store (n2, 1) (.bool (r1.fst.snd.fst)) <|
  .store (n2, 2) (.bool (r1.fst.snd.snd.fst)) <|
  .store (n2, 3) (.bool (r1.fst.snd.snd.snd.fst)) <|
  .store (n2, 4) (.bool (r1.fst.snd.snd.snd.snd.fst)) <|
  .store (n2, 5) (.sl (r1.fst.snd.snd.snd.snd.snd.fst.fst) (r1.fst.snd.snd.snd.snd.snd.fst.snd.fst) (r1.fst.snd.snd.snd.snd.snd.fst.snd.snd)) <|
  .store (n2, 6) (.int .i64 (r1.fst.snd.snd.snd.snd.snd.snd.fst)) <|
  .store (n2, 7) (.int .i64 (r1.fst.snd.snd.snd.snd.snd.snd.snd.fst)) <|
  .call fn_impl_movedMap [.c (.addr (n2, 0)), .c (.sl (a2p) (a2l) (a2c))] false [.c (.sl)] fun r3 =>
  .done .ret [.c (.sl (r3.fst.fst) (r3.fst.snd.fst) (r3.fst.snd.snd))]

theorem den_impl_MIter (a0 : Int) (a1p : Option PA) (a1l : Nat) (a1c : Nat) (a2p : Option PA) (a2l : Nat) (a2c : Nat) : denFn Try.prog Try.f59 [.c (.int .i64 a0), .c (.sl a1p a1l a1c), .c (.sl a2p a2l a2c)] = M_impl_MIter a0 a1p a1l a1c a2p a2l a2c := by kernel_rfl
theorem hc_impl_MIter (a0 : Int) (a1p : Option PA) (a1l : Nat) (a1c : Nat) (a2p : Option PA) (a2l : Nat) (a2c : Nat) {h : H} {R : Value → H → Prop} (hw : wp Try.prog (M_impl_MIter a0 a1p a1l a1c a2p a2l a2c) (Ret R) h) : HC Try.prog fn_impl_MIter (List.map AV.val [.c (.int .i64 a0), .c (.sl a1p a1l a1c), .c (.sl a2p a2l a2c)]).toArray h R :=
  den_calls hmix Try.func59 (of_decide_eq_true rfl) (by rw [den_impl_MIter]; exact hw)

def M_impl_MKeyValues (a0 : Int) (a1p : Option PA) (a1l : Nat) (a1c : Nat) : M :=
  .call fn_impl_growMap [.c (.int .i64 (a0)), .c (.sl (a1p) (a1l) (a1c))] false [.c (.ptr)] fun r0 =>
  .call fn_mi_KeyValues [.c (.ptr (r0.fst))] true [.c (.sl), .c (.sl)] fun r1 =>
  .done .ret [.c (.sl (r1.fst.fst) (r1.fst.snd.fst) (r1.fst.snd.snd)), .c (.sl (r1.snd.fst.fst) (r1.snd.fst.snd.fst) (r1.snd.fst.snd.snd))]

theorem den_impl_MKeyValues (a0 : Int) (a1p : Option PA) (a1l : Nat) (a1c : Nat) : denFn Try.prog Try.f35 [.c (.int .i64 a0), .c (.sl a1p a1l a1c)] = M_impl_MKeyValues a0 a1p a1l a1c := by kernel_rfl
theorem hc_impl_MKeyValues (a0 : Int) (a1p : Option PA) (a1l : Nat) (a1c : Nat) {h : H} {R : Value → H → Prop} (hw : wp Try.prog (M_impl_MKeyValues a0 a1p a1l a1c) (Ret R) h) : HC Try.prog fn_impl_MKeyValues (List.map AV.val [.c (.int .i64 a0), .c (.sl a1p a1l a1c)]).toArray h R :=
  den_calls hmix Try.func35 (of_decide_eq_true rfl) (by rw [den_impl_MKeyValues]; exact hw)

def M_impl_MKeys (a0 : Int) (a1p : Option PA) (a1l : Nat) (a1c : Nat) : M :=
  .call fn_impl_growMap [.c (.int .i64 (a0)), .c (.sl (a1p) (a1l) (a1c))] false [.c (.ptr)] fun r0 =>
  .call fn_mi_Keys [.c (.ptr (r0.fst))] false [.c (.sl)] fun r1 =>
  .done .ret [.c (.sl (r1.fst.fst) (r1.fst.snd.fst) (r1.fst.snd.snd))]

theorem den_impl_MKeys (a0 : Int) (a1p : Option PA) (a1l : Nat) (a1c : Nat) : denFn Try.prog Try.f22 [.c (.int .i64 a0), .c (.sl a1p a1l a1c)] = M_impl_MKeys a0 a1p a1l a1c := by kernel_rfl
theorem hc_impl_MKeys (a0 : Int) (a1p : Option PA) (a1l : Nat) (a1c : Nat) {h : H} {R : Value → H → Prop} (hw : wp Try.prog (M_impl_MKeys a0 a1p a1l a1c) (Ret R) h) : HC Try.prog fn_impl_MKeys (List.map AV.val [.c (.int .i64 a0), .c (.sl a1p a1l a1c)]).toArray h R :=
  den_calls hmix Try.func22 (of_decide_eq_true rfl) (by rw [den_impl_MKeys]; exact hw)

def M_impl_MMaxMut (a0 : Int) (a1p : Option PA) (a1l : Nat) (a1c : Nat) : M :=
  .alloc ty_impl_Found [.int .i64 (0), .int .i64 (0), .ff] fun n0 =>
  .call fn_impl_growMap [.c (.int .i64 (a0)), .c (.sl (a1p) (a1l) (a1c))] false [.c (.ptr)] fun r1 =>
  .call fn_mi_MaxMut [.c (.ptr (r1.fst))] true [.c (.int .i64), .c (.int .i64), .c (.bool)] fun r2 =>
  .call fn_impl_pair [.c (.int .i64 (r2.fst)), .c (.int .i64 (r2.snd.fst)), .c (.bool (r2.snd.snd.fst))] false [.agg [.int .i64, .int .i64, .bool]] fun r3 =>
  .store (n0, 0) (.int .i64 (r3.fst.fst)) <|
  .store (n0, 1) (.int .i64 (r3.fst.snd.fst)) <|
  .store (n0, 2) (.bool (r3.fst.snd.snd.fst)) <|
  .load (n0, 0) (.int .i64) fun i4 =>
  .load (n0, 1) (.int .i64) fun i5 =>
  .load (n0, 2) (.bool) fun b6 =>
  .done .ret [.agg [.int .i64 (i4), .int .i64 (i5), .bool (b6)]]

theorem den_impl_MMaxMut (a0 : Int) (a1p : Option PA) (a1l : Nat) (a1c : Nat) : denFn Try.prog Try.f43 [.c (.int .i64 a0), .c (.sl a1p a1l a1c)] = M_impl_MMaxMut a0 a1p a1l a1c := by kernel_rfl
theorem hc_impl_MMaxMut (a0 : Int) (a1p : Option PA) (a1l : Nat) (a1c : Nat) {h : H} {R : Value → H → Prop} (hw : wp Try.prog (M_impl_MMaxMut a0 a1p a1l a1c) (Ret R) h) : HC Try.prog fn_impl_MMaxMut (List.map AV.val [.c (.int .i64 a0), .c (.sl a1p a1l a1c)]).toArray h R :=
  den_calls hmix Try.func43 (of_decide_eq_true rfl) (by rw [den_impl_MMaxMut]; exact hw)

def M_impl_MPops (a0 : Int) (a1p : Option PA) (a1l : Nat) (a1c : Nat) (a2p : Option PA) (a2l : Nat) (a2c : Nat) : M :=
  .call fn_impl_growMap [.c (.int .i64 (a0)), .c (.sl (a1p) (a1l) (a1c))] false [.c (.ptr)] fun r0 =>
  .bind (some 0) (.loop [.c (.int .i64), .c (.sl)] [.c (.int .i64 (0)), .c (.sl none (0) (0))] fun y1 =>
      .ite (decide (y1.fst < (↑a2l : Int)))
      (.nonnil (a2p) fun p2 =>
        .guard (((0 : Int) ≤ y1.fst) ∧ ((y1.fst : Int) < (↑a2l : Int))) <|
        .load (p2.fst, p2.snd + Int.toNat y1.fst) (.bool) fun b3 =>
        .bind none (.ite (b3)
          (.call fn_mi_PopMax [.c (.ptr (r0.fst))] true [.c (.int .i64), .c (.int .i64), .c (.bool)] fun r4 =>
            .call fn_impl_pair [.c (.int .i64 (r4.fst)), .c (.int .i64 (r4.snd.fst)), .c (.bool (r4.snd.snd.fst))] false [.agg [.int .i64, .int .i64, .bool]] fun r5 =>
            .alloc ty_impl_Found [.int .i64 (r5.fst.fst), .int .i64 (r5.fst.snd.fst), .bool (r5.fst.snd.snd.fst)] fun n6 =>
            .append ty_impl_Found 3 24 [.int .i64 (0), .int .i64 (0), .ff] ((y1.snd.fst.fst), y1.snd.fst.snd.fst, y1.snd.fst.snd.snd) ((some (n6, 0)), 1, 1) fun s7 =>
            .done .normal [.c (.sl (s7.fst) (s7.snd.fst) (s7.snd.snd))])
          (.call fn_mi_PopMin [.c (.ptr (r0.fst))] true [.c (.int .i64), .c (.int .i64), .c (.bool)] fun r8 =>
            .call fn_impl_pair [.c (.int .i64 (r8.fst)), .c (.int .i64 (r8.snd.fst)), .c (.bool (r8.snd.snd.fst))] false [.agg [.int .i64, .int .i64, .bool]] fun r9 =>
            .alloc ty_impl_Found [.int .i64 (r9.fst.fst), .int .i64 (r9.fst.snd.fst), .bool (r9.fst.snd.snd.fst)] fun n10 =>
            .append ty_impl_Found 3 24 [.int .i64 (0), .int .i64 (0), .ff] ((y1.snd.fst.fst), y1.snd.fst.snd.fst, y1.snd.fst.snd.snd) ((some (n10, 0)), 1, 1) fun s11 =>
            .done .normal [.c (.sl (s11.fst) (s11.snd.fst) (s11.snd.snd))])) [.c (.sl)] fun x12 =>
        .guard (InK IntKind.i64 (y1.fst + 1)) <|
        .done .normal [.c (.int .i64 (y1.fst + 1)), .c (.sl (x12.fst.fst) (x12.fst.snd.fst) (x12.fst.snd.snd))])
      (.done (.exit 0) [.c (.sl (y1.snd.fst.fst) (y1.snd.fst.snd.fst) (y1.snd.fst.snd.snd))])) [.c (.sl)] fun x13 =>
  .call fn_impl_entries [.c (.ptr (r0.fst))] false [.c (.sl)] fun r14 =>
  .done .ret [.c (.sl (x13.fst.fst) (x13.fst.snd.fst) (x13.fst.snd.snd)), .c (.sl (r14.fst.fst) (r14.fst.snd.fst) (r14.fst.snd.snd))]

theorem den_impl_MPops (a0 : Int) (a1p : Option PA) (a1l : Nat) (a1c : Nat) (a2p : Option PA) (a2l : Nat) (a2c : Nat) : denFn Try.prog Try.f42 [.c (.int .i64 a0), .c (.sl a1p a1l a1c), .c (.sl a2p a2l a2c)] = M_impl_MPops a0 a1p a1l a1c a2p a2l a2c := by kernel_rfl
theorem hc_impl_MPops (a0 : Int) (a1p : Option PA) (a1l : Nat) (a1c : Nat) (a2p : Option PA) (a2l : Nat) (a2c : Nat) {h : H} {R : Value → H → Prop} (hw : wp Try.prog (M_impl_MPops a0 a1p a1l a1c a2p a2l a2c) (Ret R) h) : HC Try.prog fn_impl_MPops (List.map AV.val [.c (.int .i64 a0), .c (.sl a1p a1l a1c), .c (.sl a2p a2l a2c)]).toArray h R :=
  den_calls hmix Try.func42 (of_decide_eq_true rfl) (by rw [den_impl_MPops]; exact hw)

def M_impl_MScan (a0 : Int) (a1p : Option PA) (a1l : Nat) (a1c : Nat) (a2 : Int) : M :=
  .alloc ty_sl_impl_Item [.sl none (0) (0)] fun n0 =>
  .call fn_impl_growMap [.c (.int .i64 (a0)), .c (.sl (a1p) (a1l) (a1c))] false [.c (.ptr)] fun r1 =>
  .call fn_impl_pairs [.c (.addr (n0, 0)), .c (.int .i64 (a2))] false [.c (.raw)] fun r2 =>
  .call fn_mi_Scan [.c (.ptr (r1.fst)), .c (.raw (r2.fst))] true [] fun r3 =>
  .load (n0, 0) (.sl) fun s4 =>
  .done .ret [.c (.sl (s4.fst) (s4.snd.fst) (s4.snd.snd))]

theorem den_impl_MScan (a0 : Int) (a1p : Option PA) (a1l : Nat) (a1c : Nat) (a2 : Int) : denFn Try.prog Try.f40 [.c (.int .i64 a0), .c (.sl a1p a1l a1c), .c (.int .i64 a2)] = M_impl_MScan a0 a1p a1l a1c a2 := by kernel_rfl
theorem hc_impl_MScan (a0 : Int) (a1p : Option PA) (a1l : Nat) (a1c : Nat) (a2 : Int) {h : H} {R : Value → H → Prop} (hw : wp Try.prog (M_impl_MScan a0 a1p a1l a1c a2) (Ret R) h) : HC Try.prog fn_impl_MScan (List.map AV.val [.c (.int .i64 a0), .c (.sl a1p a1l a1c), .c (.int .i64 a2)]).toArray h R :=
  den_calls hmix Try.func40 (of_decide_eq_true rfl) (by rw [den_impl_MScan]; exact hw)

def M_impl_MValues (a0 : Int) (a1p : Option PA) (a1l : Nat) (a1c : Nat) : M :=
  .call fn_impl_growMap [.c (.int .i64 (a0)), .c (.sl (a1p) (a1l) (a1c))] false [.c (.ptr)] fun r0 =>
  .call fn_mi_Values [.c (.ptr (r0.fst))] false [.c (.sl)] fun r1 =>
  .done .ret [.c (.sl (r1.fst.fst) (r1.fst.snd.fst) (r1.fst.snd.snd))]

theorem den_impl_MValues (a0 : Int) (a1p : Option PA) (a1l : Nat) (a1c : Nat) : denFn Try.prog Try.f23 [.c (.int .i64 a0), .c (.sl a1p a1l a1c)] = M_impl_MValues a0 a1p a1l a1c := by kernel_rfl
theorem hc_impl_MValues (a0 : Int) (a1p : Option PA) (a1l : Nat) (a1c : Nat) {h : H} {R : Value → H → Prop} (hw : wp Try.prog (M_impl_MValues a0 a1p a1l a1c) (Ret R) h) : HC Try.prog fn_impl_MValues (List.map AV.val [.c (.int .i64 a0), .c (.sl a1p a1l a1c)]).toArray h R :=
  den_calls hmix Try.func23 (of_decide_eq_true rfl) (by rw [den_impl_MValues]; exact hw)

def M_impl_entries (a0 : PA) : M :=
  .alloc ty_sl_impl_Item [.sl none (0) (0)] fun n0 =>
  .call fn_impl_pairs [.c (.addr (n0, 0)), .c (.int .i64 (0))] false [.c (.raw)] fun r1 =>
  .call fn_mi_Scan [.c (.addr a0), .c (.raw (r1.fst))] true [] fun r2 =>
  .load (n0, 0) (.sl) fun s3 =>
  .done .ret [.c (.sl (s3.fst) (s3.snd.fst) (s3.snd.snd))]

theorem den_impl_entries (a0 : PA) : denFn Try.prog Try.f65 [.c (.addr a0)] = M_impl_entries a0 := by kernel_rfl
theorem hc_impl_entries (a0 : PA) {h : H} {R : Value → H → Prop} (hw : wp Try.prog (M_impl_entries a0) (Ret R) h) : HC Try.prog fn_impl_entries (List.map AV.val [.c (.addr a0)]).toArray h R :=
  den_calls hmix Try.func65 (of_decide_eq_true rfl) (by rw [den_impl_entries]; exact hw)

def M_impl_found (a00 : Int) (a01 : Int) (a1 : Bool) : M :=
  .alloc ty_impl_Item [.int .i64 (a00), .int .i64 (a01)] fun n0 =>
  .alloc ty_impl_Found [.int .i64 (0), .int .i64 (0), .ff] fun n1 =>
  .ite (!a1)
  (.store (n1, 0) (.int .i64 (0)) <|
    .store (n1, 1) (.int .i64 (0)) <|
    .store (n1, 2) (.ff) <|
    .load (n1, 0) (.int .i64) fun i2 =>
    .load (n1, 1) (.int .i64) fun i3 =>
    .load (n1, 2) (.bool) fun b4 =>
    .done .ret [.agg [.int .i64 (i2), .int .i64 (i3), .bool (b4)]])
  (.load (n0, 0) (.int .i64) fun i5 =>
    .load (n0, 1) (.int .i64) fun i6 =>
    .store (n1, 0) (.int .i64 (i5)) <|
    .store (n1, 1) (.int .i64 (i6)) <|
    .store (n1, 2) (.tt) <|
    .load (n1, 0) (.int .i64) fun i7 =>
    .load (n1, 1) (.int .i64) fun i8 =>
    .load (n1, 2) (.bool) fun b9 =>
    .done .ret [.agg [.int .i64 (i7), .int .i64 (i8), .bool (b9)]])

theorem den_impl_found (a00 : Int) (a01 : Int) (a1 : Bool) : denFn Try.prog Try.f92 [.agg [.int .i64 a00, .int .i64 a01], .c (.bool a1)] = M_impl_found a00 a01 a1 := by kernel_rfl
theorem hc_impl_found (a00 : Int) (a01 : Int) (a1 : Bool) {h : H} {R : Value → H → Prop} (hw : wp Try.prog (M_impl_found a00 a01 a1) (Ret R) h) : HC Try.prog fn_impl_found (List.map AV.val [.agg [.int .i64 a00, .int .i64 a01], .c (.bool a1)]).toArray h R :=
  den_calls hmix Try.func92 (of_decide_eq_true rfl) (by rw [den_impl_found]; exact hw)

def M_impl_growMap (a0 : Int) (a1p : Option PA) (a1l : Nat) (a1c : Nat) : M :=
  .call fn_NewMap_int_int [.c (.int .i64 (a0))] false [.c (.ptr)] fun r0 =>
  .bind (some 0) (.loop [.c (.int .i64)] [.c (.int .i64 (0))] fun y1 =>
      .ite (decide (y1.fst < (↑a1l : Int)))
      (.nonnil (a1p) fun p2 =>
        .guard (((0 : Int) ≤ y1.fst) ∧ ((y1.fst : Int) < (↑a1l : Int))) <|
        .load (p2.fst, p2.snd + mulN (Int.toNat y1.fst) 2) (.int .i64) fun i3 =>
        .load (p2.fst, p2.snd + mulN (Int.toNat y1.fst) 2 + 1) (.int .i64) fun i4 =>
        .alloc ty_impl_Item [.int .i64 (0), .int .i64 (0)] fun n5 =>
        .store (n5, 0) (.int .i64 (i3)) <|
        .store (n5, 1) (.int .i64 (i4)) <|
        .load (n5, 0) (.int .i64) fun i6 =>
        .load (n5, 1) (.int .i64) fun i7 =>
        .call fn_mi_Set [.c (.ptr (r0.fst)), .c (.int .i64 (i6)), .c (.int .i64 (i7))] true [.c (.int .i64), .c (.bool)] fun r8 =>
        .guard (InK IntKind.i64 (y1.fst + 1)) <|
        .done .normal [.c (.int .i64 (y1.fst + 1))])
      (.done (.exit 0) [])) [] fun x9 =>
  .done .ret [.c (.ptr (r0.fst))]

theorem den_impl_growMap (a0 : Int) (a1p : Option PA) (a1l : Nat) (a1c : Nat) : denFn Try.prog Try.f54 [.c (.int .i64 a0), .c (.sl a1p a1l a1c)] = M_impl_growMap a0 a1p a1l a1c := by kernel_rfl
theorem hc_impl_growMap (a0 : Int) (a1p : Option PA) (a1l : Nat) (a1c : Nat) {h : H} {R : Value → H → Prop} (hw : wp Try.prog (M_impl_growMap a0 a1p a1l a1c) (Ret R) h) : HC Try.prog fn_impl_growMap (List.map AV.val [.c (.int .i64 a0), .c (.sl a1p a1l a1c)]).toArray h R :=
  den_calls hmix Try.func54 (of_decide_eq_true rfl) (by rw [den_impl_growMap]; exact hw)

def M_impl_movedMap (a0 : PA) (a1p : Option PA) (a1l : Nat) (a1c : Nat) : M :=
  .bind (some 0) (.loop [.c (.int .i64), .c (.sl)] [.c (.int .i64 (0)), .c (.sl none (0) (0))] fun y0 =>
      .ite (decide (y0.fst < (↑a1l : Int)))
      (.nonnil (a1p) fun p1 =>
        .guard (((0 : Int) ≤ y0.fst) ∧ ((y0.fst : Int) < (↑a1l : Int))) <|
        .load (p1.fst, p1.snd + mulN (Int.toNat y0.fst) 3) (.int .i64) fun i2 =>
        .load (p1.fst, p1.snd + mulN (Int.toNat y0.fst) 3 + 1) (.int .i64) fun i3 =>
        .load (p1.fst, p1.snd + mulN (Int.toNat y0.fst) 3 + 2) (.int .i64) fun i4 =>
        .alloc ty_impl_Move [.int .i64 (0), .int .i64 (0), .int .i64 (0)] fun n5 =>
        .store (n5, 0) (.int .i64 (i2)) <|
        .store (n5, 1) (.int .i64 (i3)) <|
        .store (n5, 2) (.int .i64 (i4)) <|
        .load (n5, 0) (.int .i64) fun i6 =>
        .bind none (.ite (i6 == 1)
          (.call fn_ii_Last [.c (.addr a0)] false [.c (.bool)] fun r7 =>
            .done .normal [.c (.bool (r7.fst))])
          (.bind none (.ite (i6 == 2)
              (.call fn_ii_Next [.c (.addr a0)] false [.c (.bool)] fun r8 =>
                .done .normal [.c (.bool (r8.fst))])
              (.bind none (.ite (i6 == 3)
                  (.call fn_ii_Prev [.c (.addr a0)] false [.c (.bool)] fun r9 =>
                    .done .normal [.c (.bool (r9.fst))])
                  (.bind none (.ite (i6 == 4)
                      (.done .normal [.c (.bool (i6 == 4))])
                      (.done .normal [.c (.bool (i6 == 5))])) [.c (.bool)] fun x10 =>
                    .bind none (.ite (x10.fst)
                      (.load (n5, 1) (.int .i64) fun i11 =>
                        .call fn_ii_Seek [.c (.addr a0), .c (.int .i64 (i11))] false [.c (.bool)] fun r12 =>
                        .done .normal [.c (.bool (r12.fst))])
                      (.call fn_ii_First [.c (.addr a0)] false [.c (.bool)] fun r13 =>
                        .done .normal [.c (.bool (r13.fst))])) [.c (.bool)] fun x14 =>
                    .done .normal [.c (.bool (x14.fst))])) [.c (.bool)] fun x15 =>
                .done .normal [.c (.bool (x15.fst))])) [.c (.bool)] fun x16 =>
            .done .normal [.c (.bool (x16.fst))])) [.c (.bool)] fun x17 =>
        .call fn_ii_Key [.c (.addr a0)] false [.c (.int .i64)] fun r18 =>
        .call fn_ii_Value [.c (.addr a0)] false [.c (.int .i64)] fun r19 =>
        .call fn_impl_pair [.c (.int .i64 (r18.fst)), .c (.int .i64 (r19.fst)), .c (.bool (x17.fst))] false [.agg [.int .i64, .int .i64, .bool]] fun r20 =>
        .alloc ty_impl_Found [.int .i64 (r20.fst.fst), .int .i64 (r20.fst.snd.fst), .bool (r20.fst.snd.snd.fst)] fun n21 =>
        .append ty_impl_Found 3 24 [.int .i64 (0), .int .i64 (0), .ff] ((y0.snd.fst.fst), y0.snd.fst.snd.fst, y0.snd.fst.snd.snd) ((some (n21, 0)), 1, 1) fun s22 =>
        .guard (InK IntKind.i64 (y0.fst + 1)) <|
        .done .normal [.c (.int .i64 (y0.fst + 1)), .c (.sl (s22.fst) (s22.snd.fst) (s22.snd.snd))])
      (.done (.exit 0) [.c (.sl (y0.snd.fst.fst) (y0.snd.fst.snd.fst) (y0.snd.fst.snd.snd))])) [.c (.sl)] fun x23 =>
  .done .ret [.c (.sl (x23.fst.fst) (x23.fst.snd.fst) (x23.fst.snd.snd))]

theorem den_impl_movedMap (a0 : PA) (a1p : Option PA) (a1l : Nat) (a1c : Nat) : denFn Try.prog Try.f90 [.c (.addr a0), .c (.sl a1p a1l a1c)] = M_impl_movedMap a0 a1p a1l a1c := by kernel_rfl
theorem hc_impl_movedMap (a0 : PA) (a1p : Option PA) (a1l : Nat) (a1c : Nat) {h : H} {R : Value → H → Prop} (hw : wp Try.prog (M_impl_movedMap a0 a1p a1l a1c) (Ret R) h) : HC Try.prog fn_impl_movedMap (List.map AV.val [.c (.addr a0), .c (.sl a1p a1l a1c)]).toArray h R :=
  den_calls hmix Try.func90 (of_decide_eq_true rfl) (by rw [den_impl_movedMap]; exact hw)

def M_impl_pair (a0 : Int) (a1 : Int) (a2 : Bool) : M :=
  .alloc ty_impl_Found [.int .i64 (0), .int .i64 (0), .ff] fun n0 =>
  .call fn_impl_found [.agg [.int .i64 (a0), .int .i64 (a1)], .c (.bool (a2))] false [.agg [.int .i64, .int .i64, .bool]] fun r1 =>
  .store (n0, 0) (.int .i64 (r1.fst.fst)) <|
  .store (n0, 1) (.int .i64 (r1.fst.snd.fst)) <|
  .store (n0, 2) (.bool (r1.fst.snd.snd.fst)) <|
  .load (n0, 0) (.int .i64) fun i2 =>
  .load (n0, 1) (.int .i64) fun i3 =>
  .load (n0, 2) (.bool) fun b4 =>
  .done .ret [.agg [.int .i64 (i2), .int .i64 (i3), .bool (b4)]]

theorem den_impl_pair (a0 : Int) (a1 : Int) (a2 : Bool) : denFn Try.prog Try.f63 [.c (.int .i64 a0), .c (.int .i64 a1), .c (.bool a2)] = M_impl_pair a0 a1 a2 := by kernel_rfl
theorem hc_impl_pair (a0 : Int) (a1 : Int) (a2 : Bool) {h : H} {R : Value → H → Prop} (hw : wp Try.prog (M_impl_pair a0 a1 a2) (Ret R) h) : HC Try.prog fn_impl_pair (List.map AV.val [.c (.int .i64 a0), .c (.int .i64 a1), .c (.bool a2)]).toArray h R :=
  den_calls hmix Try.func63 (of_decide_eq_true rfl) (by rw [den_impl_pair]; exact hw)

def M_impl_pairs (a0 : PA) (a1 : Int) : M :=
  .call fn_impl_taker [.c (.addr a0), .c (.int .i64 (a1))] false [.c (.raw)] fun r0 =>
  .alloc ty_func_impl_Item_bool [.raw (Value.nilFunc)] fun n1 =>
  .store (n1, 0) (.raw (r0.fst)) <|
  .done .ret [.c (.raw (Value.func (Fn.func fn_impl_pairs_1) (List.map AV.val []).toArray (List.map AV.val [AV.c (Cell.addr (n1, 0))]).toArray))]

theorem den_impl_pairs (a0 : PA) (a1 : Int) : denFn Try.prog Try.f71 [.c (.addr a0), .c (.int .i64 a1)] = M_impl_pairs a0 a1 := by kernel_rfl
theorem hc_impl_pairs (a0 : PA) (a1 : Int) {h : H} {R : Value → H → Prop} (hw : wp Try.prog (M_impl_pairs a0 a1) (Ret R) h) : HC Try.prog fn_impl_pairs (List.map AV.val [.c (.addr a0), .c (.int .i64 a1)]).toArray h R :=
  den_calls hmix Try.func71 (of_decide_eq_true rfl) (by rw [den_impl_pairs]; exact hw)

def M_impl_pairs_1 (a0 : Int) (a1 : Int) (f0 : PA) : M :=
  .load f0 (.raw) fun v0 =>
  .callv (v0) [.agg [.int .i64 (a0), .int .i64 (a1)]] false [.c (.bool)] fun r1 =>
  .done .ret [.c (.bool (r1.fst))]

theorem den_impl_pairs_1 (a0 : Int) (a1 : Int) (f0 : PA) : denFn Try.prog Try.f100 [.c (.int .i64 a0), .c (.int .i64 a1), .c (.addr f0)] = M_impl_pairs_1 a0 a1 f0 := by kernel_rfl
theorem hc_impl_pairs_1 (a0 : Int) (a1 : Int) (f0 : PA) {h : H} {R : Value → H → Prop} (hw : wp Try.prog (M_impl_pairs_1 a0 a1 f0) (Ret R) h) : HC Try.prog fn_impl_pairs_1 (List.map AV.val [.c (.int .i64 a0), .c (.int .i64 a1), .c (.addr f0)]).toArray h R :=
  den_calls hmix Try.func100 (of_decide_eq_true rfl) (by rw [den_impl_pairs_1]; exact hw)

def M_impl_taker (a0 : PA) (a1 : Int) : M :=
  .alloc ty_p_sl_impl_Item [.addr a0] fun n0 =>
  .alloc ty_int [.int .i64 (a1)] fun n1 =>
  .done .ret [.c (.raw (Value.func (Fn.func fn_impl_taker_1) (List.map AV.val []).toArray (List.map AV.val [AV.c (Cell.addr (n0, 0)), AV.c (Cell.addr (n1, 0))]).toArray))]

theorem den_impl_taker (a0 : PA) (a1 : Int) : denFn Try.prog Try.f99 [.c (.addr a0), .c (.int .i64 a1)] = M_impl_taker a0 a1 := by kernel_rfl
theorem hc_impl_taker (a0 : PA) (a1 : Int) {h : H} {R : Value → H → Prop} (hw : wp Try.prog (M_impl_taker a0 a1) (Ret R) h) : HC Try.prog fn_impl_taker (List.map AV.val [.c (.addr a0), .c (.int .i64 a1)]).toArray h R :=
  den_calls hmix Try.func99 (of_decide_eq_true rfl) (by rw [den_impl_taker]; exact hw)

def M_impl_taker_1 (a00 : Int) (a01 : Int) (f0 : PA) (f1 : PA) : M :=
  .alloc ty_impl_Item [.int .i64 (a00), .int .i64 (a01)] fun n0 =>
  .load f0 (.ptr) fun q1 =>
  .load f0 (.ptr) fun q2 =>
  .nonnil (q2) fun p3 =>
  .load p3 (.sl) fun s4 =>
  .load (n0, 0) (.int .i64) fun i5 =>
  .load (n0, 1) (.int .i64) fun i6 =>
  .alloc ty_impl_Item [.int .i64 (i5), .int .i64 (i6)] fun n7 =>
  .held p3 (.sl (s4.fst) (s4.snd.fst) (s4.snd.snd)) <|
  .held f0 (.ptr (q2)) <|
  .held f0 (.ptr (q1)) <|
  .append ty_impl_Item 2 16 [.int .i64 (0), .int .i64 (0)] ((s4.fst), s4.snd.fst, s4.snd.snd) ((some (n7, 0)), 1, 1) fun s8 =>
  .held f0 (.ptr (q1)) <|
  .nonnil (q1) fun p9 =>
  .store p9 (.sl (s8.fst) (s8.snd.fst) (s8.snd.snd)) <|
  .bind none (.load f1 (.int .i64) fun i10 =>
    .ite (decide (i10 < 1))
    (.done .normal [.c (.tt)])
    (.load f0 (.ptr) fun q11 =>
      .nonnil (q11) fun p12 =>
      .load p12 (.sl) fun s13 =>
      .load f1 (.int .i64) fun i14 =>
      .done .normal [.c (.bool (decide ((↑s13.snd.fst : Int) < i14)))])) [.c (.bool)] fun x15 =>
  .done .ret [.c (.bool (x15.fst))]

theorem den_impl_taker_1 (a00 : Int) (a01 : Int) (f0 : PA) (f1 : PA) : denFn Try.prog Try.f123 [.agg [.int .i64 a00, .int .i64 a01], .c (.addr f0), .c (.addr f1)] = M_impl_taker_1 a00 a01 f0 f1 := by kernel_rfl
theorem hc_impl_taker_1 (a00 : Int) (a01 : Int) (f0 : PA) (f1 : PA) {h : H} {R : Value → H → Prop} (hw : wp Try.prog (M_impl_taker_1 a00 a01 f0 f1) (Ret R) h) : HC Try.prog fn_impl_taker_1 (List.map AV.val [.agg [.int .i64 a00, .int .i64 a01], .c (.addr f0), .c (.addr f1)]).toArray h R :=
  den_calls hmix Try.func123 (of_decide_eq_true rfl) (by rw [den_impl_taker_1]; exact hw)

def M_laws_FnExactMAscend (a0 : Int) (a1p : Option PA) (a1l : Nat) (a1c : Nat) (a2 : Int) (a3 : Int) : M :=
  .ite (decide ((↑a1l : Int) > 2147483647))
  (.done .ret [.c (.tt)])
  (.bind none (.call fn_laws_exItems [] false [.c (.sl)] fun r0 =>
      .call fn_laws_mAscend [.c (.int .i64 (2)), .c (.sl (r0.fst.fst) (r0.fst.snd.fst) (r0.fst.snd.snd)), .c (.int .i64 (4)), .c (.int .i64 (2))] false [.c (.bool)] fun r1 =>
      .ite (r1.fst)
      (.call fn_spec_Fits [.c (.int .i64 (a0))] false [.c (.bool)] fun r2 =>
        .ite (r2.fst)
        (.ite (!decide (a0 > 0))
          (.done .normal [.c (.tt)])
          (.call fn_laws_mAscend [.c (.int .i64 (a0)), .c (.sl (a1p) (a1l) (a1c)), .c (.int .i64 (a2)), .c (.int .i64 (a3))] false [.c (.bool)] fun r3 =>
            .done .normal [.c (.bool (r3.fst))]))
        (.done .normal [.c (.tt)]))
      (.done .normal [.c (.ff)])) [.c (.bool)] fun x4 =>
    .done .ret [.c (.bool (x4.fst))])

theorem den_laws_FnExactMAscend (a0 : Int) (a1p : Option PA) (a1l : Nat) (a1c : Nat) (a2 : Int) (a3 : Int) : denFn Try.prog Try.f8 [.c (.int .i64 a0), .c (.sl a1p a1l a1c), .c (.int .i64 a2), .c (.int .i64 a3)] = M_laws_FnExactMAscend a0 a1p a1l a1c a2 a3 := by kernel_rfl
theorem hc_laws_FnExactMAscend (a0 : Int) (a1p : Option PA) (a1l : Nat) (a1c : Nat) (a2 : Int) (a3 : Int) {h : H} {R : Value → H → Prop} (hw : wp Try.prog (M_laws_FnExactMAscend a0 a1p a1l a1c a2 a3) (Ret R) h) : HC Try.prog fn_laws_FnExactMAscend (List.map AV.val [.c (.int .i64 a0), .c (.sl a1p a1l a1c), .c (.int .i64 a2), .c (.int .i64 a3)]).toArray h R :=
  den_calls hmix Try.func8 (of_decide_eq_true rfl) (by rw [den_laws_FnExactMAscend]; exact hw)

def M_laws_FnExactMDeleteAt (a0 : Int) (a1p : Option PA) (a1l : Nat) (a1c : Nat) (a2p : Option PA) (a2l : Nat) (a2c : Nat) : M :=
  .bind none (.ite (decide ((↑a1l : Int) > 2147483647))
    (.done .normal [.c (.tt)])
    (.done .normal [.c (.bool (decide ((↑a2l : Int) > 2147483647)))])) [.c (.bool)] fun x0 =>
  .ite (x0.fst)
  (.done .ret [.c (.tt)])
  (.bind none (.call fn_laws_exItems [] false [.c (.sl)] fun r1 =>
      .call fn_laws_exPlaces [] false [.c (.sl)] fun r2 =>
      .call fn_laws_mDeleteAt [.c (.int .i64 (2)), .c (.sl (r1.fst.fst) (r1.fst.snd.fst) (r1.fst.snd.snd)), .c (.sl (r2.fst.fst) (r2.fst.snd.fst) (r2.fst.snd.snd))] false [.c (.bool)] fun r3 =>
      .ite (r3.fst)
      (.call fn_spec_Fits [.c (.int .i64 (a0))] false [.c (.bool)] fun r4 =>
        .ite (r4.fst)
        (.ite (!decide (a0 > 0))
          (.done .normal [.c (.tt)])
          (.call fn_laws_mDeleteAt [.c (.int .i64 (a0)), .c (.sl (a1p) (a1l) (a1c)), .c (.sl (a2p) (a2l) (a2c))] false [.c (.bool)] fun r5 =>
            .done .normal [.c (.bool (r5.fst))]))
        (.done .normal [.c (.tt)]))
      (.done .normal [.c (.ff)])) [.c (.bool)] fun x6 =>
    .done .ret [.c (.bool (x6.fst))])

theorem den_laws_FnExactMDeleteAt (a0 : Int) (a1p : Option PA) (a1l : Nat) (a1c : Nat) (a2p : Option PA) (a2l : Nat) (a2c : Nat) : denFn Try.prog Try.f10 [.c (.int .i64 a0), .c (.sl a1p a1l a1c), .c (.sl a2p a2l a2c)] = M_laws_FnExactMDeleteAt a0 a1p a1l a1c a2p a2l a2c := by kernel_rfl
theorem hc_laws_FnExactMDeleteAt (a0 : Int) (a1p : Option PA) (a1l : Nat) (a1c : Nat) (a2p : Option PA) (a2l : Nat) (a2c : Nat) {h : H} {R : Value → H → Prop} (hw : wp Try.prog (M_laws_FnExactMDeleteAt a0 a1p a1l a1c a2p a2l a2c) (Ret R) h) : HC Try.prog fn_laws_FnExactMDeleteAt (List.map AV.val [.c (.int .i64 a0), .c (.sl a1p a1l a1c), .c (.sl a2p a2l a2c)]).toArray h R :=
  den_calls hmix Try.func10 (of_decide_eq_true rfl) (by rw [den_laws_FnExactMDeleteAt]; exact hw)

def M_laws_FnExactMGetMut (a0 : Int) (a1p : Option PA) (a1l : Nat) (a1c : Nat) (a2p : Option PA) (a2l : Nat) (a2c : Nat) : M :=
  .bind none (.ite (decide ((↑a1l : Int) > 2147483647))
    (.done .normal [.c (.tt)])
    (.done .normal [.c (.bool (decide ((↑a2l : Int) > 2147483647)))])) [.c (.bool)] fun x0 =>
  .ite (x0.fst)
  (.done .ret [.c (.tt)])
  (.bind none (.call fn_laws_exItems [] false [.c (.sl)] fun r1 =>
      .alloc ty_int [.int .i64 (3), .int .i64 (4)] fun n2 =>
      .call fn_laws_mGetMut [.c (.int .i64 (2)), .c (.sl (r1.fst.fst) (r1.fst.snd.fst) (r1.fst.snd.snd)), .c (.sl (some (n2, 0)) (2) (2))] false [.c (.bool)] fun r3 =>
      .ite (r3.fst)
      (.call fn_spec_Fits [.c (.int .i64 (a0))] false [.c (.bool)] fun r4 =>
        .ite (r4.fst)
        (.ite (!decide (a0 > 0))
          (.done .normal [.c (.tt)])
          (.call fn_laws_mGetMut [.c (.int .i64 (a0)), .c (.sl (a1p) (a1l) (a1c)), .c (.sl (a2p) (a2l) (a2c))] false [.c (.bool)] fun r5 =>
            .done .normal [.c (.bool (r5.fst))]))
        (.done .normal [.c (.tt)]))
      (.done .normal [.c (.ff)])) [.c (.bool)] fun x6 =>
    .done .ret [.c (.bool (x6.fst))])

theorem den_laws_FnExactMGetMut (a0 : Int) (a1p : Option PA) (a1l : Nat) (a1c : Nat) (a2p : Option PA) (a2l : Nat) (a2c : Nat) : denFn Try.prog Try.f5 [.c (.int .i64 a0), .c (.sl a1p a1l a1c), .c (.sl a2p a2l a2c)] = M_laws_FnExactMGetMut a0 a1p a1l a1c a2p a2l a2c := by kernel_rfl
theorem hc_laws_FnExactMGetMut (a0 : Int) (a1p : Option PA) (a1l : Nat) (a1c : Nat) (a2p : Option PA) (a2l : Nat) (a2c : Nat) {h : H} {R : Value → H → Prop} (hw : wp Try.prog (M_laws_FnExactMGetMut a0 a1p a1l a1c a2p a2l a2c) (Ret R) h) : HC Try.prog fn_laws_FnExactMGetMut (List.map AV.val [.c (.int .i64 a0), .c (.sl a1p a1l a1c), .c (.sl a2p a2l a2c)]).toArray h R :=
  den_calls hmix Try.func5 (of_decide_eq_true rfl) (by rw [den_laws_FnExactMGetMut]; exact hw)

def M_laws_FnExactMIter (a0 : Int) (a1p : Option PA) (a1l : Nat) (a1c : Nat) (a2p : Option PA) (a2l : Nat) (a2c : Nat) : M :=
  .bind none (.ite (decide ((↑a1l : Int) > 2147483647))
    (.done .normal [.c (.tt)])
    (.done .normal [.c (.bool (decide ((↑a2l : Int) > 2147483647)))])) [.c (.bool)] fun x0 =>
  .ite (x0.fst)
  (.done .ret [.c (.tt)])
  (.bind none (.call fn_laws_exItems [] false [.c (.sl)] fun r1 =>
      .call fn_laws_exMoves [] false [.c (.sl)] fun r2 =>
      .call fn_laws_mIter [.c (.int .i64 (2)), .c (.sl (r1.fst.fst) (r1.fst.snd.fst) (r1.fst.snd.snd)), .c (.sl (r2.fst.fst) (r2.fst.snd.fst) (r2.fst.snd.snd))] false [.c (.bool)] fun r3 =>
      .ite (r3.fst)
      (.call fn_spec_Fits [.c (.int .i64 (a0))] false [.c (.bool)] fun r4 =>
        .ite (r4.fst)
        (.ite (!decide (a0 > 0))
          (.done .normal [.c (.tt)])
          (.call fn_laws_mIter [.c (.int .i64 (a0)), .c (.sl (a1p) (a1l) (a1c)), .c (.sl (a2p) (a2l) (a2c))] false [.c (.bool)] fun r5 =>
            .done .normal [.c (.bool (r5.fst))]))
        (.done .normal [.c (.tt)]))
      (.done .normal [.c (.ff)])) [.c (.bool)] fun x6 =>
    .done .ret [.c (.bool (x6.fst))])

theorem den_laws_FnExactMIter (a0 : Int) (a1p : Option PA) (a1l : Nat) (a1c : Nat) (a2p : Option PA) (a2l : Nat) (a2c : Nat) : denFn Try.prog Try.f9 [.c (.int .i64 a0), .c (.sl a1p a1l a1c), .c (.sl a2p a2l a2c)] = M_laws_FnExactMIter a0 a1p a1l a1c a2p a2l a2c := by kernel_rfl
theorem hc_laws_FnExactMIter (a0 : Int) (a1p : Option PA) (a1l : Nat) (a1c : Nat) (a2p : Option PA) (a2l : Nat) (a2c : Nat) {h : H} {R : Value → H → Prop} (hw : wp Try.prog (M_laws_FnExactMIter a0 a1p a1l a1c a2p a2l a2c) (Ret R) h) : HC Try.prog fn_laws_FnExactMIter (List.map AV.val [.c (.int .i64 a0), .c (.sl a1p a1l a1c), .c (.sl a2p a2l a2c)]).toArray h R :=
  den_calls hmix Try.func9 (of_decide_eq_true rfl) (by rw [den_laws_FnExactMIter]; exact hw)

def M_laws_FnExactMMaxMut (a0 : Int) (a1p : Option PA) (a1l : Nat) (a1c : Nat) : M :=
  .ite (decide ((↑a1l : Int) > 2147483647))
  (.done .ret [.c (.tt)])
  (.bind none (.call fn_laws_exItems [] false [.c (.sl)] fun r0 =>
      .call fn_laws_mMaxMut [.c (.int .i64 (2)), .c (.sl (r0.fst.fst) (r0.fst.snd.fst) (r0.fst.snd.snd))] false [.c (.bool)] fun r1 =>
      .ite (r1.fst)
      (.call fn_spec_Fits [.c (.int .i64 (a0))] false [.c (.bool)] fun r2 =>
        .ite (r2.fst)
        (.ite (!decide (a0 > 0))
          (.done .normal [.c (.tt)])
          (.call fn_laws_mMaxMut [.c (.int .i64 (a0)), .c (.sl (a1p) (a1l) (a1c))] false [.c (.bool)] fun r3 =>
            .done .normal [.c (.bool (r3.fst))]))
        (.done .normal [.c (.tt)]))
      (.done .normal [.c (.ff)])) [.c (.bool)] fun x4 =>
    .done .ret [.c (.bool (x4.fst))])

theorem den_laws_FnExactMMaxMut (a0 : Int) (a1p : Option PA) (a1l : Nat) (a1c : Nat) : denFn Try.prog Try.f3 [.c (.int .i64 a0), .c (.sl a1p a1l a1c)] = M_laws_FnExactMMaxMut a0 a1p a1l a1c := by kernel_rfl
theorem hc_laws_FnExactMMaxMut (a0 : Int) (a1p : Option PA) (a1l : Nat) (a1c : Nat) {h : H} {R : Value → H → Prop} (hw : wp Try.prog (M_laws_FnExactMMaxMut a0 a1p a1l a1c) (Ret R) h) : HC Try.prog fn_laws_FnExactMMaxMut (List.map AV.val [.c (.int .i64 a0), .c (.sl a1p a1l a1c)]).toArray h R :=
  den_calls hmix Try.func3 (of_decide_eq_true rfl) (by rw [den_laws_FnExactMMaxMut]; exact hw)

def M_laws_FnExactMScan (a0 : Int) (a1p : Option PA) (a1l : Nat) (a1c : Nat) (a2 : Int) : M :=
  .ite (decide ((↑a1l : Int) > 2147483647))
  (.done .ret [.c (.tt)])
  (.bind none (.call fn_laws_exItems [] false [.c (.sl)] fun r0 =>
      .call fn_laws_mScan [.c (.int .i64 (2)), .c (.sl (r0.fst.fst) (r0.fst.snd.fst) (r0.fst.snd.snd)), .c (.int .i64 (2))] false [.c (.bool)] fun r1 =>
      .ite (r1.fst)
      (.call fn_spec_Fits [.c (.int .i64 (a0))] false [.c (.bool)] fun r2 =>
        .ite (r2.fst)
        (.ite (!decide (a0 > 0))
          (.done .normal [.c (.tt)])
          (.call fn_laws_mScan [.c (.int .i64 (a0)), .c (.sl (a1p) (a1l) (a1c)), .c (.int .i64 (a2))] false [.c (.bool)] fun r3 =>
            .done .normal [.c (.bool (r3.fst))]))
        (.done .normal [.c (.tt)]))
      (.done .normal [.c (.ff)])) [.c (.bool)] fun x4 =>
    .done .ret [.c (.bool (x4.fst))])

theorem den_laws_FnExactMScan (a0 : Int) (a1p : Option PA) (a1l : Nat) (a1c : Nat) (a2 : Int) : denFn Try.prog Try.f6 [.c (.int .i64 a0), .c (.sl a1p a1l a1c), .c (.int .i64 a2)] = M_laws_FnExactMScan a0 a1p a1l a1c a2 := by kernel_rfl
theorem hc_laws_FnExactMScan (a0 : Int) (a1p : Option PA) (a1l : Nat) (a1c : Nat) (a2 : Int) {h : H} {R : Value → H → Prop} (hw : wp Try.prog (M_laws_FnExactMScan a0 a1p a1l a1c a2) (Ret R) h) : HC Try.prog fn_laws_FnExactMScan (List.map AV.val [.c (.int .i64 a0), .c (.sl a1p a1l a1c), .c (.int .i64 a2)]).toArray h R :=
  den_calls hmix Try.func6 (of_decide_eq_true rfl) (by rw [den_laws_FnExactMScan]; exact hw)

def M_laws_FnExactMValues (a0 : Int) (a1p : Option PA) (a1l : Nat) (a1c : Nat) : M :=
  .ite (decide ((↑a1l : Int) > 2147483647))
  (.done .ret [.c (.tt)])
  (.bind none (.call fn_laws_exItems [] false [.c (.sl)] fun r0 =>
      .call fn_laws_mValues [.c (.int .i64 (2)), .c (.sl (r0.fst.fst) (r0.fst.snd.fst) (r0.fst.snd.snd))] false [.c (.bool)] fun r1 =>
      .ite (r1.fst)
      (.call fn_spec_Fits [.c (.int .i64 (a0))] false [.c (.bool)] fun r2 =>
        .ite (r2.fst)
        (.ite (!decide (a0 > 0))
          (.done .normal [.c (.tt)])
          (.call fn_laws_mValues [.c (.int .i64 (a0)), .c (.sl (a1p) (a1l) (a1c))] false [.c (.bool)] fun r3 =>
            .done .normal [.c (.bool (r3.fst))]))
        (.done .normal [.c (.tt)]))
      (.done .normal [.c (.ff)])) [.c (.bool)] fun x4 =>
    .done .ret [.c (.bool (x4.fst))])

theorem den_laws_FnExactMValues (a0 : Int) (a1p : Option PA) (a1l : Nat) (a1c : Nat) : denFn Try.prog Try.f4 [.c (.int .i64 a0), .c (.sl a1p a1l a1c)] = M_laws_FnExactMValues a0 a1p a1l a1c := by kernel_rfl
theorem hc_laws_FnExactMValues (a0 : Int) (a1p : Option PA) (a1l : Nat) (a1c : Nat) {h : H} {R : Value → H → Prop} (hw : wp Try.prog (M_laws_FnExactMValues a0 a1p a1l a1c) (Ret R) h) : HC Try.prog fn_laws_FnExactMValues (List.map AV.val [.c (.int .i64 a0), .c (.sl a1p a1l a1c)]).toArray h R :=
  den_calls hmix Try.func4 (of_decide_eq_true rfl) (by rw [den_laws_FnExactMValues]; exact hw)

def M_laws_FnMGets (a0 : Int) (a1p : Option PA) (a1l : Nat) (a1c : Nat) (a2 : Int) : M :=
  .alloc ty_int [.int .i64 (a2)] fun n0 =>
  .ite (decide ((↑a1l : Int) > 2147483647))
  (.done .ret [.c (.tt)])
  (.call fn_laws_fit [.c (.int .i64 (a0))] false [.c (.bool)] fun r1 =>
    .ite (!r1.fst)
    (.call fn_laws_aliveM [] false [.c (.bool)] fun r2 =>
      .done .ret [.c (.bool (r2.fst))])
    (.call fn_impl_MKeyValues [.c (.int .i64 (a0)), .c (.sl (a1p) (a1l) (a1c))] true [.c (.sl), .c (.sl)] fun r3 =>
      .load (n0, 0) (.int .i64) fun i4 =>
      .alloc ty_int [.int .i64 (i4)] fun n5 =>
      .call fn_impl_MGet [.c (.int .i64 (a0)), .c (.sl (a1p) (a1l) (a1c)), .c (.sl (some (n5, 0)) (1) (1))] false [.c (.sl)] fun r6 =>
      .load (n0, 0) (.int .i64) fun i7 =>
      .load (n0, 0) (.int .i64) fun i8 =>
      .alloc ty_int [.int .i64 (i7), .int .i64 (i8)] fun n9 =>
      .call fn_impl_MDelete [.c (.int .i64 (a0)), .c (.sl (a1p) (a1l) (a1c)), .c (.sl (some (n9, 0)) (2) (2))] true [.c (.sl), .c (.sl)] fun r10 =>
      .bind none (.ite ((↑r6.fst.snd.fst : Int) != 1)
        (.done .normal [.c (.tt)])
        (.ite ((↑r10.fst.snd.fst : Int) != 2)
          (.done .normal [.c (.tt)])
          (.nonnil (r10.fst.fst) fun p11 =>
            .guard (((0 : Int) ≤ 0) ∧ ((0 : Int) < (↑r10.fst.snd.fst : Int))) <|
            .load (p11.fst, p11.snd) (.int .i64) fun i12 =>
            .load (p11.fst, p11.snd + 1) (.int .i64) fun i13 =>
            .load (p11.fst, p11.snd + 2) (.bool) fun b14 =>
            .nonnil (r6.fst.fst) fun p15 =>
            .guard (((0 : Int) ≤ 0) ∧ ((0 : Int) < (↑r6.fst.snd.fst : Int))) <|
            .load (p15.fst, p15.snd) (.int .i64) fun i16 =>
            .load (p15.fst, p15.snd + 1) (.int .i64) fun i17 =>
            .load (p15.fst, p15.snd + 2) (.bool) fun b18 =>
            .ite (!(i12 == i16 && (i13 == i17 && true) && (b14 == b18 && true)))
            (.done .normal [.c (.tt)])
            (.nonnil (r10.fst.fst) fun p19 =>
              .guard (((0 : Int) ≤ 1) ∧ ((1 : Int) < (↑r10.fst.snd.fst : Int))) <|
              .load (p19.fst, p19.snd + 5) (.bool) fun b20 =>
              .ite (b20)
              (.done .normal [.c (.tt)])
              (.call fn_slices_ContainsFunc_impl_Item_impl_Item [.c (.sl (r10.snd.fst.fst) (r10.snd.fst.snd.fst) (r10.snd.fst.snd.snd)), .c (.raw (Value.func (Fn.func fn_laws_FnMGets_1) (List.map AV.val []).toArray (List.map AV.val [AV.c (Cell.addr (n0, 0))]).toArray))] false [.c (.bool)] fun r21 =>
                .done .normal [.c (.bool (r21.fst))]))))) [.c (.bool)] fun x22 =>
      .ite (x22.fst)
      (.done .ret [.c (.ff)])
      (.load (n0, 0) (.int .i64) fun i23 =>
        .call fn_slices_Index_int_int [.c (.sl (r3.fst.fst) (r3.fst.snd.fst) (r3.fst.snd.snd)), .c (.int .i64 (i23))] false [.c (.int .i64)] fun r24 =>
        .ite (decide (r24.fst < 0))
        (.bind none (.nonnil (r6.fst.fst) fun p25 =>
            .guard (((0 : Int) ≤ 0) ∧ ((0 : Int) < (↑r6.fst.snd.fst : Int))) <|
            .load (p25.fst, p25.snd + 2) (.bool) fun b26 =>
            .ite (!b26)
            (.ite ((↑r10.snd.fst.snd.fst : Int) == (↑r3.fst.snd.fst : Int))
              (.call fn_laws_aliveM [] false [.c (.bool)] fun r27 =>
                .done .normal [.c (.bool (r27.fst))])
              (.done .normal [.c (.ff)]))
            (.done .normal [.c (.ff)])) [.c (.bool)] fun x28 =>
          .done .ret [.c (.bool (x28.fst))])
        (.bind none (.nonnil (r6.fst.fst) fun p29 =>
            .guard (((0 : Int) ≤ 0) ∧ ((0 : Int) < (↑r6.fst.snd.fst : Int))) <|
            .load (p29.fst, p29.snd) (.int .i64) fun i30 =>
            .load (p29.fst, p29.snd + 1) (.int .i64) fun i31 =>
            .load (p29.fst, p29.snd + 2) (.bool) fun b32 =>
            .load (n0, 0) (.int .i64) fun i33 =>
            .nonnil (r3.snd.fst.fst) fun p34 =>
            .guard (((0 : Int) ≤ r24.fst) ∧ ((r24.fst : Int) < (↑r3.snd.fst.snd.fst : Int))) <|
            .load (p34.fst, p34.snd + Int.toNat r24.fst) (.int .i64) fun i35 =>
            .ite (i30 == i33 && (i31 == i35 && true) && (b32 == true && true))
            (.guard (InK IntKind.i64 ((↑r3.fst.snd.fst : Int) - 1)) <|
              .ite ((↑r10.snd.fst.snd.fst : Int) == (↑r3.fst.snd.fst : Int) - 1)
              (.call fn_laws_aliveM [] false [.c (.bool)] fun r36 =>
                .done .normal [.c (.bool (r36.fst))])
              (.done .normal [.c (.ff)]))
            (.done .normal [.c (.ff)])) [.c (.bool)] fun x37 =>
          .done .ret [.c (.bool (x37.fst))]))))

theorem den_laws_FnMGets (a0 : Int) (a1p : Option PA) (a1l : Nat) (a1c : Nat) (a2 : Int) : denFn Try.prog Try.f12 [.c (.int .i64 a0), .c (.sl a1p a1l a1c), .c (.int .i64 a2)] = M_laws_FnMGets a0 a1p a1l a1c a2 := by kernel_rfl
theorem hc_laws_FnMGets (a0 : Int) (a1p : Option PA) (a1l : Nat) (a1c : Nat) (a2 : Int) {h : H} {R : Value → H → Prop} (hw : wp Try.prog (M_laws_FnMGets a0 a1p a1l a1c a2) (Ret R) h) : HC Try.prog fn_laws_FnMGets (List.map AV.val [.c (.int .i64 a0), .c (.sl a1p a1l a1c), .c (.int .i64 a2)]).toArray h R :=
  den_calls hmix Try.func12 (of_decide_eq_true rfl) (by rw [den_laws_FnMGets]; exact hw)

def M_laws_FnMGets_1 (a00 : Int) (a01 : Int) (f0 : PA) : M :=
  .alloc ty_impl_Item [.int .i64 (a00), .int .i64 (a01)] fun n0 =>
  .load (n0, 0) (.int .i64) fun i1 =>
  .load f0 (.int .i64) fun i2 =>
  .done .ret [.c (.bool (i1 == i2))]

theorem den_laws_FnMGets_1 (a00 : Int) (a01 : Int) (f0 : PA) : denFn Try.prog Try.f38 [.agg [.int .i64 a00, .int .i64 a01], .c (.addr f0)] = M_laws_FnMGets_1 a00 a01 f0 := by kernel_rfl
theorem hc_laws_FnMGets_1 (a00 : Int) (a01 : Int) (f0 : PA) {h : H} {R : Value → H → Prop} (hw : wp Try.prog (M_laws_FnMGets_1 a00 a01 f0) (Ret R) h) : HC Try.prog fn_laws_FnMGets_1 (List.map AV.val [.agg [.int .i64 a00, .int .i64 a01], .c (.addr f0)]).toArray h R :=
  den_calls hmix Try.func38 (of_decide_eq_true rfl) (by rw [den_laws_FnMGets_1]; exact hw)

def M_laws_FnMPopAll (a0 : Int) (a1p : Option PA) (a1l : Nat) (a1c : Nat) (a2 : Bool) : M :=
  .ite (decide ((↑a1l : Int) > 2147483647))
  (.done .ret [.c (.tt)])
  (.call fn_laws_fit [.c (.int .i64 (a0))] false [.c (.bool)] fun r0 =>
    .ite (!r0.fst)
    (.call fn_laws_aliveM [] false [.c (.bool)] fun r1 =>
      .done .ret [.c (.bool (r1.fst))])
    (.call fn_impl_MScan [.c (.int .i64 (a0)), .c (.sl (a1p) (a1l) (a1c)), .c (.int .i64 (0))] false [.c (.sl)] fun r2 =>
      .bind none (.ite (a2)
        (.call fn_laws_turned [.c (.sl (r2.fst.fst) (r2.fst.snd.fst) (r2.fst.snd.snd))] false [.c (.sl)] fun r3 =>
          .done .normal [.c (.sl (r3.fst.fst) (r3.fst.snd.fst) (r3.fst.snd.snd))])
        (.done .normal [.c (.sl (r2.fst.fst) (r2.fst.snd.fst) (r2.fst.snd.snd))])) [.c (.sl)] fun x4 =>
      .guard (InK IntKind.i64 ((↑x4.fst.snd.fst : Int) + 1)) <|
      .make ty_bool 1 1 [.ff] ((↑x4.fst.snd.fst : Int) + 1) ((↑x4.fst.snd.fst : Int) + 1) fun s5 =>
      .bind (some 0) (.loop [.c (.int .i64)] [.c (.int .i64 (0))] fun y6 =>
          .ite (decide (y6.fst < (↑s5.snd.fst : Int)))
          (.nonnil (s5.fst) fun p7 =>
            .guard (((0 : Int) ≤ y6.fst) ∧ ((y6.fst : Int) < (↑s5.snd.fst : Int))) <|
            .store (p7.fst, p7.snd + Int.toNat y6.fst) (.bool (a2)) <|
            .guard (InK IntKind.i64 (y6.fst + 1)) <|
            .done .normal [.c (.int .i64 (y6.fst + 1))])
          (.done (.exit 0) [])) [] fun x8 =>
      .call fn_impl_MPops [.c (.int .i64 (a0)), .c (.sl (a1p) (a1l) (a1c)), .c (.sl (s5.fst) (s5.snd.fst) (s5.snd.snd))] true [.c (.sl), .c (.sl)] fun r9 =>
      .bind none (.guard (InK IntKind.i64 ((↑x4.fst.snd.fst : Int) + 1)) <|
        .ite ((↑r9.fst.snd.fst : Int) != (↑x4.fst.snd.fst : Int) + 1)
        (.done .normal [.c (.tt)])
        (.ite ((↑r9.snd.fst.snd.fst : Int) != 0)
          (.done .normal [.c (.tt)])
          (.nonnil (r9.fst.fst) fun p10 =>
            .guard (((0 : Int) ≤ (↑x4.fst.snd.fst : Int)) ∧ (((↑x4.fst.snd.fst : Int) : Int) < (↑r9.fst.snd.fst : Int))) <|
            .load (p10.fst, p10.snd + mulN (↑x4.fst.snd.fst : Int).toNat 3 + 2) (.bool) fun b11 =>
            .done .normal [.c (.bool (b11))]))) [.c (.bool)] fun x12 =>
      .ite (x12.fst)
      (.done .ret [.c (.ff)])
      (.bind (some 2) (.loop [.c (.int .i64)] [.c (.int .i64 (0))] fun y13 =>
            .ite (decide (y13.fst < (↑x4.fst.snd.fst : Int)))
            (.nonnil (x4.fst.fst) fun p14 =>
              .guard (((0 : Int) ≤ y13.fst) ∧ ((y13.fst : Int) < (↑x4.fst.snd.fst : Int))) <|
              .load (p14.fst, p14.snd + mulN (Int.toNat y13.fst) 2) (.int .i64) fun i15 =>
              .load (p14.fst, p14.snd + mulN (Int.toNat y13.fst) 2 + 1) (.int .i64) fun i16 =>
              .alloc ty_impl_Item [.int .i64 (0), .int .i64 (0)] fun n17 =>
              .store (n17, 0) (.int .i64 (i15)) <|
              .store (n17, 1) (.int .i64 (i16)) <|
              .nonnil (r9.fst.fst) fun p18 =>
              .guard (((0 : Int) ≤ y13.fst) ∧ ((y13.fst : Int) < (↑r9.fst.snd.fst : Int))) <|
              .load (p18.fst, p18.snd + mulN (Int.toNat y13.fst) 3) (.int .i64) fun i19 =>
              .load (p18.fst, p18.snd + mulN (Int.toNat y13.fst) 3 + 1) (.int .i64) fun i20 =>
              .load (p18.fst, p18.snd + mulN (Int.toNat y13.fst) 3 + 2) (.bool) fun b21 =>
              .load (n17, 0) (.int .i64) fun i22 =>
              .load (n17, 1) (.int .i64) fun i23 =>
              .ite (!(i19 == i22 && (i20 == i23 && true) && (b21 == true && true)))
              (.done .ret [.c (.ff)])
              (.guard (InK IntKind.i64 (y13.fst + 1)) <|
                .done .normal [.c (.int .i64 (y13.fst + 1))]))
            (.done (.exit 2) [])) [] fun x24 =>
        .call fn_laws_aliveM [] false [.c (.bool)] fun r25 =>
        .done .ret [.c (.bool (r25.fst))])))

theorem den_laws_FnMPopAll (a0 : Int) (a1p : Option PA) (a1l : Nat) (a1c : Nat) (a2 : Bool) : denFn Try.prog Try.f13 [.c (.int .i64 a0), .c (.sl a1p a1l a1c), .c (.bool a2)] = M_laws_FnMPopAll a0 a1p a1l a1c a2 := by kernel_rfl
theorem hc_laws_FnMPopAll (a0 : Int) (a1p : Option PA) (a1l : Nat) (a1c : Nat) (a2 : Bool) {h : H} {R : Value → H → Prop} (hw : wp Try.prog (M_laws_FnMPopAll a0 a1p a1l a1c a2) (Ret R) h) : HC Try.prog fn_laws_FnMPopAll (List.map AV.val [.c (.int .i64 a0), .c (.sl a1p a1l a1c), .c (.bool a2)]).toArray h R :=
  den_calls hmix Try.func13 (of_decide_eq_true rfl) (by rw [den_laws_FnMPopAll]; exact hw)

def M_laws_FnMSieve (a0 : Int) (a1 : Int) (a2 : Int) (a3 : Int) : M :=
  .alloc ty_uint16 [.int .u16 (a3)] fun n0 =>
  .bind none (.call fn_laws_fit [.c (.int .i64 (a0))] false [.c (.bool)] fun r1 =>
    .ite (!r1.fst)
    (.done .normal [.c (.tt)])
    (.ite (decide (a1 > 4000))
      (.done .normal [.c (.tt)])
      (.load (n0, 0) (.int .u16) fun i2 =>
        .ite (i2 == 0)
        (.done .normal [.c (.tt)])
        (.guard (InK IntKind.i64 a1) <|
          .guard (InK IntKind.i64 a2) <|
          .call fn_laws_coprime [.c (.int .i64 (a1)), .c (.int .i64 (a2))] false [.c (.bool)] fun r3 =>
          .done .normal [.c (.bool (!r3.fst))])))) [.c (.bool)] fun x4 =>
  .ite (x4.fst)
  (.call fn_laws_aliveM [] false [.c (.bool)] fun r5 =>
    .done .ret [.c (.bool (r5.fst))])
  (.guard (InK IntKind.i64 a1) <|
    .guard (InK IntKind.i64 (a1 - 1)) <|
    .bind (some 0) (.loop [.c (.int .i64), .c (.sl)] [.c (.int .i64 (a1 - 1)), .c (.sl none (0) (0))] fun y6 =>
        .ite (decide (y6.fst ≥ 0))
        (.load (n0, 0) (.int .u16) fun i7 =>
          .guard (InK IntKind.i64 i7) <|
          .guard ((i7 : Int) ≠ 0) <|
          .bind none (.ite (Int.tmod y6.fst i7 == 0)
            (.alloc ty_int [.int .i64 (y6.fst)] fun n8 =>
              .append ty_int 1 8 [.int .i64 (0)] ((y6.snd.fst.fst), y6.snd.fst.snd.fst, y6.snd.fst.snd.snd) ((some (n8, 0)), 1, 1) fun s9 =>
              .done .normal [.c (.sl (s9.fst) (s9.snd.fst) (s9.snd.snd))])
            (.done .normal [.c (.sl (y6.snd.fst.fst) (y6.snd.fst.snd.fst) (y6.snd.fst.snd.snd))])) [.c (.sl)] fun x10 =>
          .guard (InK IntKind.i64 (y6.fst - 1)) <|
          .done .normal [.c (.int .i64 (y6.fst - 1)), .c (.sl (x10.fst.fst) (x10.fst.snd.fst) (x10.fst.snd.snd))])
        (.done (.exit 0) [.c (.sl (y6.snd.fst.fst) (y6.snd.fst.snd.fst) (y6.snd.fst.snd.snd))])) [.c (.sl)] fun x11 =>
    .guard (InK IntKind.i64 a1) <|
    .guard (InK IntKind.i64 a2) <|
    .call fn_laws_stride [.c (.int .i64 (a1)), .c (.int .i64 (a2))] false [.c (.sl)] fun r12 =>
    .call fn_impl_MDeleteAt [.c (.int .i64 (a0)), .c (.sl (r12.fst.fst) (r12.fst.snd.fst) (r12.fst.snd.snd)), .c (.sl (x11.fst.fst) (x11.fst.snd.fst) (x11.fst.snd.snd))] true [.c (.sl), .c (.sl)] fun r13 =>
    .bind (some 2) (.loop [.c (.int .i64)] [.c (.int .i64 (0))] fun y14 =>
        .ite (decide (y14.fst < (↑r13.fst.snd.fst : Int)))
        (.nonnil (r13.fst.fst) fun p15 =>
          .guard (((0 : Int) ≤ y14.fst) ∧ ((y14.fst : Int) < (↑r13.fst.snd.fst : Int))) <|
          .load (p15.fst, p15.snd + mulN (Int.toNat y14.fst) 3) (.int .i64) fun i16 =>
          .load (p15.fst, p15.snd + mulN (Int.toNat y14.fst) 3 + 1) (.int .i64) fun i17 =>
          .load (p15.fst, p15.snd + mulN (Int.toNat y14.fst) 3 + 2) (.bool) fun b18 =>
          .alloc ty_impl_Found [.int .i64 (0), .int .i64 (0), .ff] fun n19 =>
          .store (n19, 0) (.int .i64 (i16)) <|
          .store (n19, 1) (.int .i64 (i17)) <|
          .store (n19, 2) (.bool (b18)) <|
          .bind none (.load (n19, 2) (.bool) fun b20 =>
            .ite (!b20)
            (.done .normal [.c (.tt)])
            (.load (n19, 0) (.int .i64) fun i21 =>
              .nonnil (x11.fst.fst) fun p22 =>
              .guard (((0 : Int) ≤ y14.fst) ∧ ((y14.fst : Int) < (↑x11.fst.snd.fst : Int))) <|
              .load (p22.fst, p22.snd + Int.toNat y14.fst) (.int .i64) fun i23 =>
              .done .normal [.c (.bool (i21 != i23))])) [.c (.bool)] fun x24 =>
          .ite (x24.fst)
          (.done .ret [.c (.ff)])
          (.guard (InK IntKind.i64 (y14.fst + 1)) <|
            .done .normal [.c (.int .i64 (y14.fst + 1))]))
        (.done (.exit 2) [])) [] fun x25 =>
    .bind none (.ite ((↑r13.fst.snd.fst : Int) == (↑x11.fst.snd.fst : Int))
      (.guard (InK IntKind.i64 a1) <|
        .guard (InK IntKind.i64 (a1 - (↑x11.fst.snd.fst : Int))) <|
        .ite ((↑r13.snd.fst.snd.fst : Int) == a1 - (↑x11.fst.snd.fst : Int))
        (.call fn_slices_ContainsFunc_impl_Item_impl_Item [.c (.sl (r13.snd.fst.fst) (r13.snd.fst.snd.fst) (r13.snd.fst.snd.snd)), .c (.raw (Value.func (Fn.func fn_laws_FnMSieve_1) (List.map AV.val []).toArray (List.map AV.val [AV.c (Cell.addr (n0, 0))]).toArray))] false [.c (.bool)] fun r26 =>
          .ite (!r26.fst)
          (.call fn_laws_aliveM [] false [.c (.bool)] fun r27 =>
            .done .normal [.c (.bool (r27.fst))])
          (.done .normal [.c (.ff)]))
        (.done .normal [.c (.ff)]))
      (.done .normal [.c (.ff)])) [.c (.bool)] fun x28 =>
    .done .ret [.c (.bool (x28.fst))])

theorem den_laws_FnMSieve (a0 : Int) (a1 : Int) (a2 : Int) (a3 : Int) : denFn Try.prog Try.f11 [.c (.int .i64 a0), .c (.int .u16 a1), .c (.int .u16 a2), .c (.int .u16 a3)] = M_laws_FnMSieve a0 a1 a2 a3 := by kernel_rfl
theorem hc_laws_FnMSieve (a0 : Int) (a1 : Int) (a2 : Int) (a3 : Int) {h : H} {R : Value → H → Prop} (hw : wp Try.prog (M_laws_FnMSieve a0 a1 a2 a3) (Ret R) h) : HC Try.prog fn_laws_FnMSieve (List.map AV.val [.c (.int .i64 a0), .c (.int .u16 a1), .c (.int .u16 a2), .c (.int .u16 a3)]).toArray h R :=
  den_calls hmix Try.func11 (of_decide_eq_true rfl) (by rw [den_laws_FnMSieve]; exact hw)

def M_laws_FnMSieve_1 (a00 : Int) (a01 : Int) (f0 : PA) : M :=
  .alloc ty_impl_Item [.int .i64 (a00), .int .i64 (a01)] fun n0 =>
  .load (n0, 0) (.int .i64) fun i1 =>
  .load f0 (.int .u16) fun i2 =>
  .guard (InK IntKind.i64 i2) <|
  .guard ((i2 : Int) ≠ 0) <|
  .done .ret [.c (.bool (Int.tmod i1 i2 == 0))]

theorem den_laws_FnMSieve_1 (a00 : Int) (a01 : Int) (f0 : PA) : denFn Try.prog Try.f34 [.agg [.int .i64 a00, .int .i64 a01], .c (.addr f0)] = M_laws_FnMSieve_1 a00 a01 f0 := by kernel_rfl
theorem hc_laws_FnMSieve_1 (a00 : Int) (a01 : Int) (f0 : PA) {h : H} {R : Value → H → Prop} (hw : wp Try.prog (M_laws_FnMSieve_1 a00 a01 f0) (Ret R) h) : HC Try.prog fn_laws_FnMSieve_1 (List.map AV.val [.agg [.int .i64 a00, .int .i64 a01], .c (.addr f0)]).toArray h R :=
  den_calls hmix Try.func34 (of_decide_eq_true rfl) (by rw [den_laws_FnMSieve_1]; exact hw)

def M_laws_FnMSorted (a0 : Int) (a1p : Option PA) (a1l : Nat) (a1c : Nat) : M :=
  .ite (decide ((↑a1l : Int) > 2147483647))
  (.done .ret [.c (.tt)])
  (.call fn_laws_fit [.c (.int .i64 (a0))] false [.c (.bool)] fun r0 =>
    .ite (!r0.fst)
    (.call fn_laws_aliveM [] false [.c (.bool)] fun r1 =>
      .done .ret [.c (.bool (r1.fst))])
    (.call fn_impl_MKeys [.c (.int .i64 (a0)), .c (.sl (a1p) (a1l) (a1c))] false [.c (.sl)] fun r2 =>
      .call fn_impl_MValues [.c (.int .i64 (a0)), .c (.sl (a1p) (a1l) (a1c))] false [.c (.sl)] fun r3 =>
      .ite ((↑r2.fst.snd.fst : Int) != (↑r3.fst.snd.fst : Int))
      (.done .ret [.c (.ff)])
      (.bind (some 0) (.loop [.c (.int .i64)] [.c (.int .i64 (0))] fun y4 =>
            .ite (decide (y4.fst < (↑r2.fst.snd.fst : Int)))
            (.nonnil (r2.fst.fst) fun p5 =>
              .guard (((0 : Int) ≤ y4.fst) ∧ ((y4.fst : Int) < (↑r2.fst.snd.fst : Int))) <|
              .load (p5.fst, p5.snd + Int.toNat y4.fst) (.int .i64) fun i6 =>
              .bind (some 2) (.loop [.c (.int .i64), .c (.bool), .c (.int .i64)] [.c (.int .i64 (0)), .c (.ff), .c (.int .i64 (0))] fun y7 =>
                  .ite (decide (y7.fst < (↑a1l : Int)))
                  (.nonnil (a1p) fun p8 =>
                    .guard (((0 : Int) ≤ y7.fst) ∧ ((y7.fst : Int) < (↑a1l : Int))) <|
                    .load (p8.fst, p8.snd + mulN (Int.toNat y7.fst) 2) (.int .i64) fun i9 =>
                    .load (p8.fst, p8.snd + mulN (Int.toNat y7.fst) 2 + 1) (.int .i64) fun i10 =>
                    .alloc ty_impl_Item [.int .i64 (0), .int .i64 (0)] fun n11 =>
                    .store (n11, 0) (.int .i64 (i9)) <|
                    .store (n11, 1) (.int .i64 (i10)) <|
                    .load (n11, 0) (.int .i64) fun i12 =>
                    .bind none (.ite (i12 == i6)
                      (.load (n11, 1) (.int .i64) fun i13 =>
                        .done .normal [.c (.tt), .c (.int .i64 (i13))])
                      (.done .normal [.c (.bool (y7.snd.fst)), .c (.int .i64 (y7.snd.snd.fst))])) [.c (.bool), .c (.int .i64)] fun x14 =>
                    .guard (InK IntKind.i64 (y7.fst + 1)) <|
                    .done .normal [.c (.int .i64 (y7.fst + 1)), .c (.bool (x14.fst)), .c (.int .i64 (x14.snd.fst))])
                  (.done (.exit 2) [.c (.bool (y7.snd.fst)), .c (.int .i64 (y7.snd.snd.fst))])) [.c (.bool), .c (.int .i64)] fun x15 =>
              .bind none (.ite (!x15.fst)
                (.done .normal [.c (.tt)])
                (.nonnil (r3.fst.fst) fun p16 =>
                  .guard (((0 : Int) ≤ y4.fst) ∧ ((y4.fst : Int) < (↑r3.fst.snd.fst : Int))) <|
                  .load (p16.fst, p16.snd + Int.toNat y4.fst) (.int .i64) fun i17 =>
                  .ite (x15.snd.fst != i17)
                  (.done .normal [.c (.tt)])
                  (.ite (decide (y4.fst > 0))
                    (.guard (InK IntKind.i64 (y4.fst - 1)) <|
                      .nonnil (r2.fst.fst) fun p18 =>
                      .guard (((0 : Int) ≤ y4.fst - 1) ∧ ((y4.fst - 1 : Int) < (↑r2.fst.snd.fst : Int))) <|
                      .load (p18.fst, p18.snd + (y4.fst - 1).toNat) (.int .i64) fun i19 =>
                      .done .normal [.c (.bool (decide (i19 ≥ i6)))])
                    (.done .normal [.c (.ff)])))) [.c (.bool)] fun x20 =>
              .ite (x20.fst)
              (.done .ret [.c (.ff)])
              (.guard (InK IntKind.i64 (y4.fst + 1)) <|
                .done .normal [.c (.int .i64 (y4.fst + 1))]))
            (.done (.exit 0) [])) [] fun x21 =>
        .bind (some 4) (.loop [.c (.int .i64)] [.c (.int .i64 (0))] fun y22 =>
            .ite (decide (y22.fst < (↑a1l : Int)))
            (.nonnil (a1p) fun p23 =>
              .guard (((0 : Int) ≤ y22.fst) ∧ ((y22.fst : Int) < (↑a1l : Int))) <|
              .load (p23.fst, p23.snd + mulN (Int.toNat y22.fst) 2) (.int .i64) fun i24 =>
              .load (p23.fst, p23.snd + mulN (Int.toNat y22.fst) 2 + 1) (.int .i64) fun i25 =>
              .alloc ty_impl_Item [.int .i64 (0), .int .i64 (0)] fun n26 =>
              .store (n26, 0) (.int .i64 (i24)) <|
              .store (n26, 1) (.int .i64 (i25)) <|
              .load (n26, 0) (.int .i64) fun i27 =>
              .call fn_slices_Contains_int_int [.c (.sl (r2.fst.fst) (r2.fst.snd.fst) (r2.fst.snd.snd)), .c (.int .i64 (i27))] false [.c (.bool)] fun r28 =>
              .ite (!r28.fst)
              (.done .ret [.c (.ff)])
              (.guard (InK IntKind.i64 (y22.fst + 1)) <|
                .done .normal [.c (.int .i64 (y22.fst + 1))]))
            (.done (.exit 4) [])) [] fun x29 =>
        .call fn_laws_aliveM [] false [.c (.bool)] fun r30 =>
        .done .ret [.c (.bool (r30.fst))])))

theorem den_laws_FnMSorted (a0 : Int) (a1p : Option PA) (a1l : Nat) (a1c : Nat) : denFn Try.prog Try.f7 [.c (.int .i64 a0), .c (.sl a1p a1l a1c)] = M_laws_FnMSorted a0 a1p a1l a1c := by kernel_rfl
theorem hc_laws_FnMSorted (a0 : Int) (a1p : Option PA) (a1l : Nat) (a1c : Nat) {h : H} {R : Value → H → Prop} (hw : wp Try.prog (M_laws_FnMSorted a0 a1p a1l a1c) (Ret R) h) : HC Try.prog fn_laws_FnMSorted (List.map AV.val [.c (.int .i64 a0), .c (.sl a1p a1l a1c)]).toArray h R :=
  den_calls hmix Try.func7 (of_decide_eq_true rfl) (by rw [den_laws_FnMSorted]; exact hw)

def M_laws_aliveM  : M :=
  .call fn_laws_exItems [] false [.c (.sl)] fun r0 =>
  .guard (((0 : Int) ≤ 3) ∧ ((3 : Int) ≤ (↑r0.fst.snd.snd : Int))) <|
  .call fn_impl_MKeys [.c (.int .i64 (2)), .c (.sl (slBase r0.fst.fst r0.fst.snd.snd 0 2) (3) (r0.fst.snd.snd - 0))] false [.c (.sl)] fun r1 =>
  .done .ret [.c (.bool ((↑r1.fst.snd.fst : Int) == 3))]

theorem den_laws_aliveM  : denFn Try.prog Try.f21 [] = M_laws_aliveM  := by kernel_rfl
theorem hc_laws_aliveM  {h : H} {R : Value → H → Prop} (hw : wp Try.prog (M_laws_aliveM ) (Ret R) h) : HC Try.prog fn_laws_aliveM (List.map AV.val []).toArray h R :=
  den_calls hmix Try.func21 (of_decide_eq_true rfl) (by rw [den_laws_aliveM]; exact hw)

def M_laws_coprime (a0 : Int) (a1 : Int) : M :=
  .bind (some 0) (.loop [.c (.int .i64), .c (.int .i64)] [.c (.int .i64 (a1)), .c (.int .i64 (a0))] fun y0 =>
      .ite (decide (y0.fst > 0))
      (.guard ((y0.fst : Int) ≠ 0) <|
        .done .normal [.c (.int .i64 (Int.tmod y0.snd.fst y0.fst)), .c (.int .i64 (y0.fst))])
      (.done (.exit 0) [.c (.int .i64 (y0.snd.fst))])) [.c (.int .i64)] fun x1 =>
  .done .ret [.c (.bool (x1.fst == 1))]

theorem den_laws_coprime (a0 : Int) (a1 : Int) : denFn Try.prog Try.f30 [.c (.int .i64 a0), .c (.int .i64 a1)] = M_laws_coprime a0 a1 := by kernel_rfl
theorem hc_laws_coprime (a0 : Int) (a1 : Int) {h : H} {R : Value → H → Prop} (hw : wp Try.prog (M_laws_coprime a0 a1) (Ret R) h) : HC Try.prog fn_laws_coprime (List.map AV.val [.c (.int .i64 a0), .c (.int .i64 a1)]).toArray h R :=
  den_calls hmix Try.func30 (of_decide_eq_true rfl) (by rw [den_laws_coprime]; exact hw)

def M_laws_exItems  : M :=
  .alloc ty_impl_Item [.int .i64 (5), .int .i64 (1), .int .i64 (3), .int .i64 (2), .int .i64 (9), .int .i64 (3), .int .i64 (3), .int .i64 (4), .int .i64 (1), .int .i64 (5), .int .i64 (7), .int .i64 (6), .int .i64 (8), .int .i64 (7)] fun n0 =>
  .done .ret [.c (.sl (some (n0, 0)) (7) (7))]

theorem den_laws_exItems  : denFn Try.prog Try.f15 [] = M_laws_exItems  := by kernel_rfl
theorem hc_laws_exItems  {h : H} {R : Value → H → Prop} (hw : wp Try.prog (M_laws_exItems ) (Ret R) h) : HC Try.prog fn_laws_exItems (List.map AV.val []).toArray h R :=
  den_calls hmix Try.func15 (of_decide_eq_true rfl) (by rw [den_laws_exItems]; exact hw)

def M_laws_exMoves  : M :=
  .alloc ty_impl_Move [.int .i64 (1), .int .i64 (0), .int .i64 (0), .int .i64 (3), .int .i64 (0), .int .i64 (0), .int .i64 (4), .int .i64 (4), .int .i64 (0), .int .i64 (2), .int .i64 (0), .int .i64 (0), .int .i64 (5), .int .i64 (1), .int .i64 (0), .int .i64 (0), .int .i64 (0), .int .i64 (0)] fun n0 =>
  .done .ret [.c (.sl (some (n0, 0)) (6) (6))]

theorem den_laws_exMoves  : denFn Try.prog Try.f27 [] = M_laws_exMoves  := by kernel_rfl
theorem hc_laws_exMoves  {h : H} {R : Value → H → Prop} (hw : wp Try.prog (M_laws_exMoves ) (Ret R) h) : HC Try.prog fn_laws_exMoves (List.map AV.val []).toArray h R :=
  den_calls hmix Try.func27 (of_decide_eq_true rfl) (by rw [den_laws_exMoves]; exact hw)

def M_laws_exPlaces  : M :=
  .alloc ty_int [.int .i64 (0), .int .i64 (2), .int .i64 (5), .int .i64 (-1), .int .i64 (100)] fun n0 =>
  .done .ret [.c (.sl (some (n0, 0)) (5) (5))]

theorem den_laws_exPlaces  : denFn Try.prog Try.f29 [] = M_laws_exPlaces  := by kernel_rfl
theorem hc_laws_exPlaces  {h : H} {R : Value → H → Prop} (hw : wp Try.prog (M_laws_exPlaces ) (Ret R) h) : HC Try.prog fn_laws_exPlaces (List.map AV.val []).toArray h R :=
  den_calls hmix Try.func29 (of_decide_eq_true rfl) (by rw [den_laws_exPlaces]; exact hw)

def M_laws_fit (a0 : Int) : M :=
  .bind none (.ite (decide (a0 > 0))
    (.call fn_spec_Fits [.c (.int .i64 (a0))] false [.c (.bool)] fun r0 =>
      .done .normal [.c (.bool (r0.fst))])
    (.done .normal [.c (.ff)])) [.c (.bool)] fun x1 =>
  .done .ret [.c (.bool (x1.fst))]

theorem den_laws_fit (a0 : Int) : denFn Try.prog Try.f20 [.c (.int .i64 a0)] = M_laws_fit a0 := by kernel_rfl
theorem hc_laws_fit (a0 : Int) {h : H} {R : Value → H → Prop} (hw : wp Try.prog (M_laws_fit a0) (Ret R) h) : HC Try.prog fn_laws_fit (List.map AV.val [.c (.int .i64 a0)]).toArray h R :=
  den_calls hmix Try.func20 (of_decide_eq_true rfl) (by rw [den_laws_fit]; exact hw)

def M_laws_mAscend (a0 : Int) (a1p : Option PA) (a1l : Nat) (a1c : Nat) (a2 : Int) (a3 : Int) : M :=
  .call fn_impl_MAscend [.c (.int .i64 (a0)), .c (.sl (a1p) (a1l) (a1c)), .c (.int .i64 (a2)), .c (.int .i64 (a3))] false [.c (.sl)] fun r0 =>
  .call fn_spec_GAscend [.agg [.sl none (0) (0), .int .i64 (0), .ff], .c (.sl (a1p) (a1l) (a1c)), .agg [.int .i64 (a2), .int .i64 (0)], .c (.int .i64 (a3))] false [.c (.sl)] fun r1 =>
  .call fn_slices_Equal_impl_Item_impl_Item [.c (.sl (r0.fst.fst) (r0.fst.snd.fst) (r0.fst.snd.snd)), .c (.sl (r1.fst.fst) (r1.fst.snd.fst) (r1.fst.snd.snd))] false [.c (.bool)] fun r2 =>
  .done .ret [.c (.bool (r2.fst))]

theorem den_laws_mAscend (a0 : Int) (a1p : Option PA) (a1l : Nat) (a1c : Nat) (a2 : Int) (a3 : Int) : denFn Try.prog Try.f25 [.c (.int .i64 a0), .c (.sl a1p a1l a1c), .c (.int .i64 a2), .c (.int .i64 a3)] = M_laws_mAscend a0 a1p a1l a1c a2 a3 := by kernel_rfl
theorem hc_laws_mAscend (a0 : Int) (a1p : Option PA) (a1l : Nat) (a1c : Nat) (a2 : Int) (a3 : Int) {h : H} {R : Value → H → Prop} (hw : wp Try.prog (M_laws_mAscend a0 a1p a1l a1c a2 a3) (Ret R) h) : HC Try.prog fn_laws_mAscend (List.map AV.val [.c (.int .i64 a0), .c (.sl a1p a1l a1c), .c (.int .i64 a2), .c (.int .i64 a3)]).toArray h R :=
  den_calls hmix Try.func25 (of_decide_eq_true rfl) (by rw [den_laws_mAscend]; exact hw)

def M_laws_mDeleteAt (a0 : Int) (a1p : Option PA) (a1l : Nat) (a1c : Nat) (a2p : Option PA) (a2l : Nat) (a2c : Nat) : M :=
  .call fn_impl_MDeleteAt [.c (.int .i64 (a0)), .c (.sl (a1p) (a1l) (a1c)), .c (.sl (a2p) (a2l) (a2c))] true [.c (.sl), .c (.sl)] fun r0 =>
  .call fn_spec_GDeleteAt [.agg [.sl none (0) (0), .int .i64 (0), .ff], .c (.sl (a1p) (a1l) (a1c)), .c (.sl (a2p) (a2l) (a2c))] true [.c (.sl), .c (.sl)] fun r1 =>
  .bind none (.call fn_slices_Equal_impl_Found_impl_Found [.c (.sl (r0.fst.fst) (r0.fst.snd.fst) (r0.fst.snd.snd)), .c (.sl (r1.fst.fst) (r1.fst.snd.fst) (r1.fst.snd.snd))] false [.c (.bool)] fun r2 =>
    .ite (r2.fst)
    (.call fn_slices_Equal_impl_Item_impl_Item [.c (.sl (r0.snd.fst.fst) (r0.snd.fst.snd.fst) (r0.snd.fst.snd.snd)), .c (.sl (r1.snd.fst.fst) (r1.snd.fst.snd.fst) (r1.snd.fst.snd.snd))] false [.c (.bool)] fun r3 =>
      .done .normal [.c (.bool (r3.fst))])
    (.done .normal [.c (.ff)])) [.c (.bool)] fun x4 =>
  .done .ret [.c (.bool (x4.fst))]

theorem den_laws_mDeleteAt (a0 : Int) (a1p : Option PA) (a1l : Nat) (a1c : Nat) (a2p : Option PA) (a2l : Nat) (a2c : Nat) : denFn Try.prog Try.f28 [.c (.int .i64 a0), .c (.sl a1p a1l a1c), .c (.sl a2p a2l a2c)] = M_laws_mDeleteAt a0 a1p a1l a1c a2p a2l a2c := by kernel_rfl
theorem hc_laws_mDeleteAt (a0 : Int) (a1p : Option PA) (a1l : Nat) (a1c : Nat) (a2p : Option PA) (a2l : Nat) (a2c : Nat) {h : H} {R : Value → H → Prop} (hw : wp Try.prog (M_laws_mDeleteAt a0 a1p a1l a1c a2p a2l a2c) (Ret R) h) : HC Try.prog fn_laws_mDeleteAt (List.map AV.val [.c (.int .i64 a0), .c (.sl a1p a1l a1c), .c (.sl a2p a2l a2c)]).toArray h R :=
  den_calls hmix Try.func28 (of_decide_eq_true rfl) (by rw [den_laws_mDeleteAt]; exact hw)

def M_laws_mGetMut (a0 : Int) (a1p : Option PA) (a1l : Nat) (a1c : Nat) (a2p : Option PA) (a2l : Nat) (a2c : Nat) : M :=
  .call fn_impl_MGetMut [.c (.int .i64 (a0)), .c (.sl (a1p) (a1l) (a1c)), .c (.sl (a2p) (a2l) (a2c))] false [.c (.sl)] fun r0 =>
  .call fn_spec_Items [.c (.sl (a2p) (a2l) (a2c))] false [.c (.sl)] fun r1 =>
  .call fn_spec_GGet [.agg [.sl none (0) (0), .int .i64 (0), .ff], .c (.sl (a1p) (a1l) (a1c)), .c (.sl (r1.fst.fst) (r1.fst.snd.fst) (r1.fst.snd.snd))] false [.c (.sl)] fun r2 =>
  .call fn_slices_Equal_impl_Found_impl_Found [.c (.sl (r0.fst.fst) (r0.fst.snd.fst) (r0.fst.snd.snd)), .c (.sl (r2.fst.fst) (r2.fst.snd.fst) (r2.fst.snd.snd))] false [.c (.bool)] fun r3 =>
  .done .ret [.c (.bool (r3.fst))]

theorem den_laws_mGetMut (a0 : Int) (a1p : Option PA) (a1l : Nat) (a1c : Nat) (a2p : Option PA) (a2l : Nat) (a2c : Nat) : denFn Try.prog Try.f18 [.c (.int .i64 a0), .c (.sl a1p a1l a1c), .c (.sl a2p a2l a2c)] = M_laws_mGetMut a0 a1p a1l a1c a2p a2l a2c := by kernel_rfl
theorem hc_laws_mGetMut (a0 : Int) (a1p : Option PA) (a1l : Nat) (a1c : Nat) (a2p : Option PA) (a2l : Nat) (a2c : Nat) {h : H} {R : Value → H → Prop} (hw : wp Try.prog (M_laws_mGetMut a0 a1p a1l a1c a2p a2l a2c) (Ret R) h) : HC Try.prog fn_laws_mGetMut (List.map AV.val [.c (.int .i64 a0), .c (.sl a1p a1l a1c), .c (.sl a2p a2l a2c)]).toArray h R :=
  den_calls hmix Try.func18 (of_decide_eq_true rfl) (by rw [den_laws_mGetMut]; exact hw)

def M_laws_mIter (a0 : Int) (a1p : Option PA) (a1l : Nat) (a1c : Nat) (a2p : Option PA) (a2l : Nat) (a2c : Nat) : M :=
  .call fn_impl_MIter [.c (.int .i64 (a0)), .c (.sl (a1p) (a1l) (a1c)), .c (.sl (a2p) (a2l) (a2c))] false [.c (.sl)] fun r0 =>
  .call fn_spec_Tree [.c (.sl none (0) (0)), .c (.sl (a1p) (a1l) (a1c))] false [.c (.sl)] fun r1 =>
  .call fn_spec_Iter [.c (.sl none (0) (0)), .c (.sl (r1.fst.fst) (r1.fst.snd.fst) (r1.fst.snd.snd)), .c (.sl (a2p) (a2l) (a2c))] true [.c (.sl), .c (.sl)] fun r2 =>
  .call fn_laws_sameMoves [.c (.sl (r0.fst.fst) (r0.fst.snd.fst) (r0.fst.snd.snd)), .c (.sl (r2.fst.fst) (r2.fst.snd.fst) (r2.fst.snd.snd)), .c (.sl (r2.snd.fst.fst) (r2.snd.fst.snd.fst) (r2.snd.fst.snd.snd))] false [.c (.bool)] fun r3 =>
  .done .ret [.c (.bool (r3.fst))]

theorem den_laws_mIter (a0 : Int) (a1p : Option PA) (a1l : Nat) (a1c : Nat) (a2p : Option PA) (a2l : Nat) (a2c : Nat) : denFn Try.prog Try.f26 [.c (.int .i64 a0), .c (.sl a1p a1l a1c), .c (.sl a2p a2l a2c)] = M_laws_mIter a0 a1p a1l a1c a2p a2l a2c := by kernel_rfl
theorem hc_laws_mIter (a0 : Int) (a1p : Option PA) (a1l : Nat) (a1c : Nat) (a2p : Option PA) (a2l : Nat) (a2c : Nat) {h : H} {R : Value → H → Prop} (hw : wp Try.prog (M_laws_mIter a0 a1p a1l a1c a2p a2l a2c) (Ret R) h) : HC Try.prog fn_laws_mIter (List.map AV.val [.c (.int .i64 a0), .c (.sl a1p a1l a1c), .c (.sl a2p a2l a2c)]).toArray h R :=
  den_calls hmix Try.func26 (of_decide_eq_true rfl) (by rw [den_laws_mIter]; exact hw)

def M_laws_mMaxMut (a0 : Int) (a1p : Option PA) (a1l : Nat) (a1c : Nat) : M :=
  .call fn_impl_MMaxMut [.c (.int .i64 (a0)), .c (.sl (a1p) (a1l) (a1c))] false [.agg [.int .i64, .int .i64, .bool]] fun r0 =>
  .alloc ty_impl_Found [.int .i64 (0), .int .i64 (0), .ff] fun n1 =>
  .store (n1, 0) (.int .i64 (r0.fst.fst)) <|
  .store (n1, 1) (.int .i64 (r0.fst.snd.fst)) <|
  .store (n1, 2) (.bool (r0.fst.snd.snd.fst)) <|
  .call fn_spec_GMax [.agg [.sl none (0) (0), .int .i64 (0), .ff], .c (.sl (a1p) (a1l) (a1c))] false [.agg [.int .i64, .int .i64, .bool]] fun r2 =>
  .alloc ty_impl_Found [.int .i64 (0), .int .i64 (0), .ff] fun n3 =>
  .store (n3, 0) (.int .i64 (r2.fst.fst)) <|
  .store (n3, 1) (.int .i64 (r2.fst.snd.fst)) <|
  .store (n3, 2) (.bool (r2.fst.snd.snd.fst)) <|
  .load (n1, 0) (.int .i64) fun i4 =>
  .load (n1, 1) (.int .i64) fun i5 =>
  .load (n1, 2) (.bool) fun b6 =>
  .load (n3, 0) (.int .i64) fun i7 =>
  .load (n3, 1) (.int .i64) fun i8 =>
  .load (n3, 2) (.bool) fun b9 =>
  .done .ret [.c (.bool (i4 == i7 && (i5 == i8 && true) && (b6 == b9 && true)))]

theorem den_laws_mMaxMut (a0 : Int) (a1p : Option PA) (a1l : Nat) (a1c : Nat) : denFn Try.prog Try.f14 [.c (.int .i64 a0), .c (.sl a1p a1l a1c)] = M_laws_mMaxMut a0 a1p a1l a1c := by kernel_rfl
theorem hc_laws_mMaxMut (a0 : Int) (a1p : Option PA) (a1l : Nat) (a1c : Nat) {h : H} {R : Value → H → Prop} (hw : wp Try.prog (M_laws_mMaxMut a0 a1p a1l a1c) (Ret R) h) : HC Try.prog fn_laws_mMaxMut (List.map AV.val [.c (.int .i64 a0), .c (.sl a1p a1l a1c)]).toArray h R :=
  den_calls hmix Try.func14 (of_decide_eq_true rfl) (by rw [den_laws_mMaxMut]; exact hw)

def M_laws_mScan (a0 : Int) (a1p : Option PA) (a1l : Nat) (a1c : Nat) (a2 : Int) : M :=
  .call fn_impl_MScan [.c (.int .i64 (a0)), .c (.sl (a1p) (a1l) (a1c)), .c (.int .i64 (a2))] false [.c (.sl)] fun r0 =>
  .call fn_spec_GScan [.agg [.sl none (0) (0), .int .i64 (0), .ff], .c (.sl (a1p) (a1l) (a1c)), .c (.int .i64 (a2))] false [.c (.sl)] fun r1 =>
  .call fn_slices_Equal_impl_Item_impl_Item [.c (.sl (r0.fst.fst) (r0.fst.snd.fst) (r0.fst.snd.snd)), .c (.sl (r1.fst.fst) (r1.fst.snd.fst) (r1.fst.snd.snd))] false [.c (.bool)] fun r2 =>
  .done .ret [.c (.bool (r2.fst))]

theorem den_laws_mScan (a0 : Int) (a1p : Option PA) (a1l : Nat) (a1c : Nat) (a2 : Int) : denFn Try.prog Try.f19 [.c (.int .i64 a0), .c (.sl a1p a1l a1c), .c (.int .i64 a2)] = M_laws_mScan a0 a1p a1l a1c a2 := by kernel_rfl
theorem hc_laws_mScan (a0 : Int) (a1p : Option PA) (a1l : Nat) (a1c : Nat) (a2 : Int) {h : H} {R : Value → H → Prop} (hw : wp Try.prog (M_laws_mScan a0 a1p a1l a1c a2) (Ret R) h) : HC Try.prog fn_laws_mScan (List.map AV.val [.c (.int .i64 a0), .c (.sl a1p a1l a1c), .c (.int .i64 a2)]).toArray h R :=
  den_calls hmix Try.func19 (of_decide_eq_true rfl) (by rw [den_laws_mScan]; exact hw)

def M_laws_mValues (a0 : Int) (a1p : Option PA) (a1l : Nat) (a1c : Nat) : M :=
  .call fn_impl_MValues [.c (.int .i64 (a0)), .c (.sl (a1p) (a1l) (a1c))] false [.c (.sl)] fun r0 =>
  .call fn_spec_Tree [.c (.sl none (0) (0)), .c (.sl (a1p) (a1l) (a1c))] false [.c (.sl)] fun r1 =>
  .call fn_spec_Values [.c (.sl (r1.fst.fst) (r1.fst.snd.fst) (r1.fst.snd.snd))] false [.c (.sl)] fun r2 =>
  .call fn_slices_Equal_int_int [.c (.sl (r0.fst.fst) (r0.fst.snd.fst) (r0.fst.snd.snd)), .c (.sl (r2.fst.fst) (r2.fst.snd.fst) (r2.fst.snd.snd))] false [.c (.bool)] fun r3 =>
  .done .ret [.c (.bool (r3.fst))]

theorem den_laws_mValues (a0 : Int) (a1p : Option PA) (a1l : Nat) (a1c : Nat) : denFn Try.prog Try.f17 [.c (.int .i64 a0), .c (.sl a1p a1l a1c)] = M_laws_mValues a0 a1p a1l a1c := by kernel_rfl
theorem hc_laws_mValues (a0 : Int) (a1p : Option PA) (a1l : Nat) (a1c : Nat) {h : H} {R : Value → H → Prop} (hw : wp Try.prog (M_laws_mValues a0 a1p a1l a1c) (Ret R) h) : HC Try.prog fn_laws_mValues (List.map AV.val [.c (.int .i64 a0), .c (.sl a1p a1l a1c)]).toArray h R :=
  den_calls hmix Try.func17 (of_decide_eq_true rfl) (by rw [den_laws_mValues]; exact hw)

def M_laws_sameMoves (a0p : Option PA) (a0l : Nat) (a0c : Nat) (a1p : Option PA) (a1l : Nat) (a1c : Nat) (a2p : Option PA) (a2l : Nat) (a2c : Nat) : M :=
  .ite ((↑a0l : Int) != (↑a1l : Int))
  (.done .ret [.c (.ff)])
  (.bind (some 0) (.loop [.c (.int .i64)] [.c (.int .i64 (0))] fun y0 =>
        .ite (decide (y0.fst < (↑a0l : Int)))
        (.bind none (.nonnil (a2p) fun p1 =>
            .guard (((0 : Int) ≤ y0.fst) ∧ ((y0.fst : Int) < (↑a2l : Int))) <|
            .load (p1.fst, p1.snd + Int.toNat y0.fst) (.bool) fun b2 =>
            .ite (b2)
            (.nonnil (a0p) fun p3 =>
              .guard (((0 : Int) ≤ y0.fst) ∧ ((y0.fst : Int) < (↑a0l : Int))) <|
              .load (p3.fst, p3.snd + mulN (Int.toNat y0.fst) 3) (.int .i64) fun i4 =>
              .load (p3.fst, p3.snd + mulN (Int.toNat y0.fst) 3 + 1) (.int .i64) fun i5 =>
              .load (p3.fst, p3.snd + mulN (Int.toNat y0.fst) 3 + 2) (.bool) fun b6 =>
              .nonnil (a1p) fun p7 =>
              .guard (((0 : Int) ≤ y0.fst) ∧ ((y0.fst : Int) < (↑a1l : Int))) <|
              .load (p7.fst, p7.snd + mulN (Int.toNat y0.fst) 3) (.int .i64) fun i8 =>
              .load (p7.fst, p7.snd + mulN (Int.toNat y0.fst) 3 + 1) (.int .i64) fun i9 =>
              .load (p7.fst, p7.snd + mulN (Int.toNat y0.fst) 3 + 2) (.bool) fun b10 =>
              .done .normal [.c (.bool (!(i4 == i8 && (i5 == i9 && true) && (b6 == b10 && true))))])
            (.done .normal [.c (.ff)])) [.c (.bool)] fun x11 =>
          .ite (x11.fst)
          (.done .ret [.c (.ff)])
          (.guard (InK IntKind.i64 (y0.fst + 1)) <|
            .done .normal [.c (.int .i64 (y0.fst + 1))]))
        (.done (.exit 0) [])) [] fun x12 =>
    .done .ret [.c (.tt)])

theorem den_laws_sameMoves (a0p : Option PA) (a0l : Nat) (a0c : Nat) (a1p : Option PA) (a1l : Nat) (a1c : Nat) (a2p : Option PA) (a2l : Nat) (a2c : Nat) : denFn Try.prog Try.f61 [.c (.sl a0p a0l a0c), .c (.sl a1p a1l a1c), .c (.sl a2p a2l a2c)] = M_laws_sameMoves a0p a0l a0c a1p a1l a1c a2p a2l a2c := by kernel_rfl
theorem hc_laws_sameMoves (a0p : Option PA) (a0l : Nat) (a0c : Nat) (a1p : Option PA) (a1l : Nat) (a1c : Nat) (a2p : Option PA) (a2l : Nat) (a2c : Nat) {h : H} {R : Value → H → Prop} (hw : wp Try.prog (M_laws_sameMoves a0p a0l a0c a1p a1l a1c a2p a2l a2c) (Ret R) h) : HC Try.prog fn_laws_sameMoves (List.map AV.val [.c (.sl a0p a0l a0c), .c (.sl a1p a1l a1c), .c (.sl a2p a2l a2c)]).toArray h R :=
  den_calls hmix Try.func61 (of_decide_eq_true rfl) (by rw [den_laws_sameMoves]; exact hw)

def M_laws_stride (a0 : Int) (a1 : Int) : M :=
  .bind (some 0) (.loop [.c (.int .i64), .c (.sl)] [.c (.int .i64 (0)), .c (.sl none (0) (0))] fun y0 =>
      .ite (decide (y0.fst < a0))
      (.guard (InK IntKind.i64 (y0.fst * a1)) <|
        .guard ((a0 : Int) ≠ 0) <|
        .alloc ty_impl_Item [.int .i64 ((y0.fst * a1).tmod a0), .int .i64 (y0.fst)] fun n1 =>
        .append ty_impl_Item 2 16 [.int .i64 (0), .int .i64 (0)] ((y0.snd.fst.fst), y0.snd.fst.snd.fst, y0.snd.fst.snd.snd) ((some (n1, 0)), 1, 1) fun s2 =>
        .guard (InK IntKind.i64 (y0.fst + 1)) <|
        .done .normal [.c (.int .i64 (y0.fst + 1)), .c (.sl (s2.fst) (s2.snd.fst) (s2.snd.snd))])
      (.done (.exit 0) [.c (.sl (y0.snd.fst.fst) (y0.snd.fst.snd.fst) (y0.snd.fst.snd.snd))])) [.c (.sl)] fun x3 =>
  .done .ret [.c (.sl (x3.fst.fst) (x3.fst.snd.fst) (x3.fst.snd.snd))]

theorem den_laws_stride (a0 : Int) (a1 : Int) : denFn Try.prog Try.f32 [.c (.int .i64 a0), .c (.int .i64 a1)] = M_laws_stride a0 a1 := by kernel_rfl
theorem hc_laws_stride (a0 : Int) (a1 : Int) {h : H} {R : Value → H → Prop} (hw : wp Try.prog (M_laws_stride a0 a1) (Ret R) h) : HC Try.prog fn_laws_stride (List.map AV.val [.c (.int .i64 a0), .c (.int .i64 a1)]).toArray h R :=
  den_calls hmix Try.func32 (of_decide_eq_true rfl) (by rw [den_laws_stride]; exact hw)

def M_laws_turned (a0p : Option PA) (a0l : Nat) (a0c : Nat) : M :=
  .call fn_slices_Clone_impl_Item_impl_Item [.c (.sl (a0p) (a0l) (a0c))] false [.c (.sl)] fun r0 =>
  .call fn_slices_Reverse_impl_Item_impl_Item [.c (.sl (r0.fst.fst) (r0.fst.snd.fst) (r0.fst.snd.snd))] true [] fun r1 =>
  .done .ret [.c (.sl (r0.fst.fst) (r0.fst.snd.fst) (r0.fst.snd.snd))]

theorem den_laws_turned (a0p : Option PA) (a0l : Nat) (a0c : Nat) : denFn Try.prog Try.f41 [.c (.sl a0p a0l a0c)] = M_laws_turned a0p a0l a0c := by kernel_rfl
theorem hc_laws_turned (a0p : Option PA) (a0l : Nat) (a0c : Nat) {h : H} {R : Value → H → Prop} (hw : wp Try.prog (M_laws_turned a0p a0l a0c) (Ret R) h) : HC Try.prog fn_laws_turned (List.map AV.val [.c (.sl a0p a0l a0c)]).toArray h R :=
  den_calls hmix Try.func41 (of_decide_eq_true rfl) (by rw [den_laws_turned]; exact hw)

def M_slices_Clone_impl_Item_impl_Item (a0p : Option PA) (a0l : Nat) (a0c : Nat) : M :=
  .ite (a0p.isNone)
  (.done .ret [.c (.sl none (0) (0))])
  (.alloc ty_impl_Item [] fun n0 =>
    .append ty_impl_Item 2 16 [.int .i64 (0), .int .i64 (0)] ((some (n0, 0)), 0, 0) ((a0p), a0l, a0c) fun s1 =>
    .done .ret [.c (.sl (s1.fst) (s1.snd.fst) (s1.snd.snd))])

theorem den_slices_Clone_impl_Item_impl_Item (a0p : Option PA) (a0l : Nat) (a0c : Nat) : denFn Try.prog Try.f72 [.c (.sl a0p a0l a0c)] = M_slices_Clone_impl_Item_impl_Item a0p a0l a0c := by kernel_rfl
theorem hc_slices_Clone_impl_Item_impl_Item (a0p : Option PA) (a0l : Nat) (a0c : Nat) {h : H} {R : Value → H → Prop} (hw : wp Try.prog (M_slices_Clone_impl_Item_impl_Item a0p a0l a0c) (Ret R) h) : HC Try.prog fn_slices_Clone_impl_Item_impl_Item (List.map AV.val [.c (.sl a0p a0l a0c)]).toArray h R :=
  den_calls hmix Try.func72 (of_decide_eq_true rfl) (by rw [den_slices_Clone_impl_Item_impl_Item]; exact hw)

def M_slices_ContainsFunc_impl_Item_impl_Item (a0p : Option PA) (a0l : Nat) (a0c : Nat) (a1 : Value) : M :=
  .call fn_slices_IndexFunc_impl_Item_impl_Item [.c (.sl (a0p) (a0l) (a0c)), .c (.raw (a1))] false [.c (.int .i64)] fun r0 =>
  .done .ret [.c (.bool (decide (r0.fst ≥ 0)))]

theorem den_slices_ContainsFunc_impl_Item_impl_Item (a0p : Option PA) (a0l : Nat) (a0c : Nat) (a1 : Value) : denFn Try.prog Try.f33 [.c (.sl a0p a0l a0c), .c (.raw a1)] = M_slices_ContainsFunc_impl_Item_impl_Item a0p a0l a0c a1 := by kernel_rfl
theorem hc_slices_ContainsFunc_impl_Item_impl_Item (a0p : Option PA) (a0l : Nat) (a0c : Nat) (a1 : Value) {h : H} {R : Value → H → Prop} (hw : wp Try.prog (M_slices_ContainsFunc_impl_Item_impl_Item a0p a0l a0c a1) (Ret R) h) : HC Try.prog fn_slices_ContainsFunc_impl_Item_impl_Item (List.map AV.val [.c (.sl a0p a0l a0c), .c (.raw a1)]).toArray h R :=
  den_calls hmix Try.func33 (of_decide_eq_true rfl) (by rw [den_slices_ContainsFunc_impl_Item_impl_Item]; exact hw)

def M_slices_Contains_int_int (a0p : Option PA) (a0l : Nat) (a0c : Nat) (a1 : Int) : M :=
  .call fn_slices_Index_int_int [.c (.sl (a0p) (a0l) (a0c)), .c (.int .i64 (a1))] false [.c (.int .i64)] fun r0 =>
  .done .ret [.c (.bool (decide (r0.fst ≥ 0)))]

theorem den_slices_Contains_int_int (a0p : Option PA) (a0l : Nat) (a0c : Nat) (a1 : Int) : denFn Try.prog Try.f24 [.c (.sl a0p a0l a0c), .c (.int .i64 a1)] = M_slices_Contains_int_int a0p a0l a0c a1 := by kernel_rfl
theorem hc_slices_Contains_int_int (a0p : Option PA) (a0l : Nat) (a0c : Nat) (a1 : Int) {h : H} {R : Value → H → Prop} (hw : wp Try.prog (M_slices_Contains_int_int a0p a0l a0c a1) (Ret R) h) : HC Try.prog fn_slices_Contains_int_int (List.map AV.val [.c (.sl a0p a0l a0c), .c (.int .i64 a1)]).toArray h R :=
  den_calls hmix Try.func24 (of_decide_eq_true rfl) (by rw [den_slices_Contains_int_int]; exact hw)

def M_slices_Equal_impl_Found_impl_Found (a0p : Option PA) (a0l : Nat) (a0c : Nat) (a1p : Option PA) (a1l : Nat) (a1c : Nat) : M :=
  .ite ((↑a0l : Int) != (↑a1l : Int))
  (.done .ret [.c (.ff)])
  (.bind (some 0) (.loop [.c (.int .i64)] [.c (.int .i64 (0))] fun y0 =>
        .ite (decide (y0.fst < (↑a0l : Int)))
        (.nonnil (a0p) fun p1 =>
          .guard (((0 : Int) ≤ y0.fst) ∧ ((y0.fst : Int) < (↑a0l : Int))) <|
          .load (p1.fst, p1.snd + mulN (Int.toNat y0.fst) 3) (.int .i64) fun i2 =>
          .load (p1.fst, p1.snd + mulN (Int.toNat y0.fst) 3 + 1) (.int .i64) fun i3 =>
          .load (p1.fst, p1.snd + mulN (Int.toNat y0.fst) 3 + 2) (.bool) fun b4 =>
          .nonnil (a1p) fun p5 =>
          .guard (((0 : Int) ≤ y0.fst) ∧ ((y0.fst : Int) < (↑a1l : Int))) <|
          .load (p5.fst, p5.snd + mulN (Int.toNat y0.fst) 3) (.int .i64) fun i6 =>
          .load (p5.fst, p5.snd + mulN (Int.toNat y0.fst) 3 + 1) (.int .i64) fun i7 =>
          .load (p5.fst, p5.snd + mulN (Int.toNat y0.fst) 3 + 2) (.bool) fun b8 =>
          .ite (!(i2 == i6 && (i3 == i7 && true) && (b4 == b8 && true)))
          (.done .ret [.c (.ff)])
          (.guard (InK IntKind.i64 (y0.fst + 1)) <|
            .done .normal [.c (.int .i64 (y0.fst + 1))]))
        (.done (.exit 0) [])) [] fun x9 =>
    .done .ret [.c (.tt)])

theorem den_slices_Equal_impl_Found_impl_Found (a0p : Option PA) (a0l : Nat) (a0c : Nat) (a1p : Option PA) (a1l : Nat) (a1c : Nat) : denFn Try.prog Try.f51 [.c (.sl a0p a0l a0c), .c (.sl a1p a1l a1c)] = M_slices_Equal_impl_Found_impl_Found a0p a0l a0c a1p a1l a1c := by kernel_rfl
theorem hc_slices_Equal_impl_Found_impl_Found (a0p : Option PA) (a0l : Nat) (a0c : Nat) (a1p : Option PA) (a1l : Nat) (a1c : Nat) {h : H} {R : Value → H → Prop} (hw : wp Try.prog (M_slices_Equal_impl_Found_impl_Found a0p a0l a0c a1p a1l a1c) (Ret R) h) : HC Try.prog fn_slices_Equal_impl_Found_impl_Found (List.map AV.val [.c (.sl a0p a0l a0c), .c (.sl a1p a1l a1c)]).toArray h R :=
  den_calls hmix Try.func51 (of_decide_eq_true rfl) (by rw [den_slices_Equal_impl_Found_impl_Found]; exact hw)

def M_slices_Equal_impl_Item_impl_Item (a0p : Option PA) (a0l : Nat) (a0c : Nat) (a1p : Option PA) (a1l : Nat) (a1c : Nat) : M :=
  .ite ((↑a0l : Int) != (↑a1l : Int))
  (.done .ret [.c (.ff)])
  (.bind (some 0) (.loop [.c (.int .i64)] [.c (.int .i64 (0))] fun y0 =>
        .ite (decide (y0.fst < (↑a0l : Int)))
        (.nonnil (a0p) fun p1 =>
          .guard (((0 : Int) ≤ y0.fst) ∧ ((y0.fst : Int) < (↑a0l : Int))) <|
          .load (p1.fst, p1.snd + mulN (Int.toNat y0.fst) 2) (.int .i64) fun i2 =>
          .load (p1.fst, p1.snd + mulN (Int.toNat y0.fst) 2 + 1) (.int .i64) fun i3 =>
          .nonnil (a1p) fun p4 =>
          .guard (((0 : Int) ≤ y0.fst) ∧ ((y0.fst : Int) < (↑a1l : Int))) <|
          .load (p4.fst, p4.snd + mulN (Int.toNat y0.fst) 2) (.int .i64) fun i5 =>
          .load (p4.fst, p4.snd + mulN (Int.toNat y0.fst) 2 + 1) (.int .i64) fun i6 =>
          .ite (!(i2 == i5 && (i3 == i6 && true)))
          (.done .ret [.c (.ff)])
          (.guard (InK IntKind.i64 (y0.fst + 1)) <|
            .done .normal [.c (.int .i64 (y0.fst + 1))]))
        (.done (.exit 0) [])) [] fun x7 =>
    .done .ret [.c (.tt)])

theorem den_slices_Equal_impl_Item_impl_Item (a0p : Option PA) (a0l : Nat) (a0c : Nat) (a1p : Option PA) (a1l : Nat) (a1c : Nat) : denFn Try.prog Try.f53 [.c (.sl a0p a0l a0c), .c (.sl a1p a1l a1c)] = M_slices_Equal_impl_Item_impl_Item a0p a0l a0c a1p a1l a1c := by kernel_rfl
theorem hc_slices_Equal_impl_Item_impl_Item (a0p : Option PA) (a0l : Nat) (a0c : Nat) (a1p : Option PA) (a1l : Nat) (a1c : Nat) {h : H} {R : Value → H → Prop} (hw : wp Try.prog (M_slices_Equal_impl_Item_impl_Item a0p a0l a0c a1p a1l a1c) (Ret R) h) : HC Try.prog fn_slices_Equal_impl_Item_impl_Item (List.map AV.val [.c (.sl a0p a0l a0c), .c (.sl a1p a1l a1c)]).toArray h R :=
  den_calls hmix Try.func53 (of_decide_eq_true rfl) (by rw [den_slices_Equal_impl_Item_impl_Item]; exact hw)

def M_slices_Equal_int_int (a0p : Option PA) (a0l : Nat) (a0c : Nat) (a1p : Option PA) (a1l : Nat) (a1c : Nat) : M :=
  .ite ((↑a0l : Int) != (↑a1l : Int))
  (.done .ret [.c (.ff)])
  (.bind (some 0) (.loop [.c (.int .i64)] [.c (.int .i64 (0))] fun y0 =>
        .ite (decide (y0.fst < (↑a0l : Int)))
        (.nonnil (a0p) fun p1 =>
          .guard (((0 : Int) ≤ y0.fst) ∧ ((y0.fst : Int) < (↑a0l : Int))) <|
          .load (p1.fst, p1.snd + Int.toNat y0.fst) (.int .i64) fun i2 =>
          .nonnil (a1p) fun p3 =>
          .guard (((0 : Int) ≤ y0.fst) ∧ ((y0.fst : Int) < (↑a1l : Int))) <|
          .load (p3.fst, p3.snd + Int.toNat y0.fst) (.int .i64) fun i4 =>
          .ite (i2 != i4)
          (.done .ret [.c (.ff)])
          (.guard (InK IntKind.i64 (y0.fst + 1)) <|
            .done .normal [.c (.int .i64 (y0.fst + 1))]))
        (.done (.exit 0) [])) [] fun x5 =>
    .done .ret [.c (.tt)])

theorem den_slices_Equal_int_int (a0p : Option PA) (a0l : Nat) (a0c : Nat) (a1p : Option PA) (a1l : Nat) (a1c : Nat) : denFn Try.prog Try.f47 [.c (.sl a0p a0l a0c), .c (.sl a1p a1l a1c)] = M_slices_Equal_int_int a0p a0l a0c a1p a1l a1c := by kernel_rfl
theorem hc_slices_Equal_int_int (a0p : Option PA) (a0l : Nat) (a0c : Nat) (a1p : Option PA) (a1l : Nat) (a1c : Nat) {h : H} {R : Value → H → Prop} (hw : wp Try.prog (M_slices_Equal_int_int a0p a0l a0c a1p a1l a1c) (Ret R) h) : HC Try.prog fn_slices_Equal_int_int (List.map AV.val [.c (.sl a0p a0l a0c), .c (.sl a1p a1l a1c)]).toArray h R :=
  den_calls hmix Try.func47 (of_decide_eq_true rfl) (by rw [den_slices_Equal_int_int]; exact hw)

def M_slices_IndexFunc_impl_Item_impl_Item (a0p : Option PA) (a0l : Nat) (a0c : Nat) (a1 : Value) : M :=
  .bind (some 0) (.loop [.c (.int .i64)] [.c (.int .i64 (0))] fun y0 =>
      .ite (decide (y0.fst < (↑a0l : Int)))
      (.nonnil (a0p) fun p1 =>
        .guard (((0 : Int) ≤ y0.fst) ∧ ((y0.fst : Int) < (↑a0l : Int))) <|
        .load (p1.fst, p1.snd + mulN (Int.toNat y0.fst) 2) (.int .i64) fun i2 =>
        .load (p1.fst, p1.snd + mulN (Int.toNat y0.fst) 2 + 1) (.int .i64) fun i3 =>
        .callv (a1) [.agg [.int .i64 (i2), .int .i64 (i3)]] false [.c (.bool)] fun r4 =>
        .ite (r4.fst)
        (.done .ret [.c (.int .i64 (y0.fst))])
        (.guard (InK IntKind.i64 (y0.fst + 1)) <|
          .done .normal [.c (.int .i64 (y0.fst + 1))]))
      (.done (.exit 0) [])) [] fun x5 =>
  .done .ret [.c (.int .i64 (-1))]

theorem den_slices_IndexFunc_impl_Item_impl_Item (a0p : Option PA) (a0l : Nat) (a0c : Nat) (a1 : Value) : denFn Try.prog Try.f66 [.c (.sl a0p a0l a0c), .c (.raw a1)] = M_slices_IndexFunc_impl_Item_impl_Item a0p a0l a0c a1 := by kernel_rfl
theorem hc_slices_IndexFunc_impl_Item_impl_Item (a0p : Option PA) (a0l : Nat) (a0c : Nat) (a1 : Value) {h : H} {R : Value → H → Prop} (hw : wp Try.prog (M_slices_IndexFunc_impl_Item_impl_Item a0p a0l a0c a1) (Ret R) h) : HC Try.prog fn_slices_IndexFunc_impl_Item_impl_Item (List.map AV.val [.c (.sl a0p a0l a0c), .c (.raw a1)]).toArray h R :=
  den_calls hmix Try.func66 (of_decide_eq_true rfl) (by rw [den_slices_IndexFunc_impl_Item_impl_Item]; exact hw)

def M_slices_Index_int_int (a0p : Option PA) (a0l : Nat) (a0c : Nat) (a1 : Int) : M :=
  .bind (some 0) (.loop [.c (.int .i64)] [.c (.int .i64 (0))] fun y0 =>
      .ite (decide (y0.fst < (↑a0l : Int)))
      (.nonnil (a0p) fun p1 =>
        .guard (((0 : Int) ≤ y0.fst) ∧ ((y0.fst : Int) < (↑a0l : Int))) <|
        .load (p1.fst, p1.snd + Int.toNat y0.fst) (.int .i64) fun i2 =>
        .ite (a1 == i2)
        (.done .ret [.c (.int .i64 (y0.fst))])
        (.guard (InK IntKind.i64 (y0.fst + 1)) <|
          .done .normal [.c (.int .i64 (y0.fst + 1))]))
      (.done (.exit 0) [])) [] fun x3 =>
  .done .ret [.c (.int .i64 (-1))]

theorem den_slices_Index_int_int (a0p : Option PA) (a0l : Nat) (a0c : Nat) (a1 : Int) : denFn Try.prog Try.f39 [.c (.sl a0p a0l a0c), .c (.int .i64 a1)] = M_slices_Index_int_int a0p a0l a0c a1 := by kernel_rfl
theorem hc_slices_Index_int_int (a0p : Option PA) (a0l : Nat) (a0c : Nat) (a1 : Int) {h : H} {R : Value → H → Prop} (hw : wp Try.prog (M_slices_Index_int_int a0p a0l a0c a1) (Ret R) h) : HC Try.prog fn_slices_Index_int_int (List.map AV.val [.c (.sl a0p a0l a0c), .c (.int .i64 a1)]).toArray h R :=
  den_calls hmix Try.func39 (of_decide_eq_true rfl) (by rw [den_slices_Index_int_int]; exact hw)

def M_slices_Reverse_impl_Item_impl_Item (a0p : Option PA) (a0l : Nat) (a0c : Nat) : M :=
  .guard (InK IntKind.i64 ((↑a0l : Int) - 1)) <|
  .bind (some 0) (.loop [.c (.int .i64), .c (.int .i64)] [.c (.int .i64 ((↑a0l : Int) - 1)), .c (.int .i64 (0))] fun y0 =>
      .ite (decide (y0.snd.fst < y0.fst))
      (.nonnil (a0p) fun p1 =>
        .guard (((0 : Int) ≤ y0.fst) ∧ ((y0.fst : Int) < (↑a0l : Int))) <|
        .load (p1.fst, p1.snd + mulN (Int.toNat y0.fst) 2) (.int .i64) fun i2 =>
        .load (p1.fst, p1.snd + mulN (Int.toNat y0.fst) 2 + 1) (.int .i64) fun i3 =>
        .nonnil (a0p) fun p4 =>
        .guard (((0 : Int) ≤ y0.snd.fst) ∧ ((y0.snd.fst : Int) < (↑a0l : Int))) <|
        .load (p4.fst, p4.snd + mulN (Int.toNat y0.snd.fst) 2) (.int .i64) fun i5 =>
        .load (p4.fst, p4.snd + mulN (Int.toNat y0.snd.fst) 2 + 1) (.int .i64) fun i6 =>
        .nonnil (a0p) fun p7 =>
        .guard (((0 : Int) ≤ y0.snd.fst) ∧ ((y0.snd.fst : Int) < (↑a0l : Int))) <|
        .store (p7.fst, p7.snd + mulN (Int.toNat y0.snd.fst) 2) (.int .i64 (i2)) <|
        .store (p7.fst, p7.snd + mulN (Int.toNat y0.snd.fst) 2 + 1) (.int .i64 (i3)) <|
        .nonnil (a0p) fun p8 =>
        .guard (((0 : Int) ≤ y0.fst) ∧ ((y0.fst : Int) < (↑a0l : Int))) <|
        .store (p8.fst, p8.snd + mulN (Int.toNat y0.fst) 2) (.int .i64 (i5)) <|
        .store (p8.fst, p8.snd + mulN (Int.toNat y0.fst) 2 + 1) (.int .i64 (i6)) <|
        .guard (InK IntKind.i64 (y0.snd.fst + 1)) <|
        .guard (InK IntKind.i64 (y0.fst - 1)) <|
        .done .normal [.c (.int .i64 (y0.fst - 1)), .c (.int .i64 (y0.snd.fst + 1))])
      (.done (.exit 0) [])) [] fun x9 =>
  .done .ret []

theorem den_slices_Reverse_impl_Item_impl_Item (a0p : Option PA) (a0l : Nat) (a0c : Nat) : denFn Try.prog Try.f73 [.c (.sl a0p a0l a0c)] = M_slices_Reverse_impl_Item_impl_Item a0p a0l a0c := by kernel_rfl
theorem hc_slices_Reverse_impl_Item_impl_Item (a0p : Option PA) (a0l : Nat) (a0c : Nat) {h : H} {R : Value → H → Prop} (hw : wp Try.prog (M_slices_Reverse_impl_Item_impl_Item a0p a0l a0c) (Ret R) h) : HC Try.prog fn_slices_Reverse_impl_Item_impl_Item (List.map AV.val [.c (.sl a0p a0l a0c)]).toArray h R :=
  den_calls hmix Try.func73 (of_decide_eq_true rfl) (by rw [den_slices_Reverse_impl_Item_impl_Item]; exact hw)

def M_spec_At (a0p : Option PA) (a0l : Nat) (a0c : Nat) (a1 : Int) : M :=
  .alloc ty_impl_Found [.int .i64 (0), .int .i64 (0), .ff] fun n0 =>
  .call fn_spec_Cut [.c (.sl (a0p) (a0l) (a0c)), .c (.int .i64 (a1))] true [.c (.sl), .agg [.int .i64, .int .i64, .bool]] fun r1 =>
  .alloc ty_impl_Found [.int .i64 (0), .int .i64 (0), .ff] fun n2 =>
  .store (n2, 0) (.int .i64 (r1.snd.fst.fst)) <|
  .store (n2, 1) (.int .i64 (r1.snd.fst.snd.fst)) <|
  .store (n2, 2) (.bool (r1.snd.fst.snd.snd.fst)) <|
  .load (n2, 0) (.int .i64) fun i3 =>
  .load (n2, 1) (.int .i64) fun i4 =>
  .load (n2, 2) (.bool) fun b5 =>
  .store (n0, 0) (.int .i64 (i3)) <|
  .store (n0, 1) (.int .i64 (i4)) <|
  .store (n0, 2) (.bool (b5)) <|
  .load (n0, 0) (.int .i64) fun i6 =>
  .load (n0, 1) (.int .i64) fun i7 =>
  .load (n0, 2) (.bool) fun b8 =>
  .done .ret [.agg [.int .i64 (i6), .int .i64 (i7), .bool (b8)]]

theorem den_spec_At (a0p : Option PA) (a0l : Nat) (a0c : Nat) (a1 : Int) : denFn Try.prog Try.f77 [.c (.sl a0p a0l a0c), .c (.int .i64 a1)] = M_spec_At a0p a0l a0c a1 := by kernel_rfl
theorem hc_spec_At (a0p : Option PA) (a0l : Nat) (a0c : Nat) (a1 : Int) {h : H} {R : Value → H → Prop} (hw : wp Try.prog (M_spec_At a0p a0l a0c a1) (Ret R) h) : HC Try.prog fn_spec_At (List.map AV.val [.c (.sl a0p a0l a0c), .c (.int .i64 a1)]).toArray h R :=
  den_calls hmix Try.func77 (of_decide_eq_true rfl) (by rw [den_spec_At]; exact hw)

def M_spec_Before (a0p : Option PA) (a0l : Nat) (a0c : Nat) (a10 : Int) (a11 : Int) (a20 : Int) (a21 : Int) : M :=
  .alloc ty_impl_Item [.int .i64 (a10), .int .i64 (a11)] fun n0 =>
  .alloc ty_impl_Item [.int .i64 (a20), .int .i64 (a21)] fun n1 =>
  .load (n0, 0) (.int .i64) fun i2 =>
  .load (n1, 0) (.int .i64) fun i3 =>
  .call fn_spec_Rank [.c (.sl (a0p) (a0l) (a0c)), .c (.int .i64 (i2))] false [.c (.int .i64)] fun r4 =>
  .held (n1, 0) (.int .i64 (i3)) <|
  .call fn_spec_Rank [.c (.sl (a0p) (a0l) (a0c)), .c (.int .i64 (i3))] false [.c (.int .i64)] fun r5 =>
  .done .ret [.c (.bool (decide (r4.fst < r5.fst)))]

theorem den_spec_Before (a0p : Option PA) (a0l : Nat) (a0c : Nat) (a10 : Int) (a11 : Int) (a20 : Int) (a21 : Int) : denFn Try.prog Try.f102 [.c (.sl a0p a0l a0c), .agg [.int .i64 a10, .int .i64 a11], .agg [.int .i64 a20, .int .i64 a21]] = M_spec_Before a0p a0l a0c a10 a11 a20 a21 := by kernel_rfl
theorem hc_spec_Before (a0p : Option PA) (a0l : Nat) (a0c : Nat) (a10 : Int) (a11 : Int) (a20 : Int) (a21 : Int) {h : H} {R : Value → H → Prop} (hw : wp Try.prog (M_spec_Before a0p a0l a0c a10 a11 a20 a21) (Ret R) h) : HC Try.prog fn_spec_Before (List.map AV.val [.c (.sl a0p a0l a0c), .agg [.int .i64 a10, .int .i64 a11], .agg [.int .i64 a20, .int .i64 a21]]).toArray h R :=
  den_calls hmix Try.func102 (of_decide_eq_true rfl) (by rw [den_spec_Before]; exact hw)

def M_spec_Cut (a0p : Option PA) (a0l : Nat) (a0c : Nat) (a1 : Int) : M :=
  .alloc ty_impl_Found [.int .i64 (0), .int .i64 (0), .ff] fun n0 =>
  .bind none (.ite (decide (a1 < 0))
    (.done .normal [.c (.tt)])
    (.done .normal [.c (.bool (decide (a1 ≥ (↑a0l : Int))))])) [.c (.bool)] fun x1 =>
  .ite (x1.fst)
  (.store (n0, 0) (.int .i64 (0)) <|
    .store (n0, 1) (.int .i64 (0)) <|
    .store (n0, 2) (.ff) <|
    .load (n0, 0) (.int .i64) fun i2 =>
    .load (n0, 1) (.int .i64) fun i3 =>
    .load (n0, 2) (.bool) fun b4 =>
    .done .ret [.c (.sl (a0p) (a0l) (a0c)), .agg [.int .i64 (i2), .int .i64 (i3), .bool (b4)]])
  (.guard (((0 : Int) ≤ a1) ∧ ((a1 : Int) ≤ (↑a0c : Int))) <|
    .guard (InK IntKind.i64 (a1 + 1)) <|
    .guard (((0 : Int) ≤ a1 + 1) ∧ ((a1 + 1 : Int) ≤ (↑a0l : Int))) <|
    .nonnil (a0p) fun p5 =>
    .guard (((0 : Int) ≤ a1) ∧ ((a1 : Int) < (↑a0l : Int))) <|
    .load (p5.fst, p5.snd + mulN a1.toNat 2) (.int .i64) fun i6 =>
    .load (p5.fst, p5.snd + mulN a1.toNat 2 + 1) (.int .i64) fun i7 =>
    .alloc ty_impl_Item [] fun n8 =>
    .held (p5.fst, p5.snd + mulN a1.toNat 2) (.int .i64 (i6)) <|
    .held (p5.fst, p5.snd + mulN a1.toNat 2 + 1) (.int .i64 (i7)) <|
    .append ty_impl_Item 2 16 [.int .i64 (0), .int .i64 (0)] ((some (n8, 0)), 0, 0) ((slBase a0p a0c 0 2), a1.toNat - 0, a0c - 0) fun s9 =>
    .held (p5.fst, p5.snd + mulN a1.toNat 2) (.int .i64 (i6)) <|
    .held (p5.fst, p5.snd + mulN a1.toNat 2 + 1) (.int .i64 (i7)) <|
    .append ty_impl_Item 2 16 [.int .i64 (0), .int .i64 (0)] ((s9.fst), s9.snd.fst, s9.snd.snd) ((slBase a0p a0c (a1 + 1).toNat 2), a0l - (a1 + 1).toNat, a0c - (a1 + 1).toNat) fun s10 =>
    .held (p5.fst, p5.snd + mulN a1.toNat 2) (.int .i64 (i6)) <|
    .held (p5.fst, p5.snd + mulN a1.toNat 2 + 1) (.int .i64 (i7)) <|
    .store (n0, 0) (.int .i64 (i6)) <|
    .store (n0, 1) (.int .i64 (i7)) <|
    .store (n0, 2) (.tt) <|
    .load (n0, 0) (.int .i64) fun i11 =>
    .load (n0, 1) (.int .i64) fun i12 =>
    .load (n0, 2) (.bool) fun b13 =>
    .done .ret [.c (.sl (s10.fst) (s10.snd.fst) (s10.snd.snd)), .agg [.int .i64 (i11), .int .i64 (i12), .bool (b13)]])

theorem den_spec_Cut (a0p : Option PA) (a0l : Nat) (a0c : Nat) (a1 : Int) : denFn Try.prog Try.f91 [.c (.sl a0p a0l a0c), .c (.int .i64 a1)] = M_spec_Cut a0p a0l a0c a1 := by kernel_rfl
theorem hc_spec_Cut (a0p : Option PA) (a0l : Nat) (a0c : Nat) (a1 : Int) {h : H} {R : Value → H → Prop} (hw : wp Try.prog (M_spec_Cut a0p a0l a0c a1) (Ret R) h) : HC Try.prog fn_spec_Cut (List.map AV.val [.c (.sl a0p a0l a0c), .c (.int .i64 a1)]).toArray h R :=
  den_calls hmix Try.func91 (of_decide_eq_true rfl) (by rw [den_spec_Cut]; exact hw)

def M_spec_First (a0p : Option PA) (a0l : Nat) (a0c : Nat) (a1 : Int) : M :=
  .bind none (.ite (decide (a1 < 1))
    (.done .normal [.c (.tt)])
    (.done .normal [.c (.bool (decide (a1 > (↑a0l : Int))))])) [.c (.bool)] fun x0 =>
  .ite (x0.fst)
  (.done .ret [.c (.sl (a0p) (a0l) (a0c))])
  (.guard (((0 : Int) ≤ a1) ∧ ((a1 : Int) ≤ (↑a0c : Int))) <|
    .done .ret [.c (.sl (slBase a0p a0c 0 2) (a1.toNat - 0) (a0c - 0))])

theorem den_spec_First (a0p : Option PA) (a0l : Nat) (a0c : Nat) (a1 : Int) : denFn Try.prog Try.f81 [.c (.sl a0p a0l a0c), .c (.int .i64 a1)] = M_spec_First a0p a0l a0c a1 := by kernel_rfl
theorem hc_spec_First (a0p : Option PA) (a0l : Nat) (a0c : Nat) (a1 : Int) {h : H} {R : Value → H → Prop} (hw : wp Try.prog (M_spec_First a0p a0l a0c a1) (Ret R) h) : HC Try.prog fn_spec_First (List.map AV.val [.c (.sl a0p a0l a0c), .c (.int .i64 a1)]).toArray h R :=
  den_calls hmix Try.func81 (of_decide_eq_true rfl) (by rw [den_spec_First]; exact hw)

def M_spec_Fits (a0 : Int) : M :=
  .bind none (.ite (a0 == 0)
    (.done .normal [.c (.tt)])
    (.ite (decide (a0 ≥ 2))
      (.done .normal [.c (.bool (decide (a0 ≤ 128)))])
      (.done .normal [.c (.ff)]))) [.c (.bool)] fun x0 =>
  .done .ret [.c (.bool (x0.fst))]

theorem den_spec_Fits (a0 : Int) : denFn Try.prog Try.f16 [.c (.int .i64 a0)] = M_spec_Fits a0 := by kernel_rfl
theorem hc_spec_Fits (a0 : Int) {h : H} {R : Value → H → Prop} (hw : wp Try.prog (M_spec_Fits a0) (Ret R) h) : HC Try.prog fn_spec_Fits (List.map AV.val [.c (.int .i64 a0)]).toArray h R :=
  den_calls hmix Try.func16 (of_decide_eq_true rfl) (by rw [den_spec_Fits]; exact hw)

def M_spec_From (a0p : Option PA) (a0l : Nat) (a0c : Nat) (a1p : Option PA) (a1l : Nat) (a1c : Nat) (a20 : Int) (a21 : Int) : M :=
  .alloc ty_impl_Item [.int .i64 (a20), .int .i64 (a21)] fun n0 =>
  .load (n0, 0) (.int .i64) fun i1 =>
  .load (n0, 1) (.int .i64) fun i2 =>
  .call fn_spec_Place [.c (.sl (a0p) (a0l) (a0c)), .c (.sl (a1p) (a1l) (a1c)), .agg [.int .i64 (i1), .int .i64 (i2)]] true [.c (.int .i64), .c (.bool)] fun r3 =>
  .guard (((0 : Int) ≤ r3.fst) ∧ ((r3.fst : Int) ≤ (↑a1l : Int))) <|
  .done .ret [.c (.sl (slBase a1p a1c (Int.toNat r3.fst) 2) (a1l - Int.toNat r3.fst) (a1c - Int.toNat r3.fst))]

theorem den_spec_From (a0p : Option PA) (a0l : Nat) (a0c : Nat) (a1p : Option PA) (a1l : Nat) (a1c : Nat) (a20 : Int) (a21 : Int) : denFn Try.prog Try.f88 [.c (.sl a0p a0l a0c), .c (.sl a1p a1l a1c), .agg [.int .i64 a20, .int .i64 a21]] = M_spec_From a0p a0l a0c a1p a1l a1c a20 a21 := by kernel_rfl
theorem hc_spec_From (a0p : Option PA) (a0l : Nat) (a0c : Nat) (a1p : Option PA) (a1l : Nat) (a1c : Nat) (a20 : Int) (a21 : Int) {h : H} {R : Value → H → Prop} (hw : wp Try.prog (M_spec_From a0p a0l a0c a1p a1l a1c a20 a21) (Ret R) h) : HC Try.prog fn_spec_From (List.map AV.val [.c (.sl a0p a0l a0c), .c (.sl a1p a1l a1c), .agg [.int .i64 a20, .int .i64 a21]]).toArray h R :=
  den_calls hmix Try.func88 (of_decide_eq_true rfl) (by rw [den_spec_From]; exact hw)

def M_spec_GAscend (a00p : Option PA) (a00l : Nat) (a00c : Nat) (a01 : Int) (a02 : Bool) (a1p : Option PA) (a1l : Nat) (a1c : Nat) (a20 : Int) (a21 : Int) (a3 : Int) : M :=
  .alloc ty_impl_Make [.sl (a00p) (a00l) (a00c), .int .i64 (a01), .bool (a02)] fun n0 =>
  .alloc ty_impl_Item [.int .i64 (a20), .int .i64 (a21)] fun n1 =>
  .load (n0, 0) (.sl) fun s2 =>
  .load (n0, 0) (.sl) fun s3 =>
  .load (n1, 0) (.int .i64) fun i4 =>
  .load (n1, 1) (.int .i64) fun i5 =>
  .call fn_spec_Tree [.c (.sl (s3.fst) (s3.snd.fst) (s3.snd.snd)), .c (.sl (a1p) (a1l) (a1c))] false [.c (.sl)] fun r6 =>
  .held (n1, 0) (.int .i64 (i4)) <|
  .held (n1, 1) (.int .i64 (i5)) <|
  .held (n0, 0) (.sl (s2.fst) (s2.snd.fst) (s2.snd.snd)) <|
  .call fn_spec_From [.c (.sl (s2.fst) (s2.snd.fst) (s2.snd.snd)), .c (.sl (r6.fst.fst) (r6.fst.snd.fst) (r6.fst.snd.snd)), .agg [.int .i64 (i4), .int .i64 (i5)]] false [.c (.sl)] fun r7 =>
  .call fn_spec_First [.c (.sl (r7.fst.fst) (r7.fst.snd.fst) (r7.fst.snd.snd)), .c (.int .i64 (a3))] false [.c (.sl)] fun r8 =>
  .done .ret [.c (.sl (r8.fst.fst) (r8.fst.snd.fst) (r8.fst.snd.snd))]

theorem den_spec_GAscend (a00p : Option PA) (a00l : Nat) (a00c : Nat) (a01 : Int) (a02 : Bool) (a1p : Option PA) (a1l : Nat) (a1c : Nat) (a20 : Int) (a21 : Int) (a3 : Int) : denFn Try.prog Try.f58 [.agg [.sl a00p a00l a00c, .int .i64 a01, .bool a02], .c (.sl a1p a1l a1c), .agg [.int .i64 a20, .int .i64 a21], .c (.int .i64 a3)] = M_spec_GAscend a00p a00l a00c a01 a02 a1p a1l a1c a20 a21 a3 := by kernel_rfl
theorem hc_spec_GAscend (a00p : Option PA) (a00l : Nat) (a00c : Nat) (a01 : Int) (a02 : Bool) (a1p : Option PA) (a1l : Nat) (a1c : Nat) (a20 : Int) (a21 : Int) (a3 : Int) {h : H} {R : Value → H → Prop} (hw : wp Try.prog (M_spec_GAscend a00p a00l a00c a01 a02 a1p a1l a1c a20 a21 a3) (Ret R) h) : HC Try.prog fn_spec_GAscend (List.map AV.val [.agg [.sl a00p a00l a00c, .int .i64 a01, .bool a02], .c (.sl a1p a1l a1c), .agg [.int .i64 a20, .int .i64 a21], .c (.int .i64 a3)]).toArray h R :=
  den_calls hmix Try.func58 (of_decide_eq_true rfl) (by rw [den_spec_GAscend]; exact hw)

def M_spec_GDeleteAt (a00p : Option PA) (a00l : Nat) (a00c : Nat) (a01 : Int) (a02 : Bool) (a1p : Option PA) (a1l : Nat) (a1c : Nat) (a2p : Option PA) (a2l : Nat) (a2c : Nat) : M :=
  .alloc ty_impl_Make [.sl (a00p) (a00l) (a00c), .int .i64 (a01), .bool (a02)] fun n0 =>
  .load (n0, 0) (.sl) fun s1 =>
  .call fn_spec_Tree [.c (.sl (s1.fst) (s1.snd.fst) (s1.snd.snd)), .c (.sl (a1p) (a1l) (a1c))] false [.c (.sl)] fun r2 =>
  .bind (some 0) (.loop [.c (.int .i64), .c (.sl), .c (.sl)] [.c (.int .i64 (0)), .c (.sl none (0) (0)), .c (.sl (r2.fst.fst) (r2.fst.snd.fst) (r2.fst.snd.snd))] fun y3 =>
      .ite (decide (y3.fst < (↑a2l : Int)))
      (.nonnil (a2p) fun p4 =>
        .guard (((0 : Int) ≤ y3.fst) ∧ ((y3.fst : Int) < (↑a2l : Int))) <|
        .load (p4.fst, p4.snd + Int.toNat y3.fst) (.int .i64) fun i5 =>
        .alloc ty_impl_Found [.int .i64 (0), .int .i64 (0), .ff] fun n6 =>
        .call fn_spec_Cut [.c (.sl (y3.snd.snd.fst.fst) (y3.snd.snd.fst.snd.fst) (y3.snd.snd.fst.snd.snd)), .c (.int .i64 (i5))] true [.c (.sl), .agg [.int .i64, .int .i64, .bool]] fun r7 =>
        .store (n6, 0) (.int .i64 (r7.snd.fst.fst)) <|
        .store (n6, 1) (.int .i64 (r7.snd.fst.snd.fst)) <|
        .store (n6, 2) (.bool (r7.snd.fst.snd.snd.fst)) <|
        .load (n6, 0) (.int .i64) fun i8 =>
        .load (n6, 1) (.int .i64) fun i9 =>
        .load (n6, 2) (.bool) fun b10 =>
        .alloc ty_impl_Found [.int .i64 (i8), .int .i64 (i9), .bool (b10)] fun n11 =>
        .append ty_impl_Found 3 24 [.int .i64 (0), .int .i64 (0), .ff] ((y3.snd.fst.fst), y3.snd.fst.snd.fst, y3.snd.fst.snd.snd) ((some (n11, 0)), 1, 1) fun s12 =>
        .guard (InK IntKind.i64 (y3.fst + 1)) <|
        .done .normal [.c (.int .i64 (y3.fst + 1)), .c (.sl (s12.fst) (s12.snd.fst) (s12.snd.snd)), .c (.sl (r7.fst.fst) (r7.fst.snd.fst) (r7.fst.snd.snd))])
      (.done (.exit 0) [.c (.sl (y3.snd.fst.fst) (y3.snd.fst.snd.fst) (y3.snd.fst.snd.snd)), .c (.sl (y3.snd.snd.fst.fst) (y3.snd.snd.fst.snd.fst) (y3.snd.snd.fst.snd.snd))])) [.c (.sl), .c (.sl)] fun x13 =>
  .done .ret [.c (.sl (x13.fst.fst) (x13.fst.snd.fst) (x13.fst.snd.snd)), .c (.sl (x13.snd.fst.fst) (x13.snd.fst.snd.fst) (x13.snd.fst.snd.snd))]

theorem den_spec_GDeleteAt (a00p : Option PA) (a00l : Nat) (a00c : Nat) (a01 : Int) (a02 : Bool) (a1p : Option PA) (a1l : Nat) (a1c : Nat) (a2p : Option PA) (a2l : Nat) (a2c : Nat) : denFn Try.prog Try.f62 [.agg [.sl a00p a00l a00c, .int .i64 a01, .bool a02], .c (.sl a1p a1l a1c), .c (.sl a2p a2l a2c)] = M_spec_GDeleteAt a00p a00l a00c a01 a02 a1p a1l a1c a2p a2l a2c := by kernel_rfl
theorem hc_spec_GDeleteAt (a00p : Option PA) (a00l : Nat) (a00c : Nat) (a01 : Int) (a02 : Bool) (a1p : Option PA) (a1l : Nat) (a1c : Nat) (a2p : Option PA) (a2l : Nat) (a2c : Nat) {h : H} {R : Value → H → Prop} (hw : wp Try.prog (M_spec_GDeleteAt a00p a00l a00c a01 a02 a1p a1l a1c a2p a2l a2c) (Ret R) h) : HC Try.prog fn_spec_GDeleteAt (List.map AV.val [.agg [.sl a00p a00l a00c, .int .i64 a01, .bool a02], .c (.sl a1p a1l a1c), .c (.sl a2p a2l a2c)]).toArray h R :=
  den_calls hmix Try.func62 (of_decide_eq_true rfl) (by rw [den_spec_GDeleteAt]; exact hw)

def M_spec_GGet (a00p : Option PA) (a00l : Nat) (a00c : Nat) (a01 : Int) (a02 : Bool) (a1p : Option PA) (a1l : Nat) (a1c : Nat) (a2p : Option PA) (a2l : Nat) (a2c : Nat) : M :=
  .alloc ty_impl_Make [.sl (a00p) (a00l) (a00c), .int .i64 (a01), .bool (a02)] fun n0 =>
  .load (n0, 0) (.sl) fun s1 =>
  .call fn_spec_Tree [.c (.sl (s1.fst) (s1.snd.fst) (s1.snd.snd)), .c (.sl (a1p) (a1l) (a1c))] false [.c (.sl)] fun r2 =>
  .bind (some 0) (.loop [.c (.int .i64), .c (.sl)] [.c (.int .i64 (0)), .c (.sl none (0) (0))] fun y3 =>
      .ite (decide (y3.fst < (↑a2l : Int)))
      (.nonnil (a2p) fun p4 =>
        .guard (((0 : Int) ≤ y3.fst) ∧ ((y3.fst : Int) < (↑a2l : Int))) <|
        .load (p4.fst, p4.snd + mulN (Int.toNat y3.fst) 2) (.int .i64) fun i5 =>
        .load (p4.fst, p4.snd + mulN (Int.toNat y3.fst) 2 + 1) (.int .i64) fun i6 =>
        .alloc ty_impl_Item [.int .i64 (0), .int .i64 (0)] fun n7 =>
        .store (n7, 0) (.int .i64 (i5)) <|
        .store (n7, 1) (.int .i64 (i6)) <|
        .alloc ty_impl_Found [.int .i64 (0), .int .i64 (0), .ff] fun n8 =>
        .store (n8, 0) (.int .i64 (0)) <|
        .store (n8, 1) (.int .i64 (0)) <|
        .store (n8, 2) (.ff) <|
        .load (n0, 0) (.sl) fun s9 =>
        .load (n7, 0) (.int .i64) fun i10 =>
        .load (n7, 1) (.int .i64) fun i11 =>
        .call fn_spec_Place [.c (.sl (s9.fst) (s9.snd.fst) (s9.snd.snd)), .c (.sl (r2.fst.fst) (r2.fst.snd.fst) (r2.fst.snd.snd)), .agg [.int .i64 (i10), .int .i64 (i11)]] true [.c (.int .i64), .c (.bool)] fun r12 =>
        .bind none (.ite (r12.snd.fst)
          (.call fn_spec_At [.c (.sl (r2.fst.fst) (r2.fst.snd.fst) (r2.fst.snd.snd)), .c (.int .i64 (r12.fst))] false [.agg [.int .i64, .int .i64, .bool]] fun r13 =>
            .store (n8, 0) (.int .i64 (r13.fst.fst)) <|
            .store (n8, 1) (.int .i64 (r13.fst.snd.fst)) <|
            .store (n8, 2) (.bool (r13.fst.snd.snd.fst)) <|
            .done .normal [])
          (.done .normal [])) [] fun x14 =>
        .load (n8, 0) (.int .i64) fun i15 =>
        .load (n8, 1) (.int .i64) fun i16 =>
        .load (n8, 2) (.bool) fun b17 =>
        .alloc ty_impl_Found [.int .i64 (i15), .int .i64 (i16), .bool (b17)] fun n18 =>
        .append ty_impl_Found 3 24 [.int .i64 (0), .int .i64 (0), .ff] ((y3.snd.fst.fst), y3.snd.fst.snd.fst, y3.snd.fst.snd.snd) ((some (n18, 0)), 1, 1) fun s19 =>
        .guard (InK IntKind.i64 (y3.fst + 1)) <|
        .done .normal [.c (.int .i64 (y3.fst + 1)), .c (.sl (s19.fst) (s19.snd.fst) (s19.snd.snd))])
      (.done (.exit 0) [.c (.sl (y3.snd.fst.fst) (y3.snd.fst.snd.fst) (y3.snd.fst.snd.snd))])) [.c (.sl)] fun x20 =>
  .done .ret [.c (.sl (x20.fst.fst) (x20.fst.snd.fst) (x20.fst.snd.snd))]

theorem den_spec_GGet (a00p : Option PA) (a00l : Nat) (a00c : Nat) (a01 : Int) (a02 : Bool) (a1p : Option PA) (a1l : Nat) (a1c : Nat) (a2p : Option PA) (a2l : Nat) (a2c : Nat) : denFn Try.prog Try.f49 [.agg [.sl a00p a00l a00c, .int .i64 a01, .bool a02], .c (.sl a1p a1l a1c), .c (.sl a2p a2l a2c)] = M_spec_GGet a00p a00l a00c a01 a02 a1p a1l a1c a2p a2l a2c := by kernel_rfl
theorem hc_spec_GGet (a00p : Option PA) (a00l : Nat) (a00c : Nat) (a01 : Int) (a02 : Bool) (a1p : Option PA) (a1l : Nat) (a1c : Nat) (a2p : Option PA) (a2l : Nat) (a2c : Nat) {h : H} {R : Value → H → Prop} (hw : wp Try.prog (M_spec_GGet a00p a00l a00c a01 a02 a1p a1l a1c a2p a2l a2c) (Ret R) h) : HC Try.prog fn_spec_GGet (List.map AV.val [.agg [.sl a00p a00l a00c, .int .i64 a01, .bool a02], .c (.sl a1p a1l a1c), .c (.sl a2p a2l a2c)]).toArray h R :=
  den_calls hmix Try.func49 (of_decide_eq_true rfl) (by rw [den_spec_GGet]; exact hw)

def M_spec_GMax (a00p : Option PA) (a00l : Nat) (a00c : Nat) (a01 : Int) (a02 : Bool) (a1p : Option PA) (a1l : Nat) (a1c : Nat) : M :=
  .alloc ty_impl_Make [.sl (a00p) (a00l) (a00c), .int .i64 (a01), .bool (a02)] fun n0 =>
  .alloc ty_impl_Found [.int .i64 (0), .int .i64 (0), .ff] fun n1 =>
  .load (n0, 0) (.sl) fun s2 =>
  .call fn_spec_Tree [.c (.sl (s2.fst) (s2.snd.fst) (s2.snd.snd)), .c (.sl (a1p) (a1l) (a1c))] false [.c (.sl)] fun r3 =>
  .guard (InK IntKind.i64 ((↑r3.fst.snd.fst : Int) - 1)) <|
  .call fn_spec_At [.c (.sl (r3.fst.fst) (r3.fst.snd.fst) (r3.fst.snd.snd)), .c (.int .i64 ((↑r3.fst.snd.fst : Int) - 1))] false [.agg [.int .i64, .int .i64, .bool]] fun r4 =>
  .store (n1, 0) (.int .i64 (r4.fst.fst)) <|
  .store (n1, 1) (.int .i64 (r4.fst.snd.fst)) <|
  .store (n1, 2) (.bool (r4.fst.snd.snd.fst)) <|
  .load (n1, 0) (.int .i64) fun i5 =>
  .load (n1, 1) (.int .i64) fun i6 =>
  .load (n1, 2) (.bool) fun b7 =>
  .done .ret [.agg [.int .i64 (i5), .int .i64 (i6), .bool (b7)]]

theorem den_spec_GMax (a00p : Option PA) (a00l : Nat) (a00c : Nat) (a01 : Int) (a02 : Bool) (a1p : Option PA) (a1l : Nat) (a1c : Nat) : denFn Try.prog Try.f44 [.agg [.sl a00p a00l a00c, .int .i64 a01, .bool a02], .c (.sl a1p a1l a1c)] = M_spec_GMax a00p a00l a00c a01 a02 a1p a1l a1c := by kernel_rfl
theorem hc_spec_GMax (a00p : Option PA) (a00l : Nat) (a00c : Nat) (a01 : Int) (a02 : Bool) (a1p : Option PA) (a1l : Nat) (a1c : Nat) {h : H} {R : Value → H → Prop} (hw : wp Try.prog (M_spec_GMax a00p a00l a00c a01 a02 a1p a1l a1c) (Ret R) h) : HC Try.prog fn_spec_GMax (List.map AV.val [.agg [.sl a00p a00l a00c, .int .i64 a01, .bool a02], .c (.sl a1p a1l a1c)]).toArray h R :=
  den_calls hmix Try.func44 (of_decide_eq_true rfl) (by rw [den_spec_GMax]; exact hw)

def M_spec_GScan (a00p : Option PA) (a00l : Nat) (a00c : Nat) (a01 : Int) (a02 : Bool) (a1p : Option PA) (a1l : Nat) (a1c : Nat) (a2 : Int) : M :=
  .alloc ty_impl_Make [.sl (a00p) (a00l) (a00c), .int .i64 (a01), .bool (a02)] fun n0 =>
  .load (n0, 0) (.sl) fun s1 =>
  .call fn_spec_Tree [.c (.sl (s1.fst) (s1.snd.fst) (s1.snd.snd)), .c (.sl (a1p) (a1l) (a1c))] false [.c (.sl)] fun r2 =>
  .call fn_spec_First [.c (.sl (r2.fst.fst) (r2.fst.snd.fst) (r2.fst.snd.snd)), .c (.int .i64 (a2))] false [.c (.sl)] fun r3 =>
  .done .ret [.c (.sl (r3.fst.fst) (r3.fst.snd.fst) (r3.fst.snd.snd))]

theorem den_spec_GScan (a00p : Option PA) (a00l : Nat) (a00c : Nat) (a01 : Int) (a02 : Bool) (a1p : Option PA) (a1l : Nat) (a1c : Nat) (a2 : Int) : denFn Try.prog Try.f52 [.agg [.sl a00p a00l a00c, .int .i64 a01, .bool a02], .c (.sl a1p a1l a1c), .c (.int .i64 a2)] = M_spec_GScan a00p a00l a00c a01 a02 a1p a1l a1c a2 := by kernel_rfl
theorem hc_spec_GScan (a00p : Option PA) (a00l : Nat) (a00c : Nat) (a01 : Int) (a02 : Bool) (a1p : Option PA) (a1l : Nat) (a1c : Nat) (a2 : Int) {h : H} {R : Value → H → Prop} (hw : wp Try.prog (M_spec_GScan a00p a00l a00c a01 a02 a1p a1l a1c a2) (Ret R) h) : HC Try.prog fn_spec_GScan (List.map AV.val [.agg [.sl a00p a00l a00c, .int .i64 a01, .bool a02], .c (.sl a1p a1l a1c), .c (.int .i64 a2)]).toArray h R :=
  den_calls hmix Try.func52 (of_decide_eq_true rfl) (by rw [den_spec_GScan]; exact hw)

def M_spec_Items (a0p : Option PA) (a0l : Nat) (a0c : Nat) : M :=
  .bind (some 0) (.loop [.c (.int .i64), .c (.sl)] [.c (.int .i64 (0)), .c (.sl none (0) (0))] fun y0 =>
      .ite (decide (y0.fst < (↑a0l : Int)))
      (.nonnil (a0p) fun p1 =>
        .guard (((0 : Int) ≤ y0.fst) ∧ ((y0.fst : Int) < (↑a0l : Int))) <|
        .load (p1.fst, p1.snd + Int.toNat y0.fst) (.int .i64) fun i2 =>
        .alloc ty_impl_Item [.int .i64 (i2), .int .i64 (0)] fun n3 =>
        .append ty_impl_Item 2 16 [.int .i64 (0), .int .i64 (0)] ((y0.snd.fst.fst), y0.snd.fst.snd.fst, y0.snd.fst.snd.snd) ((some (n3, 0)), 1, 1) fun s4 =>
        .guard (InK IntKind.i64 (y0.fst + 1)) <|
        .done .normal [.c (.int .i64 (y0.fst + 1)), .c (.sl (s4.fst) (s4.snd.fst) (s4.snd.snd))])
      (.done (.exit 0) [.c (.sl (y0.snd.fst.fst) (y0.snd.fst.snd.fst) (y0.snd.fst.snd.snd))])) [.c (.sl)] fun x5 =>
  .done .ret [.c (.sl (x5.fst.fst) (x5.fst.snd.fst) (x5.fst.snd.snd))]

theorem den_spec_Items (a0p : Option PA) (a0l : Nat) (a0c : Nat) : denFn Try.prog Try.f50 [.c (.sl a0p a0l a0c)] = M_spec_Items a0p a0l a0c := by kernel_rfl
theorem hc_spec_Items (a0p : Option PA) (a0l : Nat) (a0c : Nat) {h : H} {R : Value → H → Prop} (hw : wp Try.prog (M_spec_Items a0p a0l a0c) (Ret R) h) : HC Try.prog fn_spec_Items (List.map AV.val [.c (.sl a0p a0l a0c)]).toArray h R :=
  den_calls hmix Try.func50 (of_decide_eq_true rfl) (by rw [den_spec_Items]; exact hw)

def M_spec_Iter (a0p : Option PA) (a0l : Nat) (a0c : Nat) (a1p : Option PA) (a1l : Nat) (a1c : Nat) (a2p : Option PA) (a2l : Nat) (a2c : Nat) : M :=
  .bind (some 0) (.loop [.c (.int .i64), .c (.sl), .c (.sl), .c (.int .i64)] [.c (.int .i64 (0)), .c (.sl none (0) (0)), .c (.sl none (0) (0)), .c (.int .i64 (-1))] fun y0 =>
      .ite (decide (y0.fst < (↑a2l : Int)))
      (.nonnil (a2p) fun p1 =>
        .guard (((0 : Int) ≤ y0.fst) ∧ ((y0.fst : Int) < (↑a2l : Int))) <|
        .load (p1.fst, p1.snd + mulN (Int.toNat y0.fst) 3) (.int .i64) fun i2 =>
        .load (p1.fst, p1.snd + mulN (Int.toNat y0.fst) 3 + 1) (.int .i64) fun i3 =>
        .load (p1.fst, p1.snd + mulN (Int.toNat y0.fst) 3 + 2) (.int .i64) fun i4 =>
        .alloc ty_impl_Move [.int .i64 (0), .int .i64 (0), .int .i64 (0)] fun n5 =>
        .store (n5, 0) (.int .i64 (i2)) <|
        .store (n5, 1) (.int .i64 (i3)) <|
        .store (n5, 2) (.int .i64 (i4)) <|
        .load (n5, 0) (.int .i64) fun i6 =>
        .bind none (.ite (i6 == 2)
          (.done .normal [.c (.bool (i6 == 2))])
          (.done .normal [.c (.bool (i6 == 3))])) [.c (.bool)] fun x7 =>
        .bind none (.ite (x7.fst)
          (.bind none (.ite (decide (y0.snd.snd.snd.fst ≥ 0))
              (.done .normal [.c (.tt)])
              (.done .normal [.c (.bool ((↑a1l : Int) == 0))])) [.c (.bool)] fun x8 =>
            .bind none (.ite (decide (y0.snd.snd.snd.fst ≥ 0))
              (.load (n5, 0) (.int .i64) fun i9 =>
                .done .normal [.c (.bool (i9 == 2))])
              (.done .normal [.c (.ff)])) [.c (.bool)] fun x10 =>
            .bind none (.ite (x10.fst)
              (.guard (InK IntKind.i64 (y0.snd.snd.snd.fst + 1)) <|
                .done .normal [.c (.int .i64 (y0.snd.snd.snd.fst + 1))])
              (.bind none (.ite (decide (y0.snd.snd.snd.fst ≥ 0))
                  (.guard (InK IntKind.i64 (y0.snd.snd.snd.fst - 1)) <|
                    .done .normal [.c (.int .i64 (y0.snd.snd.snd.fst - 1))])
                  (.done .normal [.c (.int .i64 (y0.snd.snd.snd.fst))])) [.c (.int .i64)] fun x11 =>
                .done .normal [.c (.int .i64 (x11.fst))])) [.c (.int .i64)] fun x12 =>
            .done .normal [.c (.int .i64 (x12.fst)), .c (.bool (x8.fst))])
          (.bind none (.ite (i6 == 1)
              (.guard (InK IntKind.i64 ((↑a1l : Int) - 1)) <|
                .done .normal [.c (.int .i64 ((↑a1l : Int) - 1))])
              (.bind none (.ite (i6 == 4)
                  (.done .normal [.c (.bool (i6 == 4))])
                  (.done .normal [.c (.bool (i6 == 5))])) [.c (.bool)] fun x13 =>
                .bind none (.ite (x13.fst)
                  (.load (n5, 1) (.int .i64) fun i14 =>
                    .load (n5, 2) (.int .i64) fun i15 =>
                    .call fn_spec_Place [.c (.sl (a0p) (a0l) (a0c)), .c (.sl (a1p) (a1l) (a1c)), .agg [.int .i64 (i14), .int .i64 (i15)]] true [.c (.int .i64), .c (.bool)] fun r16 =>
                    .done .normal [.c (.int .i64 (r16.fst))])
                  (.done .normal [.c (.int .i64 (0))])) [.c (.int .i64)] fun x17 =>
                .done .normal [.c (.int .i64 (x17.fst))])) [.c (.int .i64)] fun x18 =>
            .done .normal [.c (.int .i64 (x18.fst)), .c (.tt)])) [.c (.int .i64), .c (.bool)] fun x19 =>
        .call fn_spec_At [.c (.sl (a1p) (a1l) (a1c)), .c (.int .i64 (x19.fst))] false [.agg [.int .i64, .int .i64, .bool]] fun r20 =>
        .alloc ty_impl_Found [.int .i64 (0), .int .i64 (0), .ff] fun n21 =>
        .store (n21, 0) (.int .i64 (r20.fst.fst)) <|
        .store (n21, 1) (.int .i64 (r20.fst.snd.fst)) <|
        .store (n21, 2) (.bool (r20.fst.snd.snd.fst)) <|
        .load (n21, 2) (.bool) fun b22 =>
        .bind none (.ite (!b22)
          (.done .normal [.c (.int .i64 (-1))])
          (.done .normal [.c (.int .i64 (x19.fst))])) [.c (.int .i64)] fun x23 =>
        .load (n21, 0) (.int .i64) fun i24 =>
        .load (n21, 1) (.int .i64) fun i25 =>
        .load (n21, 2) (.bool) fun b26 =>
        .alloc ty_impl_Found [.int .i64 (i24), .int .i64 (i25), .bool (b26)] fun n27 =>
        .append ty_impl_Found 3 24 [.int .i64 (0), .int .i64 (0), .ff] ((y0.snd.snd.fst.fst), y0.snd.snd.fst.snd.fst, y0.snd.snd.fst.snd.snd) ((some (n27, 0)), 1, 1) fun s28 =>
        .alloc ty_bool [.bool (x19.snd.fst)] fun n29 =>
        .append ty_bool 1 1 [.ff] ((y0.snd.fst.fst), y0.snd.fst.snd.fst, y0.snd.fst.snd.snd) ((some (n29, 0)), 1, 1) fun s30 =>
        .guard (InK IntKind.i64 (y0.fst + 1)) <|
        .done .normal [.c (.int .i64 (y0.fst + 1)), .c (.sl (s30.fst) (s30.snd.fst) (s30.snd.snd)), .c (.sl (s28.fst) (s28.snd.fst) (s28.snd.snd)), .c (.int .i64 (x23.fst))])
      (.done (.exit 0) [.c (.sl (y0.snd.fst.fst) (y0.snd.fst.snd.fst) (y0.snd.fst.snd.snd)), .c (.sl (y0.snd.snd.fst.fst) (y0.snd.snd.fst.snd.fst) (y0.snd.snd.fst.snd.snd))])) [.c (.sl), .c (.sl)] fun x31 =>
  .done .ret [.c (.sl (x31.snd.fst.fst) (x31.snd.fst.snd.fst) (x31.snd.fst.snd.snd)), .c (.sl (x31.fst.fst) (x31.fst.snd.fst) (x31.fst.snd.snd))]

theorem den_spec_Iter (a0p : Option PA) (a0l : Nat) (a0c : Nat) (a1p : Option PA) (a1l : Nat) (a1c : Nat) (a2p : Option PA) (a2l : Nat) (a2c : Nat) : denFn Try.prog Try.f60 [.c (.sl a0p a0l a0c), .c (.sl a1p a1l a1c), .c (.sl a2p a2l a2c)] = M_spec_Iter a0p a0l a0c a1p a1l a1c a2p a2l a2c := by kernel_rfl
theorem hc_spec_Iter (a0p : Option PA) (a0l : Nat) (a0c : Nat) (a1p : Option PA) (a1l : Nat) (a1c : Nat) (a2p : Option PA) (a2l : Nat) (a2c : Nat) {h : H} {R : Value → H → Prop} (hw : wp Try.prog (M_spec_Iter a0p a0l a0c a1p a1l a1c a2p a2l a2c) (Ret R) h) : HC Try.prog fn_spec_Iter (List.map AV.val [.c (.sl a0p a0l a0c), .c (.sl a1p a1l a1c), .c (.sl a2p a2l a2c)]).toArray h R :=
  den_calls hmix Try.func60 (of_decide_eq_true rfl) (by rw [den_spec_Iter]; exact hw)

def M_spec_Place (a0p : Option PA) (a0l : Nat) (a0c : Nat) (a1p : Option PA) (a1l : Nat) (a1c : Nat) (a20 : Int) (a21 : Int) : M :=
  .alloc ty_impl_Item [.int .i64 (a20), .int .i64 (a21)] fun n0 =>
  .bind (some 0) (.loop [.c (.int .i64)] [.c (.int .i64 (0))] fun y1 =>
      .bind none (.ite (decide (y1.fst < (↑a1l : Int)))
        (.nonnil (a1p) fun p2 =>
          .guard (((0 : Int) ≤ y1.fst) ∧ ((y1.fst : Int) < (↑a1l : Int))) <|
          .load (p2.fst, p2.snd + mulN (Int.toNat y1.fst) 2) (.int .i64) fun i3 =>
          .load (p2.fst, p2.snd + mulN (Int.toNat y1.fst) 2 + 1) (.int .i64) fun i4 =>
          .load (n0, 0) (.int .i64) fun i5 =>
          .load (n0, 1) (.int .i64) fun i6 =>
          .call fn_spec_Before [.c (.sl (a0p) (a0l) (a0c)), .agg [.int .i64 (i3), .int .i64 (i4)], .agg [.int .i64 (i5), .int .i64 (i6)]] false [.c (.bool)] fun r7 =>
          .done .normal [.c (.bool (r7.fst))])
        (.done .normal [.c (.ff)])) [.c (.bool)] fun x8 =>
      .ite (x8.fst)
      (.guard (InK IntKind.i64 (y1.fst + 1)) <|
        .done .normal [.c (.int .i64 (y1.fst + 1))])
      (.done (.exit 0) [.c (.int .i64 (y1.fst))])) [.c (.int .i64)] fun x9 =>
  .bind none (.ite (decide (x9.fst < (↑a1l : Int)))
    (.load (n0, 0) (.int .i64) fun i10 =>
      .load (n0, 1) (.int .i64) fun i11 =>
      .nonnil (a1p) fun p12 =>
      .guard (((0 : Int) ≤ x9.fst) ∧ ((x9.fst : Int) < (↑a1l : Int))) <|
      .load (p12.fst, p12.snd + mulN (Int.toNat x9.fst) 2) (.int .i64) fun i13 =>
      .load (p12.fst, p12.snd + mulN (Int.toNat x9.fst) 2 + 1) (.int .i64) fun i14 =>
      .call fn_spec_Before [.c (.sl (a0p) (a0l) (a0c)), .agg [.int .i64 (i10), .int .i64 (i11)], .agg [.int .i64 (i13), .int .i64 (i14)]] false [.c (.bool)] fun r15 =>
      .done .normal [.c (.bool (!r15.fst)), .c (.int .i64 (x9.fst))])
    (.done .normal [.c (.ff), .c (.int .i64 (x9.fst))])) [.c (.bool), .c (.int .i64)] fun x16 =>
  .done .ret [.c (.int .i64 (x16.snd.fst)), .c (.bool (x16.fst))]

theorem den_spec_Place (a0p : Option PA) (a0l : Nat) (a0c : Nat) (a1p : Option PA) (a1l : Nat) (a1c : Nat) (a20 : Int) (a21 : Int) : denFn Try.prog Try.f80 [.c (.sl a0p a0l a0c), .c (.sl a1p a1l a1c), .agg [.int .i64 a20, .int .i64 a21]] = M_spec_Place a0p a0l a0c a1p a1l a1c a20 a21 := by kernel_rfl
theorem hc_spec_Place (a0p : Option PA) (a0l : Nat) (a0c : Nat) (a1p : Option PA) (a1l : Nat) (a1c : Nat) (a20 : Int) (a21 : Int) {h : H} {R : Value → H → Prop} (hw : wp Try.prog (M_spec_Place a0p a0l a0c a1p a1l a1c a20 a21) (Ret R) h) : HC Try.prog fn_spec_Place (List.map AV.val [.c (.sl a0p a0l a0c), .c (.sl a1p a1l a1c), .agg [.int .i64 a20, .int .i64 a21]]).toArray h R :=
  den_calls hmix Try.func80 (of_decide_eq_true rfl) (by rw [den_spec_Place]; exact hw)

def M_spec_Put (a0p : Option PA) (a0l : Nat) (a0c : Nat) (a1p : Option PA) (a1l : Nat) (a1c : Nat) (a20 : Int) (a21 : Int) : M :=
  .alloc ty_impl_Item [.int .i64 (a20), .int .i64 (a21)] fun n0 =>
  .alloc ty_impl_Found [.int .i64 (0), .int .i64 (0), .ff] fun n1 =>
  .load (n0, 0) (.int .i64) fun i2 =>
  .load (n0, 1) (.int .i64) fun i3 =>
  .call fn_spec_Place [.c (.sl (a0p) (a0l) (a0c)), .c (.sl (a1p) (a1l) (a1c)), .agg [.int .i64 (i2), .int .i64 (i3)]] true [.c (.int .i64), .c (.bool)] fun r4 =>
  .alloc ty_impl_Item [] fun n5 =>
  .guard (((0 : Int) ≤ r4.fst) ∧ ((r4.fst : Int) ≤ (↑a1c : Int))) <|
  .append ty_impl_Item 2 16 [.int .i64 (0), .int .i64 (0)] ((some (n5, 0)), 0, 0) ((slBase a1p a1c 0 2), Int.toNat r4.fst - 0, a1c - 0) fun s6 =>
  .load (n0, 0) (.int .i64) fun i7 =>
  .load (n0, 1) (.int .i64) fun i8 =>
  .alloc ty_impl_Item [.int .i64 (i7), .int .i64 (i8)] fun n9 =>
  .append ty_impl_Item 2 16 [.int .i64 (0), .int .i64 (0)] ((s6.fst), s6.snd.fst, s6.snd.snd) ((some (n9, 0)), 1, 1) fun s10 =>
  .ite (r4.snd.fst)
  (.guard (InK IntKind.i64 (r4.fst + 1)) <|
    .guard (((0 : Int) ≤ r4.fst + 1) ∧ ((r4.fst + 1 : Int) ≤ (↑a1l : Int))) <|
    .nonnil (a1p) fun p11 =>
    .guard (((0 : Int) ≤ r4.fst) ∧ ((r4.fst : Int) < (↑a1l : Int))) <|
    .load (p11.fst, p11.snd + mulN (Int.toNat r4.fst) 2) (.int .i64) fun i12 =>
    .load (p11.fst, p11.snd + mulN (Int.toNat r4.fst) 2 + 1) (.int .i64) fun i13 =>
    .append ty_impl_Item 2 16 [.int .i64 (0), .int .i64 (0)] ((s10.fst), s10.snd.fst, s10.snd.snd) ((slBase a1p a1c (r4.fst + 1).toNat 2), a1l - (r4.fst + 1).toNat, a1c - (r4.fst + 1).toNat) fun s14 =>
    .held (p11.fst, p11.snd + mulN (Int.toNat r4.fst) 2) (.int .i64 (i12)) <|
    .held (p11.fst, p11.snd + mulN (Int.toNat r4.fst) 2 + 1) (.int .i64 (i13)) <|
    .store (n1, 0) (.int .i64 (i12)) <|
    .store (n1, 1) (.int .i64 (i13)) <|
    .store (n1, 2) (.tt) <|
    .load (n1, 0) (.int .i64) fun i15 =>
    .load (n1, 1) (.int .i64) fun i16 =>
    .load (n1, 2) (.bool) fun b17 =>
    .done .ret [.c (.sl (s14.fst) (s14.snd.fst) (s14.snd.snd)), .agg [.int .i64 (i15), .int .i64 (i16), .bool (b17)]])
  (.guard (((0 : Int) ≤ r4.fst) ∧ ((r4.fst : Int) ≤ (↑a1l : Int))) <|
    .append ty_impl_Item 2 16 [.int .i64 (0), .int .i64 (0)] ((s10.fst), s10.snd.fst, s10.snd.snd) ((slBase a1p a1c (Int.toNat r4.fst) 2), a1l - Int.toNat r4.fst, a1c - Int.toNat r4.fst) fun s18 =>
    .store (n1, 0) (.int .i64 (0)) <|
    .store (n1, 1) (.int .i64 (0)) <|
    .store (n1, 2) (.ff) <|
    .load (n1, 0) (.int .i64) fun i19 =>
    .load (n1, 1) (.int .i64) fun i20 =>
    .load (n1, 2) (.bool) fun b21 =>
    .done .ret [.c (.sl (s18.fst) (s18.snd.fst) (s18.snd.snd)), .agg [.int .i64 (i19), .int .i64 (i20), .bool (b21)]])

theorem den_spec_Put (a0p : Option PA) (a0l : Nat) (a0c : Nat) (a1p : Option PA) (a1l : Nat) (a1c : Nat) (a20 : Int) (a21 : Int) : denFn Try.prog Try.f78 [.c (.sl a0p a0l a0c), .c (.sl a1p a1l a1c), .agg [.int .i64 a20, .int .i64 a21]] = M_spec_Put a0p a0l a0c a1p a1l a1c a20 a21 := by kernel_rfl
theorem hc_spec_Put (a0p : Option PA) (a0l : Nat) (a0c : Nat) (a1p : Option PA) (a1l : Nat) (a1c : Nat) (a20 : Int) (a21 : Int) {h : H} {R : Value → H → Prop} (hw : wp Try.prog (M_spec_Put a0p a0l a0c a1p a1l a1c a20 a21) (Ret R) h) : HC Try.prog fn_spec_Put (List.map AV.val [.c (.sl a0p a0l a0c), .c (.sl a1p a1l a1c), .agg [.int .i64 a20, .int .i64 a21]]).toArray h R :=
  den_calls hmix Try.func78 (of_decide_eq_true rfl) (by rw [den_spec_Put]; exact hw)

def M_spec_Rank (a0p : Option PA) (a0l : Nat) (a0c : Nat) (a1 : Int) : M :=
  .ite ((↑a0l : Int) == 0)
  (.done .ret [.c (.int .i64 (a1))])
  (.guard (((↑a0l : Int) : Int) ≠ 0) <|
    .guard (InK IntKind.i64 (a1.tmod (↑a0l : Int) + (↑a0l : Int))) <|
    .guard (((↑a0l : Int) : Int) ≠ 0) <|
    .nonnil (a0p) fun p0 =>
    .guard (((0 : Int) ≤ (a1.tmod (↑a0l : Int) + (↑a0l : Int)).tmod (↑a0l : Int)) ∧ (((a1.tmod (↑a0l : Int) + (↑a0l : Int)).tmod (↑a0l : Int) : Int) < (↑a0l : Int))) <|
    .load (p0.fst, p0.snd + ((a1.tmod (↑a0l : Int) + (↑a0l : Int)).tmod (↑a0l : Int)).toNat) (.int .i64) fun i1 =>
    .done .ret [.c (.int .i64 (i1))])

theorem den_spec_Rank (a0p : Option PA) (a0l : Nat) (a0c : Nat) (a1 : Int) : denFn Try.prog Try.f124 [.c (.sl a0p a0l a0c), .c (.int .i64 a1)] = M_spec_Rank a0p a0l a0c a1 := by kernel_rfl
theorem hc_spec_Rank (a0p : Option PA) (a0l : Nat) (a0c : Nat) (a1 : Int) {h : H} {R : Value → H → Prop} (hw : wp Try.prog (M_spec_Rank a0p a0l a0c a1) (Ret R) h) : HC Try.prog fn_spec_Rank (List.map AV.val [.c (.sl a0p a0l a0c), .c (.int .i64 a1)]).toArray h R :=
  den_calls hmix Try.func124 (of_decide_eq_true rfl) (by rw [den_spec_Rank]; exact hw)

def M_spec_Tree (a0p : Option PA) (a0l : Nat) (a0c : Nat) (a1p : Option PA) (a1l : Nat) (a1c : Nat) : M :=
  .bind (some 0) (.loop [.c (.int .i64), .c (.sl)] [.c (.int .i64 (0)), .c (.sl none (0) (0))] fun y0 =>
      .ite (decide (y0.fst < (↑a1l : Int)))
      (.nonnil (a1p) fun p1 =>
        .guard (((0 : Int) ≤ y0.fst) ∧ ((y0.fst : Int) < (↑a1l : Int))) <|
        .load (p1.fst, p1.snd + mulN (Int.toNat y0.fst) 2) (.int .i64) fun i2 =>
        .load (p1.fst, p1.snd + mulN (Int.toNat y0.fst) 2 + 1) (.int .i64) fun i3 =>
        .alloc ty_impl_Item [.int .i64 (0), .int .i64 (0)] fun n4 =>
        .store (n4, 0) (.int .i64 (i2)) <|
        .store (n4, 1) (.int .i64 (i3)) <|
        .load (n4, 0) (.int .i64) fun i5 =>
        .load (n4, 1) (.int .i64) fun i6 =>
        .call fn_spec_Put [.c (.sl (a0p) (a0l) (a0c)), .c (.sl (y0.snd.fst.fst) (y0.snd.fst.snd.fst) (y0.snd.fst.snd.snd)), .agg [.int .i64 (i5), .int .i64 (i6)]] true [.c (.sl), .agg [.int .i64, .int .i64, .bool]] fun r7 =>
        .guard (InK IntKind.i64 (y0.fst + 1)) <|
        .done .normal [.c (.int .i64 (y0.fst + 1)), .c (.sl (r7.fst.fst) (r7.fst.snd.fst) (r7.fst.snd.snd))])
      (.done (.exit 0) [.c (.sl (y0.snd.fst.fst) (y0.snd.fst.snd.fst) (y0.snd.fst.snd.snd))])) [.c (.sl)] fun x8 =>
  .done .ret [.c (.sl (x8.fst.fst) (x8.fst.snd.fst) (x8.fst.snd.snd))]

theorem den_spec_Tree (a0p : Option PA) (a0l : Nat) (a0c : Nat) (a1p : Option PA) (a1l : Nat) (a1c : Nat) : denFn Try.prog Try.f46 [.c (.sl a0p a0l a0c), .c (.sl a1p a1l a1c)] = M_spec_Tree a0p a0l a0c a1p a1l a1c := by kernel_rfl
theorem hc_spec_Tree (a0p : Option PA) (a0l : Nat) (a0c : Nat) (a1p : Option PA) (a1l : Nat) (a1c : Nat) {h : H} {R : Value → H → Prop} (hw : wp Try.prog (M_spec_Tree a0p a0l a0c a1p a1l a1c) (Ret R) h) : HC Try.prog fn_spec_Tree (List.map AV.val [.c (.sl a0p a0l a0c), .c (.sl a1p a1l a1c)]).toArray h R :=
  den_calls hmix Try.func46 (of_decide_eq_true rfl) (by rw [den_spec_Tree]; exact hw)

def M_spec_Values (a0p : Option PA) (a0l : Nat) (a0c : Nat) : M :=
  .bind (some 0) (.loop [.c (.int .i64), .c (.sl)] [.c (.int .i64 (0)), .c (.sl none (0) (0))] fun y0 =>
      .ite (decide (y0.fst < (↑a0l : Int)))
      (.nonnil (a0p) fun p1 =>
        .guard (((0 : Int) ≤ y0.fst) ∧ ((y0.fst : Int) < (↑a0l : Int))) <|
        .load (p1.fst, p1.snd + mulN (Int.toNat y0.fst) 2) (.int .i64) fun i2 =>
        .load (p1.fst, p1.snd + mulN (Int.toNat y0.fst) 2 + 1) (.int .i64) fun i3 =>
        .alloc ty_impl_Item [.int .i64 (0), .int .i64 (0)] fun n4 =>
        .store (n4, 0) (.int .i64 (i2)) <|
        .store (n4, 1) (.int .i64 (i3)) <|
        .load (n4, 1) (.int .i64) fun i5 =>
        .alloc ty_int [.int .i64 (i5)] fun n6 =>
        .append ty_int 1 8 [.int .i64 (0)] ((y0.snd.fst.fst), y0.snd.fst.snd.fst, y0.snd.fst.snd.snd) ((some (n6, 0)), 1, 1) fun s7 =>
        .guard (InK IntKind.i64 (y0.fst + 1)) <|
        .done .normal [.c (.int .i64 (y0.fst + 1)), .c (.sl (s7.fst) (s7.snd.fst) (s7.snd.snd))])
      (.done (.exit 0) [.c (.sl (y0.snd.fst.fst) (y0.snd.fst.snd.fst) (y0.snd.fst.snd.snd))])) [.c (.sl)] fun x8 =>
  .done .ret [.c (.sl (x8.fst.fst) (x8.fst.snd.fst) (x8.fst.snd.snd))]

theorem den_spec_Values (a0p : Option PA) (a0l : Nat) (a0c : Nat) : denFn Try.prog Try.f45 [.c (.sl a0p a0l a0c)] = M_spec_Values a0p a0l a0c := by kernel_rfl
theorem hc_spec_Values (a0p : Option PA) (a0l : Nat) (a0c : Nat) {h : H} {R : Value → H → Prop} (hw : wp Try.prog (M_spec_Values a0p a0l a0c) (Ret R) h) : HC Try.prog fn_spec_Values (List.map AV.val [.c (.sl a0p a0l a0c)]).toArray h R :=
  den_calls hmix Try.func45 (of_decide_eq_true rfl) (by rw [den_spec_Values]; exact hw)

end Go.Proofs.Ytkhpbcckaenmcaa
