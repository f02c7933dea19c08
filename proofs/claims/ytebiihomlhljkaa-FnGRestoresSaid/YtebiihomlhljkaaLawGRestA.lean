/-
  Items deleted and set again; a script of settings and deletions played. Conditions: none.
-/
import Derived.Test.YtebiihomlhljkaaLawGDelTwo
import Derived.Test.YtebiihomlhljkaaPl
set_option linter.unusedVariables false
set_option linter.unusedSimpArgs false
set_option linter.unusedSectionVars false
set_option maxRecDepth 100000
namespace Go.Proofs.Ytebiihomlhljkaa
open Go
def M_impl_step (a0 : PA) (a10 : Int) (a11 : Int) (a12 : Int) (a13 : Int) (a14 : Int) (a15 : Int) (a16 : Int) (a17 : Bool) (a18 : Bool) (a2 : Option PA) : M :=
  .alloc ty_impl_Step [.int .i64 (a10), .int .i64 (a11), .int .i64 (a12), .int .i64 (a13), .int .i64 (a14), .int .i64 (a15), .int .i64 (a16), .bool (a17), .bool (a18)] fun n0 =>
  .alloc ty_impl_Found [.int .i64 (0), .int .i64 (0), .ff] fun n1 =>
  .alloc ty_impl_Item [.int .i64 (0), .int .i64 (0)] fun n2 =>
  .load (n0, 0) (.int .i64) fun i3 =>
  .bind none (.ite (i3 == 0)
    (.load (n0, 7) (.bool) fun b4 =>
      .bind none (.ite (b4)
        (.load (n0, 2) (.int .i64) fun i5 =>
          .load (n0, 3) (.int .i64) fun i6 =>
          .call fn_tg_SetHint [.c (.addr a0), .agg [.int .i64 (i5), .int .i64 (i6)], .c (.ptr (a2))] true [.agg [.int .i64, .int .i64], .c (.bool)] fun r7 =>
          .store (n2, 0) (.int .i64 (r7.fst.fst)) <|
          .store (n2, 1) (.int .i64 (r7.fst.snd.fst)) <|
          .done .normal [.c (.bool (r7.snd.fst))])
        (.load (n0, 2) (.int .i64) fun i8 =>
          .load (n0, 3) (.int .i64) fun i9 =>
          .call fn_tg_Set [.c (.addr a0), .agg [.int .i64 (i8), .int .i64 (i9)]] true [.agg [.int .i64, .int .i64], .c (.bool)] fun r10 =>
          .store (n2, 0) (.int .i64 (r10.fst.fst)) <|
          .store (n2, 1) (.int .i64 (r10.fst.snd.fst)) <|
          .done .normal [.c (.bool (r10.snd.fst))])) [.c (.bool)] fun x11 =>
      .done .normal [.c (.bool (x11.fst))])
    (.bind none (.ite (i3 == 1)
        (.call fn_tg_Max [.c (.addr a0)] true [.agg [.int .i64, .int .i64], .c (.bool)] fun r12 =>
          .alloc ty_impl_Item [.int .i64 (0), .int .i64 (0)] fun n13 =>
          .store (n13, 0) (.int .i64 (r12.fst.fst)) <|
          .store (n13, 1) (.int .i64 (r12.fst.snd.fst)) <|
          .bind none (.ite (!r12.snd.fst)
            (.done .normal [.c (.tt)])
            (.load (n0, 2) (.int .i64) fun i14 =>
              .load (n0, 3) (.int .i64) fun i15 =>
              .load (n13, 0) (.int .i64) fun i16 =>
              .load (n13, 1) (.int .i64) fun i17 =>
              .call fn_tg_Less [.c (.addr a0), .agg [.int .i64 (i14), .int .i64 (i15)], .agg [.int .i64 (i16), .int .i64 (i17)]] false [.c (.bool)] fun r18 =>
              .done .normal [.c (.bool (!r18.fst))])) [.c (.bool)] fun x19 =>
          .bind none (.ite (x19.fst)
            (.load (n0, 2) (.int .i64) fun i20 =>
              .load (n0, 3) (.int .i64) fun i21 =>
              .call fn_tg_Load [.c (.addr a0), .agg [.int .i64 (i20), .int .i64 (i21)]] true [.agg [.int .i64, .int .i64], .c (.bool)] fun r22 =>
              .store (n2, 0) (.int .i64 (r22.fst.fst)) <|
              .store (n2, 1) (.int .i64 (r22.fst.snd.fst)) <|
              .done .normal [.c (.bool (r22.snd.fst))])
            (.done .normal [.c (.ff)])) [.c (.bool)] fun x23 =>
          .done .normal [.c (.bool (x23.fst))])
        (.bind none (.ite (i3 == 2)
            (.load (n0, 7) (.bool) fun b24 =>
              .bind none (.ite (b24)
                (.load (n0, 2) (.int .i64) fun i25 =>
                  .load (n0, 3) (.int .i64) fun i26 =>
                  .call fn_tg_GetHint [.c (.addr a0), .agg [.int .i64 (i25), .int .i64 (i26)], .c (.ptr (a2))] true [.agg [.int .i64, .int .i64], .c (.bool)] fun r27 =>
                  .store (n2, 0) (.int .i64 (r27.fst.fst)) <|
                  .store (n2, 1) (.int .i64 (r27.fst.snd.fst)) <|
                  .done .normal [.c (.bool (r27.snd.fst))])
                (.load (n0, 2) (.int .i64) fun i28 =>
                  .load (n0, 3) (.int .i64) fun i29 =>
                  .call fn_tg_Get [.c (.addr a0), .agg [.int .i64 (i28), .int .i64 (i29)]] true [.agg [.int .i64, .int .i64], .c (.bool)] fun r30 =>
                  .store (n2, 0) (.int .i64 (r30.fst.fst)) <|
                  .store (n2, 1) (.int .i64 (r30.fst.snd.fst)) <|
                  .done .normal [.c (.bool (r30.snd.fst))])) [.c (.bool)] fun x31 =>
              .done .normal [.c (.bool (x31.fst))])
            (.bind none (.ite (i3 == 3)
                (.load (n0, 7) (.bool) fun b32 =>
                  .bind none (.ite (b32)
                    (.load (n0, 2) (.int .i64) fun i33 =>
                      .load (n0, 3) (.int .i64) fun i34 =>
                      .call fn_tg_DeleteHint [.c (.addr a0), .agg [.int .i64 (i33), .int .i64 (i34)], .c (.ptr (a2))] true [.agg [.int .i64, .int .i64], .c (.bool)] fun r35 =>
                      .store (n2, 0) (.int .i64 (r35.fst.fst)) <|
                      .store (n2, 1) (.int .i64 (r35.fst.snd.fst)) <|
                      .done .normal [.c (.bool (r35.snd.fst))])
                    (.load (n0, 2) (.int .i64) fun i36 =>
                      .load (n0, 3) (.int .i64) fun i37 =>
                      .call fn_tg_Delete [.c (.addr a0), .agg [.int .i64 (i36), .int .i64 (i37)]] true [.agg [.int .i64, .int .i64], .c (.bool)] fun r38 =>
                      .store (n2, 0) (.int .i64 (r38.fst.fst)) <|
                      .store (n2, 1) (.int .i64 (r38.fst.snd.fst)) <|
                      .done .normal [.c (.bool (r38.snd.fst))])) [.c (.bool)] fun x39 =>
                  .done .normal [.c (.bool (x39.fst))])
                (.bind none (.ite (i3 == 4)
                    (.call fn_tg_Min [.c (.addr a0)] true [.agg [.int .i64, .int .i64], .c (.bool)] fun r40 =>
                      .store (n2, 0) (.int .i64 (r40.fst.fst)) <|
                      .store (n2, 1) (.int .i64 (r40.fst.snd.fst)) <|
                      .done .normal [.c (.bool (r40.snd.fst))])
                    (.bind none (.ite (i3 == 5)
                        (.call fn_tg_Max [.c (.addr a0)] true [.agg [.int .i64, .int .i64], .c (.bool)] fun r41 =>
                          .store (n2, 0) (.int .i64 (r41.fst.fst)) <|
                          .store (n2, 1) (.int .i64 (r41.fst.snd.fst)) <|
                          .done .normal [.c (.bool (r41.snd.fst))])
                        (.bind none (.ite (i3 == 6)
                            (.call fn_tg_PopMin [.c (.addr a0)] true [.agg [.int .i64, .int .i64], .c (.bool)] fun r42 =>
                              .store (n2, 0) (.int .i64 (r42.fst.fst)) <|
                              .store (n2, 1) (.int .i64 (r42.fst.snd.fst)) <|
                              .done .normal [.c (.bool (r42.snd.fst))])
                            (.bind none (.ite (i3 == 7)
                                (.call fn_tg_PopMax [.c (.addr a0)] true [.agg [.int .i64, .int .i64], .c (.bool)] fun r43 =>
                                  .store (n2, 0) (.int .i64 (r43.fst.fst)) <|
                                  .store (n2, 1) (.int .i64 (r43.fst.snd.fst)) <|
                                  .done .normal [.c (.bool (r43.snd.fst))])
                                (.bind none (.ite (i3 == 8)
                                    (.load (n0, 6) (.int .i64) fun i44 =>
                                      .call fn_tg_GetAt [.c (.addr a0), .c (.int .i64 (i44))] true [.agg [.int .i64, .int .i64], .c (.bool)] fun r45 =>
                                      .store (n2, 0) (.int .i64 (r45.fst.fst)) <|
                                      .store (n2, 1) (.int .i64 (r45.fst.snd.fst)) <|
                                      .done .normal [.c (.bool (r45.snd.fst))])
                                    (.bind none (.ite (i3 == 9)
                                        (.load (n0, 6) (.int .i64) fun i46 =>
                                          .call fn_tg_DeleteAt [.c (.addr a0), .c (.int .i64 (i46))] true [.agg [.int .i64, .int .i64], .c (.bool)] fun r47 =>
                                          .store (n2, 0) (.int .i64 (r47.fst.fst)) <|
                                          .store (n2, 1) (.int .i64 (r47.fst.snd.fst)) <|
                                          .done .normal [.c (.bool (r47.snd.fst))])
                                        (.ite (i3 == 11)
                                          (.call fn_tg_Clear [.c (.addr a0)] true [] fun r48 =>
                                            .done .normal [.c (.ff)])
                                          (.ite (i3 == 12)
                                            (.load (n0, 2) (.int .i64) fun i49 =>
                                              .load (n0, 3) (.int .i64) fun i50 =>
                                              .load (n0, 4) (.int .i64) fun i51 =>
                                              .load (n0, 5) (.int .i64) fun i52 =>
                                              .load (n0, 8) (.bool) fun b53 =>
                                              .alloc ty_btree_DeleteRangeOptions [.ff, .bool (b53)] fun n54 =>
                                              .call fn_tg_DeleteRange [.c (.addr a0), .agg [.int .i64 (i49), .int .i64 (i50)], .agg [.int .i64 (i51), .int .i64 (i52)], .c (.addr (n54, 0))] false [.agg [.raw, .int .i64, .int .i64, .sl]] fun r55 =>
                                              .alloc ty_btree_List_pub_greenwood_impl_Item [.raw (Value.nilFunc), .int .i64 (0), .int .i64 (0), .sl none (0) (0)] fun n56 =>
                                              .store (n56, 0) (.raw (r55.fst.fst)) <|
                                              .store (n56, 1) (.int .i64 (r55.fst.snd.fst)) <|
                                              .store (n56, 2) (.int .i64 (r55.fst.snd.snd.fst)) <|
                                              .store (n56, 3) (.sl (r55.fst.snd.snd.snd.fst.fst) (r55.fst.snd.snd.snd.fst.snd.fst) (r55.fst.snd.snd.snd.fst.snd.snd)) <|
                                              .call fn_impl_scanned [.c (.addr (n56, 0))] false [.c (.sl)] fun r57 =>
                                              .store (n1, 0) (.int .i64 (0)) <|
                                              .store (n1, 1) (.int .i64 (0)) <|
                                              .store (n1, 2) (.ff) <|
                                              .load (n1, 0) (.int .i64) fun i58 =>
                                              .load (n1, 1) (.int .i64) fun i59 =>
                                              .load (n1, 2) (.bool) fun b60 =>
                                              .done .ret [.agg [.int .i64 (i58), .int .i64 (i59), .bool (b60)], .c (.sl (r57.fst.fst) (r57.fst.snd.fst) (r57.fst.snd.snd))])
                                            (.ite (i3 == 13)
                                              (.call fn_tg_Items [.c (.addr a0)] false [.c (.sl)] fun r61 =>
                                                .store (n1, 0) (.int .i64 (0)) <|
                                                .store (n1, 1) (.int .i64 (0)) <|
                                                .store (n1, 2) (.ff) <|
                                                .load (n1, 0) (.int .i64) fun i62 =>
                                                .load (n1, 1) (.int .i64) fun i63 =>
                                                .load (n1, 2) (.bool) fun b64 =>
                                                .done .ret [.agg [.int .i64 (i62), .int .i64 (i63), .bool (b64)], .c (.sl (r61.fst.fst) (r61.fst.snd.fst) (r61.fst.snd.snd))])
                                              (.load (n0, 0) (.int .i64) fun i65 =>
                                                .load (n0, 1) (.int .i64) fun i66 =>
                                                .load (n0, 2) (.int .i64) fun i67 =>
                                                .load (n0, 3) (.int .i64) fun i68 =>
                                                .load (n0, 4) (.int .i64) fun i69 =>
                                                .load (n0, 5) (.int .i64) fun i70 =>
                                                .load (n0, 6) (.int .i64) fun i71 =>
                                                .load (n0, 7) (.bool) fun b72 =>
                                                .load (n0, 8) (.bool) fun b73 =>
                                                .call fn_impl_handed [.c (.addr a0), .agg [.int .i64 (i65), .int .i64 (i66), .int .i64 (i67), .int .i64 (i68), .int .i64 (i69), .int .i64 (i70), .int .i64 (i71), .bool (b72), .bool (b73)]] false [.c (.sl)] fun r74 =>
                                                .store (n1, 0) (.int .i64 (0)) <|
                                                .store (n1, 1) (.int .i64 (0)) <|
                                                .store (n1, 2) (.ff) <|
                                                .load (n1, 0) (.int .i64) fun i75 =>
                                                .load (n1, 1) (.int .i64) fun i76 =>
                                                .load (n1, 2) (.bool) fun b77 =>
                                                .done .ret [.agg [.int .i64 (i75), .int .i64 (i76), .bool (b77)], .c (.sl (r74.fst.fst) (r74.fst.snd.fst) (r74.fst.snd.snd))]))))) [.c (.bool)] fun x78 =>
                                      .done .normal [.c (.bool (x78.fst))])) [.c (.bool)] fun x79 =>
                                  .done .normal [.c (.bool (x79.fst))])) [.c (.bool)] fun x80 =>
                              .done .normal [.c (.bool (x80.fst))])) [.c (.bool)] fun x81 =>
                          .done .normal [.c (.bool (x81.fst))])) [.c (.bool)] fun x82 =>
                      .done .normal [.c (.bool (x82.fst))])) [.c (.bool)] fun x83 =>
                  .done .normal [.c (.bool (x83.fst))])) [.c (.bool)] fun x84 =>
              .done .normal [.c (.bool (x84.fst))])) [.c (.bool)] fun x85 =>
          .done .normal [.c (.bool (x85.fst))])) [.c (.bool)] fun x86 =>
      .done .normal [.c (.bool (x86.fst))])) [.c (.bool)] fun x87 =>
  .load (n2, 0) (.int .i64) fun i88 =>
  .load (n2, 1) (.int .i64) fun i89 =>
  .call fn_impl_found [.agg [.int .i64 (i88), .int .i64 (i89)], .c (.bool (x87.fst))] false [.agg [.int .i64, .int .i64, .bool]] fun r90 =>
  .store (n1, 0) (.int .i64 (r90.fst.fst)) <|
  .store (n1, 1) (.int .i64 (r90.fst.snd.fst)) <|
  .store (n1, 2) (.bool (r90.fst.snd.snd.fst)) <|
  .load (n1, 0) (.int .i64) fun i91 =>
  .load (n1, 1) (.int .i64) fun i92 =>
  .load (n1, 2) (.bool) fun b93 =>
  .done .ret [.agg [.int .i64 (i91), .int .i64 (i92), .bool (b93)], .c (.sl none (0) (0))]
theorem den_impl_step (a0 : PA) (a10 : Int) (a11 : Int) (a12 : Int) (a13 : Int) (a14 : Int) (a15 : Int) (a16 : Int) (a17 : Bool) (a18 : Bool) (a2 : Option PA) : denFn Try.prog Try.f84 [.c (.addr a0), .agg [.int .i64 a10, .int .i64 a11, .int .i64 a12, .int .i64 a13, .int .i64 a14, .int .i64 a15, .int .i64 a16, .bool a17, .bool a18], .c (.ptr a2)] = M_impl_step a0 a10 a11 a12 a13 a14 a15 a16 a17 a18 a2 := by kernel_rfl
theorem hc_impl_step (a0 : PA) (a10 : Int) (a11 : Int) (a12 : Int) (a13 : Int) (a14 : Int) (a15 : Int) (a16 : Int) (a17 : Bool) (a18 : Bool) (a2 : Option PA) {h : H} {R : Value → H → Prop} (hw : wp Try.prog (M_impl_step a0 a10 a11 a12 a13 a14 a15 a16 a17 a18 a2) (Ret R) h) : HC Try.prog fn_impl_step (List.map AV.val [.c (.addr a0), .agg [.int .i64 a10, .int .i64 a11, .int .i64 a12, .int .i64 a13, .int .i64 a14, .int .i64 a15, .int .i64 a16, .bool a17, .bool a18], .c (.ptr a2)]).toArray h R :=
  den_calls hmix Try.func84 (of_decide_eq_true rfl) (by rw [den_impl_step]; exact hw)
def M_impl_play (a00p : Option PA) (a00l : Nat) (a00c : Nat) (a01 : Int) (a02 : Bool) (a1p : Option PA) (a1l : Nat) (a1c : Nat) : M :=
  .alloc ty_impl_Make [.sl (a00p) (a00l) (a00c), .int .i64 (a01), .bool (a02)] fun n0 =>
  .load (n0, 0) (.sl) fun s1 =>
  .load (n0, 1) (.int .i64) fun i2 =>
  .load (n0, 2) (.bool) fun b3 =>
  .call fn_impl_grow [.agg [.sl (s1.fst) (s1.snd.fst) (s1.snd.snd), .int .i64 (i2), .bool (b3)], .c (.sl none (0) (0))] false [.c (.ptr)] fun r4 =>
  .alloc ty_p_btree_BTreeG_pub_greenwood_impl_Item [.ptr (r4.fst)] fun n5 =>
  .alloc ty_btree_PathHint [.ff, .ff, .ff, .ff, .ff, .ff, .ff, .ff, .int .u8 (0), .int .u8 (0), .int .u8 (0), .int .u8 (0), .int .u8 (0), .int .u8 (0), .int .u8 (0), .int .u8 (0)] fun n6 =>
  .bind (some 0) (.loop [.c (.int .i64), .c (.sl), .c (.sl)] [.c (.int .i64 (0)), .c (.sl none (0) (0)), .c (.sl (some (n5, 0)) (1) (1))] fun y7 =>
      .ite (decide (y7.fst < (↑a1l : Int)))
      (.nonnil (a1p) fun p8 =>
        .guard (((0 : Int) ≤ y7.fst) ∧ ((y7.fst : Int) < (↑a1l : Int))) <|
        .load (p8.fst, p8.snd + mulN (Int.toNat y7.fst) 9) (.int .i64) fun i9 =>
        .load (p8.fst, p8.snd + mulN (Int.toNat y7.fst) 9 + 1) (.int .i64) fun i10 =>
        .load (p8.fst, p8.snd + mulN (Int.toNat y7.fst) 9 + 2) (.int .i64) fun i11 =>
        .load (p8.fst, p8.snd + mulN (Int.toNat y7.fst) 9 + 3) (.int .i64) fun i12 =>
        .load (p8.fst, p8.snd + mulN (Int.toNat y7.fst) 9 + 4) (.int .i64) fun i13 =>
        .load (p8.fst, p8.snd + mulN (Int.toNat y7.fst) 9 + 5) (.int .i64) fun i14 =>
        .load (p8.fst, p8.snd + mulN (Int.toNat y7.fst) 9 + 6) (.int .i64) fun i15 =>
        .load (p8.fst, p8.snd + mulN (Int.toNat y7.fst) 9 + 7) (.bool) fun b16 =>
        .load (p8.fst, p8.snd + mulN (Int.toNat y7.fst) 9 + 8) (.bool) fun b17 =>
        .alloc ty_impl_Step [.int .i64 (0), .int .i64 (0), .int .i64 (0), .int .i64 (0), .int .i64 (0), .int .i64 (0), .int .i64 (0), .ff, .ff] fun n18 =>
        .store (n18, 0) (.int .i64 (i9)) <|
        .store (n18, 1) (.int .i64 (i10)) <|
        .store (n18, 2) (.int .i64 (i11)) <|
        .store (n18, 3) (.int .i64 (i12)) <|
        .store (n18, 4) (.int .i64 (i13)) <|
        .store (n18, 5) (.int .i64 (i14)) <|
        .store (n18, 6) (.int .i64 (i15)) <|
        .store (n18, 7) (.bool (b16)) <|
        .store (n18, 8) (.bool (b17)) <|
        .load (n18, 1) (.int .i64) fun i19 =>
        .call fn_impl_remainder [.c (.int .i64 (i19)), .c (.int .i64 ((↑y7.snd.snd.fst.snd.fst : Int)))] false [.c (.int .i64)] fun r20 =>
        .nonnil (y7.snd.snd.fst.fst) fun p21 =>
        .guard (((0 : Int) ≤ r20.fst) ∧ ((r20.fst : Int) < (↑y7.snd.snd.fst.snd.fst : Int))) <|
        .load (p21.fst, p21.snd + Int.toNat r20.fst) (.ptr) fun q22 =>
        .load (n18, 0) (.int .i64) fun i23 =>
        .bind none (.ite (i23 == 10)
          (.load (n18, 8) (.bool) fun b24 =>
            .call fn_impl_twin [.c (.ptr (q22)), .c (.bool (b24))] false [.c (.ptr)] fun r25 =>
            .alloc ty_p_btree_BTreeG_pub_greenwood_impl_Item [.ptr (r25.fst)] fun n26 =>
            .append ty_p_btree_BTreeG_pub_greenwood_impl_Item 1 8 [.ptr none] ((y7.snd.snd.fst.fst), y7.snd.snd.fst.snd.fst, y7.snd.snd.fst.snd.snd) ((some (n26, 0)), 1, 1) fun s27 =>
            .done .normal [.c (.sl (s27.fst) (s27.snd.fst) (s27.snd.snd))])
          (.done .normal [.c (.sl (y7.snd.snd.fst.fst) (y7.snd.snd.fst.snd.fst) (y7.snd.snd.fst.snd.snd))])) [.c (.sl)] fun x28 =>
        .load (n18, 0) (.int .i64) fun i29 =>
        .load (n18, 1) (.int .i64) fun i30 =>
        .load (n18, 2) (.int .i64) fun i31 =>
        .load (n18, 3) (.int .i64) fun i32 =>
        .load (n18, 4) (.int .i64) fun i33 =>
        .load (n18, 5) (.int .i64) fun i34 =>
        .load (n18, 6) (.int .i64) fun i35 =>
        .load (n18, 7) (.bool) fun b36 =>
        .load (n18, 8) (.bool) fun b37 =>
        .call fn_impl_step [.c (.ptr (q22)), .agg [.int .i64 (i29), .int .i64 (i30), .int .i64 (i31), .int .i64 (i32), .int .i64 (i33), .int .i64 (i34), .int .i64 (i35), .bool (b36), .bool (b37)], .c (.addr (n6, 0))] true [.agg [.int .i64, .int .i64, .bool], .c (.sl)] fun r38 =>
        .alloc ty_impl_Found [.int .i64 (0), .int .i64 (0), .ff] fun n39 =>
        .store (n39, 0) (.int .i64 (r38.fst.fst)) <|
        .store (n39, 1) (.int .i64 (r38.fst.snd.fst)) <|
        .store (n39, 2) (.bool (r38.fst.snd.snd.fst)) <|
        .load (n39, 0) (.int .i64) fun i40 =>
        .load (n39, 1) (.int .i64) fun i41 =>
        .load (n39, 2) (.bool) fun b42 =>
        .call fn_tg_Len [.c (.ptr (q22))] false [.c (.int .i64)] fun r43 =>
        .held (n39, 2) (.bool (b42)) <|
        .held (n39, 0) (.int .i64 (i40)) <|
        .held (n39, 1) (.int .i64 (i41)) <|
        .alloc ty_impl_Reply [.int .i64 (i40), .int .i64 (i41), .bool (b42), .int .i64 (r43.fst), .sl (r38.snd.fst.fst) (r38.snd.fst.snd.fst) (r38.snd.fst.snd.snd)] fun n44 =>
        .append ty_impl_Reply 5 56 [.int .i64 (0), .int .i64 (0), .ff, .int .i64 (0), .sl none (0) (0)] ((y7.snd.fst.fst), y7.snd.fst.snd.fst, y7.snd.fst.snd.snd) ((some (n44, 0)), 1, 1) fun s45 =>
        .guard (InK IntKind.i64 (y7.fst + 1)) <|
        .done .normal [.c (.int .i64 (y7.fst + 1)), .c (.sl (s45.fst) (s45.snd.fst) (s45.snd.snd)), .c (.sl (x28.fst.fst) (x28.fst.snd.fst) (x28.fst.snd.snd))])
      (.done (.exit 0) [.c (.sl (y7.snd.fst.fst) (y7.snd.fst.snd.fst) (y7.snd.fst.snd.snd)), .c (.sl (y7.snd.snd.fst.fst) (y7.snd.snd.fst.snd.fst) (y7.snd.snd.fst.snd.snd))])) [.c (.sl), .c (.sl)] fun x46 =>
  .done .ret [.c (.sl (x46.snd.fst.fst) (x46.snd.fst.snd.fst) (x46.snd.fst.snd.snd)), .c (.sl (x46.fst.fst) (x46.fst.snd.fst) (x46.fst.snd.snd))]
theorem den_impl_play (a00p : Option PA) (a00l : Nat) (a00c : Nat) (a01 : Int) (a02 : Bool) (a1p : Option PA) (a1l : Nat) (a1c : Nat) : denFn Try.prog Try.f48 [.agg [.sl a00p a00l a00c, .int .i64 a01, .bool a02], .c (.sl a1p a1l a1c)] = M_impl_play a00p a00l a00c a01 a02 a1p a1l a1c := by kernel_rfl
theorem hc_impl_play (a00p : Option PA) (a00l : Nat) (a00c : Nat) (a01 : Int) (a02 : Bool) (a1p : Option PA) (a1l : Nat) (a1c : Nat) {h : H} {R : Value → H → Prop} (hw : wp Try.prog (M_impl_play a00p a00l a00c a01 a02 a1p a1l a1c) (Ret R) h) : HC Try.prog fn_impl_play (List.map AV.val [.agg [.sl a00p a00l a00c, .int .i64 a01, .bool a02], .c (.sl a1p a1l a1c)]).toArray h R :=
  den_calls hmix Try.func48 (of_decide_eq_true rfl) (by rw [den_impl_play]; exact hw)
def M_impl_GScript (a00p : Option PA) (a00l : Nat) (a00c : Nat) (a01 : Int) (a02 : Bool) (a1p : Option PA) (a1l : Nat) (a1c : Nat) : M :=
  .alloc ty_impl_Make [.sl (a00p) (a00l) (a00c), .int .i64 (a01), .bool (a02)] fun n0 =>
  .load (n0, 0) (.sl) fun s1 =>
  .load (n0, 1) (.int .i64) fun i2 =>
  .load (n0, 2) (.bool) fun b3 =>
  .call fn_impl_play [.agg [.sl (s1.fst) (s1.snd.fst) (s1.snd.snd), .int .i64 (i2), .bool (b3)], .c (.sl (a1p) (a1l) (a1c))] true [.c (.sl), .c (.sl)] fun r4 =>
  .bind (some 0) (.loop [.c (.int .i64), .c (.sl)] [.c (.int .i64 (0)), .c (.sl none (0) (0))] fun y5 =>
      .ite (decide (y5.fst < (↑r4.fst.snd.fst : Int)))
      (.nonnil (r4.fst.fst) fun p6 =>
        .guard (((0 : Int) ≤ y5.fst) ∧ ((y5.fst : Int) < (↑r4.fst.snd.fst : Int))) <|
        .load (p6.fst, p6.snd + Int.toNat y5.fst) (.ptr) fun q7 =>
        .call fn_tg_Items [.c (.ptr (q7))] false [.c (.sl)] fun r8 =>
        .alloc ty_sl_impl_Item [.sl (r8.fst.fst) (r8.fst.snd.fst) (r8.fst.snd.snd)] fun n9 =>
        .append ty_sl_impl_Item 1 24 [.sl none (0) (0)] ((y5.snd.fst.fst), y5.snd.fst.snd.fst, y5.snd.fst.snd.snd) ((some (n9, 0)), 1, 1) fun s10 =>
        .guard (InK IntKind.i64 (y5.fst + 1)) <|
        .done .normal [.c (.int .i64 (y5.fst + 1)), .c (.sl (s10.fst) (s10.snd.fst) (s10.snd.snd))])
      (.done (.exit 0) [.c (.sl (y5.snd.fst.fst) (y5.snd.fst.snd.fst) (y5.snd.fst.snd.snd))])) [.c (.sl)] fun x11 =>
  .done .ret [.c (.sl (r4.snd.fst.fst) (r4.snd.fst.snd.fst) (r4.snd.fst.snd.snd)), .c (.sl (x11.fst.fst) (x11.fst.snd.fst) (x11.fst.snd.snd))]
theorem den_impl_GScript (a00p : Option PA) (a00l : Nat) (a00c : Nat) (a01 : Int) (a02 : Bool) (a1p : Option PA) (a1l : Nat) (a1c : Nat) : denFn Try.prog Try.f16 [.agg [.sl a00p a00l a00c, .int .i64 a01, .bool a02], .c (.sl a1p a1l a1c)] = M_impl_GScript a00p a00l a00c a01 a02 a1p a1l a1c := by kernel_rfl
theorem hc_impl_GScript (a00p : Option PA) (a00l : Nat) (a00c : Nat) (a01 : Int) (a02 : Bool) (a1p : Option PA) (a1l : Nat) (a1c : Nat) {h : H} {R : Value → H → Prop} (hw : wp Try.prog (M_impl_GScript a00p a00l a00c a01 a02 a1p a1l a1c) (Ret R) h) : HC Try.prog fn_impl_GScript (List.map AV.val [.agg [.sl a00p a00l a00c, .int .i64 a01, .bool a02], .c (.sl a1p a1l a1c)]).toArray h R :=
  den_calls hmix Try.func16 (of_decide_eq_true rfl) (by rw [den_impl_GScript]; exact hw)
section
variable {I : Type} {lt : I → I → Bool}
theorem srt_ext (o : Ord lt) : ∀ {l m : List I}, Srt lt l → Srt lt m → (∀ a, a ∈ l ↔ a ∈ m) → l = m
  | [], [], _, _, _ => rfl
  | [], b :: m, _, _, h => by have := (h b).2 (by simp); simp at this
  | a :: l, [], _, _, h => by have := (h a).1 (by simp); simp at this
  | a :: l, b :: m, hl, hm, h => by
    obtain ⟨l1, l2⟩ := List.pairwise_cons.1 hl
    obtain ⟨m1, m2⟩ := List.pairwise_cons.1 hm
    have hab : a = b := by
      rcases List.mem_cons.1 ((h a).1 (by simp)) with e | ha
      · exact e
      · rcases List.mem_cons.1 ((h b).2 (by simp)) with e | hb
        · exact e.symm
        · have h1 := l1 b hb
          have h2 := m1 a ha
          rw [o.asym h1] at h2; cases h2
    subst hab
    rw [srt_ext o l2 m2 fun x => ?_]
    constructor
    · intro hx
      rcases List.mem_cons.1 ((h x).1 (by simp [hx])) with e | hx'
      · subst e; have := l1 x hx; rw [o.irr] at this; cases this
      · exact hx'
    · intro hx
      rcases List.mem_cons.1 ((h x).2 (by simp [hx])) with e | hx'
      · subst e; have := m1 x hx; rw [o.irr] at this; cases this
      · exact hx'
def Apt (lt : I → I → Bool) (a b : I) : Prop := lt a b = true ∨ lt b a = true
theorem srt_apt (o : Ord lt) {l : List I} (hs : Srt lt l) {a b : I} (ha : a ∈ l) (hb : b ∈ l) (hne : a ≠ b) : Apt lt a b := by
  cases h1 : lt a b with
  | true => exact .inl h1
  | false =>
    cases h2 : lt b a with
    | true => exact .inr h2
    | false =>
      have e1 := (fnd_iff o hs (x := a) (y := b)).2 ⟨hb, h1, h2⟩
      have e2 := (fnd_iff o hs (x := a) (y := a)).2 ⟨ha, o.irr a, o.irr a⟩
      rw [e1] at e2
      exact absurd (Option.some.inj e2).symm hne
theorem puts_mem (o : Ord lt) : ∀ (F A : List I), Srt lt A → Srt lt (F.foldl (put lt) A) ∧ (F.Pairwise (Apt lt) → ∀ z, z ∈ F.foldl (put lt) A ↔ z ∈ F ∨ (z ∈ A ∧ ∀ f ∈ F, Apt lt z f))
  | [], A, hA => ⟨hA, fun _ z => by simp⟩
  | f :: F, A, hA => by
    obtain ⟨h1, h2⟩ := puts_mem o F (put lt A f) (put_srt o hA f)
    refine ⟨h1, fun hp z => ?_⟩
    obtain ⟨p1, p2⟩ := List.pairwise_cons.1 hp
    show z ∈ F.foldl (put lt) (put lt A f) ↔ _
    rw [h2 p2 z, mem_put o hA]
    constructor
    · rintro (h | ⟨rfl | ⟨h, g⟩, g2⟩)
      · exact .inl (by simp [h])
      · exact .inl (by simp)
      · refine .inr ⟨h, fun q hq => ?_⟩
        rcases List.mem_cons.1 hq with rfl | hq
        · exact g
        · exact g2 q hq
    · rintro (h | ⟨h, g⟩)
      · rcases List.mem_cons.1 h with rfl | h
        · exact .inr ⟨.inl rfl, fun q hq => p1 q hq⟩
        · exact .inl h
      · exact .inr ⟨.inr ⟨h, g f (by simp)⟩, fun q hq => g q (by simp [hq])⟩
end
theorem dels_mem (o : List Int) : ∀ (ks T : List IV), Srt (ltO o) T → Srt (ltO o) (delR o T ks) ∧ (∀ z ∈ (delF o T ks).filterMap id, z ∈ T) ∧ ((delF o T ks).filterMap id).Pairwise (Apt (ltO o)) ∧ ∀ z, z ∈ delR o T ks ↔ z ∈ T ∧ z ∉ (delF o T ks).filterMap id
  | [], T, hT => ⟨hT, by simp [delF], by simp [delF], fun z => by simp [delF, delR]⟩
  | k :: ks, T, hT => by
    obtain ⟨h1, h2, h3, h4⟩ := dels_mem o ks (del (ltO o) T k) (del_srt hT k)
    have eR : delR o T (k :: ks) = delR o (del (ltO o) T k) ks := rfl
    have eF : delF o T (k :: ks) = fnd (ltO o) T k :: delF o (del (ltO o) T k) ks := rfl
    rw [eR, eF]
    cases hf : fnd (ltO o) T k with
    | none =>
      rw [TG.del_none hf] at h1 h2 h3 h4 ⊢
      simp only [List.filterMap_cons, id]
      exact ⟨h1, h2, h3, h4⟩
    | some y =>
      obtain ⟨hy, g1, g2⟩ := (fnd_iff (ordO o) hT).1 hf
      have hny : y ∉ del (ltO o) T k := fun hh => by
        rcases ((mem_del (ordO o) hT).1 hh).2 with h | h
        · rw [g2] at h; cases h
        · rw [g1] at h; cases h
      have hdel : ∀ z, z ∈ del (ltO o) T k ↔ z ∈ T ∧ z ≠ y := fun z => by
        rw [mem_del (ordO o) hT]
        constructor
        · rintro ⟨hz, ha⟩
          refine ⟨hz, fun e => ?_⟩
          subst e
          rcases ha with h | h
          · rw [g2] at h; cases h
          · rw [g1] at h; cases h
        · rintro ⟨hz, hne⟩
          refine ⟨hz, ?_⟩
          cases q1 : ltO o z k with
          | true => exact .inl rfl
          | false =>
            cases q2 : ltO o k z with
            | true => exact .inr rfl
            | false =>
              have e1 := (fnd_iff (ordO o) hT).2 ⟨hz, q2, q1⟩
              rw [hf] at e1
              exact absurd (Option.some.inj e1).symm hne
      simp only [List.filterMap_cons, id]
      refine ⟨h1, fun z hz => ?_, List.pairwise_cons.2 ⟨fun g hg => ?_, h3⟩, fun z => ?_⟩
      · rcases List.mem_cons.1 hz with rfl | hz
        · exact hy
        · exact ((hdel z).1 (h2 z hz)).1
      · have hg2 := (hdel g).1 (h2 g hg)
        exact srt_apt (ordO o) hT hy hg2.1 (Ne.symm hg2.2)
      · rw [h4, hdel, List.mem_cons]
        constructor
        · rintro ⟨⟨a, b⟩, c⟩; exact ⟨a, fun hh => hh.elim b c⟩
        · rintro ⟨a, b⟩; exact ⟨⟨a, fun e => b (.inl e)⟩, fun e => b (.inr e)⟩
theorem restores (o : List Int) (ks T : List IV) (hT : Srt (ltO o) T) : ((delF o T ks).filterMap id).foldl (put (ltO o)) (delR o T ks) = T := by
  obtain ⟨h1, h2, h3, h4⟩ := dels_mem o ks T hT
  obtain ⟨g1, g2⟩ := puts_mem (ordO o) ((delF o T ks).filterMap id) (delR o T ks) h1
  refine srt_ext (ordO o) g1 hT fun z => ?_
  rw [g2 h3 z]
  constructor
  · rintro (h | ⟨h, _⟩)
    · exact h2 z h
    · exact ((h4 z).1 h).1
  · intro hz
    by_cases hf : z ∈ (delF o T ks).filterMap id
    · exact .inl hf
    · exact .inr ⟨(h4 z).2 ⟨hz, hf⟩, fun f hf' => srt_apt (ordO o) hT hz (h2 f hf') fun e => hf (e ▸ hf')⟩
def stepR (o : List Int) (l : List IV) (s : Bool × IV) : List IV := match s.1 with
  | true => del (ltO o) l s.2
  | false => put (ltO o) l s.2
def dos : Bool → Int
  | true => 3
  | false => 0
def LS : Lay (Bool × IV) where
  sz := 9
  cells s := [.int .i64 (dos s.1), .int .i64 0, .int .i64 s.2.1, .int .i64 s.2.2, .int .i64 0, .int .i64 0, .int .i64 0, .bool false, .bool false]
  len _ := rfl
  one _ v hv := by
    simp only [List.mem_cons, List.not_mem_nil, or_false] at hv
    rcases hv with rfl | rfl | rfl | rfl | rfl | rfl | rfl | rfl | rfl <;> rfl
  pos := by decide
theorem stepR_len (o : List Int) (l : List IV) (s : Bool × IV) : (stepR o l s).length ≤ l.length + (if s.1 then 0 else 1) := by
  obtain ⟨e, z⟩ := s
  cases e with
  | true => exact del_leO o l z
  | false =>
    show (put (ltO o) l z).length ≤ l.length + 1
    unfold put
    have := pos_le (lt := ltO o) l z
    simp only [List.length_append, List.length_take, List.length_cons, List.length_drop]
    omega
theorem script_len (o : List Int) : ∀ (sc : List (Bool × IV)) (l : List IV), (sc.foldl (stepR o) l).length ≤ l.length + sc.countP (fun s => !s.1)
  | [], l => by simp
  | s :: sc, l => by
    have h1 := script_len o sc (stepR o l s)
    have h2 := stepR_len o l s
    rw [List.foldl_cons, List.countP_cons]
    obtain ⟨e, z⟩ := s
    cases e <;> simp at h2 ⊢ <;> omega
section
variable {P : Program} {Q : Ex → List AV → H → Prop} {h h0 : H} {G0 : PA → Prop} {l : List Ck}
theorem w_stp {p : PA} {xs : List (Bool × IV)} (hr : rds h p (LS.flat xs)) {i : Nat} {x : Bool × IV} (hx : xs[i]? = some x) {m : Int → Int → Int → Int → Int → Int → Int → Bool → Bool → M} (hw : wp P (m (dos x.1) 0 x.2.1 x.2.2 0 0 0 false false) Q h) :
    wp P (.load (p.1, p.2 + mulN i 9) (.int .i64) fun a0 => .load (p.1, p.2 + mulN i 9 + 1) (.int .i64) fun a1 => .load (p.1, p.2 + mulN i 9 + 2) (.int .i64) fun a2 => .load (p.1, p.2 + mulN i 9 + 3) (.int .i64) fun a3 => .load (p.1, p.2 + mulN i 9 + 4) (.int .i64) fun a4 =>
      .load (p.1, p.2 + mulN i 9 + 5) (.int .i64) fun a5 => .load (p.1, p.2 + mulN i 9 + 6) (.int .i64) fun a6 => .load (p.1, p.2 + mulN i 9 + 7) .bool fun b7 => .load (p.1, p.2 + mulN i 9 + 8) .bool fun b8 => m a0 a1 a2 a3 a4 a5 a6 b7 b8) Q h := by
  have key : ∀ (j : Nat) (v : Value), (LS.cells x)[j]? = some v → rd h (p.1, p.2 + mulN i 9 + j) = some v := fun j v hv => by
    have := hr (i * 9 + j) _ (LS.flat_get hx hv)
    rw [mulN_eq, Nat.add_assoc]; exact this
  exact w_int _ (key 0 _ rfl) (w_int _ (key 1 _ rfl) (w_int _ (key 2 _ rfl) (w_int _ (key 3 _ rfl) (w_int _ (key 4 _ rfl) (w_int _ (key 5 _ rfl) (w_int _ (key 6 _ rfl) (w_bool _ (key 7 _ rfl) (w_bool _ (key 8 _ rfl) hw))))))))
theorem St.rslW {b k n c sz : Nat} {vs : List Value} (s : St h0 G0 (Ow (b, 0) vs k :: l) h) (hl : vs.length = n * sz) : RSl h (some (b, 0), n, c) sz vs :=
  s.rsl vs n c sz (fun i v h => by rw [Nat.zero_add]; exact h) hl
end
section
variable {h : H}
theorem c_rem0 : HT Try.prog fn_impl_remainder [.c (.int .i64 0), .c (.int .i64 ((1 : Nat) : Int))] false [.c (.int .i64)] h fun r h' => r = (0, ()) ∧ h' = h := by
  apply hc_impl_remainder
  unfold M_impl_remainder
  exact w_guard (by decide) (w_guard (inK64 (by decide) (by decide)) (w_guard (by decide) (rt_1 rfl ⟨rfl, rfl⟩)))
set_option maxHeartbeats 4000000 in
theorem c_stepB {ls : Value} {oc : Ck} {o : List Int} {a0 : PA} {iso : Int} {dg : Nat} {l : List IV} {s : Bool × IV} {hp : Option PA} (hls : Lss ls oc o) (hl : l.length < 4294967295) {G : PA → Prop} (hoc : Bes oc h G) (hG : Star [TG.MpC ls o iso dg a0 l] h G) :
    HT Try.prog fn_impl_step [.c (.addr a0), .agg [.int .i64 (dos s.1), .int .i64 0, .int .i64 s.2.1, .int .i64 s.2.2, .int .i64 0, .int .i64 0, .int .i64 0, .bool false, .bool false], .c (.ptr hp)] true [.agg [.int .i64, .int .i64, .bool], .c .sl] h fun r h' =>
      ∃ post, ((∃ q, r = (q, (none, 0, 0), ())) ∧ post = [TG.MpC ls o iso dg a0 (stepR o l s)]) ∧ St h G post h' := by
  apply hc_impl_step
  unfold M_impl_step
  refine st_alloc (St.start hG) fun n0 _ S => ?_
  refine st_alloc S fun n1 _ S => ?_
  refine st_alloc S fun n2 _ S => ?_
  refine ld_int S rfl ?_
  obtain ⟨e, z⟩ := s
  cases e with
  | false =>
    refine w_bnd (w_true rfl ?_)
    refine ld_bool S rfl (w_bnd (w_false rfl ?_))
    refine ld_int S rfl (ld_int S rfl ?_)
    refine st_callF S [.mp a0] (fun G' hG' hsub => TG.c_Set (x := z) hls hl (hoc.step S hsub) hG') ?_
    rintro _ _ _ ⟨rfl, rfl⟩ S
    dsimp only [List.cons_append, List.nil_append] at S
    refine st_store S (lt_ble rfl) fun _ S => ?_
    refine st_store S (lt_ble rfl) fun _ S => ?_
    refine bd_n rfl (bd_n rfl ?_)
    refine ld_int S rfl (ld_int S rfl ?_)
    refine st_callT S [] (fun G hG => c_found hG) ?_
    rintro _ _ _ ⟨rfl, rfl⟩ S
    dsimp only [List.cons_append, List.nil_append] at S
    refine st_store S (lt_ble rfl) fun _ S => ?_
    refine st_store S (lt_ble rfl) fun _ S => ?_
    refine st_store S (lt_ble rfl) fun _ S => ?_
    refine ld_int S rfl (ld_int S rfl (ld_bool S rfl ?_))
    exact rt_n rfl rfl ⟨_, ⟨⟨_, rfl⟩, rfl⟩, S.only [.mp a0]⟩
  | true =>
    refine w_bnd (w_false rfl (w_bnd (w_false rfl (w_bnd (w_false rfl (w_bnd (w_true rfl ?_)))))))
    refine ld_bool S rfl (w_bnd (w_false rfl ?_))
    refine ld_int S rfl (ld_int S rfl ?_)
    refine st_callF S [.mp a0] (fun G' hG' hsub => TG.c_Delete (k := z) hls (by omega) (hoc.step S hsub) hG') ?_
    rintro _ _ _ ⟨rfl, rfl⟩ S
    dsimp only [List.cons_append, List.nil_append] at S
    refine st_store S (lt_ble rfl) fun _ S => ?_
    refine st_store S (lt_ble rfl) fun _ S => ?_
    refine bd_n rfl (bd_n rfl (bd_n rfl (bd_n rfl (bd_n rfl ?_))))
    refine ld_int S rfl (ld_int S rfl ?_)
    refine st_callT S [] (fun G hG => c_found hG) ?_
    rintro _ _ _ ⟨rfl, rfl⟩ S
    dsimp only [List.cons_append, List.nil_append] at S
    refine st_store S (lt_ble rfl) fun _ S => ?_
    refine st_store S (lt_ble rfl) fun _ S => ?_
    refine st_store S (lt_ble rfl) fun _ S => ?_
    refine ld_int S rfl (ld_int S rfl (ld_bool S rfl ?_))
    exact rt_n rfl rfl ⟨_, ⟨⟨_, rfl⟩, rfl⟩, S.only [.mp a0]⟩
set_option maxHeartbeats 4000000 in
theorem c_play {c : Ck} {o : List Int} {op : Option PA} {on oc : Nat} (hr : Rdr c (op, on, oc) LN o) (hl : o.length ≤ 2147483647) {d : Int} {nl : Bool} (hd : d ≤ 128) {sc : List (Bool × IV)} {kp : Option PA} {kn kc : Nat} (hk : Rdr c (kp, kn, kc) LS sc) (hkl : sc.length ≤ 8589934592) (hb : ∀ i, ((sc.take i).foldl (stepR o) []).length ≤ 4294967294) {G : PA → Prop} (hG : Star [c] h G) :
    HT Try.prog fn_impl_play [.agg [.sl op on oc, .int .i64 d, .bool nl], .c (.sl kp kn kc)] true [.c .sl, .c .sl] h fun r h' => ∃ post, (∃ (s : SlT) (m q : Nat) (f : PA), r = ((some (q, 0), 1, 1), s, ()) ∧ post = [c, OcC f o, TG.MpC (beF f) o 1 (TG.dgOf d) (m, 0) (sc.foldl (stepR o) []), Ow (q, 0) [.pointer (some (PA.val (m, 0)))] 0]) ∧ St h G post h' := by
  apply hc_impl_play
  unfold M_impl_play
  have hn : kn = sc.length := hk.1
  refine st_alloc (St.start hG) fun n0 _ S => ?_
  (refine ld_sl S op on oc rfl (ld_int S rfl (ld_bool S rfl ?_)))
  refine st_callT S [.ck c] (fun G hG => c_grow hr hl hd (xs := []) Rdr.nil (by decide) hG) ?_
  rintro _ _ _ ⟨m, f, rfl, rfl⟩ S
  dsimp only [List.cons_append, List.nil_append] at S
  refine st_alloc S fun n5 _ S => ?_
  refine st_alloc S fun n6 _ S => ?_
  have S := sl_nil LN S
  refine w_mid' (some 0) (fun (y : SV [.c .sl, .c .sl]) h' => ∃ s : SlT, y = (s, (some (n5, 0), 1, 1), ()) ∧ St h G [c, OcC f o, TG.MpC (beF f) o 1 (TG.dgOf d) (m, 0) (sc.foldl (stepR o) []), Ow (n5, 0) [.pointer (some (PA.val (m, 0)))] 0] h') ?_
    (fun _ _ ⟨s, e, S⟩ => by subst e; exact rt_n rfl rfl ⟨_, ⟨s, m, n5, f, rfl, rfl⟩, S⟩)
  refine w_lp (fun r y h' => ∃ (i : Nat) (s : SlT) (vs : List Value), y = ((i : Int), s, (some (n5, 0), 1, 1), ()) ∧ i + r = kn ∧ s.2.1 = i ∧ St h G [c, OcC f o, TG.MpC (beF f) o 1 (TG.dgOf d) (m, 0) ((sc.take i).foldl (stepR o) []), Ow (n5, 0) [.pointer (some (PA.val (m, 0)))] 0, SlC s 5 vs] h') kn rfl
    ⟨0, (none, 0, 0), [], rfl, by omega, rfl, S.only [.ck c, .ck (OcC f o), .mp (m, 0), .ow (n5, 0), .sl (none, 0, 0)]⟩ ?_
  clear S
  rintro r _ _ ⟨i, s, vs, rfl, hi, hs, S⟩
  by_cases hlt : i < kn
  · obtain ⟨p, hp, hro⟩ := hk.ptr (by omega)
    dsimp only at hp
    subst hp
    have hxi := List.getElem?_eq_getElem (show i < sc.length by omega)
    have hbi := hb i
    obtain ⟨s1, s2, s3⟩ := s
    dsimp only at hs
    have hlen2 : ((sc.take i).foldl (stepR o) []).length < 4294967295 := by omega
    simp only [Int.toNat_natCast, toNat_succ, toNat_succ2, toNat_pred]
    refine w_true (lt_t (by (first | omega | ((try dsimp only [Sh.T, Sh1.T]); omega)))) (w_nonnil (w_guard ⟨by (first | omega | ((try dsimp only [Sh.T, Sh1.T]); omega)), by (first | omega | ((try dsimp only [Sh.T, Sh1.T]); omega))⟩ (w_stp (S.rdr hro) hxi ?_)))
    refine st_alloc S fun n18 _ S => ?_
    refine st_store S (lt_ble rfl) fun _ S => ?_
    refine st_store S (lt_ble rfl) fun _ S => ?_
    refine st_store S (lt_ble rfl) fun _ S => ?_
    refine st_store S (lt_ble rfl) fun _ S => ?_
    refine st_store S (lt_ble rfl) fun _ S => ?_
    refine st_store S (lt_ble rfl) fun _ S => ?_
    refine st_store S (lt_ble rfl) fun _ S => ?_
    refine st_store S (lt_ble rfl) fun _ S => ?_
    refine st_store S (lt_ble rfl) fun _ S => ?_
    refine ld_int S rfl ?_
    refine w_callT c_rem0 ?_
    rintro _ _ ⟨rfl, rfl⟩
    refine w_nonnil (w_guard ⟨by decide, by decide⟩ (ld_some S rfl ?_))
    refine ld_int S rfl ?_
    refine w_bnd (w_false (by generalize sc[i].1 = e; cases e <;> rfl) (bd_n rfl ?_))
    refine ld_int S rfl (ld_int S rfl (ld_int S rfl (ld_int S rfl (ld_int S rfl (ld_int S rfl (ld_int S rfl (ld_bool S rfl (ld_bool S rfl ?_))))))))
    refine st_callB S [.mp (m, 0)] (fun G hG hb => HT.re (args' := [.c (.addr (m, 0)), .agg [.int .i64 (dos sc[i].1), .int .i64 0, .int .i64 sc[i].2.1, .int .i64 sc[i].2.2, .int .i64 0, .int .i64 0, .int .i64 0, .bool false, .bool false], .c (.ptr (some (n6, 0)))]) rfl <| c_stepB (s := sc[i]) (lss_before hl) hlen2 (hb (OcC f o) (by simp)) hG) ?_
    rintro _ _ _ ⟨⟨⟨q0, q1, q2, qu⟩, rfl⟩, rfl⟩ S
    dsimp only [List.cons_append, List.nil_append] at S
    have e : stepR o ((sc.take i).foldl (stepR o) []) sc[i] = (sc.take (i + 1)).foldl (stepR o) [] := by rw [take_snoc (by omega), List.foldl_append]; rfl
    rw [e] at S
    refine st_alloc S fun n39 _ S => ?_
    refine st_store S (lt_ble rfl) fun _ S => ?_
    refine st_store S (lt_ble rfl) fun _ S => ?_
    refine st_store S (lt_ble rfl) fun _ S => ?_
    refine ld_int S rfl (ld_int S rfl (ld_bool S rfl ?_))
    refine st_callV S [.mp (m, 0)] (args' := [.c (.addr (m, 0))]) rfl (fun G hG => TG.c_Len hG) ?_
    rintro _ _ _ ⟨rfl, rfl⟩ S
    dsimp only [List.cons_append, List.nil_append] at S
    refine st_held S rfl (st_held S rfl (st_held S rfl ?_))
    refine st_alloc S fun n44 _ S => ?_
    have hrs := St.rslW (n := 1) (c := 1) (sz := 5) S rfl
    refine st_append (S.at (.sl (s1, s2, s3))) rfl hrs (by
      intro v hv
      simp only [List.map_cons, List.map_nil, List.mem_cons, List.not_mem_nil, or_false] at hv
      rcases hv with rfl | rfl | rfl | rfl | rfl <;> rfl) ⟨by dsimp only; omega, by dsimp only; omega⟩ fun s' _ S hlen _ => ?_
    refine w_guard (inK64 (by (first | omega | ((try dsimp only [Sh.T, Sh1.T]); omega))) (by (first | omega | ((try dsimp only [Sh.T, Sh1.T]); omega)))) ?_
    exact ln_n rfl (r - 1) ⟨i + 1, s', _, rfl, by omega, by have := hlen; dsimp only at this; omega, S.only [.ck c, .ck (OcC f o), .mp (m, 0), .ow (n5, 0), .sl s']⟩ (by omega)
  · rw [List.take_of_length_le (by omega)] at S
    exact w_false (lt_f (by (first | omega | ((try dsimp only [Sh.T, Sh1.T]); omega)))) (ln_e (md_e rfl ⟨s, rfl, S.only [.ck c, .ck (OcC f o), .mp (m, 0), .ow (n5, 0)]⟩))
set_option maxHeartbeats 4000000 in
theorem c_GScriptI {c : Ck} {o : List Int} {op : Option PA} {on oc : Nat} (hr : Rdr c (op, on, oc) LN o) (hl : o.length ≤ 2147483647) {d : Int} {nl : Bool} (hd : d ≤ 128) {sc : List (Bool × IV)} {kp : Option PA} {kn kc : Nat} (hk : Rdr c (kp, kn, kc) LS sc) (hkl : sc.length ≤ 8589934592) (hb : ∀ i, ((sc.take i).foldl (stepR o) []).length ≤ 4294967294) {G : PA → Prop} (hG : Star [c] h G) :
    HT Try.prog fn_impl_GScript [.agg [.sl op on oc, .int .i64 d, .bool nl], .c (.sl kp kn kc)] true [.c .sl, .c .sl] h fun r h' => ∃ post, (∃ (s t : SlT) (p : PA) (c2 : Nat), r = (s, (some p, 1, c2), ()) ∧ OwnL LT t (sc.foldl (stepR o) []) ∧ post = [c, Ow p [Cell.val (.sl t.1 t.2.1 t.2.2)] ((c2 - 1) * 1), SlC t LT.sz (LT.flat (sc.foldl (stepR o) []))]) ∧ St h G post h' := by
  apply hc_impl_GScript
  unfold M_impl_GScript
  have hbl : (sc.foldl (stepR o) []).length ≤ 4294967294 := by have := hb sc.length; rwa [List.take_length] at this
  refine st_alloc (St.start hG) fun n0 _ S => ?_
  (refine ld_sl S op on oc rfl (ld_int S rfl (ld_bool S rfl ?_)))
  refine st_callT S [.ck c] (fun G hG => c_play hr hl hd hk hkl hb hG) ?_
  rintro _ _ _ ⟨s, m, q, f, rfl, rfl⟩ S
  dsimp only [List.cons_append, List.nil_append] at S
  have S := sl_nil LN S
  refine w_mid' (some 0) (fun (y : SV [.c .sl]) h' => ∃ (t : SlT) (p : PA) (c2 : Nat), y = ((some p, 1, c2), ()) ∧ OwnL LT t (sc.foldl (stepR o) []) ∧ St h G [c, Ow p [Cell.val (.sl t.1 t.2.1 t.2.2)] ((c2 - 1) * 1), SlC t LT.sz (LT.flat (sc.foldl (stepR o) []))] h') ?_
    (fun _ _ ⟨t, p, c2, e, ht, S⟩ => by subst e; exact rt_n rfl rfl ⟨_, ⟨s, t, p, c2, rfl, ht, rfl⟩, S⟩)
  refine w_lp (fun r y h' => (r = 1 ∧ y = (0, (none, 0, 0), ()) ∧ St h G [c, TG.MpC (beF f) o 1 (TG.dgOf d) (m, 0) (sc.foldl (stepR o) []), Ow (q, 0) [.pointer (some (PA.val (m, 0)))] 0, SlC (none, 0, 0) 1 []] h') ∨
    (r = 0 ∧ ∃ (t : SlT) (p : PA) (c2 : Nat), y = (1, (some p, 1, c2), ()) ∧ OwnL LT t (sc.foldl (stepR o) []) ∧ St h G [c, Ow p [Cell.val (.sl t.1 t.2.1 t.2.2)] ((c2 - 1) * 1), SlC t LT.sz (LT.flat (sc.foldl (stepR o) []))] h')) 1 rfl
    (.inl ⟨rfl, rfl, S.only [.ck c, .mp (m, 0), .ow (q, 0), .sl (none, 0, 0)]⟩) ?_
  clear S
  rintro r _ _ (⟨rfl, rfl, S⟩ | ⟨rfl, t, p, c2, rfl, ht, S⟩)
  · refine w_true rfl (w_nonnil (w_guard ⟨by show (0 : Int) ≤ 0; decide, by show (0 : Int) < ((1 : Nat) : Int); decide⟩ (ld_some S rfl ?_)))
    refine st_callV S [.mp (m, 0)] (args' := [.c (.addr (m, 0))]) rfl (fun G hG => c_Items (by omega) hG) ?_
    rintro _ _ _ ⟨t, rfl, ht, rfl⟩ S
    dsimp only [List.cons_append, List.nil_append] at S
    refine st_alloc S fun n9 _ S => ?_
    have hrs := St.rslW (n := 1) (c := 1) (sz := 1) S rfl
    refine st_append (S.at (.sl (none, 0, 0))) rfl hrs (by
      intro v hv
      simp only [List.map_cons, List.map_nil, List.mem_cons, List.not_mem_nil, or_false] at hv
      subst hv; rfl) ⟨by show (0 + 1) * 24 ≤ 140737488355328; decide, by show 0 + 1 ≤ 9223372036854775807; decide⟩ fun s' _ S hlen hsome => ?_
    obtain ⟨p, n, c2, rfl, g1, g2, S⟩ := S.open_sl (hsome (.inl (by show 0 < 0 + 1; decide)))
    dsimp only at hlen
    obtain rfl : n = 1 := hlen
    refine w_guard (inK64 (by decide) (by decide)) ?_
    exact ln_n rfl 0 (.inr ⟨rfl, t, p, c2, rfl, ht, S.only [.ck c, .ow p, .sl t]⟩) (by decide)
  · exact w_false rfl (ln_e (md_e rfl ⟨t, p, c2, rfl, ht, S⟩))
end
end Go.Proofs.Ytebiihomlhljkaa
