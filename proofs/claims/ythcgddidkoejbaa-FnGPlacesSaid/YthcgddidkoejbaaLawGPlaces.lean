/-
  The law FnGPlaces. Conditions: none.
-/
import Derived.Test.YthcgddidkoejbaaYal
set_option linter.unusedVariables false
set_option linter.unusedSimpArgs false
set_option linter.unusedSectionVars false
set_option maxRecDepth 100000
namespace Go.Proofs.Ythcgddidkoejbaa
open Go

def M_laws_FnGPlaces (a00p : Option PA) (a00l : Nat) (a00c : Nat) (a01 : Int) (a02 : Bool) (a1p : Option PA) (a1l : Nat) (a1c : Nat) (a2 : Int) : M :=
  .alloc ty_impl_Make [.sl (a00p) (a00l) (a00c), .int .i64 (a01), .bool (a02)] fun n0 =>
  .bind none (.load (n0, 0) (.sl) fun s1 =>
    .load (n0, 1) (.int .i64) fun i2 =>
    .load (n0, 2) (.bool) fun b3 =>
    .call fn_laws_zzFits1 [.agg [.sl (s1.fst) (s1.snd.fst) (s1.snd.snd), .int .i64 (i2), .bool (b3)]] false [.c (.bool)] fun r4 =>
    .ite (!r4.fst)
    (.done .normal [.c (.tt)])
    (.done .normal [.c (.bool (decide ((↑a1l : Int) > 2147483647)))])) [.c (.bool)] fun x5 =>
  .ite (x5.fst)
  (.done .ret [.c (.tt)])
  (.load (n0, 0) (.sl) fun s6 =>
    .load (n0, 1) (.int .i64) fun i7 =>
    .load (n0, 2) (.bool) fun b8 =>
    .call fn_laws_fits [.agg [.sl (s6.fst) (s6.snd.fst) (s6.snd.snd), .int .i64 (i7), .bool (b8)]] false [.c (.bool)] fun r9 =>
    .ite (!r9.fst)
    (.call fn_laws_alive [] false [.c (.bool)] fun r10 =>
      .done .ret [.c (.bool (r10.fst))])
    (.load (n0, 0) (.sl) fun s11 =>
      .load (n0, 1) (.int .i64) fun i12 =>
      .load (n0, 2) (.bool) fun b13 =>
      .call fn_impl_GItems [.agg [.sl (s11.fst) (s11.snd.fst) (s11.snd.snd), .int .i64 (i12), .bool (b13)], .c (.sl (a1p) (a1l) (a1c))] false [.c (.sl)] fun r14 =>
      .guard (InK IntKind.i64 a2) <|
      .guard (InK IntKind.i64 (-1 - a2)) <|
      .alloc ty_int [.int .i64 (-1), .int .i64 (-1 - a2)] fun n15 =>
      .guard (InK IntKind.i64 ((↑r14.fst.snd.fst : Int) + 1)) <|
      .guard (InK IntKind.i64 a2) <|
      .guard (InK IntKind.i64 ((↑r14.fst.snd.fst : Int) + 1 + a2)) <|
      .bind (some 0) (.loop [.c (.int .i64), .c (.sl)] [.c (.int .i64 (0)), .c (.sl (some (n15, 0)) (2) (2))] fun y16 =>
          .ite (decide (y16.fst < (↑r14.fst.snd.fst : Int) + 1 + a2))
          (.alloc ty_int [.int .i64 (y16.fst)] fun n17 =>
            .append ty_int 1 8 [.int .i64 (0)] ((y16.snd.fst.fst), y16.snd.fst.snd.fst, y16.snd.fst.snd.snd) ((some (n17, 0)), 1, 1) fun s18 =>
            .guard (InK IntKind.i64 (y16.fst + 1)) <|
            .done .normal [.c (.int .i64 (y16.fst + 1)), .c (.sl (s18.fst) (s18.snd.fst) (s18.snd.snd))])
          (.done (.exit 0) [.c (.sl (y16.snd.fst.fst) (y16.snd.fst.snd.fst) (y16.snd.fst.snd.snd))])) [.c (.sl)] fun x19 =>
      .load (n0, 0) (.sl) fun s20 =>
      .load (n0, 1) (.int .i64) fun i21 =>
      .load (n0, 2) (.bool) fun b22 =>
      .call fn_impl_GGetAt [.agg [.sl (s20.fst) (s20.snd.fst) (s20.snd.snd), .int .i64 (i21), .bool (b22)], .c (.sl (a1p) (a1l) (a1c)), .c (.sl (x19.fst.fst) (x19.fst.snd.fst) (x19.fst.snd.snd))] false [.c (.sl)] fun r23 =>
      .bind (some 2) (.loop [.c (.int .i64)] [.c (.int .i64 (0))] fun y24 =>
          .ite (decide (y24.fst < (↑r23.fst.snd.fst : Int)))
          (.nonnil (r23.fst.fst) fun p25 =>
            .guard (((0 : Int) ≤ y24.fst) ∧ ((y24.fst : Int) < (↑r23.fst.snd.fst : Int))) <|
            .load (p25.fst, p25.snd + mulN (Int.toNat y24.fst) 3) (.int .i64) fun i26 =>
            .load (p25.fst, p25.snd + mulN (Int.toNat y24.fst) 3 + 1) (.int .i64) fun i27 =>
            .load (p25.fst, p25.snd + mulN (Int.toNat y24.fst) 3 + 2) (.bool) fun b28 =>
            .alloc ty_impl_Found [.int .i64 (0), .int .i64 (0), .ff] fun n29 =>
            .store (n29, 0) (.int .i64 (i26)) <|
            .store (n29, 1) (.int .i64 (i27)) <|
            .store (n29, 2) (.bool (b28)) <|
            .nonnil (x19.fst.fst) fun p30 =>
            .guard (((0 : Int) ≤ y24.fst) ∧ ((y24.fst : Int) < (↑x19.fst.snd.fst : Int))) <|
            .load (p30.fst, p30.snd + Int.toNat y24.fst) (.int .i64) fun i31 =>
            .bind none (.load (n29, 2) (.bool) fun b32 =>
              .ite (decide (i31 ≥ 0))
              (.ite (!b32 == decide (i31 < (↑r14.fst.snd.fst : Int)))
                (.done .normal [.c (.tt)])
                (.load (n29, 2) (.bool) fun b33 =>
                  .ite (b33)
                  (.load (n29, 0) (.int .i64) fun i34 =>
                    .load (n29, 1) (.int .i64) fun i35 =>
                    .nonnil (r14.fst.fst) fun p36 =>
                    .guard (((0 : Int) ≤ i31) ∧ ((i31 : Int) < (↑r14.fst.snd.fst : Int))) <|
                    .load (p36.fst, p36.snd + mulN (Int.toNat i31) 2) (.int .i64) fun i37 =>
                    .load (p36.fst, p36.snd + mulN (Int.toNat i31) 2 + 1) (.int .i64) fun i38 =>
                    .done .normal [.c (.bool (!(i34 == i37 && (i35 == i38 && true))))])
                  (.done .normal [.c (.ff)])))
              (.ite (!b32 == false)
                (.done .normal [.c (.tt)])
                (.load (n29, 2) (.bool) fun b39 =>
                  .ite (b39)
                  (.load (n29, 0) (.int .i64) fun i40 =>
                    .load (n29, 1) (.int .i64) fun i41 =>
                    .nonnil (r14.fst.fst) fun p42 =>
                    .guard (((0 : Int) ≤ i31) ∧ ((i31 : Int) < (↑r14.fst.snd.fst : Int))) <|
                    .load (p42.fst, p42.snd + mulN (Int.toNat i31) 2) (.int .i64) fun i43 =>
                    .load (p42.fst, p42.snd + mulN (Int.toNat i31) 2 + 1) (.int .i64) fun i44 =>
                    .done .normal [.c (.bool (!(i40 == i43 && (i41 == i44 && true))))])
                  (.done .normal [.c (.ff)])))) [.c (.bool)] fun x45 =>
            .ite (x45.fst)
            (.done .ret [.c (.ff)])
            (.guard (InK IntKind.i64 (y24.fst + 1)) <|
              .done .normal [.c (.int .i64 (y24.fst + 1))]))
          (.done (.exit 2) [])) [] fun x46 =>
      .bind none (.load (n0, 0) (.sl) fun s47 =>
        .load (n0, 1) (.int .i64) fun i48 =>
        .load (n0, 2) (.bool) fun b49 =>
        .load (n0, 0) (.sl) fun s50 =>
        .load (n0, 1) (.int .i64) fun i51 =>
        .load (n0, 2) (.bool) fun b52 =>
        .both
        (.call fn_impl_GMin [.agg [.sl (s47.fst) (s47.snd.fst) (s47.snd.snd), .int .i64 (i48), .bool (b49)], .c (.sl (a1p) (a1l) (a1c))] false [.agg [.int .i64, .int .i64, .bool]] fun r53 =>
          .held (n0, 0) (.sl (s50.fst) (s50.snd.fst) (s50.snd.snd)) <|
          .held (n0, 1) (.int .i64 (i51)) <|
          .held (n0, 2) (.bool (b52)) <|
          .both
          (.call fn_impl_GMax [.agg [.sl (s50.fst) (s50.snd.fst) (s50.snd.snd), .int .i64 (i51), .bool (b52)], .c (.sl (a1p) (a1l) (a1c))] false [.agg [.int .i64, .int .i64, .bool]] fun r54 =>
            .both
            (.alloc ty_impl_Found [.int .i64 (0), .int .i64 (0), .ff] fun n55 =>
              .alloc ty_impl_Found [.int .i64 (0), .int .i64 (0), .ff] fun n56 =>
              .store (n55, 0) (.int .i64 (r53.fst.fst)) <|
              .store (n55, 1) (.int .i64 (r53.fst.snd.fst)) <|
              .store (n55, 2) (.bool (r53.fst.snd.snd.fst)) <|
              .store (n56, 0) (.int .i64 (r54.fst.fst)) <|
              .store (n56, 1) (.int .i64 (r54.fst.snd.fst)) <|
              .store (n56, 2) (.bool (r54.fst.snd.snd.fst)) <|
              .done .normal [.c (.addr (n56, 0)), .c (.addr (n55, 0))])
            (.alloc ty_impl_Found [.int .i64 (0), .int .i64 (0), .ff] fun n57 =>
              .alloc ty_impl_Found [.int .i64 (0), .int .i64 (0), .ff] fun n58 =>
              .store (n58, 0) (.int .i64 (r53.fst.fst)) <|
              .store (n58, 1) (.int .i64 (r53.fst.snd.fst)) <|
              .store (n58, 2) (.bool (r53.fst.snd.snd.fst)) <|
              .store (n57, 0) (.int .i64 (r54.fst.fst)) <|
              .store (n57, 1) (.int .i64 (r54.fst.snd.fst)) <|
              .store (n57, 2) (.bool (r54.fst.snd.snd.fst)) <|
              .done .normal [.c (.addr (n57, 0)), .c (.addr (n58, 0))]))
          (.both
            (.alloc ty_impl_Found [.int .i64 (0), .int .i64 (0), .ff] fun n59 =>
              .held (n0, 0) (.sl (s50.fst) (s50.snd.fst) (s50.snd.snd)) <|
              .held (n0, 1) (.int .i64 (i51)) <|
              .held (n0, 2) (.bool (b52)) <|
              .both
              (.call fn_impl_GMax [.agg [.sl (s50.fst) (s50.snd.fst) (s50.snd.snd), .int .i64 (i51), .bool (b52)], .c (.sl (a1p) (a1l) (a1c))] false [.agg [.int .i64, .int .i64, .bool]] fun r60 =>
                .alloc ty_impl_Found [.int .i64 (0), .int .i64 (0), .ff] fun n61 =>
                .store (n59, 0) (.int .i64 (r53.fst.fst)) <|
                .store (n59, 1) (.int .i64 (r53.fst.snd.fst)) <|
                .store (n59, 2) (.bool (r53.fst.snd.snd.fst)) <|
                .store (n61, 0) (.int .i64 (r60.fst.fst)) <|
                .store (n61, 1) (.int .i64 (r60.fst.snd.fst)) <|
                .store (n61, 2) (.bool (r60.fst.snd.snd.fst)) <|
                .done .normal [.c (.addr (n61, 0)), .c (.addr (n59, 0))])
              (.alloc ty_impl_Found [.int .i64 (0), .int .i64 (0), .ff] fun n62 =>
                .held (n0, 0) (.sl (s50.fst) (s50.snd.fst) (s50.snd.snd)) <|
                .held (n0, 1) (.int .i64 (i51)) <|
                .held (n0, 2) (.bool (b52)) <|
                .call fn_impl_GMax [.agg [.sl (s50.fst) (s50.snd.fst) (s50.snd.snd), .int .i64 (i51), .bool (b52)], .c (.sl (a1p) (a1l) (a1c))] false [.agg [.int .i64, .int .i64, .bool]] fun r63 =>
                .store (n59, 0) (.int .i64 (r53.fst.fst)) <|
                .store (n59, 1) (.int .i64 (r53.fst.snd.fst)) <|
                .store (n59, 2) (.bool (r53.fst.snd.snd.fst)) <|
                .store (n62, 0) (.int .i64 (r63.fst.fst)) <|
                .store (n62, 1) (.int .i64 (r63.fst.snd.fst)) <|
                .store (n62, 2) (.bool (r63.fst.snd.snd.fst)) <|
                .done .normal [.c (.addr (n62, 0)), .c (.addr (n59, 0))]))
            (.alloc ty_impl_Found [.int .i64 (0), .int .i64 (0), .ff] fun n64 =>
              .held (n0, 0) (.sl (s50.fst) (s50.snd.fst) (s50.snd.snd)) <|
              .held (n0, 1) (.int .i64 (i51)) <|
              .held (n0, 2) (.bool (b52)) <|
              .both
              (.call fn_impl_GMax [.agg [.sl (s50.fst) (s50.snd.fst) (s50.snd.snd), .int .i64 (i51), .bool (b52)], .c (.sl (a1p) (a1l) (a1c))] false [.agg [.int .i64, .int .i64, .bool]] fun r65 =>
                .alloc ty_impl_Found [.int .i64 (0), .int .i64 (0), .ff] fun n66 =>
                .store (n66, 0) (.int .i64 (r53.fst.fst)) <|
                .store (n66, 1) (.int .i64 (r53.fst.snd.fst)) <|
                .store (n66, 2) (.bool (r53.fst.snd.snd.fst)) <|
                .store (n64, 0) (.int .i64 (r65.fst.fst)) <|
                .store (n64, 1) (.int .i64 (r65.fst.snd.fst)) <|
                .store (n64, 2) (.bool (r65.fst.snd.snd.fst)) <|
                .done .normal [.c (.addr (n64, 0)), .c (.addr (n66, 0))])
              (.alloc ty_impl_Found [.int .i64 (0), .int .i64 (0), .ff] fun n67 =>
                .held (n0, 0) (.sl (s50.fst) (s50.snd.fst) (s50.snd.snd)) <|
                .held (n0, 1) (.int .i64 (i51)) <|
                .held (n0, 2) (.bool (b52)) <|
                .call fn_impl_GMax [.agg [.sl (s50.fst) (s50.snd.fst) (s50.snd.snd), .int .i64 (i51), .bool (b52)], .c (.sl (a1p) (a1l) (a1c))] false [.agg [.int .i64, .int .i64, .bool]] fun r68 =>
                .store (n67, 0) (.int .i64 (r53.fst.fst)) <|
                .store (n67, 1) (.int .i64 (r53.fst.snd.fst)) <|
                .store (n67, 2) (.bool (r53.fst.snd.snd.fst)) <|
                .store (n64, 0) (.int .i64 (r68.fst.fst)) <|
                .store (n64, 1) (.int .i64 (r68.fst.snd.fst)) <|
                .store (n64, 2) (.bool (r68.fst.snd.snd.fst)) <|
                .done .normal [.c (.addr (n64, 0)), .c (.addr (n67, 0))]))))
        (.both
          (.alloc ty_impl_Found [.int .i64 (0), .int .i64 (0), .ff] fun n69 =>
            .held (n0, 0) (.sl (s50.fst) (s50.snd.fst) (s50.snd.snd)) <|
            .held (n0, 1) (.int .i64 (i51)) <|
            .held (n0, 2) (.bool (b52)) <|
            .held (n0, 0) (.sl (s47.fst) (s47.snd.fst) (s47.snd.snd)) <|
            .held (n0, 1) (.int .i64 (i48)) <|
            .held (n0, 2) (.bool (b49)) <|
            .both
            (.call fn_impl_GMin [.agg [.sl (s47.fst) (s47.snd.fst) (s47.snd.snd), .int .i64 (i48), .bool (b49)], .c (.sl (a1p) (a1l) (a1c))] false [.agg [.int .i64, .int .i64, .bool]] fun r70 =>
              .held (n0, 0) (.sl (s50.fst) (s50.snd.fst) (s50.snd.snd)) <|
              .held (n0, 1) (.int .i64 (i51)) <|
              .held (n0, 2) (.bool (b52)) <|
              .both
              (.call fn_impl_GMax [.agg [.sl (s50.fst) (s50.snd.fst) (s50.snd.snd), .int .i64 (i51), .bool (b52)], .c (.sl (a1p) (a1l) (a1c))] false [.agg [.int .i64, .int .i64, .bool]] fun r71 =>
                .alloc ty_impl_Found [.int .i64 (0), .int .i64 (0), .ff] fun n72 =>
                .store (n69, 0) (.int .i64 (r70.fst.fst)) <|
                .store (n69, 1) (.int .i64 (r70.fst.snd.fst)) <|
                .store (n69, 2) (.bool (r70.fst.snd.snd.fst)) <|
                .store (n72, 0) (.int .i64 (r71.fst.fst)) <|
                .store (n72, 1) (.int .i64 (r71.fst.snd.fst)) <|
                .store (n72, 2) (.bool (r71.fst.snd.snd.fst)) <|
                .done .normal [.c (.addr (n72, 0)), .c (.addr (n69, 0))])
              (.alloc ty_impl_Found [.int .i64 (0), .int .i64 (0), .ff] fun n73 =>
                .held (n0, 0) (.sl (s50.fst) (s50.snd.fst) (s50.snd.snd)) <|
                .held (n0, 1) (.int .i64 (i51)) <|
                .held (n0, 2) (.bool (b52)) <|
                .call fn_impl_GMax [.agg [.sl (s50.fst) (s50.snd.fst) (s50.snd.snd), .int .i64 (i51), .bool (b52)], .c (.sl (a1p) (a1l) (a1c))] false [.agg [.int .i64, .int .i64, .bool]] fun r74 =>
                .store (n69, 0) (.int .i64 (r70.fst.fst)) <|
                .store (n69, 1) (.int .i64 (r70.fst.snd.fst)) <|
                .store (n69, 2) (.bool (r70.fst.snd.snd.fst)) <|
                .store (n73, 0) (.int .i64 (r74.fst.fst)) <|
                .store (n73, 1) (.int .i64 (r74.fst.snd.fst)) <|
                .store (n73, 2) (.bool (r74.fst.snd.snd.fst)) <|
                .done .normal [.c (.addr (n73, 0)), .c (.addr (n69, 0))]))
            (.alloc ty_impl_Found [.int .i64 (0), .int .i64 (0), .ff] fun n75 =>
              .held (n0, 0) (.sl (s50.fst) (s50.snd.fst) (s50.snd.snd)) <|
              .held (n0, 1) (.int .i64 (i51)) <|
              .held (n0, 2) (.bool (b52)) <|
              .held (n0, 0) (.sl (s47.fst) (s47.snd.fst) (s47.snd.snd)) <|
              .held (n0, 1) (.int .i64 (i48)) <|
              .held (n0, 2) (.bool (b49)) <|
              .call fn_impl_GMin [.agg [.sl (s47.fst) (s47.snd.fst) (s47.snd.snd), .int .i64 (i48), .bool (b49)], .c (.sl (a1p) (a1l) (a1c))] false [.agg [.int .i64, .int .i64, .bool]] fun r76 =>
              .held (n0, 0) (.sl (s50.fst) (s50.snd.fst) (s50.snd.snd)) <|
              .held (n0, 1) (.int .i64 (i51)) <|
              .held (n0, 2) (.bool (b52)) <|
              .call fn_impl_GMax [.agg [.sl (s50.fst) (s50.snd.fst) (s50.snd.snd), .int .i64 (i51), .bool (b52)], .c (.sl (a1p) (a1l) (a1c))] false [.agg [.int .i64, .int .i64, .bool]] fun r77 =>
              .store (n69, 0) (.int .i64 (r76.fst.fst)) <|
              .store (n69, 1) (.int .i64 (r76.fst.snd.fst)) <|
              .store (n69, 2) (.bool (r76.fst.snd.snd.fst)) <|
              .store (n75, 0) (.int .i64 (r77.fst.fst)) <|
              .store (n75, 1) (.int .i64 (r77.fst.snd.fst)) <|
              .store (n75, 2) (.bool (r77.fst.snd.snd.fst)) <|
              .done .normal [.c (.addr (n75, 0)), .c (.addr (n69, 0))]))
          (.alloc ty_impl_Found [.int .i64 (0), .int .i64 (0), .ff] fun n78 =>
            .held (n0, 0) (.sl (s50.fst) (s50.snd.fst) (s50.snd.snd)) <|
            .held (n0, 1) (.int .i64 (i51)) <|
            .held (n0, 2) (.bool (b52)) <|
            .held (n0, 0) (.sl (s47.fst) (s47.snd.fst) (s47.snd.snd)) <|
            .held (n0, 1) (.int .i64 (i48)) <|
            .held (n0, 2) (.bool (b49)) <|
            .both
            (.call fn_impl_GMin [.agg [.sl (s47.fst) (s47.snd.fst) (s47.snd.snd), .int .i64 (i48), .bool (b49)], .c (.sl (a1p) (a1l) (a1c))] false [.agg [.int .i64, .int .i64, .bool]] fun r79 =>
              .held (n0, 0) (.sl (s50.fst) (s50.snd.fst) (s50.snd.snd)) <|
              .held (n0, 1) (.int .i64 (i51)) <|
              .held (n0, 2) (.bool (b52)) <|
              .both
              (.call fn_impl_GMax [.agg [.sl (s50.fst) (s50.snd.fst) (s50.snd.snd), .int .i64 (i51), .bool (b52)], .c (.sl (a1p) (a1l) (a1c))] false [.agg [.int .i64, .int .i64, .bool]] fun r80 =>
                .alloc ty_impl_Found [.int .i64 (0), .int .i64 (0), .ff] fun n81 =>
                .store (n81, 0) (.int .i64 (r79.fst.fst)) <|
                .store (n81, 1) (.int .i64 (r79.fst.snd.fst)) <|
                .store (n81, 2) (.bool (r79.fst.snd.snd.fst)) <|
                .store (n78, 0) (.int .i64 (r80.fst.fst)) <|
                .store (n78, 1) (.int .i64 (r80.fst.snd.fst)) <|
                .store (n78, 2) (.bool (r80.fst.snd.snd.fst)) <|
                .done .normal [.c (.addr (n78, 0)), .c (.addr (n81, 0))])
              (.alloc ty_impl_Found [.int .i64 (0), .int .i64 (0), .ff] fun n82 =>
                .held (n0, 0) (.sl (s50.fst) (s50.snd.fst) (s50.snd.snd)) <|
                .held (n0, 1) (.int .i64 (i51)) <|
                .held (n0, 2) (.bool (b52)) <|
                .call fn_impl_GMax [.agg [.sl (s50.fst) (s50.snd.fst) (s50.snd.snd), .int .i64 (i51), .bool (b52)], .c (.sl (a1p) (a1l) (a1c))] false [.agg [.int .i64, .int .i64, .bool]] fun r83 =>
                .store (n82, 0) (.int .i64 (r79.fst.fst)) <|
                .store (n82, 1) (.int .i64 (r79.fst.snd.fst)) <|
                .store (n82, 2) (.bool (r79.fst.snd.snd.fst)) <|
                .store (n78, 0) (.int .i64 (r83.fst.fst)) <|
                .store (n78, 1) (.int .i64 (r83.fst.snd.fst)) <|
                .store (n78, 2) (.bool (r83.fst.snd.snd.fst)) <|
                .done .normal [.c (.addr (n78, 0)), .c (.addr (n82, 0))]))
            (.alloc ty_impl_Found [.int .i64 (0), .int .i64 (0), .ff] fun n84 =>
              .held (n0, 0) (.sl (s50.fst) (s50.snd.fst) (s50.snd.snd)) <|
              .held (n0, 1) (.int .i64 (i51)) <|
              .held (n0, 2) (.bool (b52)) <|
              .held (n0, 0) (.sl (s47.fst) (s47.snd.fst) (s47.snd.snd)) <|
              .held (n0, 1) (.int .i64 (i48)) <|
              .held (n0, 2) (.bool (b49)) <|
              .call fn_impl_GMin [.agg [.sl (s47.fst) (s47.snd.fst) (s47.snd.snd), .int .i64 (i48), .bool (b49)], .c (.sl (a1p) (a1l) (a1c))] false [.agg [.int .i64, .int .i64, .bool]] fun r85 =>
              .held (n0, 0) (.sl (s50.fst) (s50.snd.fst) (s50.snd.snd)) <|
              .held (n0, 1) (.int .i64 (i51)) <|
              .held (n0, 2) (.bool (b52)) <|
              .call fn_impl_GMax [.agg [.sl (s50.fst) (s50.snd.fst) (s50.snd.snd), .int .i64 (i51), .bool (b52)], .c (.sl (a1p) (a1l) (a1c))] false [.agg [.int .i64, .int .i64, .bool]] fun r86 =>
              .store (n84, 0) (.int .i64 (r85.fst.fst)) <|
              .store (n84, 1) (.int .i64 (r85.fst.snd.fst)) <|
              .store (n84, 2) (.bool (r85.fst.snd.snd.fst)) <|
              .store (n78, 0) (.int .i64 (r86.fst.fst)) <|
              .store (n78, 1) (.int .i64 (r86.fst.snd.fst)) <|
              .store (n78, 2) (.bool (r86.fst.snd.snd.fst)) <|
              .done .normal [.c (.addr (n78, 0)), .c (.addr (n84, 0))])))) [.c (.addr), .c (.addr)] fun x87 =>
      .ite ((↑r14.fst.snd.fst : Int) == 0)
      (.bind none (.load (x87.snd.fst.fst, x87.snd.fst.snd + 2) (.bool) fun b88 =>
          .ite (!b88)
          (.load (x87.fst.fst, x87.fst.snd + 2) (.bool) fun b89 =>
            .ite (!b89)
            (.call fn_laws_alive [] false [.c (.bool)] fun r90 =>
              .done .normal [.c (.bool (r90.fst))])
            (.done .normal [.c (.ff)]))
          (.done .normal [.c (.ff)])) [.c (.bool)] fun x91 =>
        .done .ret [.c (.bool (x91.fst))])
      (.bind none (.load x87.snd.fst (.int .i64) fun i92 =>
          .load (x87.snd.fst.fst, x87.snd.fst.snd + 1) (.int .i64) fun i93 =>
          .load (x87.snd.fst.fst, x87.snd.fst.snd + 2) (.bool) fun b94 =>
          .nonnil (r14.fst.fst) fun p95 =>
          .guard (((0 : Int) ≤ 0) ∧ ((0 : Int) < (↑r14.fst.snd.fst : Int))) <|
          .load (p95.fst, p95.snd) (.int .i64) fun i96 =>
          .load (p95.fst, p95.snd + 1) (.int .i64) fun i97 =>
          .ite (i92 == i96 && (i93 == i97 && true) && (b94 == true && true))
          (.load x87.fst (.int .i64) fun i98 =>
            .load (x87.fst.fst, x87.fst.snd + 1) (.int .i64) fun i99 =>
            .load (x87.fst.fst, x87.fst.snd + 2) (.bool) fun b100 =>
            .guard (InK IntKind.i64 ((↑r14.fst.snd.fst : Int) - 1)) <|
            .nonnil (r14.fst.fst) fun p101 =>
            .guard (((0 : Int) ≤ (↑r14.fst.snd.fst : Int) - 1) ∧ (((↑r14.fst.snd.fst : Int) - 1 : Int) < (↑r14.fst.snd.fst : Int))) <|
            .load (p101.fst, p101.snd + mulN ((↑r14.fst.snd.fst : Int) - 1).toNat 2) (.int .i64) fun i102 =>
            .load (p101.fst, p101.snd + mulN ((↑r14.fst.snd.fst : Int) - 1).toNat 2 + 1) (.int .i64) fun i103 =>
            .ite (i98 == i102 && (i99 == i103 && true) && (b100 == true && true))
            (.load (n0, 0) (.sl) fun s104 =>
              .load (n0, 1) (.int .i64) fun i105 =>
              .load (n0, 2) (.bool) fun b106 =>
              .call fn_impl_GLen [.agg [.sl (s104.fst) (s104.snd.fst) (s104.snd.snd), .int .i64 (i105), .bool (b106)], .c (.sl (a1p) (a1l) (a1c))] false [.c (.int .i64)] fun r107 =>
              .ite (r107.fst == (↑r14.fst.snd.fst : Int))
              (.call fn_laws_alive [] false [.c (.bool)] fun r108 =>
                .done .normal [.c (.bool (r108.fst))])
              (.done .normal [.c (.ff)]))
            (.done .normal [.c (.ff)]))
          (.done .normal [.c (.ff)])) [.c (.bool)] fun x109 =>
        .done .ret [.c (.bool (x109.fst))])))

theorem den_laws_FnGPlaces (a00p : Option PA) (a00l : Nat) (a00c : Nat) (a01 : Int) (a02 : Bool) (a1p : Option PA) (a1l : Nat) (a1c : Nat) (a2 : Int) : denFn Try.prog Try.f14 [.agg [.sl a00p a00l a00c, .int .i64 a01, .bool a02], .c (.sl a1p a1l a1c), .c (.int .u8 a2)] = M_laws_FnGPlaces a00p a00l a00c a01 a02 a1p a1l a1c a2 := by kernel_rfl
theorem hc_laws_FnGPlaces (a00p : Option PA) (a00l : Nat) (a00c : Nat) (a01 : Int) (a02 : Bool) (a1p : Option PA) (a1l : Nat) (a1c : Nat) (a2 : Int) {h : H} {R : Value → H → Prop} (hw : wp Try.prog (M_laws_FnGPlaces a00p a00l a00c a01 a02 a1p a1l a1c a2) (Ret R) h) : HC Try.prog fn_laws_FnGPlaces (List.map AV.val [.agg [.sl a00p a00l a00c, .int .i64 a01, .bool a02], .c (.sl a1p a1l a1c), .c (.int .u8 a2)]).toArray h R :=
  den_calls hmix Try.func14 (of_decide_eq_true rfl) (by rw [den_laws_FnGPlaces]; exact hw)


/-- The places that are asked for. -/
def plO (b m : Nat) : List Int := [-1, -1 - (b : Int)] ++ (List.range m).map Int.ofNat
theorem plO_len (b m : Nat) : (plO b m).length = m + 2 := by simp [plO]
theorem plO_succ (b m : Nat) : plO b m ++ [(m : Int)] = plO b (m + 1) := by simp [plO, List.range_succ]
theorem plO_get {b m k : Nat} {i : Int} (h : (plO b m)[k]? = some i) : i < 0 ∨ 0 ≤ i ∧ i < m := by
  have hm := List.mem_of_getElem? h
  simp only [plO, List.mem_append, List.mem_cons, List.mem_map, List.mem_range, List.not_mem_nil, or_false] at hm
  rcases hm with (rfl | rfl) | ⟨j, hj, rfl⟩
  · omega
  · omega
  · right; exact ⟨Int.natCast_nonneg j, Int.ofNat_lt.2 hj⟩
section
variable {h : H}
set_option maxHeartbeats 4000000 in
theorem c_FnGPlaces {hI : H} {o : List Int} {op : Option PA} {on oc : Nat} {d : Int} {nl : Bool} {xs : List IV} {sp : Option PA} {n cap : Nat} {b : Nat} (hr : Rdr (BaC hI) (op, on, oc) LN o) (hx : Rdr (BaC hI) (sp, n, cap) LT xs) (hb : b ≤ 255) {G : PA → Prop} (hG : Star [BaC hI] h G) :
    HT Try.prog fn_laws_FnGPlaces [.agg [.sl op on oc, .int .i64 d, .bool nl], .c (.sl sp n cap), .c (.int .u8 b)] false [.c .bool] h fun r h' => ∃ post, (r = (true, ()) ∧ post = [BaC hI]) ∧ St h G post h' := by
  apply hc_laws_FnGPlaces
  unfold M_laws_FnGPlaces
  have hn : n = xs.length := hx.1
  have htl := treeO_len o xs
  have hno : on = o.length := hr.1
  refine st_alloc (St.start hG) fun n0 _ S => ?_
  refine w_mid' none (fun (y : SV [.c .bool]) h' => (y = (true, ()) ∨ y = (false, ()) ∧ on ≤ 2147483647 ∧ n ≤ 2147483647) ∧ St h G [Ow (n0, 0) (List.map Cell.val [.sl op on oc, .int .i64 d, .bool nl]) 0, BaC hI] h') ?_ ?_
  · refine ld_sl S op on oc rfl (ld_int S rfl (ld_bool S rfl ?_))
    refine st_callT S [] (fun G hG => c_zzFits1 hG) ?_
    rintro _ _ _ ⟨rfl, rfl⟩ S
    dsimp only [List.cons_append, List.nil_append] at S
    by_cases hbo : on > 2147483647
    · exact w_true (by rw [decide_eq_false (by (first | omega | ((try dsimp only [Sh.T, Sh1.T]); omega)))]; rfl) (md_n rfl ⟨.inl rfl, S.only [.ow (n0, 0), .ck (BaC hI)]⟩)
    refine w_false (by rw [decide_eq_true (by (first | omega | ((try dsimp only [Sh.T, Sh1.T]); omega)))]; rfl) ?_
    by_cases hb0 : n > 2147483647
    · exact md_n (x := (true, ())) (by rw [decide_eq_true (by omega)]; rfl) ⟨.inl rfl, S.only [.ow (n0, 0), .ck (BaC hI)]⟩
    exact md_n (x := (false, ())) (by rw [decide_eq_false (by omega)]; rfl) ⟨.inr ⟨rfl, by omega, by omega⟩, S.only [.ow (n0, 0), .ck (BaC hI)]⟩
  rintro _ _ ⟨rfl | ⟨rfl, hz0, hz1⟩, S⟩
  · exact w_true rfl (rt_1 rfl ⟨_, ⟨rfl, rfl⟩, S.only [.ck (BaC hI)]⟩)
  refine w_false rfl ?_
  refine ld_sl S op on oc rfl (ld_int S rfl (ld_bool S rfl ?_))
  refine st_callT S [] (fun G hG => c_fits hG) ?_
  rintro _ _ _ ⟨rfl, rfl⟩ S
  dsimp only [List.cons_append, List.nil_append] at S
  by_cases hf : d = 0 ∨ 2 ≤ d ∧ d ≤ 128
  case neg =>
    refine w_true (by rw [decide_eq_false hf]; rfl) ?_
    refine st_callT S [] (fun G hG => c_alive hG) ?_
    rintro _ _ _ ⟨rfl, rfl⟩ S
    dsimp only [List.cons_append, List.nil_append] at S
    exact rt_1 rfl ⟨_, ⟨rfl, rfl⟩, S.only [.ck (BaC hI)]⟩
  refine w_false (by rw [decide_eq_true hf]; rfl) ?_
  (refine ld_sl S op on oc rfl (ld_int S rfl (ld_bool S rfl ?_)))
  refine st_callT S [.ck (BaC hI)] (fun G hG => c_GItems hr (by omega) (by omega) hx (by omega) hG) ?_
  rintro _ _ _ ⟨⟨ip, m, ic⟩, rfl, hi, rfl⟩ S
  dsimp only [List.cons_append, List.nil_append] at S
  have hm : m = (treeO o xs).length := hi.1
  refine w_guard (inK64 (by (first | omega | ((try dsimp only [Sh.T, Sh1.T]); omega))) (by (first | omega | ((try dsimp only [Sh.T, Sh1.T]); omega)))) (w_guard (inK64 (by (first | omega | ((try dsimp only [Sh.T, Sh1.T]); omega))) (by (first | omega | ((try dsimp only [Sh.T, Sh1.T]); omega)))) ?_)
  refine st_alloc S fun n15 _ S => ?_
  refine w_guard (inK64 (by (first | omega | ((try dsimp only [Sh.T, Sh1.T]); omega))) (by (first | omega | ((try dsimp only [Sh.T, Sh1.T]); omega)))) (w_guard (inK64 (by (first | omega | ((try dsimp only [Sh.T, Sh1.T]); omega))) (by (first | omega | ((try dsimp only [Sh.T, Sh1.T]); omega)))) (w_guard (inK64 (by (first | omega | ((try dsimp only [Sh.T, Sh1.T]); omega))) (by (first | omega | ((try dsimp only [Sh.T, Sh1.T]); omega)))) ?_))
  have S : St _ _ (SlC (some (n15, 0), 2, 2) LN.sz (LN.flat (plO b 0)) :: _) _ := St.close_sl (p := (n15, 0)) (n := 2) (c := 2) (sz := LN.sz) (vs := LN.flat (plO b 0)) S (Nat.le_refl _) rfl
  refine w_mid' (some 0) (fun (y : SV [.c .sl]) h' => ∃ t : SlT, y = (t, ()) ∧ OwnL LN t (plO b (m + 1 + b)) ∧ St h G [Ow (n0, 0) (List.map Cell.val [.sl op on oc, .int .i64 d, .bool nl]) 0, BaC hI, SlC (ip, m, ic) LT.sz (LT.flat (treeO o xs)), SlC t LN.sz (LN.flat (plO b (m + 1 + b)))] h') ?_ ?_
  · refine w_lp (fun r y h' => ∃ (j : Nat) (t : SlT), y = ((j : Int), t, ()) ∧ j + r = m + 1 + b ∧ OwnL LN t (plO b j) ∧ St h G [Ow (n0, 0) (List.map Cell.val [.sl op on oc, .int .i64 d, .bool nl]) 0, BaC hI, SlC (ip, m, ic) LT.sz (LT.flat (treeO o xs)), SlC t LN.sz (LN.flat (plO b j))] h') (m + 1 + b) rfl
      ⟨0, (some (n15, 0), 2, 2), rfl, by omega, ⟨rfl, Nat.le_refl _, .inr rfl⟩, S.ats [.ow (n0, 0), .ck (BaC hI), .sl (ip, m, ic), .sl (some (n15, 0), 2, 2)]⟩ ?_
    clear S
    rintro r _ _ ⟨j, ⟨t1, t2, t3⟩, rfl, hj, ht, S⟩
    have hpl := plO_len b j
    by_cases hlt : j < m + 1 + b
    · refine w_true (lt_t (by (first | omega | ((try dsimp only [Sh.T, Sh1.T]); omega)))) ?_
      refine st_alloc S fun n17 _ S => ?_
      refine st_apo (L := LN) (xs := plO b j) (y := (j : Int)) S ht rfl rfl (S.rsl (LN.flat [(j : Int)]) 1 1 1 (fun i v h => by rw [Nat.zero_add]; exact h) rfl) ⟨by omega, by omega⟩ fun t' _ ht' S => ?_
      rw [plO_succ] at ht' S
      refine w_guard (inK64 (by (first | omega | ((try dsimp only [Sh.T, Sh1.T]); omega))) (by (first | omega | ((try dsimp only [Sh.T, Sh1.T]); omega)))) ?_
      exact ln_n rfl (r - 1) ⟨j + 1, t', rfl, by omega, ht', S.only [.ow (n0, 0), .ck (BaC hI), .sl (ip, m, ic), .sl t']⟩ (by omega)
    · obtain rfl : j = m + 1 + b := by omega
      exact w_false (lt_f (by (first | omega | ((try dsimp only [Sh.T, Sh1.T]); omega)))) (ln_e (md_e rfl ⟨_, rfl, ht, S⟩))
  clear S
  rintro _ _ ⟨⟨ap, an, ac⟩, rfl, hat, S⟩
  have hpl := plO_len b (m + 1 + b)
  have han : an = (plO b (m + 1 + b)).length := hat.1
  have hal := atsF_len (treeO o xs) (plO b (m + 1 + b))
  (refine ld_sl S op on oc rfl (ld_int S rfl (ld_bool S rfl ?_)))
  refine st_callT S [.ck (BaC hI), .sl (ap, an, ac)] (fun G hG => c_GGetAtI hr (by omega) (by omega) hx (by omega) hat.rdr (by omega) hG) ?_
  rintro _ _ _ ⟨⟨fp, fn, fc⟩, rfl, hf2, rfl⟩ S
  dsimp only [List.cons_append, List.nil_append] at S
  have hfn : fn = an := by have := hf2.1; rw [hal] at this; exact this.trans han.symm
  refine w_mid' (some 2) (fun _ h' => St h G [Ow (n0, 0) (List.map Cell.val [.sl op on oc, .int .i64 d, .bool nl]) 0, BaC hI, SlC (ip, m, ic) LT.sz (LT.flat (treeO o xs))] h') ?_ ?_
  · refine w_lp (fun r y h' => ∃ k : Nat, y = ((k : Int), ()) ∧ k + r = fn ∧ St h G [Ow (n0, 0) (List.map Cell.val [.sl op on oc, .int .i64 d, .bool nl]) 0, BaC hI, SlC (ip, m, ic) LT.sz (LT.flat (treeO o xs)), SlC (ap, an, ac) LN.sz (LN.flat (plO b (m + 1 + b))), SlC (fp, fn, fc) LF.sz (LF.flat (atsF (treeO o xs) (plO b (m + 1 + b))))] h') fn rfl ⟨0, rfl, by omega, S.ats [.ow (n0, 0), .ck (BaC hI), .sl (ip, m, ic), .sl (ap, an, ac), .sl (fp, fn, fc)]⟩ ?_
    clear S
    rintro r _ _ ⟨k, rfl, hk, S⟩
    by_cases hlt : k < fn
    · obtain ⟨p, hp, hfr⟩ := hf2.rdr.ptr (by omega)
      dsimp only at hp
      subst hp
      obtain ⟨q, hq, har⟩ := hat.rdr.ptr (by omega)
      dsimp only at hq
      subst hq
      obtain ⟨i, hi1⟩ : ∃ i, (plO b (m + 1 + b))[k]? = some i := ⟨_, List.getElem?_eq_getElem (by omega)⟩
      have hfi : (atsF (treeO o xs) (plO b (m + 1 + b)))[k]? = some (atO (treeO o xs) i) := by rw [atsF, List.getElem?_map, hi1]; rfl
      have hib := plO_get hi1
      refine w_true (lt_t (by (first | omega | ((try dsimp only [Sh.T, Sh1.T]); omega)))) (w_nonnil (w_guard ⟨by (first | omega | ((try dsimp only [Sh.T, Sh1.T]); omega)), by (first | omega | ((try dsimp only [Sh.T, Sh1.T]); omega))⟩ ?_))
      simp only [Int.toNat_natCast, toNat_succ, toNat_succ2, toNat_pred]
      refine w_fnd (S.rdr hfr) hfi ?_
      refine st_alloc S fun n29 _ S => ?_
      refine st_store S (lt_ble rfl) fun _ S => ?_
      refine st_store S (lt_ble rfl) fun _ S => ?_
      refine st_store S (lt_ble rfl) fun _ S => ?_
      have S := S.re (n29, 0) (LF.flat [atO (treeO o xs) i]) 0 rfl rfl rfl
      refine w_nonnil (w_guard ⟨by (first | omega | ((try dsimp only [Sh.T, Sh1.T]); omega)), by (first | omega | ((try dsimp only [Sh.T, Sh1.T]); omega))⟩ ?_)
      refine w_num (S.rdr har) hi1 ?_
      refine w_mid' none (fun (y : SV [.c .bool]) h' => y = (false, ()) ∧ St h G [Ow (n0, 0) (List.map Cell.val [.sl op on oc, .int .i64 d, .bool nl]) 0, BaC hI, SlC (ip, m, ic) LT.sz (LT.flat (treeO o xs)), SlC (some q, an, ac) LN.sz (LN.flat (plO b (m + 1 + b))), SlC (some p, fn, fc) LF.sz (LF.flat (atsF (treeO o xs) (plO b (m + 1 + b))))] h') ?_ ?_
      · refine ld_bool S rfl ?_
        by_cases h0 : i < 0
        · have e : atO (treeO o xs) i = none := by unfold atO; rw [if_pos h0]
          rw [e] at S ⊢
          refine w_false (decide_eq_false (by (first | omega | ((try dsimp only [Sh.T, Sh1.T]); omega)))) (w_false rfl (ld_bool S rfl (w_false rfl ?_)))
          exact md_n rfl ⟨rfl, S.only [.ow (n0, 0), .ck (BaC hI), .sl (ip, m, ic), .sl (some q, an, ac), .sl (some p, fn, fc)]⟩
        · obtain ⟨j, rfl⟩ : ∃ j : Nat, i = (j : Int) := ⟨i.toNat, by omega⟩
          have e : atO (treeO o xs) (j : Int) = (treeO o xs)[j]? := by unfold atO; rw [if_neg (by omega), Int.toNat_natCast]
          rw [e] at S ⊢
          refine w_true (decide_eq_true (by (first | omega | ((try dsimp only [Sh.T, Sh1.T]); omega)))) ?_
          by_cases hjm : j < m
          · obtain ⟨y, hy⟩ : ∃ y, (treeO o xs)[j]? = some y := ⟨_, List.getElem?_eq_getElem (by omega)⟩
            obtain ⟨q2, hq2, hir⟩ := hi.rdr.ptr (by omega)
            dsimp only at hq2
            subst hq2
            rw [hy] at S ⊢
            refine w_false (by simp; omega) (ld_bool S rfl (w_true rfl (ld_int S rfl (ld_int S rfl (w_nonnil (w_guard ⟨by (first | omega | ((try dsimp only [Sh.T, Sh1.T]); omega)), by (first | omega | ((try dsimp only [Sh.T, Sh1.T]); omega))⟩ ?_))))))
            simp only [Int.toNat_natCast, toNat_succ, toNat_succ2, toNat_pred]
            refine w_item (S.rdr hir) hy ?_
            exact md_n (by simp; rfl) ⟨rfl, S.only [.ow (n0, 0), .ck (BaC hI), .sl (some q2, m, ic), .sl (some q, an, ac), .sl (some p, fn, fc)]⟩
          · have hy : (treeO o xs)[j]? = none := List.getElem?_eq_none (by omega)
            rw [hy] at S ⊢
            refine w_false (by simp; omega) (ld_bool S rfl (w_false rfl ?_))
            exact md_n rfl ⟨rfl, S.only [.ow (n0, 0), .ck (BaC hI), .sl (ip, m, ic), .sl (some q, an, ac), .sl (some p, fn, fc)]⟩
      clear S
      rintro _ _ ⟨rfl, S⟩
      refine w_false rfl (w_guard (inK64 (by (first | omega | ((try dsimp only [Sh.T, Sh1.T]); omega))) (by (first | omega | ((try dsimp only [Sh.T, Sh1.T]); omega)))) ?_)
      exact ln_n rfl (r - 1) ⟨k + 1, rfl, by omega, S⟩ (by omega)
    · exact w_false (lt_f (by (first | omega | ((try dsimp only [Sh.T, Sh1.T]); omega)))) (ln_e (md_e rfl (S.only [.ow (n0, 0), .ck (BaC hI), .sl (ip, m, ic)])))
  clear S
  rintro _ _ S
  refine w_mid' none (fun (y : SV [.c .addr, .c .addr]) h' => ∃ a c : Nat, y = ((c, 0), (a, 0), ()) ∧ St h G [Ow (a, 0) (LF.flat [(treeO o xs).head?]) 0, Ow (c, 0) (LF.flat [(treeO o xs).getLast?]) 0, Ow (n0, 0) (List.map Cell.val [.sl op on oc, .int .i64 d, .bool nl]) 0, BaC hI, SlC (ip, m, ic) LT.sz (LT.flat (treeO o xs))] h') ?_ ?_
  · (refine ld_sl S op on oc rfl (ld_int S rfl (ld_bool S rfl ?_)))
    (refine ld_sl S op on oc rfl (ld_int S rfl (ld_bool S rfl ?_)))
    -- TREE
    refine w_both ?_ ?_
    · refine st_callT S [.ck (BaC hI)] (fun G hG => c_GMinI hr (by omega) (by omega) hx (by omega) hG) ?_
      rintro _ _ _ ⟨rfl, rfl⟩ S
      dsimp only [List.cons_append, List.nil_append] at S
      refine st_held S rfl ?_
      refine st_held S rfl ?_
      refine st_held S rfl ?_
      refine w_both ?_ ?_
      · refine st_callT S [.ck (BaC hI)] (fun G hG => c_GMaxI hr (by omega) (by omega) hx (by omega) hG) ?_
        rintro _ _ _ ⟨rfl, rfl⟩ S
        dsimp only [List.cons_append, List.nil_append] at S
        refine w_both ?_ ?_
        · refine st_alloc S fun n55 _ S => ?_
          refine st_alloc S fun n56 _ S => ?_
          refine st_store S (lt_ble rfl) fun _ S => ?_
          refine st_store S (lt_ble rfl) fun _ S => ?_
          refine st_store S (lt_ble rfl) fun _ S => ?_
          refine st_store S (lt_ble rfl) fun _ S => ?_
          refine st_store S (lt_ble rfl) fun _ S => ?_
          refine st_store S (lt_ble rfl) fun _ S => ?_
          have S := (S.at (.ow (n56, 0))).re (n56, 0) (LF.flat [(treeO o xs).getLast?]) 0 rfl rfl rfl
          have S := (S.at (.ow (n55, 0))).re (n55, 0) (LF.flat [(treeO o xs).head?]) 0 rfl rfl rfl
          exact md_n rfl ⟨n55, n56, rfl, S.ats [.ow (n55, 0), .ow (n56, 0), .ow (n0, 0), .ck (BaC hI), .sl (ip, m, ic)]⟩
        · refine st_alloc S fun n57 _ S => ?_
          refine st_alloc S fun n58 _ S => ?_
          refine st_store S (lt_ble rfl) fun _ S => ?_
          refine st_store S (lt_ble rfl) fun _ S => ?_
          refine st_store S (lt_ble rfl) fun _ S => ?_
          refine st_store S (lt_ble rfl) fun _ S => ?_
          refine st_store S (lt_ble rfl) fun _ S => ?_
          refine st_store S (lt_ble rfl) fun _ S => ?_
          have S := (S.at (.ow (n57, 0))).re (n57, 0) (LF.flat [(treeO o xs).getLast?]) 0 rfl rfl rfl
          have S := (S.at (.ow (n58, 0))).re (n58, 0) (LF.flat [(treeO o xs).head?]) 0 rfl rfl rfl
          exact md_n rfl ⟨n58, n57, rfl, S.ats [.ow (n58, 0), .ow (n57, 0), .ow (n0, 0), .ck (BaC hI), .sl (ip, m, ic)]⟩
      · refine w_both ?_ ?_
        · refine st_alloc S fun n59 _ S => ?_
          refine st_held S rfl ?_
          refine st_held S rfl ?_
          refine st_held S rfl ?_
          refine w_both ?_ ?_
          · refine st_callT S [.ck (BaC hI)] (fun G hG => c_GMaxI hr (by omega) (by omega) hx (by omega) hG) ?_
            rintro _ _ _ ⟨rfl, rfl⟩ S
            dsimp only [List.cons_append, List.nil_append] at S
            refine st_alloc S fun n61 _ S => ?_
            refine st_store S (lt_ble rfl) fun _ S => ?_
            refine st_store S (lt_ble rfl) fun _ S => ?_
            refine st_store S (lt_ble rfl) fun _ S => ?_
            refine st_store S (lt_ble rfl) fun _ S => ?_
            refine st_store S (lt_ble rfl) fun _ S => ?_
            refine st_store S (lt_ble rfl) fun _ S => ?_
            have S := (S.at (.ow (n61, 0))).re (n61, 0) (LF.flat [(treeO o xs).getLast?]) 0 rfl rfl rfl
            have S := (S.at (.ow (n59, 0))).re (n59, 0) (LF.flat [(treeO o xs).head?]) 0 rfl rfl rfl
            exact md_n rfl ⟨n59, n61, rfl, S.ats [.ow (n59, 0), .ow (n61, 0), .ow (n0, 0), .ck (BaC hI), .sl (ip, m, ic)]⟩
          · refine st_alloc S fun n62 _ S => ?_
            refine st_held S rfl ?_
            refine st_held S rfl ?_
            refine st_held S rfl ?_
            refine st_callT S [.ck (BaC hI)] (fun G hG => c_GMaxI hr (by omega) (by omega) hx (by omega) hG) ?_
            rintro _ _ _ ⟨rfl, rfl⟩ S
            dsimp only [List.cons_append, List.nil_append] at S
            refine st_store S (lt_ble rfl) fun _ S => ?_
            refine st_store S (lt_ble rfl) fun _ S => ?_
            refine st_store S (lt_ble rfl) fun _ S => ?_
            refine st_store S (lt_ble rfl) fun _ S => ?_
            refine st_store S (lt_ble rfl) fun _ S => ?_
            refine st_store S (lt_ble rfl) fun _ S => ?_
            have S := (S.at (.ow (n62, 0))).re (n62, 0) (LF.flat [(treeO o xs).getLast?]) 0 rfl rfl rfl
            have S := (S.at (.ow (n59, 0))).re (n59, 0) (LF.flat [(treeO o xs).head?]) 0 rfl rfl rfl
            exact md_n rfl ⟨n59, n62, rfl, S.ats [.ow (n59, 0), .ow (n62, 0), .ow (n0, 0), .ck (BaC hI), .sl (ip, m, ic)]⟩
        · refine st_alloc S fun n64 _ S => ?_
          refine st_held S rfl ?_
          refine st_held S rfl ?_
          refine st_held S rfl ?_
          refine w_both ?_ ?_
          · refine st_callT S [.ck (BaC hI)] (fun G hG => c_GMaxI hr (by omega) (by omega) hx (by omega) hG) ?_
            rintro _ _ _ ⟨rfl, rfl⟩ S
            dsimp only [List.cons_append, List.nil_append] at S
            refine st_alloc S fun n66 _ S => ?_
            refine st_store S (lt_ble rfl) fun _ S => ?_
            refine st_store S (lt_ble rfl) fun _ S => ?_
            refine st_store S (lt_ble rfl) fun _ S => ?_
            refine st_store S (lt_ble rfl) fun _ S => ?_
            refine st_store S (lt_ble rfl) fun _ S => ?_
            refine st_store S (lt_ble rfl) fun _ S => ?_
            have S := (S.at (.ow (n64, 0))).re (n64, 0) (LF.flat [(treeO o xs).getLast?]) 0 rfl rfl rfl
            have S := (S.at (.ow (n66, 0))).re (n66, 0) (LF.flat [(treeO o xs).head?]) 0 rfl rfl rfl
            exact md_n rfl ⟨n66, n64, rfl, S.ats [.ow (n66, 0), .ow (n64, 0), .ow (n0, 0), .ck (BaC hI), .sl (ip, m, ic)]⟩
          · refine st_alloc S fun n67 _ S => ?_
            refine st_held S rfl ?_
            refine st_held S rfl ?_
            refine st_held S rfl ?_
            refine st_callT S [.ck (BaC hI)] (fun G hG => c_GMaxI hr (by omega) (by omega) hx (by omega) hG) ?_
            rintro _ _ _ ⟨rfl, rfl⟩ S
            dsimp only [List.cons_append, List.nil_append] at S
            refine st_store S (lt_ble rfl) fun _ S => ?_
            refine st_store S (lt_ble rfl) fun _ S => ?_
            refine st_store S (lt_ble rfl) fun _ S => ?_
            refine st_store S (lt_ble rfl) fun _ S => ?_
            refine st_store S (lt_ble rfl) fun _ S => ?_
            refine st_store S (lt_ble rfl) fun _ S => ?_
            have S := (S.at (.ow (n64, 0))).re (n64, 0) (LF.flat [(treeO o xs).getLast?]) 0 rfl rfl rfl
            have S := (S.at (.ow (n67, 0))).re (n67, 0) (LF.flat [(treeO o xs).head?]) 0 rfl rfl rfl
            exact md_n rfl ⟨n67, n64, rfl, S.ats [.ow (n67, 0), .ow (n64, 0), .ow (n0, 0), .ck (BaC hI), .sl (ip, m, ic)]⟩
    · refine w_both ?_ ?_
      · refine st_alloc S fun n69 _ S => ?_
        refine st_held S rfl ?_
        refine st_held S rfl ?_
        refine st_held S rfl ?_
        refine st_held S rfl ?_
        refine st_held S rfl ?_
        refine st_held S rfl ?_
        refine w_both ?_ ?_
        · refine st_callT S [.ck (BaC hI)] (fun G hG => c_GMinI hr (by omega) (by omega) hx (by omega) hG) ?_
          rintro _ _ _ ⟨rfl, rfl⟩ S
          dsimp only [List.cons_append, List.nil_append] at S
          refine st_held S rfl ?_
          refine st_held S rfl ?_
          refine st_held S rfl ?_
          refine w_both ?_ ?_
          · refine st_callT S [.ck (BaC hI)] (fun G hG => c_GMaxI hr (by omega) (by omega) hx (by omega) hG) ?_
            rintro _ _ _ ⟨rfl, rfl⟩ S
            dsimp only [List.cons_append, List.nil_append] at S
            refine st_alloc S fun n72 _ S => ?_
            refine st_store S (lt_ble rfl) fun _ S => ?_
            refine st_store S (lt_ble rfl) fun _ S => ?_
            refine st_store S (lt_ble rfl) fun _ S => ?_
            refine st_store S (lt_ble rfl) fun _ S => ?_
            refine st_store S (lt_ble rfl) fun _ S => ?_
            refine st_store S (lt_ble rfl) fun _ S => ?_
            have S := (S.at (.ow (n72, 0))).re (n72, 0) (LF.flat [(treeO o xs).getLast?]) 0 rfl rfl rfl
            have S := (S.at (.ow (n69, 0))).re (n69, 0) (LF.flat [(treeO o xs).head?]) 0 rfl rfl rfl
            exact md_n rfl ⟨n69, n72, rfl, S.ats [.ow (n69, 0), .ow (n72, 0), .ow (n0, 0), .ck (BaC hI), .sl (ip, m, ic)]⟩
          · refine st_alloc S fun n73 _ S => ?_
            refine st_held S rfl ?_
            refine st_held S rfl ?_
            refine st_held S rfl ?_
            refine st_callT S [.ck (BaC hI)] (fun G hG => c_GMaxI hr (by omega) (by omega) hx (by omega) hG) ?_
            rintro _ _ _ ⟨rfl, rfl⟩ S
            dsimp only [List.cons_append, List.nil_append] at S
            refine st_store S (lt_ble rfl) fun _ S => ?_
            refine st_store S (lt_ble rfl) fun _ S => ?_
            refine st_store S (lt_ble rfl) fun _ S => ?_
            refine st_store S (lt_ble rfl) fun _ S => ?_
            refine st_store S (lt_ble rfl) fun _ S => ?_
            refine st_store S (lt_ble rfl) fun _ S => ?_
            have S := (S.at (.ow (n73, 0))).re (n73, 0) (LF.flat [(treeO o xs).getLast?]) 0 rfl rfl rfl
            have S := (S.at (.ow (n69, 0))).re (n69, 0) (LF.flat [(treeO o xs).head?]) 0 rfl rfl rfl
            exact md_n rfl ⟨n69, n73, rfl, S.ats [.ow (n69, 0), .ow (n73, 0), .ow (n0, 0), .ck (BaC hI), .sl (ip, m, ic)]⟩
        · refine st_alloc S fun n75 _ S => ?_
          refine st_held S rfl ?_
          refine st_held S rfl ?_
          refine st_held S rfl ?_
          refine st_held S rfl ?_
          refine st_held S rfl ?_
          refine st_held S rfl ?_
          refine st_callT S [.ck (BaC hI)] (fun G hG => c_GMinI hr (by omega) (by omega) hx (by omega) hG) ?_
          rintro _ _ _ ⟨rfl, rfl⟩ S
          dsimp only [List.cons_append, List.nil_append] at S
          refine st_held S rfl ?_
          refine st_held S rfl ?_
          refine st_held S rfl ?_
          refine st_callT S [.ck (BaC hI)] (fun G hG => c_GMaxI hr (by omega) (by omega) hx (by omega) hG) ?_
          rintro _ _ _ ⟨rfl, rfl⟩ S
          dsimp only [List.cons_append, List.nil_append] at S
          refine st_store S (lt_ble rfl) fun _ S => ?_
          refine st_store S (lt_ble rfl) fun _ S => ?_
          refine st_store S (lt_ble rfl) fun _ S => ?_
          refine st_store S (lt_ble rfl) fun _ S => ?_
          refine st_store S (lt_ble rfl) fun _ S => ?_
          refine st_store S (lt_ble rfl) fun _ S => ?_
          have S := (S.at (.ow (n75, 0))).re (n75, 0) (LF.flat [(treeO o xs).getLast?]) 0 rfl rfl rfl
          have S := (S.at (.ow (n69, 0))).re (n69, 0) (LF.flat [(treeO o xs).head?]) 0 rfl rfl rfl
          exact md_n rfl ⟨n69, n75, rfl, S.ats [.ow (n69, 0), .ow (n75, 0), .ow (n0, 0), .ck (BaC hI), .sl (ip, m, ic)]⟩
      · refine st_alloc S fun n78 _ S => ?_
        refine st_held S rfl ?_
        refine st_held S rfl ?_
        refine st_held S rfl ?_
        refine st_held S rfl ?_
        refine st_held S rfl ?_
        refine st_held S rfl ?_
        refine w_both ?_ ?_
        · refine st_callT S [.ck (BaC hI)] (fun G hG => c_GMinI hr (by omega) (by omega) hx (by omega) hG) ?_
          rintro _ _ _ ⟨rfl, rfl⟩ S
          dsimp only [List.cons_append, List.nil_append] at S
          refine st_held S rfl ?_
          refine st_held S rfl ?_
          refine st_held S rfl ?_
          refine w_both ?_ ?_
          · refine st_callT S [.ck (BaC hI)] (fun G hG => c_GMaxI hr (by omega) (by omega) hx (by omega) hG) ?_
            rintro _ _ _ ⟨rfl, rfl⟩ S
            dsimp only [List.cons_append, List.nil_append] at S
            refine st_alloc S fun n81 _ S => ?_
            refine st_store S (lt_ble rfl) fun _ S => ?_
            refine st_store S (lt_ble rfl) fun _ S => ?_
            refine st_store S (lt_ble rfl) fun _ S => ?_
            refine st_store S (lt_ble rfl) fun _ S => ?_
            refine st_store S (lt_ble rfl) fun _ S => ?_
            refine st_store S (lt_ble rfl) fun _ S => ?_
            have S := (S.at (.ow (n78, 0))).re (n78, 0) (LF.flat [(treeO o xs).getLast?]) 0 rfl rfl rfl
            have S := (S.at (.ow (n81, 0))).re (n81, 0) (LF.flat [(treeO o xs).head?]) 0 rfl rfl rfl
            exact md_n rfl ⟨n81, n78, rfl, S.ats [.ow (n81, 0), .ow (n78, 0), .ow (n0, 0), .ck (BaC hI), .sl (ip, m, ic)]⟩
          · refine st_alloc S fun n82 _ S => ?_
            refine st_held S rfl ?_
            refine st_held S rfl ?_
            refine st_held S rfl ?_
            refine st_callT S [.ck (BaC hI)] (fun G hG => c_GMaxI hr (by omega) (by omega) hx (by omega) hG) ?_
            rintro _ _ _ ⟨rfl, rfl⟩ S
            dsimp only [List.cons_append, List.nil_append] at S
            refine st_store S (lt_ble rfl) fun _ S => ?_
            refine st_store S (lt_ble rfl) fun _ S => ?_
            refine st_store S (lt_ble rfl) fun _ S => ?_
            refine st_store S (lt_ble rfl) fun _ S => ?_
            refine st_store S (lt_ble rfl) fun _ S => ?_
            refine st_store S (lt_ble rfl) fun _ S => ?_
            have S := (S.at (.ow (n78, 0))).re (n78, 0) (LF.flat [(treeO o xs).getLast?]) 0 rfl rfl rfl
            have S := (S.at (.ow (n82, 0))).re (n82, 0) (LF.flat [(treeO o xs).head?]) 0 rfl rfl rfl
            exact md_n rfl ⟨n82, n78, rfl, S.ats [.ow (n82, 0), .ow (n78, 0), .ow (n0, 0), .ck (BaC hI), .sl (ip, m, ic)]⟩
        · refine st_alloc S fun n84 _ S => ?_
          refine st_held S rfl ?_
          refine st_held S rfl ?_
          refine st_held S rfl ?_
          refine st_held S rfl ?_
          refine st_held S rfl ?_
          refine st_held S rfl ?_
          refine st_callT S [.ck (BaC hI)] (fun G hG => c_GMinI hr (by omega) (by omega) hx (by omega) hG) ?_
          rintro _ _ _ ⟨rfl, rfl⟩ S
          dsimp only [List.cons_append, List.nil_append] at S
          refine st_held S rfl ?_
          refine st_held S rfl ?_
          refine st_held S rfl ?_
          refine st_callT S [.ck (BaC hI)] (fun G hG => c_GMaxI hr (by omega) (by omega) hx (by omega) hG) ?_
          rintro _ _ _ ⟨rfl, rfl⟩ S
          dsimp only [List.cons_append, List.nil_append] at S
          refine st_store S (lt_ble rfl) fun _ S => ?_
          refine st_store S (lt_ble rfl) fun _ S => ?_
          refine st_store S (lt_ble rfl) fun _ S => ?_
          refine st_store S (lt_ble rfl) fun _ S => ?_
          refine st_store S (lt_ble rfl) fun _ S => ?_
          refine st_store S (lt_ble rfl) fun _ S => ?_
          have S := (S.at (.ow (n78, 0))).re (n78, 0) (LF.flat [(treeO o xs).getLast?]) 0 rfl rfl rfl
          have S := (S.at (.ow (n84, 0))).re (n84, 0) (LF.flat [(treeO o xs).head?]) 0 rfl rfl rfl
          exact md_n rfl ⟨n84, n78, rfl, S.ats [.ow (n84, 0), .ow (n78, 0), .ow (n0, 0), .ck (BaC hI), .sl (ip, m, ic)]⟩
    -- END
  clear S
  rintro _ _ ⟨a, c, rfl, S⟩
  by_cases hm0 : m = 0
  · have e0 : treeO o xs = [] := List.length_eq_zero_iff.1 (by omega)
    rw [e0] at S
    refine w_true (by simp [hm0]) (w_bnd (ld_bool S rfl (w_true rfl (ld_bool S rfl (w_true rfl ?_)))))
    (refine st_callT S [] (fun G hG => c_alive hG) ?_; rintro _ _ _ ⟨rfl, rfl⟩ S; dsimp only [List.cons_append, List.nil_append] at S)
    exact bd_n rfl (rt_1 rfl ⟨_, ⟨rfl, rfl⟩, S.only [.ck (BaC hI)]⟩)
  · obtain ⟨q2, hq2, hir⟩ := hi.rdr.ptr (by omega)
    dsimp only at hq2
    subst hq2
    have y0 := List.getElem?_eq_getElem (show 0 < (treeO o xs).length by omega)
    have y1 := List.getElem?_eq_getElem (show m - 1 < (treeO o xs).length by omega)
    have e0 : (treeO o xs).head? = some (treeO o xs)[0] := by rw [List.head?_eq_getElem?, y0]
    have e1 : (treeO o xs).getLast? = some ((treeO o xs)[m - 1]'(by omega)) := by rw [List.getLast?_eq_getElem?, show (treeO o xs).length - 1 = m - 1 by omega]; exact y1
    rw [e0, e1] at S
    refine w_false (by simp [hm0]) (w_bnd (ld_int S rfl (ld_int S rfl (ld_bool S rfl (w_nonnil (w_guard ⟨by (first | omega | ((try dsimp only [Sh.T, Sh1.T]); omega)), by (first | omega | ((try dsimp only [Sh.T, Sh1.T]); omega))⟩ ?_))))))
    refine w_item (i := 0) (S.rdr hir) y0 ?_
    refine w_true (by simp) (ld_int S rfl (ld_int S rfl (ld_bool S rfl (w_guard (inK64 (by (first | omega | ((try dsimp only [Sh.T, Sh1.T]); omega))) (by (first | omega | ((try dsimp only [Sh.T, Sh1.T]); omega)))) (w_nonnil (w_guard ⟨by (first | omega | ((try dsimp only [Sh.T, Sh1.T]); omega)), by (first | omega | ((try dsimp only [Sh.T, Sh1.T]); omega))⟩ ?_))))))
    have em : ((m : Int) - 1).toNat = m - 1 := by omega
    rw [em]
    refine w_item (S.rdr hir) y1 ?_
    refine w_true (by simp) ?_
    (refine ld_sl S op on oc rfl (ld_int S rfl (ld_bool S rfl ?_)))
    refine st_callT S [.ck (BaC hI)] (fun G hG => c_GLen hr (by omega) (by omega) hx (by omega) hG) ?_
    rintro _ _ _ ⟨rfl, rfl⟩ S
    dsimp only [List.cons_append, List.nil_append] at S
    refine w_true (by rw [hm]; simp) ?_
    (refine st_callT S [] (fun G hG => c_alive hG) ?_; rintro _ _ _ ⟨rfl, rfl⟩ S; dsimp only [List.cons_append, List.nil_append] at S)
    exact bd_n rfl (rt_1 rfl ⟨_, ⟨rfl, rfl⟩, S.only [.ck (BaC hI)]⟩)
end
end Go.Proofs.Ythcgddidkoejbaa
