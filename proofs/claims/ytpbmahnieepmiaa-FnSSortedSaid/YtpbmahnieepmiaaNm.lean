/-
  The numbers of functions and types, by name. Written by a program of ours (gen2.py). Conditions: none.
-/
import Derived.Test.YtpbmahnieepmiaaNd
import Derived.KernelRfl
namespace Go.Proofs.Ytpbmahnieepmiaa
open Go
abbrev fn_laws_FnSSorted : Nat := 8
abbrev fn_laws_aliveS : Nat := 13
abbrev fn_slices_Clone_int_int : Nat := 19
abbrev fn_slices_Sort_int_int : Nat := 20
abbrev fn_slices_Compact_int_int : Nat := 21
abbrev fn_slices_Equal_int_int : Nat := 22
abbrev fn_impl_SInsert : Nat := 23
abbrev fn_impl_SScan : Nat := 24
abbrev fn_impl_SReverse : Nat := 25
abbrev fn_laws_turned_int : Nat := 26
abbrev fn_impl_SLen : Nat := 27
abbrev fn_impl_growSet : Nat := 28
abbrev fn_set_Keys : Nat := 41
abbrev fn_set_Scan : Nat := 42
abbrev fn_impl_taker_int : Nat := 43
abbrev fn_set_Reverse : Nat := 44
abbrev fn_slices_Reverse_int_int : Nat := 45
abbrev fn_set_Len : Nat := 46
abbrev fn_set_Insert : Nat := 47
abbrev fn_ms_Keys : Nat := 69
abbrev fn_ms_Scan : Nat := 70
abbrev fn_set_Scan_1 : Nat := 71
abbrev fn_impl_taker_int_1 : Nat := 72
abbrev fn_ms_Reverse : Nat := 73
abbrev fn_set_Reverse_1 : Nat := 74
abbrev fn_ms_Len : Nat := 75
abbrev fn_ms_Set : Nat := 76
abbrev fn_ns_leaf : Nat := 77
abbrev fn_ns_keys : Nat := 90
abbrev fn_ms_scan : Nat := 91
abbrev fn_ms_reverse : Nat := 92
abbrev fn_ms_init : Nat := 93
abbrev fn_ms_newNode : Nat := 94
abbrev fn_ms_nodeSet : Nat := 95
abbrev fn_ms_nodeSplit : Nat := 96
abbrev fn_ns_updateCount : Nat := 97
abbrev fn_ms_isoLoad : Nat := 99
abbrev fn_ms_nodeScan : Nat := 103
abbrev fn_ms_nodeReverse : Nat := 104
abbrev fn_degreeToMinMax : Nat := 105
abbrev fn_ms_search : Nat := 106
abbrev fn_ms_copy : Nat := 107
abbrev ty_int : Nat := 3
abbrev ty_bool : Nat := 4
abbrev ty_sl_int : Nat := 22
abbrev ty_func_int_bool : Nat := 63
abbrev ty_p_sl_int : Nat := 65
abbrev ty_p_btree_mapNode_int_struct : Nat := 68
abbrev ty_struct : Nat := 69
abbrev ty_btree_mapPair_int_struct : Nat := 71
abbrev ty_btree_Set_int : Nat := 75
abbrev ty_sl_p_btree_mapNode_int_struct : Nat := 101
abbrev ty_btree_mapNode_int_struct : Nat := 105
set_option maxRecDepth 100000
theorem hmix : Try.prog.follows .mixedOrders = true := by kernel_rfl
end Go.Proofs.Ytpbmahnieepmiaa
