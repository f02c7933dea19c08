/-
  The numbers of functions and types, by name. Written by a program of ours (gen2.py). Conditions: none.
-/
import Derived.Test.YtpbmahnieepmiaaNd
import Derived.KernelRfl
namespace Go.Proofs.Ytpbmahnieepmiaa
open Go
abbrev fn_laws_FnExactSLen : Nat := 3
abbrev fn_laws_FnSHeight : Nat := 4
abbrev fn_laws_FnExactSLoad : Nat := 5
abbrev fn_laws_FnExactSDescend : Nat := 6
abbrev fn_laws_FnExactSDeleteAt : Nat := 7
abbrev fn_laws_sLen : Nat := 9
abbrev fn_impl_SHeight : Nat := 10
abbrev fn_spec_Tree : Nat := 11
abbrev fn_spec_Items : Nat := 12
abbrev fn_laws_aliveS : Nat := 13
abbrev fn_laws_sLoad : Nat := 14
abbrev fn_spec_Rises : Nat := 15
abbrev fn_laws_sDescend : Nat := 16
abbrev fn_laws_sDeleteAt : Nat := 17
abbrev fn_laws_exPlaces : Nat := 18
abbrev fn_slices_Equal_int_int : Nat := 22
abbrev fn_impl_SInsert : Nat := 23
abbrev fn_impl_SLen : Nat := 27
abbrev fn_impl_growSet : Nat := 28
abbrev fn_set_Height : Nat := 29
abbrev fn_spec_Put : Nat := 30
abbrev fn_impl_SLoad : Nat := 31
abbrev fn_spec_Keys : Nat := 32
abbrev fn_impl_SDescend : Nat := 33
abbrev fn_spec_GDescend : Nat := 34
abbrev fn_impl_SDeleteAt : Nat := 35
abbrev fn_spec_GDeleteAt : Nat := 36
abbrev fn_laws_keysOf : Nat := 37
abbrev fn_slices_Equal_impl_Key_impl_Key : Nat := 38
abbrev fn_set_Keys : Nat := 41
abbrev fn_impl_taker_int : Nat := 43
abbrev fn_set_Len : Nat := 46
abbrev fn_set_Insert : Nat := 47
abbrev fn_ms_Height : Nat := 48
abbrev fn_spec_Place : Nat := 49
abbrev fn_set_Load : Nat := 50
abbrev fn_set_Descend : Nat := 51
abbrev fn_spec_First : Nat := 52
abbrev fn_spec_Down : Nat := 53
abbrev fn_impl_key : Nat := 54
abbrev fn_set_DeleteAt : Nat := 55
abbrev fn_spec_Cut : Nat := 56
abbrev fn_laws_keyOf : Nat := 57
abbrev fn_ms_Keys : Nat := 69
abbrev fn_impl_taker_int_1 : Nat := 72
abbrev fn_ms_Len : Nat := 75
abbrev fn_ms_Set : Nat := 76
abbrev fn_ns_leaf : Nat := 77
abbrev fn_spec_Before : Nat := 78
abbrev fn_ms_Load : Nat := 79
abbrev fn_ms_Descend : Nat := 80
abbrev fn_set_Descend_1 : Nat := 81
abbrev fn_spec_Turned : Nat := 82
abbrev fn_ms_DeleteAt : Nat := 83
abbrev fn_ns_keys : Nat := 90
abbrev fn_ms_init : Nat := 93
abbrev fn_ms_newNode : Nat := 94
abbrev fn_ms_nodeSet : Nat := 95
abbrev fn_ms_nodeSplit : Nat := 96
abbrev fn_ns_updateCount : Nat := 97
abbrev fn_spec_Rank : Nat := 98
abbrev fn_ms_isoLoad : Nat := 99
abbrev fn_ms_descend : Nat := 100
abbrev fn_ms_Delete : Nat := 101
abbrev fn_ms_nodeReverse : Nat := 104
abbrev fn_degreeToMinMax : Nat := 105
abbrev fn_ms_search : Nat := 106
abbrev fn_ms_copy : Nat := 107
abbrev fn_ms_nodeDescend : Nat := 108
abbrev fn_ms_delete : Nat := 109
abbrev fn_ms_nodeRebalance : Nat := 110
abbrev ty_int : Nat := 3
abbrev ty_bool : Nat := 4
abbrev ty_uint8 : Nat := 5
abbrev ty_sl_int : Nat := 22
abbrev ty_impl_Item : Nat := 39
abbrev ty_impl_Found : Nat := 41
abbrev ty_impl_Make : Nat := 48
abbrev ty_impl_Key : Nat := 58
abbrev ty_func_int_bool : Nat := 63
abbrev ty_p_sl_int : Nat := 65
abbrev ty_p_btree_mapNode_int_struct : Nat := 68
abbrev ty_struct : Nat := 69
abbrev ty_btree_mapPair_int_struct : Nat := 71
abbrev ty_btree_Set_int : Nat := 75
abbrev ty_sl_p_btree_mapNode_int_struct : Nat := 101
abbrev ty_btree_mapNode_int_struct : Nat := 105
abbrev ty_8_uint8 : Nat := 127
set_option maxRecDepth 100000
theorem hmix : Try.prog.follows .mixedOrders = true := by kernel_rfl
end Go.Proofs.Ytpbmahnieepmiaa
