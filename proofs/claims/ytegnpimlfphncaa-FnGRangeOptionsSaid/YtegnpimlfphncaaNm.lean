/-
  The numbers of functions and types, by name. Written by a program of ours (gen2.py). Conditions: none.
-/
import Derived.Test.YtegnpimlfphncaaNd
import Derived.KernelRfl
namespace Go.Proofs.Ytegnpimlfphncaa
open Go
abbrev fn_laws_FnGRangeOptions : Nat := 4
abbrev fn_laws_zzFits1 : Nat := 5
abbrev fn_laws_exMake : Nat := 7
abbrev fn_laws_exItems : Nat := 8
abbrev fn_spec_Fits : Nat := 9
abbrev fn_laws_fits : Nat := 10
abbrev fn_laws_alive : Nat := 11
abbrev fn_impl_GDeleteRange : Nat := 12
abbrev fn_slices_Equal_impl_Item_impl_Item : Nat := 13
abbrev fn_impl_GItems : Nat := 16
abbrev fn_impl_grow : Nat := 17
abbrev fn_tg_DeleteRange : Nat := 18
abbrev fn_impl_ranges : Nat := 19
abbrev fn_impl_scanned : Nat := 20
abbrev fn_lg_Len : Nat := 21
abbrev fn_tg_Items : Nat := 22
abbrev fn_NewBTreeGOptions : Nat := 28
abbrev fn_impl_before : Nat := 29
abbrev fn_impl_options : Nat := 30
abbrev fn_tg_Set : Nat := 31
abbrev fn_tg_DeleteRangeReuse : Nat := 32
abbrev fn_lg_Scan : Nat := 33
abbrev fn_impl_taker : Nat := 34
abbrev fn_tg_items : Nat := 35
abbrev fn_tg_lock : Nat := 36
abbrev fn_tg_isoLoad : Nat := 38
abbrev fn_tg_find : Nat := 39
abbrev fn_tg_deleteHint : Nat := 40
abbrev fn_ng_leaf : Nat := 41
abbrev fn_newIsoID : Nat := 44
abbrev fn_tg_init : Nat := 45
abbrev fn_slices_Clone_int_int : Nat := 46
abbrev fn_impl_before_1 : Nat := 47
abbrev fn_impl_rank : Nat := 48
abbrev fn_tg_SetHint : Nat := 49
abbrev fn_lg_Clear : Nat := 50
abbrev fn_tg_DeleteRangeReuse_1 : Nat := 51
abbrev fn_lg_append : Nat := 52
abbrev fn_extractNodeScan : Nat := 53
abbrev fn_lg_pop : Nat := 54
abbrev fn_impl_taker_1 : Nat := 55
abbrev fn_tg_Len : Nat := 56
abbrev fn_tg_nodeItems : Nat := 57
abbrev fn_tg_copy : Nat := 58
abbrev fn_tg_bsearch : Nat := 59
abbrev fn_tg_hintsearch : Nat := 60
abbrev fn_tg_delete : Nat := 61
abbrev fn_degreeToMinMax : Nat := 63
abbrev fn_impl_remainder : Nat := 64
abbrev fn_tg_setHint : Nat := 65
abbrev fn_lg_push : Nat := 66
abbrev fn_tg_Less : Nat := 67
abbrev fn_tg_nodeRebalance : Nat := 68
abbrev fn_tg_newNode : Nat := 69
abbrev fn_tg_nodeSet : Nat := 70
abbrev fn_tg_nodeSplit : Nat := 71
abbrev fn_ng_updateCount : Nat := 72
abbrev ty_int : Nat := 3
abbrev ty_bool : Nat := 4
abbrev ty_sl_int : Nat := 22
abbrev ty_impl_Make : Nat := 24
abbrev ty_sl_impl_Item : Nat := 25
abbrev ty_impl_Item : Nat := 27
abbrev ty_impl_Range : Nat := 37
abbrev ty_p_btree_BTreeG_pub_greenwood_impl_Item : Nat := 43
abbrev ty_btree_List_pub_greenwood_impl_Item : Nat := 48
abbrev ty_btree_Options : Nat := 65
abbrev ty_btree_DeleteRangeOptions : Nat := 71
abbrev ty_p_sl_impl_Item : Nat := 75
abbrev ty_btree_PathHint : Nat := 82
abbrev ty_uint64 : Nat := 84
abbrev ty_p_btree_node_pub_greenwood_impl_Item : Nat := 86
abbrev ty_btree_BTreeG_pub_greenwood_impl_Item : Nat := 88
abbrev ty_btree_node_pub_greenwood_impl_Item : Nat := 97
abbrev ty_sl_p_btree_node_pub_greenwood_impl_Item : Nat := 99
abbrev ty_btree_stackItem_pub_greenwood_impl_Item_110 : Nat := 110
abbrev ty_btree_eitem_pub_greenwood_impl_Item : Nat := 113
set_option maxRecDepth 100000
theorem hmix : Try.prog.follows .mixedOrders = true := by kernel_rfl
end Go.Proofs.Ytegnpimlfphncaa
