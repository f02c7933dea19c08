/-
  The numbers of functions and types, by name. Written by a program of ours (gen2.py). Conditions: none.
-/
import Derived.Test.YtgniflegbdeokaaNd
import Derived.KernelRfl
namespace Go.Proofs.Ytgniflegbdeokaa
open Go
abbrev fn_laws_FnExactWAscend : Nat := 6
abbrev fn_laws_FnExactWPops : Nat := 9
abbrev fn_laws_zzFits2 : Nat := 18
abbrev fn_laws_wAscend : Nat := 19
abbrev fn_laws_exWords : Nat := 20
abbrev fn_spec_Fits : Nat := 21
abbrev fn_laws_wPops : Nat := 25
abbrev fn_laws_fit : Nat := 26
abbrev fn_laws_zzFits3 : Nat := 41
abbrev fn_impl_WAscend : Nat := 42
abbrev fn_spec_WAscend : Nat := 43
abbrev fn_slices_Equal_impl_Word_impl_Word : Nat := 44
abbrev fn_impl_WPops : Nat := 51
abbrev fn_spec_WPops : Nat := 52
abbrev fn_slices_Equal_bool_bool : Nat := 53
abbrev fn_impl_growWords : Nat := 66
abbrev fn_mw_Ascend : Nat := 67
abbrev fn_impl_words : Nat := 68
abbrev fn_spec_Words : Nat := 69
abbrev fn_spec_spot : Nat := 70
abbrev fn_spec_First_impl_Word : Nat := 71
abbrev fn_impl_popped : Nat := 79
abbrev fn_impl_allWords : Nat := 80
abbrev fn_NewMap_string_int : Nat := 103
abbrev fn_mw_Set : Nat := 104
abbrev fn_mw_ascend : Nat := 105
abbrev fn_impl_taker_impl_Word : Nat := 106
abbrev fn_impl_words_1 : Nat := 107
abbrev fn_spec_WSet : Nat := 108
abbrev fn_mw_PopMax : Nat := 113
abbrev fn_mw_PopMin : Nat := 114
abbrev fn_mw_Scan : Nat := 115
abbrev fn_mw_init : Nat := 132
abbrev fn_mw_newNode : Nat := 133
abbrev fn_mw_nodeSet : Nat := 134
abbrev fn_mw_nodeSplit : Nat := 135
abbrev fn_nw_updateCount : Nat := 136
abbrev fn_mw_nodeAscend : Nat := 137
abbrev fn_impl_taker_impl_Word_1 : Nat := 138
abbrev fn_mw_isoLoad : Nat := 141
abbrev fn_nw_leaf : Nat := 142
abbrev fn_mw_Delete : Nat := 143
abbrev fn_mw_scan : Nat := 144
abbrev fn_degreeToMinMax : Nat := 148
abbrev fn_mw_search : Nat := 151
abbrev fn_mw_nodeScan : Nat := 152
abbrev fn_mw_copy : Nat := 155
abbrev fn_mw_delete : Nat := 156
abbrev fn_mw_nodeRebalance : Nat := 158
abbrev ty_int : Nat := 3
abbrev ty_bool : Nat := 4
abbrev ty_string : Nat := 9
abbrev ty_sl_impl_Word : Nat := 29
abbrev ty_impl_Word : Nat := 53
abbrev ty_func_impl_Word_bool : Nat := 54
abbrev ty_p_sl_impl_Word : Nat := 100
abbrev ty_p_btree_mapNode_string_int : Nat := 161
abbrev ty_btree_mapPair_string_int : Nat := 163
abbrev ty_btree_Map_string_int : Nat := 165
abbrev ty_btree_mapNode_string_int : Nat := 170
abbrev ty_sl_p_btree_mapNode_string_int : Nat := 176
set_option maxRecDepth 100000
theorem hmix : Try.prog.follows .mixedOrders = true := by kernel_rfl
end Go.Proofs.Ytgniflegbdeokaa
