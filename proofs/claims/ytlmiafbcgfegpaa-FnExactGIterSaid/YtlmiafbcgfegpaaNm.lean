/-
  The numbers of functions and types, by name. Written by a program of ours (gen2.py). Conditions: none.
-/
import Derived.Test.YtlmiafbcgfegpaaNd
import Derived.KernelRfl
namespace Go.Proofs.Ytlmiafbcgfegpaa
open Go
abbrev fn_laws_FnExactGIter : Nat := 4
abbrev fn_laws_zzFits1 : Nat := 9
abbrev fn_spec_Tree : Nat := 15
abbrev fn_laws_gIter : Nat := 20
abbrev fn_laws_exMake : Nat := 21
abbrev fn_laws_exItems : Nat := 22
abbrev fn_laws_exMoves : Nat := 23
abbrev fn_spec_Fits : Nat := 24
abbrev fn_spec_Put : Nat := 36
abbrev fn_impl_GIter : Nat := 42
abbrev fn_spec_Iter : Nat := 43
abbrev fn_laws_sameMoves : Nat := 44
abbrev fn_impl_grow : Nat := 46
abbrev fn_impl_options : Nat := 59
abbrev fn_spec_Place : Nat := 62
abbrev fn_tg_Iter : Nat := 65
abbrev fn_impl_moved : Nat := 66
abbrev fn_ig_Release : Nat := 67
abbrev fn_spec_At : Nat := 68
abbrev fn_NewBTreeGOptions : Nat := 72
abbrev fn_impl_before : Nat := 73
abbrev fn_tg_Set : Nat := 74
abbrev fn_spec_Before : Nat := 88
abbrev fn_tg_iter : Nat := 89
abbrev fn_ig_Last : Nat := 90
abbrev fn_ig_Next : Nat := 91
abbrev fn_ig_Prev : Nat := 92
abbrev fn_ig_Seek : Nat := 93
abbrev fn_ig_SeekHint : Nat := 94
abbrev fn_ig_First : Nat := 95
abbrev fn_impl_found : Nat := 96
abbrev fn_ig_Item : Nat := 97
abbrev fn_tg_unlock : Nat := 98
abbrev fn_spec_Cut : Nat := 99
abbrev fn_newIsoID : Nat := 111
abbrev fn_tg_init : Nat := 112
abbrev fn_slices_Clone_int_int : Nat := 113
abbrev fn_impl_before_1 : Nat := 114
abbrev fn_impl_rank : Nat := 115
abbrev fn_tg_SetHint : Nat := 116
abbrev fn_tg_lock : Nat := 117
abbrev fn_tg_isoLoad : Nat := 120
abbrev fn_tg_find : Nat := 121
abbrev fn_ng_leaf : Nat := 123
abbrev fn_spec_Rank : Nat := 138
abbrev fn_ig_seek : Nat := 139
abbrev fn_degreeToMinMax : Nat := 148
abbrev fn_impl_remainder : Nat := 149
abbrev fn_tg_setHint : Nat := 150
abbrev fn_tg_copy : Nat := 151
abbrev fn_tg_bsearch : Nat := 152
abbrev fn_tg_hintsearch : Nat := 153
abbrev fn_tg_newNode : Nat := 162
abbrev fn_tg_nodeSet : Nat := 163
abbrev fn_tg_nodeSplit : Nat := 164
abbrev fn_ng_updateCount : Nat := 165
abbrev fn_tg_Less : Nat := 166
abbrev ty_int : Nat := 3
abbrev ty_bool : Nat := 4
abbrev ty_sl_int : Nat := 22
abbrev ty_impl_Make : Nat := 24
abbrev ty_sl_impl_Item : Nat := 25
abbrev ty_impl_Item : Nat := 32
abbrev ty_sl_impl_Move : Nat := 39
abbrev ty_impl_Found : Nat := 65
abbrev ty_impl_Move : Nat := 76
abbrev ty_btree_Options : Nat := 99
abbrev ty_p_btree_node_pub_greenwood_impl_Item : Nat := 108
abbrev ty_btree_iterStackItemG_pub_greenwood_impl_Item : Nat := 110
abbrev ty_btree_IterG_pub_greenwood_impl_Item : Nat := 114
abbrev ty_btree_PathHint : Nat := 156
abbrev ty_uint64 : Nat := 167
abbrev ty_btree_BTreeG_pub_greenwood_impl_Item : Nat := 170
abbrev ty_btree_node_pub_greenwood_impl_Item : Nat := 186
abbrev ty_sl_p_btree_node_pub_greenwood_impl_Item : Nat := 187
set_option maxRecDepth 100000
theorem hmix : Try.prog.follows .mixedOrders = true := by kernel_rfl
end Go.Proofs.Ytlmiafbcgfegpaa
