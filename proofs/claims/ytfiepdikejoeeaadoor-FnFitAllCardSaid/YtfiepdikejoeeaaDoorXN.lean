/- The numbers of types, functions and variables of this translation, by name. Laid by a program of this session. No condition. -/
import Derived.Test.YtfiepdikejoeeaaDoorProg
import Derived.Test.YtfiepdikejoeeaaDoorXOps
set_option linter.unusedVariables false
namespace Go.Proofs.YtfiepdikejoeeaaDoor.X
open Go Go.X
noncomputable abbrev P : Program := Go.Proofs.Tryd.prog
theorem follows_mixed : P.follows .mixedOrders = true := by kernel_rfl
namespace T
abbrev ty_2e38e77b : Nat := 0
abbrev ty_0105467f : Nat := 1
abbrev int64 : Nat := 2
abbrev int : Nat := 3
abbrev bool : Nat := 4
abbrev uint8 : Nat := 5
abbrev abi_BoundsErrorCode : Nat := 6
abbrev st_b8f438ef : Nat := 7
abbrev runtime_boundsError : Nat := 8
abbrev string : Nat := 9
abbrev runtime_errorString : Nat := 10
abbrev runtime_plainError : Nat := 11
abbrev uintptr : Nat := 12
abbrev st_8f9d5cd7 : Nat := 13
abbrev runtime_errorAddressString : Nat := 14
abbrev p_runtime_TypeAssertionError : Nat := 15
abbrev p_runtime_PanicNilError : Nat := 16
abbrev p_abi_Type : Nat := 17
abbrev st_a943b70f : Nat := 18
abbrev maps_unhashableTypeError : Nat := 19
abbrev ty_c685f6f0 : Nat := 20
abbrev int32 : Nat := 21
abbrev sl_impl_Xattr : Nat := 22
abbrev ty_3ba41459 : Nat := 23
abbrev ty_e9186230 : Nat := 24
abbrev ty_19bb930b : Nat := 25
abbrev ty_201cd42e : Nat := 26
abbrev sl_spec_Xattr : Nat := 27
abbrev ty_ae2dd44b : Nat := 28
abbrev sl_uint8 : Nat := 29
abbrev st_99931df3 : Nat := 30
abbrev impl_Xattr : Nat := 31
abbrev ty_1287d6cb : Nat := 32
abbrev uint64 : Nat := 33
abbrev ty_70e34133 : Nat := 34
abbrev ty_86cf7afe : Nat := 35
abbrev sl_string : Nat := 36
abbrev sl_sl_uint8 : Nat := 37
abbrev ty_d940840f : Nat := 38
abbrev ty_62b9b111 : Nat := 39
abbrev sl_int : Nat := 40
abbrev ty_94a0996e : Nat := 41
abbrev ty_62bfdbda : Nat := 42
abbrev spec_Xattr : Nat := 43
abbrev ty_ae2ff674 : Nat := 44
abbrev sl_uint64 : Nat := 45
abbrev ty_2878f4ff : Nat := 46
abbrev ty_7341476c : Nat := 47
abbrev ty_7b6bf429 : Nat := 48
abbrev sl_compactext4_xattr : Nat := 49
abbrev st_6d432526 : Nat := 50
abbrev compactext4_xattrState : Nat := 51
abbrev ty_1c46d471 : Nat := 52
abbrev p_compactext4_xattrState : Nat := 53
abbrev ty_cb6f3b8d : Nat := 54
abbrev ty_151ed3f8 : Nat := 55
abbrev st_d90dcf4e : Nat := 56
abbrev compactext4_xattr : Nat := 57
abbrev ty_42972921 : Nat := 58
abbrev st_5470e38b : Nat := 59
abbrev arr7_struct___Index_uint8__Prefix_string__ : Nat := 60
abbrev p_compactext4_xattr : Nat := 61
abbrev ty_fe1f5563 : Nat := 62
abbrev st_4efbc9d3 : Nat := 63
abbrev runtime_TypeAssertionError : Nat := 64
abbrev arr0_p_runtime_PanicNilError : Nat := 65
abbrev st_1a2872c1 : Nat := 66
abbrev runtime_PanicNilError : Nat := 67
abbrev uint32 : Nat := 68
abbrev abi_TFlag : Nat := 69
abbrev abi_Kind : Nat := 70
abbrev ty_28706d2a : Nat := 71
abbrev p_uint8 : Nat := 72
abbrev abi_NameOff : Nat := 73
abbrev abi_TypeOff : Nat := 74
abbrev st_04661226 : Nat := 75
abbrev abi_Type : Nat := 76
abbrev unsafe_Pointer : Nat := 77
end T
namespace Fn
abbrev main_main : Nat := 0
abbrev gosem_cut : Nat := 1
abbrev gosem_cut_init : Nat := 2
abbrev laws_FnFitAll : Nat := 3
abbrev laws_zzFits7 : Nat := 4
abbrev laws_attributesFair : Nat := 5
abbrev impl_FitXattrs : Nat := 6
abbrev spec_Rooms : Nat := 7
abbrev laws_attributes : Nat := 8
abbrev laws_zzFits8 : Nat := 9
abbrev spec_Prefixed : Nat := 10
abbrev impl_split : Nat := 11
abbrev compactext4_DoorFit : Nat := 12
abbrev spec_room : Nat := 13
abbrev spec_prefix : Nat := 14
abbrev spec_Begins : Nat := 15
abbrev compactext4_xattrState_init : Nat := 16
abbrev compactext4_xattrState_addXattr : Nat := 17
abbrev compactext4_compressXattrName : Nat := 18
abbrev compactext4_xattr_EntryLen : Nat := 19
abbrev compactext4_xattr_ValueLen : Nat := 20
abbrev strings_HasPrefix : Nat := 21
abbrev stringslite_HasPrefix : Nat := 22
abbrev runtime_boundsError_Error : Nat := 23
abbrev runtime_boundsError_RuntimeError : Nat := 24
abbrev runtime_errorString_Error : Nat := 25
abbrev runtime_errorString_RuntimeError : Nat := 26
abbrev runtime_plainError_Error : Nat := 27
abbrev runtime_plainError_RuntimeError : Nat := 28
abbrev runtime_errorAddressString_Error : Nat := 29
abbrev runtime_errorAddressString_RuntimeError : Nat := 30
abbrev runtime_TypeAssertionError_Error : Nat := 31
abbrev runtime_TypeAssertionError_RuntimeError : Nat := 32
abbrev runtime_PanicNilError_Error : Nat := 33
abbrev runtime_PanicNilError_RuntimeError : Nat := 34
abbrev abi_Type_Align : Nat := 35
abbrev maps_unhashableTypeError_Error : Nat := 36
abbrev maps_unhashableTypeError_RuntimeError : Nat := 37
abbrev abi_Kind_String : Nat := 38
abbrev gosem_cut_vars : Nat := 42
end Fn
namespace G
abbrev compactext4_xattrPrefixes : Nat := 0
end G
theorem cl_of_eq {T : Tab} {f : FuncId} {fn : Func} {c : Code} {args : List Value} {w : World} {K : Value → World → Prop} {A : Prop} (hf : P.funcs[f]? = some fn) (hb : fn.body = some c) (hm : P.follows .mixedOrders = true)
    (hd : okDst fn.ntmps c = true) (ha : args.length ≤ fn.ntmps) (h : CW P T c (retQ P fn.results.toList K) (env0 args) w = A) (hA : A) : Cl P f args.toArray w K :=
  cl_of_cw hf hb hm hd ha (by rw [h]; exact hA)
end Go.Proofs.YtfiepdikejoeeaaDoor.X
