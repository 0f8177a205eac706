/- Facts on this translation: what its types are, where its fields lie, and that its functions are entered. Laid by a program of this session. No condition. -/
import Derived.Test.YtfiepdikejoeeaaDoorXN
import Derived.Test.YtfiepdikejoeeaaDoorXLaws
set_option linter.unusedVariables false
set_option maxRecDepth 100000
namespace Go.Proofs.YtfiepdikejoeeaaDoor.X
open Go Go.X Go.Proofs
namespace U
theorem int64 : P.underlying T.int64 = some (.int .i64) := Tryd.underlying2
theorem int : P.underlying T.int = some (.int .i64) := Tryd.underlying3
theorem bool : P.underlying T.bool = some (.bool) := Tryd.underlying4
theorem uint8 : P.underlying T.uint8 = some (.int .u8) := Tryd.underlying5
theorem abi_BoundsErrorCode : P.underlying T.abi_BoundsErrorCode = some (.int .u8) := Tryd.underlying6
theorem string : P.underlying T.string = some (.string) := Tryd.underlying9
theorem runtime_errorString : P.underlying T.runtime_errorString = some (.string) := Tryd.underlying10
theorem runtime_plainError : P.underlying T.runtime_plainError = some (.string) := Tryd.underlying11
theorem uintptr : P.underlying T.uintptr = some (.int .u64) := Tryd.underlying12
theorem p_runtime_TypeAssertionError : P.underlying T.p_runtime_TypeAssertionError = some (.pointer T.runtime_TypeAssertionError) := Tryd.underlying15
theorem p_runtime_PanicNilError : P.underlying T.p_runtime_PanicNilError = some (.pointer T.runtime_PanicNilError) := Tryd.underlying16
theorem p_abi_Type : P.underlying T.p_abi_Type = some (.pointer T.abi_Type) := Tryd.underlying17
theorem int32 : P.underlying T.int32 = some (.int .i32) := Tryd.underlying21
theorem sl_impl_Xattr : P.underlying T.sl_impl_Xattr = some (.slice T.impl_Xattr) := Tryd.underlying22
theorem sl_spec_Xattr : P.underlying T.sl_spec_Xattr = some (.slice T.spec_Xattr) := Tryd.underlying27
theorem sl_uint8 : P.underlying T.sl_uint8 = some (.slice T.uint8) := Tryd.underlying29
theorem uint64 : P.underlying T.uint64 = some (.int .u64) := Tryd.underlying33
theorem sl_string : P.underlying T.sl_string = some (.slice T.string) := Tryd.underlying36
theorem sl_sl_uint8 : P.underlying T.sl_sl_uint8 = some (.slice T.sl_uint8) := Tryd.underlying37
theorem sl_int : P.underlying T.sl_int = some (.slice T.int) := Tryd.underlying40
theorem sl_uint64 : P.underlying T.sl_uint64 = some (.slice T.uint64) := Tryd.underlying45
theorem sl_compactext4_xattr : P.underlying T.sl_compactext4_xattr = some (.slice T.compactext4_xattr) := Tryd.underlying49
theorem p_compactext4_xattrState : P.underlying T.p_compactext4_xattrState = some (.pointer T.compactext4_xattrState) := Tryd.underlying53
theorem arr7_struct___Index_uint8__Prefix_string__ : P.underlying T.arr7_struct___Index_uint8__Prefix_string__ = some (.array 7 T.st_5470e38b) := Tryd.underlying60
theorem p_compactext4_xattr : P.underlying T.p_compactext4_xattr = some (.pointer T.compactext4_xattr) := Tryd.underlying61
theorem arr0_p_runtime_PanicNilError : P.underlying T.arr0_p_runtime_PanicNilError = some (.array 0 T.p_runtime_PanicNilError) := Tryd.underlying65
theorem uint32 : P.underlying T.uint32 = some (.int .u32) := Tryd.underlying68
theorem abi_TFlag : P.underlying T.abi_TFlag = some (.int .u8) := Tryd.underlying69
theorem abi_Kind : P.underlying T.abi_Kind = some (.int .u8) := Tryd.underlying70
theorem p_uint8 : P.underlying T.p_uint8 = some (.pointer T.uint8) := Tryd.underlying72
theorem abi_NameOff : P.underlying T.abi_NameOff = some (.int .i32) := Tryd.underlying73
theorem abi_TypeOff : P.underlying T.abi_TypeOff = some (.int .i32) := Tryd.underlying74
end U
namespace A
theorem st_b8f438ef_0 (b o : Nat) (K : Value → Prop) : pu P (oFldA T.st_b8f438ef (.pointer (some ⟨b, o, none⟩)) 0) K = K (.pointer (some ⟨b, o + 0, none⟩)) := fldA_law K Tryd.underlying7 (by kernel_rfl) (by kernel_rfl)
theorem st_b8f438ef_1 (b o : Nat) (K : Value → Prop) : pu P (oFldA T.st_b8f438ef (.pointer (some ⟨b, o, none⟩)) 1) K = K (.pointer (some ⟨b, o + 1, none⟩)) := fldA_law K Tryd.underlying7 (by kernel_rfl) (by kernel_rfl)
theorem st_b8f438ef_2 (b o : Nat) (K : Value → Prop) : pu P (oFldA T.st_b8f438ef (.pointer (some ⟨b, o, none⟩)) 2) K = K (.pointer (some ⟨b, o + 2, none⟩)) := fldA_law K Tryd.underlying7 (by kernel_rfl) (by kernel_rfl)
theorem st_b8f438ef_3 (b o : Nat) (K : Value → Prop) : pu P (oFldA T.st_b8f438ef (.pointer (some ⟨b, o, none⟩)) 3) K = K (.pointer (some ⟨b, o + 3, none⟩)) := fldA_law K Tryd.underlying7 (by kernel_rfl) (by kernel_rfl)
theorem st_8f9d5cd7_0 (b o : Nat) (K : Value → Prop) : pu P (oFldA T.st_8f9d5cd7 (.pointer (some ⟨b, o, none⟩)) 0) K = K (.pointer (some ⟨b, o + 0, none⟩)) := fldA_law K Tryd.underlying13 (by kernel_rfl) (by kernel_rfl)
theorem st_8f9d5cd7_1 (b o : Nat) (K : Value → Prop) : pu P (oFldA T.st_8f9d5cd7 (.pointer (some ⟨b, o, none⟩)) 1) K = K (.pointer (some ⟨b, o + 1, none⟩)) := fldA_law K Tryd.underlying13 (by kernel_rfl) (by kernel_rfl)
theorem st_a943b70f_0 (b o : Nat) (K : Value → Prop) : pu P (oFldA T.st_a943b70f (.pointer (some ⟨b, o, none⟩)) 0) K = K (.pointer (some ⟨b, o + 0, none⟩)) := fldA_law K Tryd.underlying18 (by kernel_rfl) (by kernel_rfl)
theorem st_99931df3_0 (b o : Nat) (K : Value → Prop) : pu P (oFldA T.st_99931df3 (.pointer (some ⟨b, o, none⟩)) 0) K = K (.pointer (some ⟨b, o + 0, none⟩)) := fldA_law K Tryd.underlying30 (by kernel_rfl) (by kernel_rfl)
theorem st_99931df3_1 (b o : Nat) (K : Value → Prop) : pu P (oFldA T.st_99931df3 (.pointer (some ⟨b, o, none⟩)) 1) K = K (.pointer (some ⟨b, o + 1, none⟩)) := fldA_law K Tryd.underlying30 (by kernel_rfl) (by kernel_rfl)
theorem impl_Xattr_0 (b o : Nat) (K : Value → Prop) : pu P (oFldA T.impl_Xattr (.pointer (some ⟨b, o, none⟩)) 0) K = K (.pointer (some ⟨b, o + 0, none⟩)) := fldA_law K Tryd.underlying31 (by kernel_rfl) (by kernel_rfl)
theorem impl_Xattr_1 (b o : Nat) (K : Value → Prop) : pu P (oFldA T.impl_Xattr (.pointer (some ⟨b, o, none⟩)) 1) K = K (.pointer (some ⟨b, o + 1, none⟩)) := fldA_law K Tryd.underlying31 (by kernel_rfl) (by kernel_rfl)
theorem spec_Xattr_0 (b o : Nat) (K : Value → Prop) : pu P (oFldA T.spec_Xattr (.pointer (some ⟨b, o, none⟩)) 0) K = K (.pointer (some ⟨b, o + 0, none⟩)) := fldA_law K Tryd.underlying43 (by kernel_rfl) (by kernel_rfl)
theorem spec_Xattr_1 (b o : Nat) (K : Value → Prop) : pu P (oFldA T.spec_Xattr (.pointer (some ⟨b, o, none⟩)) 1) K = K (.pointer (some ⟨b, o + 1, none⟩)) := fldA_law K Tryd.underlying43 (by kernel_rfl) (by kernel_rfl)
theorem st_6d432526_0 (b o : Nat) (K : Value → Prop) : pu P (oFldA T.st_6d432526 (.pointer (some ⟨b, o, none⟩)) 0) K = K (.pointer (some ⟨b, o + 0, none⟩)) := fldA_law K Tryd.underlying50 (by kernel_rfl) (by kernel_rfl)
theorem st_6d432526_1 (b o : Nat) (K : Value → Prop) : pu P (oFldA T.st_6d432526 (.pointer (some ⟨b, o, none⟩)) 1) K = K (.pointer (some ⟨b, o + 1, none⟩)) := fldA_law K Tryd.underlying50 (by kernel_rfl) (by kernel_rfl)
theorem st_6d432526_2 (b o : Nat) (K : Value → Prop) : pu P (oFldA T.st_6d432526 (.pointer (some ⟨b, o, none⟩)) 2) K = K (.pointer (some ⟨b, o + 2, none⟩)) := fldA_law K Tryd.underlying50 (by kernel_rfl) (by kernel_rfl)
theorem st_6d432526_3 (b o : Nat) (K : Value → Prop) : pu P (oFldA T.st_6d432526 (.pointer (some ⟨b, o, none⟩)) 3) K = K (.pointer (some ⟨b, o + 3, none⟩)) := fldA_law K Tryd.underlying50 (by kernel_rfl) (by kernel_rfl)
theorem compactext4_xattrState_0 (b o : Nat) (K : Value → Prop) : pu P (oFldA T.compactext4_xattrState (.pointer (some ⟨b, o, none⟩)) 0) K = K (.pointer (some ⟨b, o + 0, none⟩)) := fldA_law K Tryd.underlying51 (by kernel_rfl) (by kernel_rfl)
theorem compactext4_xattrState_1 (b o : Nat) (K : Value → Prop) : pu P (oFldA T.compactext4_xattrState (.pointer (some ⟨b, o, none⟩)) 1) K = K (.pointer (some ⟨b, o + 1, none⟩)) := fldA_law K Tryd.underlying51 (by kernel_rfl) (by kernel_rfl)
theorem compactext4_xattrState_2 (b o : Nat) (K : Value → Prop) : pu P (oFldA T.compactext4_xattrState (.pointer (some ⟨b, o, none⟩)) 2) K = K (.pointer (some ⟨b, o + 2, none⟩)) := fldA_law K Tryd.underlying51 (by kernel_rfl) (by kernel_rfl)
theorem compactext4_xattrState_3 (b o : Nat) (K : Value → Prop) : pu P (oFldA T.compactext4_xattrState (.pointer (some ⟨b, o, none⟩)) 3) K = K (.pointer (some ⟨b, o + 3, none⟩)) := fldA_law K Tryd.underlying51 (by kernel_rfl) (by kernel_rfl)
theorem st_d90dcf4e_0 (b o : Nat) (K : Value → Prop) : pu P (oFldA T.st_d90dcf4e (.pointer (some ⟨b, o, none⟩)) 0) K = K (.pointer (some ⟨b, o + 0, none⟩)) := fldA_law K Tryd.underlying56 (by kernel_rfl) (by kernel_rfl)
theorem st_d90dcf4e_1 (b o : Nat) (K : Value → Prop) : pu P (oFldA T.st_d90dcf4e (.pointer (some ⟨b, o, none⟩)) 1) K = K (.pointer (some ⟨b, o + 1, none⟩)) := fldA_law K Tryd.underlying56 (by kernel_rfl) (by kernel_rfl)
theorem st_d90dcf4e_2 (b o : Nat) (K : Value → Prop) : pu P (oFldA T.st_d90dcf4e (.pointer (some ⟨b, o, none⟩)) 2) K = K (.pointer (some ⟨b, o + 2, none⟩)) := fldA_law K Tryd.underlying56 (by kernel_rfl) (by kernel_rfl)
theorem compactext4_xattr_0 (b o : Nat) (K : Value → Prop) : pu P (oFldA T.compactext4_xattr (.pointer (some ⟨b, o, none⟩)) 0) K = K (.pointer (some ⟨b, o + 0, none⟩)) := fldA_law K Tryd.underlying57 (by kernel_rfl) (by kernel_rfl)
theorem compactext4_xattr_1 (b o : Nat) (K : Value → Prop) : pu P (oFldA T.compactext4_xattr (.pointer (some ⟨b, o, none⟩)) 1) K = K (.pointer (some ⟨b, o + 1, none⟩)) := fldA_law K Tryd.underlying57 (by kernel_rfl) (by kernel_rfl)
theorem compactext4_xattr_2 (b o : Nat) (K : Value → Prop) : pu P (oFldA T.compactext4_xattr (.pointer (some ⟨b, o, none⟩)) 2) K = K (.pointer (some ⟨b, o + 2, none⟩)) := fldA_law K Tryd.underlying57 (by kernel_rfl) (by kernel_rfl)
theorem st_5470e38b_0 (b o : Nat) (K : Value → Prop) : pu P (oFldA T.st_5470e38b (.pointer (some ⟨b, o, none⟩)) 0) K = K (.pointer (some ⟨b, o + 0, none⟩)) := fldA_law K Tryd.underlying59 (by kernel_rfl) (by kernel_rfl)
theorem st_5470e38b_1 (b o : Nat) (K : Value → Prop) : pu P (oFldA T.st_5470e38b (.pointer (some ⟨b, o, none⟩)) 1) K = K (.pointer (some ⟨b, o + 1, none⟩)) := fldA_law K Tryd.underlying59 (by kernel_rfl) (by kernel_rfl)
theorem st_4efbc9d3_0 (b o : Nat) (K : Value → Prop) : pu P (oFldA T.st_4efbc9d3 (.pointer (some ⟨b, o, none⟩)) 0) K = K (.pointer (some ⟨b, o + 0, none⟩)) := fldA_law K Tryd.underlying63 (by kernel_rfl) (by kernel_rfl)
theorem st_4efbc9d3_1 (b o : Nat) (K : Value → Prop) : pu P (oFldA T.st_4efbc9d3 (.pointer (some ⟨b, o, none⟩)) 1) K = K (.pointer (some ⟨b, o + 1, none⟩)) := fldA_law K Tryd.underlying63 (by kernel_rfl) (by kernel_rfl)
theorem st_4efbc9d3_2 (b o : Nat) (K : Value → Prop) : pu P (oFldA T.st_4efbc9d3 (.pointer (some ⟨b, o, none⟩)) 2) K = K (.pointer (some ⟨b, o + 2, none⟩)) := fldA_law K Tryd.underlying63 (by kernel_rfl) (by kernel_rfl)
theorem st_4efbc9d3_3 (b o : Nat) (K : Value → Prop) : pu P (oFldA T.st_4efbc9d3 (.pointer (some ⟨b, o, none⟩)) 3) K = K (.pointer (some ⟨b, o + 3, none⟩)) := fldA_law K Tryd.underlying63 (by kernel_rfl) (by kernel_rfl)
theorem st_04661226_0 (b o : Nat) (K : Value → Prop) : pu P (oFldA T.st_04661226 (.pointer (some ⟨b, o, none⟩)) 0) K = K (.pointer (some ⟨b, o + 0, none⟩)) := fldA_law K Tryd.underlying75 (by kernel_rfl) (by kernel_rfl)
theorem st_04661226_1 (b o : Nat) (K : Value → Prop) : pu P (oFldA T.st_04661226 (.pointer (some ⟨b, o, none⟩)) 1) K = K (.pointer (some ⟨b, o + 1, none⟩)) := fldA_law K Tryd.underlying75 (by kernel_rfl) (by kernel_rfl)
theorem st_04661226_2 (b o : Nat) (K : Value → Prop) : pu P (oFldA T.st_04661226 (.pointer (some ⟨b, o, none⟩)) 2) K = K (.pointer (some ⟨b, o + 2, none⟩)) := fldA_law K Tryd.underlying75 (by kernel_rfl) (by kernel_rfl)
theorem st_04661226_3 (b o : Nat) (K : Value → Prop) : pu P (oFldA T.st_04661226 (.pointer (some ⟨b, o, none⟩)) 3) K = K (.pointer (some ⟨b, o + 3, none⟩)) := fldA_law K Tryd.underlying75 (by kernel_rfl) (by kernel_rfl)
theorem st_04661226_4 (b o : Nat) (K : Value → Prop) : pu P (oFldA T.st_04661226 (.pointer (some ⟨b, o, none⟩)) 4) K = K (.pointer (some ⟨b, o + 4, none⟩)) := fldA_law K Tryd.underlying75 (by kernel_rfl) (by kernel_rfl)
theorem st_04661226_5 (b o : Nat) (K : Value → Prop) : pu P (oFldA T.st_04661226 (.pointer (some ⟨b, o, none⟩)) 5) K = K (.pointer (some ⟨b, o + 5, none⟩)) := fldA_law K Tryd.underlying75 (by kernel_rfl) (by kernel_rfl)
theorem st_04661226_6 (b o : Nat) (K : Value → Prop) : pu P (oFldA T.st_04661226 (.pointer (some ⟨b, o, none⟩)) 6) K = K (.pointer (some ⟨b, o + 6, none⟩)) := fldA_law K Tryd.underlying75 (by kernel_rfl) (by kernel_rfl)
theorem st_04661226_7 (b o : Nat) (K : Value → Prop) : pu P (oFldA T.st_04661226 (.pointer (some ⟨b, o, none⟩)) 7) K = K (.pointer (some ⟨b, o + 7, none⟩)) := fldA_law K Tryd.underlying75 (by kernel_rfl) (by kernel_rfl)
theorem st_04661226_8 (b o : Nat) (K : Value → Prop) : pu P (oFldA T.st_04661226 (.pointer (some ⟨b, o, none⟩)) 8) K = K (.pointer (some ⟨b, o + 8, none⟩)) := fldA_law K Tryd.underlying75 (by kernel_rfl) (by kernel_rfl)
theorem st_04661226_9 (b o : Nat) (K : Value → Prop) : pu P (oFldA T.st_04661226 (.pointer (some ⟨b, o, none⟩)) 9) K = K (.pointer (some ⟨b, o + 9, none⟩)) := fldA_law K Tryd.underlying75 (by kernel_rfl) (by kernel_rfl)
theorem st_04661226_10 (b o : Nat) (K : Value → Prop) : pu P (oFldA T.st_04661226 (.pointer (some ⟨b, o, none⟩)) 10) K = K (.pointer (some ⟨b, o + 10, none⟩)) := fldA_law K Tryd.underlying75 (by kernel_rfl) (by kernel_rfl)
end A
attribute [go_sem] A.st_b8f438ef_0 A.st_b8f438ef_1 A.st_b8f438ef_2 A.st_b8f438ef_3 A.st_8f9d5cd7_0 A.st_8f9d5cd7_1 A.st_a943b70f_0 A.st_99931df3_0 A.st_99931df3_1 A.impl_Xattr_0 A.impl_Xattr_1 A.spec_Xattr_0 A.spec_Xattr_1 A.st_6d432526_0 A.st_6d432526_1 A.st_6d432526_2 A.st_6d432526_3 A.compactext4_xattrState_0 A.compactext4_xattrState_1 A.compactext4_xattrState_2 A.compactext4_xattrState_3 A.st_d90dcf4e_0 A.st_d90dcf4e_1 A.st_d90dcf4e_2 A.compactext4_xattr_0 A.compactext4_xattr_1 A.compactext4_xattr_2 A.st_5470e38b_0 A.st_5470e38b_1 A.st_4efbc9d3_0 A.st_4efbc9d3_1 A.st_4efbc9d3_2 A.st_4efbc9d3_3 A.st_04661226_0 A.st_04661226_1 A.st_04661226_2 A.st_04661226_3 A.st_04661226_4 A.st_04661226_5 A.st_04661226_6 A.st_04661226_7 A.st_04661226_8 A.st_04661226_9 A.st_04661226_10
namespace V
theorem len_string (K : Value → Prop) (c : Bool) (x : List UInt8) : pu P (oBuiltin .len #[T.string] T.int #[c] #[S x]) K = K (.int .i64 x.length) := oLenS K _ _ _ _ U.string
theorem len_sl_impl_Xattr (K : Value → Prop) (c : Bool) (a : Option Addr) (n m : Nat) : pu P (oBuiltin .len #[T.sl_impl_Xattr] T.int #[c] #[.slice a n m]) K = K (.int .i64 n) := oLenL K _ _ _ _ _ _ _ U.sl_impl_Xattr
theorem len_sl_spec_Xattr (K : Value → Prop) (c : Bool) (a : Option Addr) (n m : Nat) : pu P (oBuiltin .len #[T.sl_spec_Xattr] T.int #[c] #[.slice a n m]) K = K (.int .i64 n) := oLenL K _ _ _ _ _ _ _ U.sl_spec_Xattr
theorem len_sl_uint8 (K : Value → Prop) (c : Bool) (a : Option Addr) (n m : Nat) : pu P (oBuiltin .len #[T.sl_uint8] T.int #[c] #[.slice a n m]) K = K (.int .i64 n) := oLenL K _ _ _ _ _ _ _ U.sl_uint8
theorem len_sl_string (K : Value → Prop) (c : Bool) (a : Option Addr) (n m : Nat) : pu P (oBuiltin .len #[T.sl_string] T.int #[c] #[.slice a n m]) K = K (.int .i64 n) := oLenL K _ _ _ _ _ _ _ U.sl_string
theorem len_sl_int (K : Value → Prop) (c : Bool) (a : Option Addr) (n m : Nat) : pu P (oBuiltin .len #[T.sl_int] T.int #[c] #[.slice a n m]) K = K (.int .i64 n) := oLenL K _ _ _ _ _ _ _ U.sl_int
theorem len_sl_uint64 (K : Value → Prop) (c : Bool) (a : Option Addr) (n m : Nat) : pu P (oBuiltin .len #[T.sl_uint64] T.int #[c] #[.slice a n m]) K = K (.int .i64 n) := oLenL K _ _ _ _ _ _ _ U.sl_uint64
theorem len_sl_compactext4_xattr (K : Value → Prop) (c : Bool) (a : Option Addr) (n m : Nat) : pu P (oBuiltin .len #[T.sl_compactext4_xattr] T.int #[c] #[.slice a n m]) K = K (.int .i64 n) := oLenL K _ _ _ _ _ _ _ U.sl_compactext4_xattr
end V
attribute [go_sem] V.len_string V.len_sl_impl_Xattr V.len_sl_spec_Xattr V.len_sl_uint8 V.len_sl_string V.len_sl_int V.len_sl_uint64 V.len_sl_compactext4_xattr
namespace C
theorem laws_FnFitAll {args : Array Value} {w : World} {K : Value → World → Prop} : st P (oCall Fn.laws_FnFitAll args) w K = Cl P Fn.laws_FnFitAll args w K := st_call Tryd.func3 (by kernel_rfl) (by kernel_rfl)
theorem laws_zzFits7 {args : Array Value} {w : World} {K : Value → World → Prop} : st P (oCall Fn.laws_zzFits7 args) w K = Cl P Fn.laws_zzFits7 args w K := st_call Tryd.func4 (by kernel_rfl) (by kernel_rfl)
theorem laws_attributesFair {args : Array Value} {w : World} {K : Value → World → Prop} : st P (oCall Fn.laws_attributesFair args) w K = Cl P Fn.laws_attributesFair args w K := st_call Tryd.func5 (by kernel_rfl) (by kernel_rfl)
theorem impl_FitXattrs {args : Array Value} {w : World} {K : Value → World → Prop} : st P (oCall Fn.impl_FitXattrs args) w K = Cl P Fn.impl_FitXattrs args w K := st_call Tryd.func6 (by kernel_rfl) (by kernel_rfl)
theorem spec_Rooms {args : Array Value} {w : World} {K : Value → World → Prop} : st P (oCall Fn.spec_Rooms args) w K = Cl P Fn.spec_Rooms args w K := st_call Tryd.func7 (by kernel_rfl) (by kernel_rfl)
theorem laws_attributes {args : Array Value} {w : World} {K : Value → World → Prop} : st P (oCall Fn.laws_attributes args) w K = Cl P Fn.laws_attributes args w K := st_call Tryd.func8 (by kernel_rfl) (by kernel_rfl)
theorem laws_zzFits8 {args : Array Value} {w : World} {K : Value → World → Prop} : st P (oCall Fn.laws_zzFits8 args) w K = Cl P Fn.laws_zzFits8 args w K := st_call Tryd.func9 (by kernel_rfl) (by kernel_rfl)
theorem spec_Prefixed {args : Array Value} {w : World} {K : Value → World → Prop} : st P (oCall Fn.spec_Prefixed args) w K = Cl P Fn.spec_Prefixed args w K := st_call Tryd.func10 (by kernel_rfl) (by kernel_rfl)
theorem impl_split {args : Array Value} {w : World} {K : Value → World → Prop} : st P (oCall Fn.impl_split args) w K = Cl P Fn.impl_split args w K := st_call Tryd.func11 (by kernel_rfl) (by kernel_rfl)
theorem compactext4_DoorFit {args : Array Value} {w : World} {K : Value → World → Prop} : st P (oCall Fn.compactext4_DoorFit args) w K = Cl P Fn.compactext4_DoorFit args w K := st_call Tryd.func12 (by kernel_rfl) (by kernel_rfl)
theorem spec_room {args : Array Value} {w : World} {K : Value → World → Prop} : st P (oCall Fn.spec_room args) w K = Cl P Fn.spec_room args w K := st_call Tryd.func13 (by kernel_rfl) (by kernel_rfl)
theorem spec_prefix {args : Array Value} {w : World} {K : Value → World → Prop} : st P (oCall Fn.spec_prefix args) w K = Cl P Fn.spec_prefix args w K := st_call Tryd.func14 (by kernel_rfl) (by kernel_rfl)
theorem spec_Begins {args : Array Value} {w : World} {K : Value → World → Prop} : st P (oCall Fn.spec_Begins args) w K = Cl P Fn.spec_Begins args w K := st_call Tryd.func15 (by kernel_rfl) (by kernel_rfl)
theorem compactext4_xattrState_init {args : Array Value} {w : World} {K : Value → World → Prop} : st P (oCall Fn.compactext4_xattrState_init args) w K = Cl P Fn.compactext4_xattrState_init args w K := st_call Tryd.func16 (by kernel_rfl) (by kernel_rfl)
theorem compactext4_xattrState_addXattr {args : Array Value} {w : World} {K : Value → World → Prop} : st P (oCall Fn.compactext4_xattrState_addXattr args) w K = Cl P Fn.compactext4_xattrState_addXattr args w K := st_call Tryd.func17 (by kernel_rfl) (by kernel_rfl)
theorem compactext4_compressXattrName {args : Array Value} {w : World} {K : Value → World → Prop} : st P (oCall Fn.compactext4_compressXattrName args) w K = Cl P Fn.compactext4_compressXattrName args w K := st_call Tryd.func18 (by kernel_rfl) (by kernel_rfl)
theorem compactext4_xattr_EntryLen {args : Array Value} {w : World} {K : Value → World → Prop} : st P (oCall Fn.compactext4_xattr_EntryLen args) w K = Cl P Fn.compactext4_xattr_EntryLen args w K := st_call Tryd.func19 (by kernel_rfl) (by kernel_rfl)
theorem compactext4_xattr_ValueLen {args : Array Value} {w : World} {K : Value → World → Prop} : st P (oCall Fn.compactext4_xattr_ValueLen args) w K = Cl P Fn.compactext4_xattr_ValueLen args w K := st_call Tryd.func20 (by kernel_rfl) (by kernel_rfl)
theorem strings_HasPrefix {args : Array Value} {w : World} {K : Value → World → Prop} : st P (oCall Fn.strings_HasPrefix args) w K = Cl P Fn.strings_HasPrefix args w K := st_call Tryd.func21 (by kernel_rfl) (by kernel_rfl)
theorem stringslite_HasPrefix {args : Array Value} {w : World} {K : Value → World → Prop} : st P (oCall Fn.stringslite_HasPrefix args) w K = Cl P Fn.stringslite_HasPrefix args w K := st_call Tryd.func22 (by kernel_rfl) (by kernel_rfl)
theorem gosem_cut_vars {args : Array Value} {w : World} {K : Value → World → Prop} : st P (oCall Fn.gosem_cut_vars args) w K = Cl P Fn.gosem_cut_vars args w K := st_call Tryd.func42 (by kernel_rfl) (by kernel_rfl)
end C
attribute [go_sem] C.laws_FnFitAll C.laws_zzFits7 C.laws_attributesFair C.impl_FitXattrs C.spec_Rooms C.laws_attributes C.laws_zzFits8 C.spec_Prefixed C.impl_split C.compactext4_DoorFit C.spec_room C.spec_prefix C.spec_Begins C.compactext4_xattrState_init C.compactext4_xattrState_addXattr C.compactext4_compressXattrName C.compactext4_xattr_EntryLen C.compactext4_xattr_ValueLen C.strings_HasPrefix C.stringslite_HasPrefix C.gosem_cut_vars
end Go.Proofs.YtfiepdikejoeeaaDoor.X
