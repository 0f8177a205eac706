/- Facts on this translation: what its types are, where its fields lie, and that its functions are entered. Laid by a program of this session. No condition. -/
import Derived.Test.YtdilealdddbhnaaXN
import Derived.Test.YtdilealdddbhnaaXLaws
set_option linter.unusedVariables false
set_option maxRecDepth 100000
namespace Go.Proofs.Ytdilealdddbhnaa.X
open Go Go.X Go.Proofs
namespace U
theorem int64 : P.underlying T.int64 = some (.int .i64) := Try.underlying2
theorem int : P.underlying T.int = some (.int .i64) := Try.underlying3
theorem bool : P.underlying T.bool = some (.bool) := Try.underlying4
theorem uint8 : P.underlying T.uint8 = some (.int .u8) := Try.underlying5
theorem abi_BoundsErrorCode : P.underlying T.abi_BoundsErrorCode = some (.int .u8) := Try.underlying6
theorem string : P.underlying T.string = some (.string) := Try.underlying9
theorem runtime_errorString : P.underlying T.runtime_errorString = some (.string) := Try.underlying10
theorem runtime_plainError : P.underlying T.runtime_plainError = some (.string) := Try.underlying11
theorem uintptr : P.underlying T.uintptr = some (.int .u64) := Try.underlying12
theorem p_runtime_TypeAssertionError : P.underlying T.p_runtime_TypeAssertionError = some (.pointer T.runtime_TypeAssertionError) := Try.underlying15
theorem p_runtime_PanicNilError : P.underlying T.p_runtime_PanicNilError = some (.pointer T.runtime_PanicNilError) := Try.underlying16
theorem p_abi_Type : P.underlying T.p_abi_Type = some (.pointer T.abi_Type) := Try.underlying17
theorem int32 : P.underlying T.int32 = some (.int .i32) := Try.underlying21
theorem uint32 : P.underlying T.uint32 = some (.int .u32) := Try.underlying26
theorem uint64 : P.underlying T.uint64 = some (.int .u64) := Try.underlying27
theorem sl_uint8 : P.underlying T.sl_uint8 = some (.slice T.uint8) := Try.underlying31
theorem sl_impl_Extent : P.underlying T.sl_impl_Extent = some (.slice T.impl_Extent) := Try.underlying44
theorem uint16 : P.underlying T.uint16 = some (.int .u16) := Try.underlying47
theorem sl_impl_Entry : P.underlying T.sl_impl_Entry = some (.slice T.impl_Entry) := Try.underlying54
theorem sl_string : P.underlying T.sl_string = some (.slice T.string) := Try.underlying56
theorem sl_impl_Info : P.underlying T.sl_impl_Info = some (.slice T.impl_Info) := Try.underlying58
theorem sl_format_ExtentLeafNode : P.underlying T.sl_format_ExtentLeafNode = some (.slice T.format_ExtentLeafNode) := Try.underlying71
theorem sl_p_mem_FileInfo : P.underlying T.sl_p_mem_FileInfo = some (.slice T.p_mem_FileInfo) := Try.underlying79
theorem uint : P.underlying T.uint = some (.int .u64) := Try.underlying86
theorem p_format_ExtentHeader : P.underlying T.p_format_ExtentHeader = some (.pointer T.format_ExtentHeader) := Try.underlying91
theorem p_mem_FileInfo : P.underlying T.p_mem_FileInfo = some (.pointer T.mem_FileInfo) := Try.underlying92
theorem os_FileMode : P.underlying T.os_FileMode = some (.int .u32) := Try.underlying94
theorem map_string_p_mem_FileInfo : P.underlying T.map_string_p_mem_FileInfo = some (.map T.string T.p_mem_FileInfo) := Try.underlying99
theorem p_mem_FileData : P.underlying T.p_mem_FileData = some (.pointer T.mem_FileData) := Try.underlying103
theorem map_string_p_mem_FileData : P.underlying T.map_string_p_mem_FileData = some (.map T.string T.p_mem_FileData) := Try.underlying104
theorem mem_DirMap : P.underlying T.mem_DirMap = some (.map T.string T.p_mem_FileData) := Try.underlying105
theorem p_path_lazybuf : P.underlying T.p_path_lazybuf = some (.pointer T.path_lazybuf) := Try.underlying118
theorem abi_TFlag : P.underlying T.abi_TFlag = some (.int .u8) := Try.underlying125
theorem abi_Kind : P.underlying T.abi_Kind = some (.int .u8) := Try.underlying126
theorem p_uint8 : P.underlying T.p_uint8 = some (.pointer T.uint8) := Try.underlying128
theorem abi_NameOff : P.underlying T.abi_NameOff = some (.int .i32) := Try.underlying129
theorem abi_TypeOff : P.underlying T.abi_TypeOff = some (.int .i32) := Try.underlying130
end U
namespace A
theorem impl_Time_0 (b o : Nat) (K : Value → Prop) : pu P (oFldA T.impl_Time (.pointer (some ⟨b, o, none⟩)) 0) K = K (.pointer (some ⟨b, o + 0, none⟩)) := fldA_law K Try.underlying36 (by kernel_rfl) (by kernel_rfl)
theorem impl_Time_1 (b o : Nat) (K : Value → Prop) : pu P (oFldA T.impl_Time (.pointer (some ⟨b, o, none⟩)) 1) K = K (.pointer (some ⟨b, o + 1, none⟩)) := fldA_law K Try.underlying36 (by kernel_rfl) (by kernel_rfl)
theorem impl_Time_2 (b o : Nat) (K : Value → Prop) : pu P (oFldA T.impl_Time (.pointer (some ⟨b, o, none⟩)) 2) K = K (.pointer (some ⟨b, o + 2, none⟩)) := fldA_law K Try.underlying36 (by kernel_rfl) (by kernel_rfl)
theorem spec_Stamp_0 (b o : Nat) (K : Value → Prop) : pu P (oFldA T.spec_Stamp (.pointer (some ⟨b, o, none⟩)) 0) K = K (.pointer (some ⟨b, o + 0, none⟩)) := fldA_law K Try.underlying41 (by kernel_rfl) (by kernel_rfl)
theorem spec_Stamp_1 (b o : Nat) (K : Value → Prop) : pu P (oFldA T.spec_Stamp (.pointer (some ⟨b, o, none⟩)) 1) K = K (.pointer (some ⟨b, o + 1, none⟩)) := fldA_law K Try.underlying41 (by kernel_rfl) (by kernel_rfl)
theorem impl_Extent_0 (b o : Nat) (K : Value → Prop) : pu P (oFldA T.impl_Extent (.pointer (some ⟨b, o, none⟩)) 0) K = K (.pointer (some ⟨b, o + 0, none⟩)) := fldA_law K Try.underlying49 (by kernel_rfl) (by kernel_rfl)
theorem impl_Extent_1 (b o : Nat) (K : Value → Prop) : pu P (oFldA T.impl_Extent (.pointer (some ⟨b, o, none⟩)) 1) K = K (.pointer (some ⟨b, o + 1, none⟩)) := fldA_law K Try.underlying49 (by kernel_rfl) (by kernel_rfl)
theorem impl_Extent_2 (b o : Nat) (K : Value → Prop) : pu P (oFldA T.impl_Extent (.pointer (some ⟨b, o, none⟩)) 2) K = K (.pointer (some ⟨b, o + 2, none⟩)) := fldA_law K Try.underlying49 (by kernel_rfl) (by kernel_rfl)
theorem impl_Info_0 (b o : Nat) (K : Value → Prop) : pu P (oFldA T.impl_Info (.pointer (some ⟨b, o, none⟩)) 0) K = K (.pointer (some ⟨b, o + 0, none⟩)) := fldA_law K Try.underlying61 (by kernel_rfl) (by kernel_rfl)
theorem impl_Info_1 (b o : Nat) (K : Value → Prop) : pu P (oFldA T.impl_Info (.pointer (some ⟨b, o, none⟩)) 1) K = K (.pointer (some ⟨b, o + 1, none⟩)) := fldA_law K Try.underlying61 (by kernel_rfl) (by kernel_rfl)
theorem impl_Info_2 (b o : Nat) (K : Value → Prop) : pu P (oFldA T.impl_Info (.pointer (some ⟨b, o, none⟩)) 2) K = K (.pointer (some ⟨b, o + 2, none⟩)) := fldA_law K Try.underlying61 (by kernel_rfl) (by kernel_rfl)
theorem impl_Info_3 (b o : Nat) (K : Value → Prop) : pu P (oFldA T.impl_Info (.pointer (some ⟨b, o, none⟩)) 3) K = K (.pointer (some ⟨b, o + 3, none⟩)) := fldA_law K Try.underlying61 (by kernel_rfl) (by kernel_rfl)
theorem impl_Info_4 (b o : Nat) (K : Value → Prop) : pu P (oFldA T.impl_Info (.pointer (some ⟨b, o, none⟩)) 4) K = K (.pointer (some ⟨b, o + 4, none⟩)) := fldA_law K Try.underlying61 (by kernel_rfl) (by kernel_rfl)
theorem compactext4_Time_0 (b o : Nat) (K : Value → Prop) : pu P (oFldA T.compactext4_Time (.pointer (some ⟨b, o, none⟩)) 0) K = K (.pointer (some ⟨b, o + 0, none⟩)) := fldA_law K Try.underlying67 (by kernel_rfl) (by kernel_rfl)
theorem compactext4_Time_1 (b o : Nat) (K : Value → Prop) : pu P (oFldA T.compactext4_Time (.pointer (some ⟨b, o, none⟩)) 1) K = K (.pointer (some ⟨b, o + 1, none⟩)) := fldA_law K Try.underlying67 (by kernel_rfl) (by kernel_rfl)
theorem compactext4_Time_2 (b o : Nat) (K : Value → Prop) : pu P (oFldA T.compactext4_Time (.pointer (some ⟨b, o, none⟩)) 2) K = K (.pointer (some ⟨b, o + 2, none⟩)) := fldA_law K Try.underlying67 (by kernel_rfl) (by kernel_rfl)
theorem format_ExtentLeafNode_0 (b o : Nat) (K : Value → Prop) : pu P (oFldA T.format_ExtentLeafNode (.pointer (some ⟨b, o, none⟩)) 0) K = K (.pointer (some ⟨b, o + 0, none⟩)) := fldA_law K Try.underlying74 (by kernel_rfl) (by kernel_rfl)
theorem format_ExtentLeafNode_1 (b o : Nat) (K : Value → Prop) : pu P (oFldA T.format_ExtentLeafNode (.pointer (some ⟨b, o, none⟩)) 1) K = K (.pointer (some ⟨b, o + 1, none⟩)) := fldA_law K Try.underlying74 (by kernel_rfl) (by kernel_rfl)
theorem format_ExtentLeafNode_2 (b o : Nat) (K : Value → Prop) : pu P (oFldA T.format_ExtentLeafNode (.pointer (some ⟨b, o, none⟩)) 2) K = K (.pointer (some ⟨b, o + 2, none⟩)) := fldA_law K Try.underlying74 (by kernel_rfl) (by kernel_rfl)
theorem format_ExtentLeafNode_3 (b o : Nat) (K : Value → Prop) : pu P (oFldA T.format_ExtentLeafNode (.pointer (some ⟨b, o, none⟩)) 3) K = K (.pointer (some ⟨b, o + 3, none⟩)) := fldA_law K Try.underlying74 (by kernel_rfl) (by kernel_rfl)
theorem impl_Entry_0 (b o : Nat) (K : Value → Prop) : pu P (oFldA T.impl_Entry (.pointer (some ⟨b, o, none⟩)) 0) K = K (.pointer (some ⟨b, o + 0, none⟩)) := fldA_law K Try.underlying76 (by kernel_rfl) (by kernel_rfl)
theorem impl_Entry_1 (b o : Nat) (K : Value → Prop) : pu P (oFldA T.impl_Entry (.pointer (some ⟨b, o, none⟩)) 1) K = K (.pointer (some ⟨b, o + 1, none⟩)) := fldA_law K Try.underlying76 (by kernel_rfl) (by kernel_rfl)
theorem impl_Entry_2 (b o : Nat) (K : Value → Prop) : pu P (oFldA T.impl_Entry (.pointer (some ⟨b, o, none⟩)) 2) K = K (.pointer (some ⟨b, o + 2, none⟩)) := fldA_law K Try.underlying76 (by kernel_rfl) (by kernel_rfl)
theorem impl_Entry_3 (b o : Nat) (K : Value → Prop) : pu P (oFldA T.impl_Entry (.pointer (some ⟨b, o, none⟩)) 3) K = K (.pointer (some ⟨b, o + 3, none⟩)) := fldA_law K Try.underlying76 (by kernel_rfl) (by kernel_rfl)
theorem impl_Entry_4 (b o : Nat) (K : Value → Prop) : pu P (oFldA T.impl_Entry (.pointer (some ⟨b, o, none⟩)) 4) K = K (.pointer (some ⟨b, o + 4, none⟩)) := fldA_law K Try.underlying76 (by kernel_rfl) (by kernel_rfl)
theorem format_ExtentHeader_0 (b o : Nat) (K : Value → Prop) : pu P (oFldA T.format_ExtentHeader (.pointer (some ⟨b, o, none⟩)) 0) K = K (.pointer (some ⟨b, o + 0, none⟩)) := fldA_law K Try.underlying89 (by kernel_rfl) (by kernel_rfl)
theorem format_ExtentHeader_1 (b o : Nat) (K : Value → Prop) : pu P (oFldA T.format_ExtentHeader (.pointer (some ⟨b, o, none⟩)) 1) K = K (.pointer (some ⟨b, o + 1, none⟩)) := fldA_law K Try.underlying89 (by kernel_rfl) (by kernel_rfl)
theorem format_ExtentHeader_2 (b o : Nat) (K : Value → Prop) : pu P (oFldA T.format_ExtentHeader (.pointer (some ⟨b, o, none⟩)) 2) K = K (.pointer (some ⟨b, o + 2, none⟩)) := fldA_law K Try.underlying89 (by kernel_rfl) (by kernel_rfl)
theorem format_ExtentHeader_3 (b o : Nat) (K : Value → Prop) : pu P (oFldA T.format_ExtentHeader (.pointer (some ⟨b, o, none⟩)) 3) K = K (.pointer (some ⟨b, o + 3, none⟩)) := fldA_law K Try.underlying89 (by kernel_rfl) (by kernel_rfl)
theorem format_ExtentHeader_4 (b o : Nat) (K : Value → Prop) : pu P (oFldA T.format_ExtentHeader (.pointer (some ⟨b, o, none⟩)) 4) K = K (.pointer (some ⟨b, o + 4, none⟩)) := fldA_law K Try.underlying89 (by kernel_rfl) (by kernel_rfl)
theorem mem_FileData_0 (b o : Nat) (K : Value → Prop) : pu P (oFldA T.mem_FileData (.pointer (some ⟨b, o, none⟩)) 0) K = K (.pointer (some ⟨b, o + 0, none⟩)) := fldA_law K Try.underlying107 (by kernel_rfl) (by kernel_rfl)
theorem mem_FileData_1 (b o : Nat) (K : Value → Prop) : pu P (oFldA T.mem_FileData (.pointer (some ⟨b, o, none⟩)) 1) K = K (.pointer (some ⟨b, o + 1, none⟩)) := fldA_law K Try.underlying107 (by kernel_rfl) (by kernel_rfl)
theorem mem_FileData_2 (b o : Nat) (K : Value → Prop) : pu P (oFldA T.mem_FileData (.pointer (some ⟨b, o, none⟩)) 2) K = K (.pointer (some ⟨b, o + 2, none⟩)) := fldA_law K Try.underlying107 (by kernel_rfl) (by kernel_rfl)
theorem mem_FileData_3 (b o : Nat) (K : Value → Prop) : pu P (oFldA T.mem_FileData (.pointer (some ⟨b, o, none⟩)) 3) K = K (.pointer (some ⟨b, o + 3, none⟩)) := fldA_law K Try.underlying107 (by kernel_rfl) (by kernel_rfl)
theorem mem_FileData_4 (b o : Nat) (K : Value → Prop) : pu P (oFldA T.mem_FileData (.pointer (some ⟨b, o, none⟩)) 4) K = K (.pointer (some ⟨b, o + 4, none⟩)) := fldA_law K Try.underlying107 (by kernel_rfl) (by kernel_rfl)
theorem mem_FileData_5 (b o : Nat) (K : Value → Prop) : pu P (oFldA T.mem_FileData (.pointer (some ⟨b, o, none⟩)) 5) K = K (.pointer (some ⟨b, o + 5, none⟩)) := fldA_law K Try.underlying107 (by kernel_rfl) (by kernel_rfl)
theorem mem_FileData_6 (b o : Nat) (K : Value → Prop) : pu P (oFldA T.mem_FileData (.pointer (some ⟨b, o, none⟩)) 6) K = K (.pointer (some ⟨b, o + 6, none⟩)) := fldA_law K Try.underlying107 (by kernel_rfl) (by kernel_rfl)
theorem mem_FileData_7 (b o : Nat) (K : Value → Prop) : pu P (oFldA T.mem_FileData (.pointer (some ⟨b, o, none⟩)) 7) K = K (.pointer (some ⟨b, o + 7, none⟩)) := fldA_law K Try.underlying107 (by kernel_rfl) (by kernel_rfl)
theorem mem_FileInfo_0 (b o : Nat) (K : Value → Prop) : pu P (oFldA T.mem_FileInfo (.pointer (some ⟨b, o, none⟩)) 0) K = K (.pointer (some ⟨b, o + 0, none⟩)) := fldA_law K Try.underlying109 (by kernel_rfl) (by kernel_rfl)
theorem path_lazybuf_0 (b o : Nat) (K : Value → Prop) : pu P (oFldA T.path_lazybuf (.pointer (some ⟨b, o, none⟩)) 0) K = K (.pointer (some ⟨b, o + 0, none⟩)) := fldA_law K Try.underlying115 (by kernel_rfl) (by kernel_rfl)
theorem path_lazybuf_1 (b o : Nat) (K : Value → Prop) : pu P (oFldA T.path_lazybuf (.pointer (some ⟨b, o, none⟩)) 1) K = K (.pointer (some ⟨b, o + 1, none⟩)) := fldA_law K Try.underlying115 (by kernel_rfl) (by kernel_rfl)
theorem path_lazybuf_2 (b o : Nat) (K : Value → Prop) : pu P (oFldA T.path_lazybuf (.pointer (some ⟨b, o, none⟩)) 2) K = K (.pointer (some ⟨b, o + 2, none⟩)) := fldA_law K Try.underlying115 (by kernel_rfl) (by kernel_rfl)
end A
attribute [go_sem] A.impl_Time_0 A.impl_Time_1 A.impl_Time_2 A.spec_Stamp_0 A.spec_Stamp_1 A.impl_Extent_0 A.impl_Extent_1 A.impl_Extent_2 A.impl_Info_0 A.impl_Info_1 A.impl_Info_2 A.impl_Info_3 A.impl_Info_4 A.compactext4_Time_0 A.compactext4_Time_1 A.compactext4_Time_2 A.format_ExtentLeafNode_0 A.format_ExtentLeafNode_1 A.format_ExtentLeafNode_2 A.format_ExtentLeafNode_3 A.impl_Entry_0 A.impl_Entry_1 A.impl_Entry_2 A.impl_Entry_3 A.impl_Entry_4 A.format_ExtentHeader_0 A.format_ExtentHeader_1 A.format_ExtentHeader_2 A.format_ExtentHeader_3 A.format_ExtentHeader_4 A.mem_FileData_0 A.mem_FileData_1 A.mem_FileData_2 A.mem_FileData_3 A.mem_FileData_4 A.mem_FileData_5 A.mem_FileData_6 A.mem_FileData_7 A.mem_FileInfo_0 A.path_lazybuf_0 A.path_lazybuf_1 A.path_lazybuf_2
namespace V
theorem int64__uint32 (K : Value → Prop) (x : Int) : pu P (oConv T.int64 T.uint32 (.int .i64 x)) K = K (.int .u32 (IntKind.u32.wrap x)) := oConvI K U.int64 U.uint32
theorem int64__uint64 (K : Value → Prop) (x : Int) : pu P (oConv T.int64 T.uint64 (.int .i64 x)) K = K (.int .u64 (IntKind.u64.wrap x)) := oConvI K U.int64 U.uint64
theorem int__uint32 (K : Value → Prop) (x : Int) : pu P (oConv T.int T.uint32 (.int .i64 x)) K = K (.int .u32 (IntKind.u32.wrap x)) := oConvI K U.int U.uint32
theorem int__uint64 (K : Value → Prop) (x : Int) : pu P (oConv T.int T.uint64 (.int .i64 x)) K = K (.int .u64 (IntKind.u64.wrap x)) := oConvI K U.int U.uint64
theorem int__uint16 (K : Value → Prop) (x : Int) : pu P (oConv T.int T.uint16 (.int .i64 x)) K = K (.int .u16 (IntKind.u16.wrap x)) := oConvI K U.int U.uint16
theorem uint8__uint32 (K : Value → Prop) (x : Int) : pu P (oConv T.uint8 T.uint32 (.int .u8 x)) K = K (.int .u32 (IntKind.u32.wrap x)) := oConvI K U.uint8 U.uint32
theorem uint8__uint64 (K : Value → Prop) (x : Int) : pu P (oConv T.uint8 T.uint64 (.int .u8 x)) K = K (.int .u64 (IntKind.u64.wrap x)) := oConvI K U.uint8 U.uint64
theorem int32__int64 (K : Value → Prop) (x : Int) : pu P (oConv T.int32 T.int64 (.int .i32 x)) K = K (.int .i64 (IntKind.i64.wrap x)) := oConvI K U.int32 U.int64
theorem uint32__int32 (K : Value → Prop) (x : Int) : pu P (oConv T.uint32 T.int32 (.int .u32 x)) K = K (.int .i32 (IntKind.i32.wrap x)) := oConvI K U.uint32 U.int32
theorem uint32__uint64 (K : Value → Prop) (x : Int) : pu P (oConv T.uint32 T.uint64 (.int .u32 x)) K = K (.int .u64 (IntKind.u64.wrap x)) := oConvI K U.uint32 U.uint64
theorem uint32__uint16 (K : Value → Prop) (x : Int) : pu P (oConv T.uint32 T.uint16 (.int .u32 x)) K = K (.int .u16 (IntKind.u16.wrap x)) := oConvI K U.uint32 U.uint16
theorem uint64__int64 (K : Value → Prop) (x : Int) : pu P (oConv T.uint64 T.int64 (.int .u64 x)) K = K (.int .i64 (IntKind.i64.wrap x)) := oConvI K U.uint64 U.int64
theorem uint64__int (K : Value → Prop) (x : Int) : pu P (oConv T.uint64 T.int (.int .u64 x)) K = K (.int .i64 (IntKind.i64.wrap x)) := oConvI K U.uint64 U.int
theorem uint64__uint32 (K : Value → Prop) (x : Int) : pu P (oConv T.uint64 T.uint32 (.int .u64 x)) K = K (.int .u32 (IntKind.u32.wrap x)) := oConvI K U.uint64 U.uint32
theorem uint64__uint16 (K : Value → Prop) (x : Int) : pu P (oConv T.uint64 T.uint16 (.int .u64 x)) K = K (.int .u16 (IntKind.u16.wrap x)) := oConvI K U.uint64 U.uint16
theorem os_FileMode__int (K : Value → Prop) (x : Int) : pu P (oConv T.os_FileMode T.int (.int .u32 x)) K = K (.int .i64 (IntKind.i64.wrap x)) := oConvI K U.os_FileMode U.int
theorem len_string (K : Value → Prop) (c : Bool) (x : List UInt8) : pu P (oBuiltin .len #[T.string] T.int #[c] #[S x]) K = K (.int .i64 x.length) := oLenS K _ _ _ _ U.string
theorem len_sl_uint8 (K : Value → Prop) (c : Bool) (a : Option Addr) (n m : Nat) : pu P (oBuiltin .len #[T.sl_uint8] T.int #[c] #[.slice a n m]) K = K (.int .i64 n) := oLenL K _ _ _ _ _ _ _ U.sl_uint8
theorem len_sl_impl_Extent (K : Value → Prop) (c : Bool) (a : Option Addr) (n m : Nat) : pu P (oBuiltin .len #[T.sl_impl_Extent] T.int #[c] #[.slice a n m]) K = K (.int .i64 n) := oLenL K _ _ _ _ _ _ _ U.sl_impl_Extent
theorem len_sl_impl_Entry (K : Value → Prop) (c : Bool) (a : Option Addr) (n m : Nat) : pu P (oBuiltin .len #[T.sl_impl_Entry] T.int #[c] #[.slice a n m]) K = K (.int .i64 n) := oLenL K _ _ _ _ _ _ _ U.sl_impl_Entry
theorem len_sl_string (K : Value → Prop) (c : Bool) (a : Option Addr) (n m : Nat) : pu P (oBuiltin .len #[T.sl_string] T.int #[c] #[.slice a n m]) K = K (.int .i64 n) := oLenL K _ _ _ _ _ _ _ U.sl_string
theorem len_sl_impl_Info (K : Value → Prop) (c : Bool) (a : Option Addr) (n m : Nat) : pu P (oBuiltin .len #[T.sl_impl_Info] T.int #[c] #[.slice a n m]) K = K (.int .i64 n) := oLenL K _ _ _ _ _ _ _ U.sl_impl_Info
theorem len_sl_format_ExtentLeafNode (K : Value → Prop) (c : Bool) (a : Option Addr) (n m : Nat) : pu P (oBuiltin .len #[T.sl_format_ExtentLeafNode] T.int #[c] #[.slice a n m]) K = K (.int .i64 n) := oLenL K _ _ _ _ _ _ _ U.sl_format_ExtentLeafNode
theorem len_sl_p_mem_FileInfo (K : Value → Prop) (c : Bool) (a : Option Addr) (n m : Nat) : pu P (oBuiltin .len #[T.sl_p_mem_FileInfo] T.int #[c] #[.slice a n m]) K = K (.int .i64 n) := oLenL K _ _ _ _ _ _ _ U.sl_p_mem_FileInfo
end V
attribute [go_sem] V.int64__uint32 V.int64__uint64 V.int__uint32 V.int__uint64 V.int__uint16 V.uint8__uint32 V.uint8__uint64 V.int32__int64 V.uint32__int32 V.uint32__uint64 V.uint32__uint16 V.uint64__int64 V.uint64__int V.uint64__uint32 V.uint64__uint16 V.os_FileMode__int V.len_string V.len_sl_uint8 V.len_sl_impl_Extent V.len_sl_impl_Entry V.len_sl_string V.len_sl_impl_Info V.len_sl_format_ExtentLeafNode V.len_sl_p_mem_FileInfo
namespace C
theorem laws_FnSplitFirst {args : Array Value} {w : World} {K : Value → World → Prop} : st P (oCall Fn.laws_FnSplitFirst args) w K = Cl P Fn.laws_FnSplitFirst args w K := st_call Try.func3 (by kernel_rfl) (by kernel_rfl)
theorem laws_FnMetaJoined {args : Array Value} {w : World} {K : Value → World → Prop} : st P (oCall Fn.laws_FnMetaJoined args) w K = Cl P Fn.laws_FnMetaJoined args w K := st_call Try.func4 (by kernel_rfl) (by kernel_rfl)
theorem laws_FnGroups {args : Array Value} {w : World} {K : Value → World → Prop} : st P (oCall Fn.laws_FnGroups args) w K = Cl P Fn.laws_FnGroups args w K := st_call Try.func5 (by kernel_rfl) (by kernel_rfl)
theorem laws_FnAttributeHash {args : Array Value} {w : World} {K : Value → World → Prop} : st P (oCall Fn.laws_FnAttributeHash args) w K = Cl P Fn.laws_FnAttributeHash args w K := st_call Try.func6 (by kernel_rfl) (by kernel_rfl)
theorem laws_FnTimeBack {args : Array Value} {w : World} {K : Value → World → Prop} : st P (oCall Fn.laws_FnTimeBack args) w K = Cl P Fn.laws_FnTimeBack args w K := st_call Try.func7 (by kernel_rfl) (by kernel_rfl)
theorem laws_FnExtents {args : Array Value} {w : World} {K : Value → World → Prop} : st P (oCall Fn.laws_FnExtents args) w K = Cl P Fn.laws_FnExtents args w K := st_call Try.func8 (by kernel_rfl) (by kernel_rfl)
theorem laws_FnGroupsGrow {args : Array Value} {w : World} {K : Value → World → Prop} : st P (oCall Fn.laws_FnGroupsGrow args) w K = Cl P Fn.laws_FnGroupsGrow args w K := st_call Try.func9 (by kernel_rfl) (by kernel_rfl)
theorem laws_FnMergeNothing {args : Array Value} {w : World} {K : Value → World → Prop} : st P (oCall Fn.laws_FnMergeNothing args) w K = Cl P Fn.laws_FnMergeNothing args w K := st_call Try.func10 (by kernel_rfl) (by kernel_rfl)
theorem laws_FnNormalize {args : Array Value} {w : World} {K : Value → World → Prop} : st P (oCall Fn.laws_FnNormalize args) w K = Cl P Fn.laws_FnNormalize args w K := st_call Try.func11 (by kernel_rfl) (by kernel_rfl)
theorem impl_SplitFirst {args : Array Value} {w : World} {K : Value → World → Prop} : st P (oCall Fn.impl_SplitFirst args) w K = Cl P Fn.impl_SplitFirst args w K := st_call Try.func12 (by kernel_rfl) (by kernel_rfl)
theorem laws_slashed {args : Array Value} {w : World} {K : Value → World → Prop} : st P (oCall Fn.laws_slashed args) w K = Cl P Fn.laws_slashed args w K := st_call Try.func13 (by kernel_rfl) (by kernel_rfl)
theorem impl_HasMeta {args : Array Value} {w : World} {K : Value → World → Prop} : st P (oCall Fn.impl_HasMeta args) w K = Cl P Fn.impl_HasMeta args w K := st_call Try.func14 (by kernel_rfl) (by kernel_rfl)
theorem impl_GroupCount {args : Array Value} {w : World} {K : Value → World → Prop} : st P (oCall Fn.impl_GroupCount args) w K = Cl P Fn.impl_GroupCount args w K := st_call Try.func15 (by kernel_rfl) (by kernel_rfl)
theorem spec_Groups {args : Array Value} {w : World} {K : Value → World → Prop} : st P (oCall Fn.spec_Groups args) w K = Cl P Fn.spec_Groups args w K := st_call Try.func16 (by kernel_rfl) (by kernel_rfl)
theorem impl_HashXattr {args : Array Value} {w : World} {K : Value → World → Prop} : st P (oCall Fn.impl_HashXattr args) w K = Cl P Fn.impl_HashXattr args w K := st_call Try.func17 (by kernel_rfl) (by kernel_rfl)
theorem laws_dup {args : Array Value} {w : World} {K : Value → World → Prop} : st P (oCall Fn.laws_dup args) w K = Cl P Fn.laws_dup args w K := st_call Try.func18 (by kernel_rfl) (by kernel_rfl)
theorem spec_HashOf {args : Array Value} {w : World} {K : Value → World → Prop} : st P (oCall Fn.spec_HashOf args) w K = Cl P Fn.spec_HashOf args w K := st_call Try.func19 (by kernel_rfl) (by kernel_rfl)
theorem impl_FsToTime {args : Array Value} {w : World} {K : Value → World → Prop} : st P (oCall Fn.impl_FsToTime args) w K = Cl P Fn.impl_FsToTime args w K := st_call Try.func20 (by kernel_rfl) (by kernel_rfl)
theorem impl_TimeToFs {args : Array Value} {w : World} {K : Value → World → Prop} : st P (oCall Fn.impl_TimeToFs args) w K = Cl P Fn.impl_TimeToFs args w K := st_call Try.func21 (by kernel_rfl) (by kernel_rfl)
theorem spec_Back {args : Array Value} {w : World} {K : Value → World → Prop} : st P (oCall Fn.spec_Back args) w K = Cl P Fn.spec_Back args w K := st_call Try.func22 (by kernel_rfl) (by kernel_rfl)
theorem spec_Laid {args : Array Value} {w : World} {K : Value → World → Prop} : st P (oCall Fn.spec_Laid args) w K = Cl P Fn.spec_Laid args w K := st_call Try.func23 (by kernel_rfl) (by kernel_rfl)
theorem impl_FillExtents {args : Array Value} {w : World} {K : Value → World → Prop} : st P (oCall Fn.impl_FillExtents args) w K = Cl P Fn.impl_FillExtents args w K := st_call Try.func24 (by kernel_rfl) (by kernel_rfl)
theorem spec_Extents {args : Array Value} {w : World} {K : Value → World → Prop} : st P (oCall Fn.spec_Extents args) w K = Cl P Fn.spec_Extents args w K := st_call Try.func25 (by kernel_rfl) (by kernel_rfl)
theorem impl_BestGroupCount {args : Array Value} {w : World} {K : Value → World → Prop} : st P (oCall Fn.impl_BestGroupCount args) w K = Cl P Fn.impl_BestGroupCount args w K := st_call Try.func26 (by kernel_rfl) (by kernel_rfl)
theorem laws_zzFits15 {args : Array Value} {w : World} {K : Value → World → Prop} : st P (oCall Fn.laws_zzFits15 args) w K = Cl P Fn.laws_zzFits15 args w K := st_call Try.func27 (by kernel_rfl) (by kernel_rfl)
theorem laws_listed {args : Array Value} {w : World} {K : Value → World → Prop} : st P (oCall Fn.laws_listed args) w K = Cl P Fn.laws_listed args w K := st_call Try.func28 (by kernel_rfl) (by kernel_rfl)
theorem laws_lastNames {args : Array Value} {w : World} {K : Value → World → Prop} : st P (oCall Fn.laws_lastNames args) w K = Cl P Fn.laws_lastNames args w K := st_call Try.func29 (by kernel_rfl) (by kernel_rfl)
theorem impl_MergeDirs {args : Array Value} {w : World} {K : Value → World → Prop} : st P (oCall Fn.impl_MergeDirs args) w K = Cl P Fn.impl_MergeDirs args w K := st_call Try.func30 (by kernel_rfl) (by kernel_rfl)
theorem laws_sameInfos {args : Array Value} {w : World} {K : Value → World → Prop} : st P (oCall Fn.laws_sameInfos args) w K = Cl P Fn.laws_sameInfos args w K := st_call Try.func31 (by kernel_rfl) (by kernel_rfl)
theorem impl_Normalize {args : Array Value} {w : World} {K : Value → World → Prop} : st P (oCall Fn.impl_Normalize args) w K = Cl P Fn.impl_Normalize args w K := st_call Try.func32 (by kernel_rfl) (by kernel_rfl)
theorem spec_MemName {args : Array Value} {w : World} {K : Value → World → Prop} : st P (oCall Fn.spec_MemName args) w K = Cl P Fn.spec_MemName args w K := st_call Try.func33 (by kernel_rfl) (by kernel_rfl)
theorem compactext4_DoorSplit {args : Array Value} {w : World} {K : Value → World → Prop} : st P (oCall Fn.compactext4_DoorSplit args) w K = Cl P Fn.compactext4_DoorSplit args w K := st_call Try.func34 (by kernel_rfl) (by kernel_rfl)
theorem spec_Holds {args : Array Value} {w : World} {K : Value → World → Prop} : st P (oCall Fn.spec_Holds args) w K = Cl P Fn.spec_Holds args w K := st_call Try.func35 (by kernel_rfl) (by kernel_rfl)
theorem afero_DoorHasMeta {args : Array Value} {w : World} {K : Value → World → Prop} : st P (oCall Fn.afero_DoorHasMeta args) w K = Cl P Fn.afero_DoorHasMeta args w K := st_call Try.func36 (by kernel_rfl) (by kernel_rfl)
theorem compactext4_DoorGroups {args : Array Value} {w : World} {K : Value → World → Prop} : st P (oCall Fn.compactext4_DoorGroups args) w K = Cl P Fn.compactext4_DoorGroups args w K := st_call Try.func37 (by kernel_rfl) (by kernel_rfl)
theorem compactext4_DoorHash {args : Array Value} {w : World} {K : Value → World → Prop} : st P (oCall Fn.compactext4_DoorHash args) w K = Cl P Fn.compactext4_DoorHash args w K := st_call Try.func38 (by kernel_rfl) (by kernel_rfl)
theorem spec_attributeHash {args : Array Value} {w : World} {K : Value → World → Prop} : st P (oCall Fn.spec_attributeHash args) w K = Cl P Fn.spec_attributeHash args w K := st_call Try.func39 (by kernel_rfl) (by kernel_rfl)
theorem impl_fromTime {args : Array Value} {w : World} {K : Value → World → Prop} : st P (oCall Fn.impl_fromTime args) w K = Cl P Fn.impl_fromTime args w K := st_call Try.func40 (by kernel_rfl) (by kernel_rfl)
theorem compactext4_DoorFsToTime {args : Array Value} {w : World} {K : Value → World → Prop} : st P (oCall Fn.compactext4_DoorFsToTime args) w K = Cl P Fn.compactext4_DoorFsToTime args w K := st_call Try.func41 (by kernel_rfl) (by kernel_rfl)
theorem compactext4_DoorTimeToFs {args : Array Value} {w : World} {K : Value → World → Prop} : st P (oCall Fn.compactext4_DoorTimeToFs args) w K = Cl P Fn.compactext4_DoorTimeToFs args w K := st_call Try.func42 (by kernel_rfl) (by kernel_rfl)
theorem impl_toTime {args : Array Value} {w : World} {K : Value → World → Prop} : st P (oCall Fn.impl_toTime args) w K = Cl P Fn.impl_toTime args w K := st_call Try.func43 (by kernel_rfl) (by kernel_rfl)
theorem compactext4_DoorExtents {args : Array Value} {w : World} {K : Value → World → Prop} : st P (oCall Fn.compactext4_DoorExtents args) w K = Cl P Fn.compactext4_DoorExtents args w K := st_call Try.func44 (by kernel_rfl) (by kernel_rfl)
theorem compactext4_DoorBest {args : Array Value} {w : World} {K : Value → World → Prop} : st P (oCall Fn.compactext4_DoorBest args) w K = Cl P Fn.compactext4_DoorBest args w K := st_call Try.func45 (by kernel_rfl) (by kernel_rfl)
theorem laws_zzFits16 {args : Array Value} {w : World} {K : Value → World → Prop} : st P (oCall Fn.laws_zzFits16 args) w K = Cl P Fn.laws_zzFits16 args w K := st_call Try.func46 (by kernel_rfl) (by kernel_rfl)
theorem spec_Rooted {args : Array Value} {w : World} {K : Value → World → Prop} : st P (oCall Fn.spec_Rooted args) w K = Cl P Fn.spec_Rooted args w K := st_call Try.func47 (by kernel_rfl) (by kernel_rfl)
theorem spec_MemBase {args : Array Value} {w : World} {K : Value → World → Prop} : st P (oCall Fn.spec_MemBase args) w K = Cl P Fn.spec_MemBase args w K := st_call Try.func48 (by kernel_rfl) (by kernel_rfl)
theorem laws_hasName {args : Array Value} {w : World} {K : Value → World → Prop} : st P (oCall Fn.laws_hasName args) w K = Cl P Fn.laws_hasName args w K := st_call Try.func49 (by kernel_rfl) (by kernel_rfl)
theorem afero_DoorMerge {args : Array Value} {w : World} {K : Value → World → Prop} : st P (oCall Fn.afero_DoorMerge args) w K = Cl P Fn.afero_DoorMerge args w K := st_call Try.func50 (by kernel_rfl) (by kernel_rfl)
theorem impl_infos {args : Array Value} {w : World} {K : Value → World → Prop} : st P (oCall Fn.impl_infos args) w K = Cl P Fn.impl_infos args w K := st_call Try.func51 (by kernel_rfl) (by kernel_rfl)
theorem impl_fromInfos {args : Array Value} {w : World} {K : Value → World → Prop} : st P (oCall Fn.impl_fromInfos args) w K = Cl P Fn.impl_fromInfos args w K := st_call Try.func52 (by kernel_rfl) (by kernel_rfl)
theorem afero_DoorNormalize {args : Array Value} {w : World} {K : Value → World → Prop} : st P (oCall Fn.afero_DoorNormalize args) w K = Cl P Fn.afero_DoorNormalize args w K := st_call Try.func53 (by kernel_rfl) (by kernel_rfl)
theorem compactext4_splitFirst {args : Array Value} {w : World} {K : Value → World → Prop} : st P (oCall Fn.compactext4_splitFirst args) w K = Cl P Fn.compactext4_splitFirst args w K := st_call Try.func54 (by kernel_rfl) (by kernel_rfl)
theorem afero_hasMeta {args : Array Value} {w : World} {K : Value → World → Prop} : st P (oCall Fn.afero_hasMeta args) w K = Cl P Fn.afero_hasMeta args w K := st_call Try.func55 (by kernel_rfl) (by kernel_rfl)
theorem compactext4_groupCount {args : Array Value} {w : World} {K : Value → World → Prop} : st P (oCall Fn.compactext4_groupCount args) w K = Cl P Fn.compactext4_groupCount args w K := st_call Try.func56 (by kernel_rfl) (by kernel_rfl)
theorem compactext4_hashXattrEntry {args : Array Value} {w : World} {K : Value → World → Prop} : st P (oCall Fn.compactext4_hashXattrEntry args) w K = Cl P Fn.compactext4_hashXattrEntry args w K := st_call Try.func57 (by kernel_rfl) (by kernel_rfl)
theorem spec_le {args : Array Value} {w : World} {K : Value → World → Prop} : st P (oCall Fn.spec_le args) w K = Cl P Fn.spec_le args w K := st_call Try.func58 (by kernel_rfl) (by kernel_rfl)
theorem compactext4_fsTimeToTime {args : Array Value} {w : World} {K : Value → World → Prop} : st P (oCall Fn.compactext4_fsTimeToTime args) w K = Cl P Fn.compactext4_fsTimeToTime args w K := st_call Try.func59 (by kernel_rfl) (by kernel_rfl)
theorem compactext4_timeToFsTime {args : Array Value} {w : World} {K : Value → World → Prop} : st P (oCall Fn.compactext4_timeToFsTime args) w K = Cl P Fn.compactext4_timeToFsTime args w K := st_call Try.func60 (by kernel_rfl) (by kernel_rfl)
theorem compactext4_fillExtents {args : Array Value} {w : World} {K : Value → World → Prop} : st P (oCall Fn.compactext4_fillExtents args) w K = Cl P Fn.compactext4_fillExtents args w K := st_call Try.func61 (by kernel_rfl) (by kernel_rfl)
theorem compactext4_bestGroupCount {args : Array Value} {w : World} {K : Value → World → Prop} : st P (oCall Fn.compactext4_bestGroupCount args) w K = Cl P Fn.compactext4_bestGroupCount args w K := st_call Try.func62 (by kernel_rfl) (by kernel_rfl)
theorem afero_defaultUnionMergeDirsFn {args : Array Value} {w : World} {K : Value → World → Prop} : st P (oCall Fn.afero_defaultUnionMergeDirsFn args) w K = Cl P Fn.afero_defaultUnionMergeDirsFn args w K := st_call Try.func63 (by kernel_rfl) (by kernel_rfl)
theorem mem_DoorInfo {args : Array Value} {w : World} {K : Value → World → Prop} : st P (oCall Fn.mem_DoorInfo args) w K = Cl P Fn.mem_DoorInfo args w K := st_call Try.func64 (by kernel_rfl) (by kernel_rfl)
theorem impl_fromInfo {args : Array Value} {w : World} {K : Value → World → Prop} : st P (oCall Fn.impl_fromInfo args) w K = Cl P Fn.impl_fromInfo args w K := st_call Try.func65 (by kernel_rfl) (by kernel_rfl)
theorem afero_normalizePath {args : Array Value} {w : World} {K : Value → World → Prop} : st P (oCall Fn.afero_normalizePath args) w K = Cl P Fn.afero_normalizePath args w K := st_call Try.func66 (by kernel_rfl) (by kernel_rfl)
theorem strings_IndexByte {args : Array Value} {w : World} {K : Value → World → Prop} : st P (oCall Fn.strings_IndexByte args) w K = Cl P Fn.strings_IndexByte args w K := st_call Try.func67 (by kernel_rfl) (by kernel_rfl)
theorem afero_zzContainsAny {args : Array Value} {w : World} {K : Value → World → Prop} : st P (oCall Fn.afero_zzContainsAny args) w K = Cl P Fn.afero_zzContainsAny args w K := st_call Try.func68 (by kernel_rfl) (by kernel_rfl)
theorem compactext4_get32 {args : Array Value} {w : World} {K : Value → World → Prop} : st P (oCall Fn.compactext4_get32 args) w K = Cl P Fn.compactext4_get32 args w K := st_call Try.func69 (by kernel_rfl) (by kernel_rfl)
theorem mem_FileInfo_Name {args : Array Value} {w : World} {K : Value → World → Prop} : st P (oCall Fn.mem_FileInfo_Name args) w K = Cl P Fn.mem_FileInfo_Name args w K := st_call Try.func70 (by kernel_rfl) (by kernel_rfl)
theorem afero_zzSort {args : Array Value} {w : World} {K : Value → World → Prop} : st P (oCall Fn.afero_zzSort args) w K = Cl P Fn.afero_zzSort args w K := st_call Try.func71 (by kernel_rfl) (by kernel_rfl)
theorem mem_FileInfo_Size {args : Array Value} {w : World} {K : Value → World → Prop} : st P (oCall Fn.mem_FileInfo_Size args) w K = Cl P Fn.mem_FileInfo_Size args w K := st_call Try.func72 (by kernel_rfl) (by kernel_rfl)
theorem mem_FileInfo_Mode {args : Array Value} {w : World} {K : Value → World → Prop} : st P (oCall Fn.mem_FileInfo_Mode args) w K = Cl P Fn.mem_FileInfo_Mode args w K := st_call Try.func73 (by kernel_rfl) (by kernel_rfl)
theorem mem_FileInfo_IsDir {args : Array Value} {w : World} {K : Value → World → Prop} : st P (oCall Fn.mem_FileInfo_IsDir args) w K = Cl P Fn.mem_FileInfo_IsDir args w K := st_call Try.func74 (by kernel_rfl) (by kernel_rfl)
theorem mem_FileInfo_ModTime {args : Array Value} {w : World} {K : Value → World → Prop} : st P (oCall Fn.mem_FileInfo_ModTime args) w K = Cl P Fn.mem_FileInfo_ModTime args w K := st_call Try.func75 (by kernel_rfl) (by kernel_rfl)
theorem path_Clean {args : Array Value} {w : World} {K : Value → World → Prop} : st P (oCall Fn.path_Clean args) w K = Cl P Fn.path_Clean args w K := st_call Try.func76 (by kernel_rfl) (by kernel_rfl)
theorem stringslite_IndexByte {args : Array Value} {w : World} {K : Value → World → Prop} : st P (oCall Fn.stringslite_IndexByte args) w K = Cl P Fn.stringslite_IndexByte args w K := st_call Try.func77 (by kernel_rfl) (by kernel_rfl)
theorem afero_zzIndexAny {args : Array Value} {w : World} {K : Value → World → Prop} : st P (oCall Fn.afero_zzIndexAny args) w K = Cl P Fn.afero_zzIndexAny args w K := st_call Try.func78 (by kernel_rfl) (by kernel_rfl)
theorem path_Split {args : Array Value} {w : World} {K : Value → World → Prop} : st P (oCall Fn.path_Split args) w K = Cl P Fn.path_Split args w K := st_call Try.func79 (by kernel_rfl) (by kernel_rfl)
theorem path_lazybuf_append {args : Array Value} {w : World} {K : Value → World → Prop} : st P (oCall Fn.path_lazybuf_append args) w K = Cl P Fn.path_lazybuf_append args w K := st_call Try.func80 (by kernel_rfl) (by kernel_rfl)
theorem path_lazybuf_index {args : Array Value} {w : World} {K : Value → World → Prop} : st P (oCall Fn.path_lazybuf_index args) w K = Cl P Fn.path_lazybuf_index args w K := st_call Try.func81 (by kernel_rfl) (by kernel_rfl)
theorem path_lazybuf_string {args : Array Value} {w : World} {K : Value → World → Prop} : st P (oCall Fn.path_lazybuf_string args) w K = Cl P Fn.path_lazybuf_string args w K := st_call Try.func82 (by kernel_rfl) (by kernel_rfl)
theorem bytealg_LastIndexByteString {args : Array Value} {w : World} {K : Value → World → Prop} : st P (oCall Fn.bytealg_LastIndexByteString args) w K = Cl P Fn.bytealg_LastIndexByteString args w K := st_call Try.func84 (by kernel_rfl) (by kernel_rfl)
end C
attribute [go_sem] C.laws_FnSplitFirst C.laws_FnMetaJoined C.laws_FnGroups C.laws_FnAttributeHash C.laws_FnTimeBack C.laws_FnExtents C.laws_FnGroupsGrow C.laws_FnMergeNothing C.laws_FnNormalize C.impl_SplitFirst C.laws_slashed C.impl_HasMeta C.impl_GroupCount C.spec_Groups C.impl_HashXattr C.laws_dup C.spec_HashOf C.impl_FsToTime C.impl_TimeToFs C.spec_Back C.spec_Laid C.impl_FillExtents C.spec_Extents C.impl_BestGroupCount C.laws_zzFits15 C.laws_listed C.laws_lastNames C.impl_MergeDirs C.laws_sameInfos C.impl_Normalize C.spec_MemName C.compactext4_DoorSplit C.spec_Holds C.afero_DoorHasMeta C.compactext4_DoorGroups C.compactext4_DoorHash C.spec_attributeHash C.impl_fromTime C.compactext4_DoorFsToTime C.compactext4_DoorTimeToFs C.impl_toTime C.compactext4_DoorExtents C.compactext4_DoorBest C.laws_zzFits16 C.spec_Rooted C.spec_MemBase C.laws_hasName C.afero_DoorMerge C.impl_infos C.impl_fromInfos C.afero_DoorNormalize C.compactext4_splitFirst C.afero_hasMeta C.compactext4_groupCount C.compactext4_hashXattrEntry C.spec_le C.compactext4_fsTimeToTime C.compactext4_timeToFsTime C.compactext4_fillExtents C.compactext4_bestGroupCount C.afero_defaultUnionMergeDirsFn C.mem_DoorInfo C.impl_fromInfo C.afero_normalizePath C.strings_IndexByte C.afero_zzContainsAny C.compactext4_get32 C.mem_FileInfo_Name C.afero_zzSort C.mem_FileInfo_Size C.mem_FileInfo_Mode C.mem_FileInfo_IsDir C.mem_FileInfo_ModTime C.path_Clean C.stringslite_IndexByte C.afero_zzIndexAny C.path_Split C.path_lazybuf_append C.path_lazybuf_index C.path_lazybuf_string C.bytealg_LastIndexByteString
end Go.Proofs.Ytdilealdddbhnaa.X
