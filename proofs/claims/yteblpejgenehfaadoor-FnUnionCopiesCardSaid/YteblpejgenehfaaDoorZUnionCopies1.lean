/- What the claim needs of the texts on it, laid together. No condition. -/
import Derived.Test.YteblpejgenehfaaDoorZUnionCopies0
import Derived.MapKept
import Derived.Laws.IdiomRangeMap
import Derived.Lib.CleanSame2
import Derived.Lib.CleanSame
import Derived.Lib.CleanLen
set_option linter.unusedVariables false
set_option linter.unusedSimpArgs false
set_option maxRecDepth 100000
section
namespace Go.Proofs.YteblpejgenehfaaDoor.X
open Go Go.X Go.Proofs
def J_impl_woven_1 (t5 : Value) (t4 : Value) (K : Value → World → Prop) (s1 : List Value) (u1 : Env) (w5 : World) : Prop :=
 st P (oCall Fn.impl_kind #[(gs s1 0)]) w5 fun t153 w6 =>
 pu P (oFldA T.impl_Answer t5 0) fun t154 =>
 st P (oStore T.int t154 t153) w6 fun _ w7 =>
 st P (oLoad T.impl_Answer t5) w7 fun t155 w8 =>
 st P (oStore T.impl_Answer t4 t155) w8 fun _ w9 =>
 rsl P T.impl_Answer t4 w9 fun r1 =>
 K (tup [r1]) w9
def J_impl_woven_2 (t3 : Value) (w10 : World) (t0 : Value) (t5 : Value) (k1 : List Value → World → Prop) : Prop :=
 pu P (oFldA T.impl_Step t3 9) fun t21 =>
 st P (oLoad T.int t21) w10 fun t22 w11 =>
 pu P (oBuiltin .min #[T.int, T.int] T.int #[false, true] #[t22, (.int .i64 1048576)]) fun t23 =>
 pu P (oBuiltin .max #[T.int, T.int] T.int #[true, false] #[(.int .i64 0), t23]) fun t24 =>
 st P (oMkSlice T.sl_uint8 t24 t24) w11 fun t25 w12 =>
 st P (oCall Fn.afero_UnionFile_Read #[t0, t25]) w12 fun t29 w13 =>
 pu P (oExtract t29 0) fun t30 =>
 pu P (oExtract t29 1) fun t31 =>
 pu P (oSlice T.sl_uint8 t25 none (some t30) none) fun t34 =>
 pu P (oFldA T.impl_Answer t5 3) fun t35 =>
 st P (oStore T.sl_uint8 t35 t34) w13 fun _ w14 =>
 k1 [t31] w14
def J_impl_woven_3 (t3 : Value) (w10 : World) (t0 : Value) (t5 : Value) (k1 : List Value → World → Prop) : Prop :=
 pu P (oFldA T.impl_Step t3 9) fun t38 =>
 st P (oLoad T.int t38) w10 fun t39 w15 =>
 pu P (oBuiltin .min #[T.int, T.int] T.int #[false, true] #[t39, (.int .i64 1048576)]) fun t40 =>
 pu P (oBuiltin .max #[T.int, T.int] T.int #[true, false] #[(.int .i64 0), t40]) fun t41 =>
 st P (oMkSlice T.sl_uint8 t41 t41) w15 fun t42 w16 =>
 pu P (oFldA T.impl_Step t3 7) fun t46 =>
 st P (oLoad T.int64 t46) w16 fun t47 w17 =>
 st P (oCall Fn.afero_UnionFile_ReadAt #[t0, t42, t47]) w17 fun t48 w18 =>
 pu P (oExtract t48 0) fun t49 =>
 pu P (oExtract t48 1) fun t50 =>
 pu P (oSlice T.sl_uint8 t42 none (some t49) none) fun t53 =>
 pu P (oFldA T.impl_Answer t5 3) fun t54 =>
 st P (oStore T.sl_uint8 t54 t53) w18 fun _ w19 =>
 k1 [t50] w19
def J_impl_woven_4 (t3 : Value) (w10 : World) (t0 : Value) (t5 : Value) (k1 : List Value → World → Prop) : Prop :=
 pu P (oFldA T.impl_Step t3 6) fun t59 =>
 st P (oLoad T.sl_uint8 t59) w10 fun t60 w20 =>
 st P (oBuiltin .append #[T.sl_uint8, T.sl_uint8] T.sl_uint8 #[true, false] #[(.slice none 0 0), t60]) w20 fun t61 w21 =>
 st P (oCall Fn.afero_UnionFile_Write #[t0, t61]) w21 fun t62 w22 =>
 pu P (oExtract t62 0) fun t63 =>
 pu P (oExtract t62 1) fun t64 =>
 pu P (oFldA T.impl_Answer t5 1) fun t65 =>
 st P (oStore T.int t65 t63) w22 fun _ w23 =>
 k1 [t64] w23
def J_impl_woven_5 (t3 : Value) (w10 : World) (t0 : Value) (t5 : Value) (k1 : List Value → World → Prop) : Prop :=
 pu P (oFldA T.impl_Step t3 6) fun t70 =>
 rd P (oLoad T.sl_uint8 t70) w10.drew fun t71 =>
 pu P (oFldA T.impl_Step t3 7) fun t73 =>
 rd P (oLoad T.int64 t73) w10.drew fun t74 =>
 st P (oBuiltin .append #[T.sl_uint8, T.sl_uint8] T.sl_uint8 #[true, false] #[(.slice none 0 0), t71]) w10.drew fun t72 w24 =>
 hold P (oLoad T.int64 t73) t74 w24 ∧ st P (oCall Fn.afero_UnionFile_WriteAt #[t0, t72, t74]) w24 fun t75 w25 =>
 pu P (oExtract t75 0) fun t76 =>
 pu P (oExtract t75 1) fun t77 =>
 pu P (oFldA T.impl_Answer t5 1) fun t78 =>
 st P (oStore T.int t78 t76) w25 fun _ w26 =>
 k1 [t77] w26
def J_impl_woven_6 (t3 : Value) (w10 : World) (t0 : Value) (t5 : Value) (k1 : List Value → World → Prop) : Prop :=
 pu P (oFldA T.impl_Step t3 7) fun t83 =>
 st P (oLoad T.int64 t83) w10 fun t84 w27 =>
 pu P (oFldA T.impl_Step t3 8) fun t85 =>
 st P (oLoad T.int t85) w27 fun t86 w28 =>
 st P (oCall Fn.afero_UnionFile_Seek #[t0, t84, t86]) w28 fun t87 w29 =>
 pu P (oExtract t87 0) fun t88 =>
 pu P (oExtract t87 1) fun t89 =>
 pu P (oFldA T.impl_Answer t5 2) fun t90 =>
 st P (oStore T.int64 t90 t88) w29 fun _ w30 =>
 k1 [t89] w30
def J_impl_woven_7 (t3 : Value) (w10 : World) (t0 : Value) (t5 : Value) (k1 : List Value → World → Prop) : Prop :=
 pu P (oFldA T.impl_Step t3 9) fun t105 =>
 st P (oLoad T.int t105) w10 fun t106 w34 =>
 st P (oCall Fn.afero_UnionFile_Readdir #[t0, t106]) w34 fun t107 w35 =>
 pu P (oExtract t107 0) fun t108 =>
 pu P (oExtract t107 1) fun t109 =>
 st P (oCall Fn.impl_fromInfos #[t108]) w35 fun t111 w36 =>
 pu P (oFldA T.impl_Answer t5 5) fun t113 =>
 st P (oStore T.sl_impl_Info t113 t111) w36 fun _ w37 =>
 k1 [t109] w37
def J_impl_woven_8 (t3 : Value) (w10 : World) (t0 : Value) (t5 : Value) (k1 : List Value → World → Prop) : Prop :=
 pu P (oFldA T.impl_Step t3 9) fun t118 =>
 st P (oLoad T.int t118) w10 fun t119 w38 =>
 st P (oCall Fn.afero_UnionFile_Readdirnames #[t0, t119]) w38 fun t120 w39 =>
 pu P (oExtract t120 0) fun t121 =>
 pu P (oExtract t120 1) fun t122 =>
 pu P (oFldA T.impl_Answer t5 4) fun t123 =>
 st P (oStore T.sl_string t123 t121) w39 fun _ w40 =>
 k1 [t122] w40
def J_impl_woven_9 (k1 : List Value → World → Prop) (t130 : Value) (s2 : List Value) (u2 : Env) (w42 : World) : Prop :=
 k1 [t130] w42
def J_impl_woven_10 (t0 : Value) (w10 : World) (k1 : List Value → World → Prop) (t5 : Value) : Prop :=
 st P (oCall Fn.afero_UnionFile_Stat #[t0]) w10 fun t128 w41 =>
 pu P (oExtract t128 0) fun t129 =>
 pu P (oExtract t128 1) fun t130 =>
 jn (J_impl_woven_9 k1 t130) fun k2 =>
 pu P (oBin .eql T.error false true t130 .nilIface) fun t132 =>
 gd t132 true w41 (fun K1 => K1 t129 w41) fun t134 w43 =>
 gd t132 true w43 (fun K2 => pu P (oBin .neq T.p_mem_FileInfo false true t134 (.pointer none)) fun v => K2 v w43) fun t135 w44 =>
 pu P (oPick t132 t135 (.bool false)) fun t136 =>
 cd t136 (
 st P (oCall Fn.impl_fromInfo #[t129]) w44 fun t138 w45 =>
 st P (oBuildSlice T.sl_impl_Info 1 #[(0, t138)]) w45 fun t139 w46 =>
 pu P (oFldA T.impl_Answer t5 5) fun t140 =>
 st P (oStore T.sl_impl_Info t140 t139) w46 fun _ w47 =>
 k2 [] w47) (
 k2 [] w44)
def J_impl_woven_11 (t17 : Value) (t0 : Value) (w10 : World) (k1 : List Value → World → Prop) (t4 : Value) (K : Value → World → Prop) : Prop :=
 pu P (oBin .eql T.int false true t17 (.int .i64 23)) fun t149 =>
 cd t149 (
 st P (oCall Fn.afero_UnionFile_Sync #[t0]) w10 fun t151 w51 =>
 k1 [t151] w51) (
 pu P (oBuild T.impl_Answer #[(0, (.int .i64 13))]) fun t18 =>
 st P (oStore T.impl_Answer t4 t18) w10 fun _ w52 =>
 rsl P T.impl_Answer t4 w52 fun r2 =>
 K (tup [r2]) w52)
def J_impl_woven_12 (t17 : Value) (t0 : Value) (w10 : World) (t5 : Value) (k1 : List Value → World → Prop) (t4 : Value) (K : Value → World → Prop) : Prop :=
 pu P (oBin .eql T.int false true t17 (.int .i64 22)) fun t143 =>
 cd t143 (
 st P (oCall Fn.afero_UnionFile_Name #[t0]) w10 fun t145 w48 =>
 st P (oBuildSlice T.sl_string 1 #[(0, t145)]) w48 fun t146 w49 =>
 pu P (oFldA T.impl_Answer t5 4) fun t147 =>
 st P (oStore T.sl_string t147 t146) w49 fun _ w50 =>
 k1 [.nilIface] w50) (J_impl_woven_11 t17 t0 w10 k1 t4 K)
def J_impl_woven_13 (t17 : Value) (t0 : Value) (w10 : World) (k1 : List Value → World → Prop) (t5 : Value) (t4 : Value) (K : Value → World → Prop) : Prop :=
 pu P (oBin .eql T.int false true t17 (.int .i64 21)) fun t125 =>
 cd t125 (J_impl_woven_10 t0 w10 k1 t5) (J_impl_woven_12 t17 t0 w10 t5 k1 t4 K)
def J_impl_woven_14 (t17 : Value) (t3 : Value) (w10 : World) (t0 : Value) (t5 : Value) (k1 : List Value → World → Prop) (t4 : Value) (K : Value → World → Prop) : Prop :=
 pu P (oBin .eql T.int false true t17 (.int .i64 20)) fun t115 =>
 cd t115 (J_impl_woven_8 t3 w10 t0 t5 k1) (J_impl_woven_13 t17 t0 w10 k1 t5 t4 K)
def J_impl_woven_15 (t17 : Value) (t3 : Value) (w10 : World) (t0 : Value) (t5 : Value) (k1 : List Value → World → Prop) (t4 : Value) (K : Value → World → Prop) : Prop :=
 pu P (oBin .eql T.int false true t17 (.int .i64 19)) fun t102 =>
 cd t102 (J_impl_woven_7 t3 w10 t0 t5 k1) (J_impl_woven_14 t17 t3 w10 t0 t5 k1 t4 K)
def J_impl_woven_16 (t17 : Value) (t0 : Value) (w10 : World) (k1 : List Value → World → Prop) (t3 : Value) (t5 : Value) (t4 : Value) (K : Value → World → Prop) : Prop :=
 pu P (oBin .eql T.int false true t17 (.int .i64 18)) fun t98 =>
 cd t98 (
 st P (oCall Fn.afero_UnionFile_Close #[t0]) w10 fun t100 w33 =>
 k1 [t100] w33) (J_impl_woven_15 t17 t3 w10 t0 t5 k1 t4 K)
def J_impl_woven_17 (t17 : Value) (t3 : Value) (w10 : World) (t0 : Value) (k1 : List Value → World → Prop) (t5 : Value) (t4 : Value) (K : Value → World → Prop) : Prop :=
 pu P (oBin .eql T.int false true t17 (.int .i64 17)) fun t92 =>
 cd t92 (
 pu P (oFldA T.impl_Step t3 7) fun t94 =>
 st P (oLoad T.int64 t94) w10 fun t95 w31 =>
 st P (oCall Fn.afero_UnionFile_Truncate #[t0, t95]) w31 fun t96 w32 =>
 k1 [t96] w32) (J_impl_woven_16 t17 t0 w10 k1 t3 t5 t4 K)
def J_impl_woven_18 (t17 : Value) (t3 : Value) (w10 : World) (t0 : Value) (t5 : Value) (k1 : List Value → World → Prop) (t4 : Value) (K : Value → World → Prop) : Prop :=
 pu P (oBin .eql T.int false true t17 (.int .i64 16)) fun t80 =>
 cd t80 (J_impl_woven_6 t3 w10 t0 t5 k1) (J_impl_woven_17 t17 t3 w10 t0 k1 t5 t4 K)
def J_impl_woven_19 (t17 : Value) (t3 : Value) (w10 : World) (t0 : Value) (t5 : Value) (k1 : List Value → World → Prop) (t4 : Value) (K : Value → World → Prop) : Prop :=
 pu P (oBin .eql T.int false true t17 (.int .i64 15)) fun t67 =>
 cd t67 (J_impl_woven_5 t3 w10 t0 t5 k1) (J_impl_woven_18 t17 t3 w10 t0 t5 k1 t4 K)
def J_impl_woven_20 (t17 : Value) (t3 : Value) (w10 : World) (t0 : Value) (t5 : Value) (k1 : List Value → World → Prop) (t4 : Value) (K : Value → World → Prop) : Prop :=
 pu P (oBin .eql T.int false true t17 (.int .i64 14)) fun t56 =>
 cd t56 (J_impl_woven_4 t3 w10 t0 t5 k1) (J_impl_woven_19 t17 t3 w10 t0 t5 k1 t4 K)
def J_impl_woven_21 (t17 : Value) (t3 : Value) (w10 : World) (t0 : Value) (t5 : Value) (k1 : List Value → World → Prop) (t4 : Value) (K : Value → World → Prop) : Prop :=
 pu P (oBin .eql T.int false true t17 (.int .i64 13)) fun t37 =>
 cd t37 (J_impl_woven_3 t3 w10 t0 t5 k1) (J_impl_woven_20 t17 t3 w10 t0 t5 k1 t4 K)
def F_impl_woven (t0 t1 : Value) (w : World) (K : Value → World → Prop) : Prop :=
 st P (oBox T.impl_Step t1) w fun t3 w1 =>
 st P (oAlloc T.impl_Answer) w1 fun t4 w2 =>
 pu P (oBuild T.impl_Answer #[]) fun t15 =>
 st P (oAlloc T.impl_Answer) w2 fun t5 w3 =>
 st P (oStore T.impl_Answer t5 t15) w3 fun _ w4 =>
 jn (J_impl_woven_1 t5 t4 K) fun k1 =>
 pu P (oFldA T.impl_Step t3 0) fun t16 =>
 st P (oLoad T.int t16) w4 fun t17 w10 =>
 pu P (oBin .eql T.int false true t17 (.int .i64 12)) fun t20 =>
 cd t20 (J_impl_woven_2 t3 w10 t0 t5 k1) (J_impl_woven_21 t17 t3 w10 t0 t5 k1 t4 K)
def Tb_impl_woven : Tab := { join := fun n => match n with | 39 => [6] | _ => [], loop := fun n => match n with | _ => [] }
theorem S_impl_woven {t0 t1 : Value} {w : World} {K : Value → World → Prop} (h : F_impl_woven t0 t1 w K) : Cl P Fn.impl_woven #[t0, t1] w K :=
  cl_of_eq (T := Tb_impl_woven) (args := [t0, t1]) Tryd.func33 rfl follows_mixed (by kernel_rfl) (Nat.le_of_ble_eq_true (by kernel_rfl)) (by kernel_rfl) h
def F_mem_CreateFile (t0 : Value) (w : World) (K : Value → World → Prop) : Prop :=
 pu P (oBuild T.mem_FileData #[(0, t0), (4, (.int .u32 268435456))]) fun t4 =>
 st P (oBox T.mem_FileData t4) w fun t5 w1 =>
 K (tup [t5]) w1
def Tb_mem_CreateFile : Tab := { join := fun n => match n with | _ => [], loop := fun n => match n with | _ => [] }
theorem S_mem_CreateFile {t0 : Value} {w : World} {K : Value → World → Prop} (h : F_mem_CreateFile t0 w K) : Cl P Fn.mem_CreateFile #[t0] w K :=
  cl_of_eq (T := Tb_mem_CreateFile) (args := [t0]) Tryd.func41 rfl follows_mixed (by kernel_rfl) (Nat.le_of_ble_eq_true (by kernel_rfl)) (by kernel_rfl) h
def F_mem_File_Read (t0 t1 : Value) (w : World) (K : Value → World → Prop) : Prop :=
 jn (fun s1 u1 w1 =>
 jn (fun s2 u2 w2 =>
 jn (fun s3 u3 w3 =>
 jn (fun s4 u4 w4 =>
 pu P (oNil t0) fun t77 =>
 pu P (oFldA T.mem_File t77 4) fun t78 =>
 rd P (oLoad T.p_mem_FileData t78) w4.drew fun t79 =>
 pu P (oNil t79) fun t80 =>
 pu P (oFldA T.mem_FileData t80 1) fun t81 =>
 rd P (oLoad T.sl_uint8 t81) w4.drew fun t82 =>
 pu P (oNil t0) fun t84 =>
 pu P (oFldA T.mem_File t84 0) fun t85 =>
 rd P (oLoad T.int64 t85) w4.drew fun t86 =>
 pu P (oNil t0) fun t88 =>
 pu P (oFldA T.mem_File t88 0) fun t89 =>
 rd P (oLoad T.int64 t89) w4.drew fun t90 =>
 pu P (oBin .add T.int64 false false t90 (gs s4 0)) fun t92 =>
 pu P (oSlice T.sl_uint8 t82 (some t86) (some t92) none) fun t93 =>
 st P (oBuiltin .copy #[T.sl_uint8, T.sl_uint8] T.int #[false, false] #[t1, t93]) w4.drew fun t94 w5 =>
 pu P (oNil t0) fun t96 =>
 pu P (oFldA T.mem_File t96 0) fun t97 =>
 st P (oLoad T.int64 t97) w5 fun t98 w6 =>
 pu P (oBin .add T.int64 false false t98 (gs s4 0)) fun t100 =>
 pu P (oNil t0) fun t101 =>
 pu P (oFldA T.mem_File t101 0) fun t102 =>
 st P (oStore T.int64 t102 t100) w6 fun _ w7 =>
 K (tup [(gs s4 0), (gs s3 0)]) w7) fun k4 =>
 pu P (oNil t0) fun t45 =>
 pu P (oFldA T.mem_File t45 4) fun t46 =>
 rd P (oLoad T.p_mem_FileData t46) w3.drew fun t47 =>
 pu P (oNil t47) fun t48 =>
 pu P (oFldA T.mem_FileData t48 1) fun t49 =>
 rd P (oLoad T.sl_uint8 t49) w3.drew fun t50 =>
 pu P (oBuiltin .len #[T.sl_uint8] T.int #[false] #[t50]) fun t51 =>
 pu P (oNil t0) fun t53 =>
 pu P (oFldA T.mem_File t53 0) fun t54 =>
 rd P (oLoad T.int64 t54) w3.drew fun t55 =>
 pu P (oBin .sub T.int false false t51 t55) fun t56 =>
 pu P (oBuiltin .len #[T.sl_uint8] T.int #[false] #[t1]) fun t58 =>
 pu P (oBin .geq T.int false false t56 t58) fun t59 =>
 cd t59 (
 pu P (oBuiltin .len #[T.sl_uint8] T.int #[false] #[t1]) fun t61 =>
 k4 [t61] w3.drew) (
 pu P (oNil t0) fun t63 =>
 pu P (oFldA T.mem_File t63 4) fun t64 =>
 rd P (oLoad T.p_mem_FileData t64) w3.drew.drew fun t65 =>
 pu P (oNil t65) fun t66 =>
 pu P (oFldA T.mem_FileData t66 1) fun t67 =>
 rd P (oLoad T.sl_uint8 t67) w3.drew.drew fun t68 =>
 pu P (oBuiltin .len #[T.sl_uint8] T.int #[false] #[t68]) fun t69 =>
 pu P (oNil t0) fun t71 =>
 pu P (oFldA T.mem_File t71 0) fun t72 =>
 rd P (oLoad T.int64 t72) w3.drew.drew fun t73 =>
 pu P (oBin .sub T.int false false t69 t73) fun t74 =>
 k4 [t74] w3.drew.drew)) fun k3 =>
 pu P (oNil t0) fun t31 =>
 pu P (oFldA T.mem_File t31 0) fun t32 =>
 rd P (oLoad T.int64 t32) w2.drew fun t33 =>
 pu P (oNil t0) fun t35 =>
 pu P (oFldA T.mem_File t35 4) fun t36 =>
 rd P (oLoad T.p_mem_FileData t36) w2.drew fun t37 =>
 pu P (oNil t37) fun t38 =>
 pu P (oFldA T.mem_FileData t38 1) fun t39 =>
 rd P (oLoad T.sl_uint8 t39) w2.drew fun t40 =>
 pu P (oBuiltin .len #[T.sl_uint8] T.int #[false] #[t40]) fun t41 =>
 pu P (oBin .gtr T.int false false t33 t41) fun t42 =>
 cd t42 (
 rd P (oLoad T.error (.pointer (some ⟨G.io_ErrUnexpectedEOF, 0, none⟩))) w2.drew.drew fun t43 =>
 K (tup [(.int .i64 0), t43]) w2.drew.drew) (
 k3 [(gs s2 0)] w2.drew)) fun k2 =>
 pu P (oBuiltin .len #[T.sl_uint8] T.int #[false] #[t1]) fun t12 =>
 pu P (oBin .gtr T.int false true t12 (.int .i64 0)) fun t13 =>
 gd t13 true w1.drew (fun K1 => K1 t0 w1.drew) fun t15 w8 =>
 gd t13 true w8 (fun K2 => pu P (oNil t15) fun v => K2 v w8) fun t16 w9 =>
 gd t13 true w9 (fun K3 => pu P (oFldA T.mem_File t16 0) fun v => K3 v w9) fun t17 w10 =>
 gd t13 true w10 (fun K4 => rd P (oLoad T.int64 t17) w10 fun v => K4 v w10) fun t18 w11 =>
 gd t13 true w11 (fun K5 => K5 t0 w11) fun t19 w12 =>
 gd t13 true w12 (fun K6 => pu P (oNil t19) fun v => K6 v w12) fun t20 w13 =>
 gd t13 true w13 (fun K7 => pu P (oFldA T.mem_File t20 4) fun v => K7 v w13) fun t21 w14 =>
 gd t13 true w14 (fun K8 => rd P (oLoad T.p_mem_FileData t21) w14 fun v => K8 v w14) fun t22 w15 =>
 gd t13 true w15 (fun K9 => pu P (oNil t22) fun v => K9 v w15) fun t23 w16 =>
 gd t13 true w16 (fun K10 => pu P (oFldA T.mem_FileData t23 1) fun v => K10 v w16) fun t24 w17 =>
 gd t13 true w17 (fun K11 => rd P (oLoad T.sl_uint8 t24) w17 fun v => K11 v w17) fun t25 w18 =>
 gd t13 true w18 (fun K12 => pu P (oBuiltin .len #[T.sl_uint8] T.int #[false] #[t25]) fun v => K12 v w18) fun t26 w19 =>
 gd t13 true w19 (fun K13 => pu P (oBin .eql T.int false false t18 t26) fun v => K13 v w19) fun t27 w20 =>
 pu P (oPick t13 t27 (.bool false)) fun t28 =>
 cd t28 (
 rd P (oLoad T.error (.pointer (some ⟨G.io_EOF, 0, none⟩))) w20.drew fun t29 =>
 K (tup [(.int .i64 0), t29]) w20.drew) (
 k2 [(gs s1 0)] w20)) fun k1 =>
 pu P (oNil t0) fun t7 =>
 pu P (oFldA T.mem_File t7 2) fun t8 =>
 st P (oLoad T.bool t8) w fun t9 w21 =>
 cd t9 (
 rd P (oLoad T.error (.pointer (some ⟨G.mem_ErrFileClosed, 0, none⟩))) w21.drew fun t10 =>
 K (tup [(.int .i64 0), t10]) w21.drew) (
 k1 [.nilIface] w21)
def Tb_mem_File_Read : Tab := { join := fun n => match n with | 3 => [5] | 5 => [5] | 7 => [5] | 10 => [4] | _ => [], loop := fun n => match n with | _ => [] }
theorem S_mem_File_Read {t0 t1 : Value} {w : World} {K : Value → World → Prop} (h : F_mem_File_Read t0 t1 w K) : Cl P Fn.mem_File_Read #[t0, t1] w K :=
  cl_of_eq (T := Tb_mem_File_Read) (args := [t0, t1]) Tryd.func42 rfl follows_mixed (by kernel_rfl) (Nat.le_of_ble_eq_true (by kernel_rfl)) (by kernel_rfl) h
def F_mem_File_Write (t0 t1 : Value) (w : World) (K : Value → World → Prop) : Prop :=
 jn (fun s1 u1 w1 =>
 jn (fun s2 u2 w2 =>
 pu P (oBuiltin .len #[T.sl_uint8] T.int #[false] #[t1]) fun t30 =>
 pu P (oNil t0) fun t32 =>
 pu P (oFldA T.mem_File t32 0) fun t33 =>
 st P (oLoad T.int64 t33) w2 fun t34 w3 =>
 pu P (oNil t0) fun t37 =>
 pu P (oFldA T.mem_File t37 4) fun t38 =>
 st P (oLoad T.p_mem_FileData t38) w3 fun t39 w4 =>
 pu P (oNil t39) fun t40 =>
 pu P (oFldA T.mem_FileData t40 1) fun t41 =>
 st P (oLoad T.sl_uint8 t41) w4 fun t42 w5 =>
 pu P (oBuiltin .len #[T.sl_uint8] T.int #[false] #[t42]) fun t43 =>
 pu P (oBin .sub T.int64 false false t34 t43) fun t44 =>
 jn (fun s3 u3 w6 =>
 jn (fun s4 u4 w7 =>
 pu P (oNil t0) fun t136 =>
 pu P (oFldA T.mem_File t136 4) fun t137 =>
 st P (oLoad T.p_mem_FileData t137) w7 fun t138 w8 =>
 st P (oCall Fn.mem_setModTime #[t138, (.int .i64 0)]) w8 fun t139 w9 =>
 pu P (oNil t0) fun t141 =>
 pu P (oFldA T.mem_File t141 0) fun t142 =>
 st P (oLoad T.int64 t142) w9 fun t143 w10 =>
 pu P (oBin .add T.int64 false false t143 t30) fun t145 =>
 pu P (oNil t0) fun t146 =>
 pu P (oFldA T.mem_File t146 0) fun t147 =>
 st P (oStore T.int64 t147 t145) w10 fun _ w11 =>
 K (tup [t30, (gs s2 0)]) w11) fun k4 =>
 pu P (oBin .gtr T.int64 false true t44 (.int .i64 0)) fun t69 =>
 cd t69 (
 pu P (oNil t0) fun t71 =>
 pu P (oFldA T.mem_File t71 4) fun t72 =>
 rd P (oLoad T.p_mem_FileData t72) w6.drew fun t73 =>
 pu P (oNil t0) fun t75 =>
 pu P (oFldA T.mem_File t75 4) fun t76 =>
 rd P (oLoad T.p_mem_FileData t76) w6.drew fun t77 =>
 pu P (oNil t77) fun t78 =>
 pu P (oFldA T.mem_FileData t78 1) fun t79 =>
 rd P (oLoad T.sl_uint8 t79) w6.drew fun t80 =>
 st P (oMkSlice T.sl_uint8 t44 t44) w6.drew fun t82 w12 =>
 hold P (oLoad T.sl_uint8 t79) t80 w12 ∧ hold P (oLoad T.p_mem_FileData t76) t77 w12 ∧ hold P (oLoad T.p_mem_FileData t72) t73 w12 ∧ st P (oBuiltin .append #[T.sl_uint8, T.sl_uint8] T.sl_uint8 #[false, false] #[t82, t1]) w12 fun t84 w13 =>
 hold P (oLoad T.sl_uint8 t79) t80 w13 ∧ hold P (oLoad T.p_mem_FileData t76) t77 w13 ∧ hold P (oLoad T.p_mem_FileData t72) t73 w13 ∧ st P (oBuiltin .append #[T.sl_uint8, T.sl_uint8] T.sl_uint8 #[false, false] #[t80, t84]) w13 fun t85 w14 =>
 hold P (oLoad T.p_mem_FileData t72) t73 w14 ∧ pu P (oNil t73) fun t86 =>
 pu P (oFldA T.mem_FileData t86 1) fun t87 =>
 st P (oStore T.sl_uint8 t87 t85) w14 fun _ w15 =>
 pu P (oNil t0) fun t89 =>
 pu P (oFldA T.mem_File t89 4) fun t90 =>
 rd P (oLoad T.p_mem_FileData t90) w15.drew fun t91 =>
 pu P (oNil t0) fun t93 =>
 pu P (oFldA T.mem_File t93 4) fun t94 =>
 rd P (oLoad T.p_mem_FileData t94) w15.drew fun t95 =>
 pu P (oNil t95) fun t96 =>
 pu P (oFldA T.mem_FileData t96 1) fun t97 =>
 rd P (oLoad T.sl_uint8 t97) w15.drew fun t98 =>
 st P (oBuiltin .append #[T.sl_uint8, T.sl_uint8] T.sl_uint8 #[false, false] #[t98, (gs s3 0)]) w15.drew fun t100 w16 =>
 hold P (oLoad T.p_mem_FileData t90) t91 w16 ∧ pu P (oNil t91) fun t101 =>
 pu P (oFldA T.mem_FileData t101 1) fun t102 =>
 st P (oStore T.sl_uint8 t102 t100) w16 fun _ w17 =>
 k4 [] w17) (
 pu P (oNil t0) fun t104 =>
 pu P (oFldA T.mem_File t104 4) fun t105 =>
 rd P (oLoad T.p_mem_FileData t105) w6.drew fun t106 =>
 pu P (oNil t0) fun t108 =>
 pu P (oFldA T.mem_File t108 4) fun t109 =>
 rd P (oLoad T.p_mem_FileData t109) w6.drew fun t110 =>
 pu P (oNil t110) fun t111 =>
 pu P (oFldA T.mem_FileData t111 1) fun t112 =>
 rd P (oLoad T.sl_uint8 t112) w6.drew fun t113 =>
 pu P (oSlice T.sl_uint8 t113 none (some t34) none) fun t115 =>
 st P (oBuiltin .append #[T.sl_uint8, T.sl_uint8] T.sl_uint8 #[false, false] #[t115, t1]) w6.drew fun t117 w18 =>
 hold P (oLoad T.p_mem_FileData t105) t106 w18 ∧ pu P (oNil t106) fun t118 =>
 pu P (oFldA T.mem_FileData t118 1) fun t119 =>
 st P (oStore T.sl_uint8 t119 t117) w18 fun _ w19 =>
 pu P (oNil t0) fun t121 =>
 pu P (oFldA T.mem_File t121 4) fun t122 =>
 rd P (oLoad T.p_mem_FileData t122) w19.drew fun t123 =>
 pu P (oNil t0) fun t125 =>
 pu P (oFldA T.mem_File t125 4) fun t126 =>
 rd P (oLoad T.p_mem_FileData t126) w19.drew fun t127 =>
 pu P (oNil t127) fun t128 =>
 pu P (oFldA T.mem_FileData t128 1) fun t129 =>
 rd P (oLoad T.sl_uint8 t129) w19.drew fun t130 =>
 st P (oBuiltin .append #[T.sl_uint8, T.sl_uint8] T.sl_uint8 #[false, false] #[t130, (gs s3 0)]) w19.drew fun t132 w20 =>
 hold P (oLoad T.p_mem_FileData t122) t123 w20 ∧ pu P (oNil t123) fun t133 =>
 pu P (oFldA T.mem_FileData t133 1) fun t134 =>
 st P (oStore T.sl_uint8 t134 t132) w20 fun _ w21 =>
 k4 [] w21)) fun k3 =>
 pu P (oBin .add T.int false false t30 t34) fun t47 =>
 pu P (oNil t0) fun t49 =>
 pu P (oFldA T.mem_File t49 4) fun t50 =>
 st P (oLoad T.p_mem_FileData t50) w5 fun t51 w22 =>
 pu P (oNil t51) fun t52 =>
 pu P (oFldA T.mem_FileData t52 1) fun t53 =>
 st P (oLoad T.sl_uint8 t53) w22 fun t54 w23 =>
 pu P (oBuiltin .len #[T.sl_uint8] T.int #[false] #[t54]) fun t55 =>
 pu P (oBin .lss T.int false false t47 t55) fun t56 =>
 cd t56 (
 pu P (oNil t0) fun t58 =>
 pu P (oFldA T.mem_File t58 4) fun t59 =>
 st P (oLoad T.p_mem_FileData t59) w23 fun t60 w24 =>
 pu P (oNil t60) fun t61 =>
 pu P (oFldA T.mem_FileData t61 1) fun t62 =>
 st P (oLoad T.sl_uint8 t62) w24 fun t63 w25 =>
 pu P (oBin .add T.int false false t30 t34) fun t66 =>
 pu P (oSlice T.sl_uint8 t63 (some t66) none none) fun t67 =>
 k3 [t67] w25) (
 k3 [(.slice none 0 0)] w23)) fun k2 =>
 pu P (oNil t0) fun t15 =>
 pu P (oFldA T.mem_File t15 3) fun t16 =>
 st P (oLoad T.bool t16) w1 fun t17 w26 =>
 cd t17 (
 pu P (oNil t0) fun t19 =>
 pu P (oFldA T.mem_File t19 4) fun t20 =>
 rd P (oLoad T.p_mem_FileData t20) w26.drew fun t21 =>
 pu P (oNil t21) fun t22 =>
 pu P (oFldA T.mem_FileData t22 0) fun t23 =>
 rd P (oLoad T.string t23) w26.drew fun t24 =>
 st P (oCall Fn.errors_New #[(S [102, 105, 108, 101, 32, 104, 97, 110, 100, 108, 101, 32, 105, 115, 32, 114, 101, 97, 100, 32, 111, 110, 108, 121])]) w26.drew fun t25 w27 =>
 hold P (oLoad T.string t23) t24 w27 ∧ hold P (oLoad T.p_mem_FileData t20) t21 w27 ∧ pu P (oBuild T.os_PathError #[(0, (S [119, 114, 105, 116, 101])), (1, t24), (2, t25)]) fun t26 =>
 st P (oBox T.os_PathError t26) w27 fun t27 w28 =>
 pu P (oMkIface T.p_os_PathError t27) fun t28 =>
 K (tup [(.int .i64 0), t28]) w28) (
 k2 [(gs s1 0)] w26)) fun k1 =>
 pu P (oNil t0) fun t10 =>
 pu P (oFldA T.mem_File t10 2) fun t11 =>
 st P (oLoad T.bool t11) w fun t12 w29 =>
 cd t12 (
 rd P (oLoad T.error (.pointer (some ⟨G.mem_ErrFileClosed, 0, none⟩))) w29.drew fun t13 =>
 K (tup [(.int .i64 0), t13]) w29.drew) (
 k1 [.nilIface] w29)
def Tb_mem_File_Write : Tab := { join := fun n => match n with | 3 => [5] | 5 => [5] | 11 => [8] | _ => [], loop := fun n => match n with | _ => [] }
theorem S_mem_File_Write {t0 t1 : Value} {w : World} {K : Value → World → Prop} (h : F_mem_File_Write t0 t1 w K) : Cl P Fn.mem_File_Write #[t0, t1] w K :=
  cl_of_eq (T := Tb_mem_File_Write) (args := [t0, t1]) Tryd.func44 rfl follows_mixed (by kernel_rfl) (Nat.le_of_ble_eq_true (by kernel_rfl)) (by kernel_rfl) h
def F_mem_File_WriteAt (t0 t1 t2 : Value) (w : World) (K : Value → World → Prop) : Prop :=
 pu P (oNil t0) fun t10 =>
 pu P (oFldA T.mem_File t10 0) fun t11 =>
 st P (oStore T.int64 t11 t2) w fun _ w1 =>
 st P (oCall Fn.mem_File_Write #[t0, t1]) w1 fun t14 w2 =>
 pu P (oExtract t14 0) fun t15 =>
 pu P (oExtract t14 1) fun t16 =>
 K (tup [t15, t16]) w2
def Tb_mem_File_WriteAt : Tab := { join := fun n => match n with | _ => [], loop := fun n => match n with | _ => [] }
theorem S_mem_File_WriteAt {t0 t1 t2 : Value} {w : World} {K : Value → World → Prop} (h : F_mem_File_WriteAt t0 t1 t2 w K) : Cl P Fn.mem_File_WriteAt #[t0, t1, t2] w K :=
  cl_of_eq (T := Tb_mem_File_WriteAt) (args := [t0, t1, t2]) Tryd.func45 rfl follows_mixed (by kernel_rfl) (Nat.le_of_ble_eq_true (by kernel_rfl)) (by kernel_rfl) h
def F_mem_File_Seek (t0 t1 t2 : Value) (w : World) (K : Value → World → Prop) : Prop :=
 jn (fun s1 u1 w1 =>
 jn (fun s2 u2 w2 =>
 pu P (oNil t0) fun t46 =>
 pu P (oFldA T.mem_File t46 0) fun t47 =>
 st P (oLoad T.int64 t47) w2 fun t48 w3 =>
 K (tup [t48, .nilIface]) w3) fun k2 =>
 pu P (oBin .eql T.int false true t2 (.int .i64 0)) fun t15 =>
 cd t15 (
 pu P (oNil t0) fun t18 =>
 pu P (oFldA T.mem_File t18 0) fun t19 =>
 st P (oStore T.int64 t19 t1) w1 fun _ w4 =>
 k2 [] w4) (
 pu P (oBin .eql T.int false true t2 (.int .i64 1)) fun t21 =>
 cd t21 (
 pu P (oNil t0) fun t23 =>
 pu P (oFldA T.mem_File t23 0) fun t24 =>
 st P (oLoad T.int64 t24) w1 fun t25 w5 =>
 pu P (oBin .add T.int64 false false t25 t1) fun t27 =>
 pu P (oNil t0) fun t28 =>
 pu P (oFldA T.mem_File t28 0) fun t29 =>
 st P (oStore T.int64 t29 t27) w5 fun _ w6 =>
 k2 [] w6) (
 pu P (oBin .eql T.int false true t2 (.int .i64 2)) fun t31 =>
 cd t31 (
 pu P (oNil t0) fun t34 =>
 pu P (oFldA T.mem_File t34 4) fun t35 =>
 st P (oLoad T.p_mem_FileData t35) w1 fun t36 w7 =>
 pu P (oNil t36) fun t37 =>
 pu P (oFldA T.mem_FileData t37 1) fun t38 =>
 st P (oLoad T.sl_uint8 t38) w7 fun t39 w8 =>
 pu P (oBuiltin .len #[T.sl_uint8] T.int #[false] #[t39]) fun t40 =>
 pu P (oBin .add T.int64 false false t40 t1) fun t42 =>
 pu P (oNil t0) fun t43 =>
 pu P (oFldA T.mem_File t43 0) fun t44 =>
 st P (oStore T.int64 t44 t42) w8 fun _ w9 =>
 k2 [] w9) (
 k2 [] w1)))) fun k1 =>
 pu P (oNil t0) fun t9 =>
 pu P (oFldA T.mem_File t9 2) fun t10 =>
 st P (oLoad T.bool t10) w fun t11 w10 =>
 cd t11 (
 rd P (oLoad T.error (.pointer (some ⟨G.mem_ErrFileClosed, 0, none⟩))) w10.drew fun t12 =>
 K (tup [(.int .i64 0), t12]) w10.drew) (
 k1 [] w10)
def Tb_mem_File_Seek : Tab := { join := fun n => match n with | _ => [], loop := fun n => match n with | _ => [] }
theorem S_mem_File_Seek {t0 t1 t2 : Value} {w : World} {K : Value → World → Prop} (h : F_mem_File_Seek t0 t1 t2 w K) : Cl P Fn.mem_File_Seek #[t0, t1, t2] w K :=
  cl_of_eq (T := Tb_mem_File_Seek) (args := [t0, t1, t2]) Tryd.func46 rfl follows_mixed (by kernel_rfl) (Nat.le_of_ble_eq_true (by kernel_rfl)) (by kernel_rfl) h
def F_mem_File_Truncate (t0 t1 : Value) (w : World) (K : Value → World → Prop) : Prop :=
 jn (fun s1 u1 w1 =>
 jn (fun s2 u2 w2 =>
 jn (fun s3 u3 w3 =>
 jn (fun s4 u4 w4 =>
 pu P (oNil t0) fun t80 =>
 pu P (oFldA T.mem_File t80 4) fun t81 =>
 st P (oLoad T.p_mem_FileData t81) w4 fun t82 w5 =>
 st P (oCall Fn.mem_setModTime #[t82, (.int .i64 0)]) w5 fun t83 w6 =>
 K (tup [.nilIface]) w6) fun k4 =>
 pu P (oNil t0) fun t31 =>
 pu P (oFldA T.mem_File t31 4) fun t32 =>
 st P (oLoad T.p_mem_FileData t32) w3 fun t33 w7 =>
 pu P (oNil t33) fun t34 =>
 pu P (oFldA T.mem_FileData t34 1) fun t35 =>
 st P (oLoad T.sl_uint8 t35) w7 fun t36 w8 =>
 pu P (oBuiltin .len #[T.sl_uint8] T.int #[false] #[t36]) fun t37 =>
 pu P (oBin .gtr T.int64 false false t1 t37) fun t38 =>
 cd t38 (
 pu P (oNil t0) fun t41 =>
 pu P (oFldA T.mem_File t41 4) fun t42 =>
 st P (oLoad T.p_mem_FileData t42) w8 fun t43 w9 =>
 pu P (oNil t43) fun t44 =>
 pu P (oFldA T.mem_FileData t44 1) fun t45 =>
 st P (oLoad T.sl_uint8 t45) w9 fun t46 w10 =>
 pu P (oBuiltin .len #[T.sl_uint8] T.int #[false] #[t46]) fun t47 =>
 pu P (oBin .sub T.int64 false false t1 t47) fun t48 =>
 pu P (oNil t0) fun t50 =>
 pu P (oFldA T.mem_File t50 4) fun t51 =>
 rd P (oLoad T.p_mem_FileData t51) w10.drew fun t52 =>
 pu P (oNil t0) fun t54 =>
 pu P (oFldA T.mem_File t54 4) fun t55 =>
 rd P (oLoad T.p_mem_FileData t55) w10.drew fun t56 =>
 pu P (oNil t56) fun t57 =>
 pu P (oFldA T.mem_FileData t57 1) fun t58 =>
 rd P (oLoad T.sl_uint8 t58) w10.drew fun t59 =>
 st P (oBuiltin .append #[T.sl_uint8, T.int] T.sl_uint8 #[false, false] #[t59, t48]) w10.drew fun t61 w11 =>
 hold P (oLoad T.p_mem_FileData t51) t52 w11 ∧ pu P (oNil t52) fun t62 =>
 pu P (oFldA T.mem_FileData t62 1) fun t63 =>
 st P (oStore T.sl_uint8 t63 t61) w11 fun _ w12 =>
 k4 [] w12) (
 pu P (oNil t0) fun t65 =>
 pu P (oFldA T.mem_File t65 4) fun t66 =>
 rd P (oLoad T.p_mem_FileData t66) w8.drew fun t67 =>
 pu P (oNil t0) fun t69 =>
 pu P (oFldA T.mem_File t69 4) fun t70 =>
 rd P (oLoad T.p_mem_FileData t70) w8.drew fun t71 =>
 pu P (oNil t71) fun t72 =>
 pu P (oFldA T.mem_FileData t72 1) fun t73 =>
 rd P (oLoad T.sl_uint8 t73) w8.drew fun t74 =>
 pu P (oSlice T.sl_uint8 t74 (some (.int .i64 0)) (some t1) none) fun t76 =>
 pu P (oNil t67) fun t77 =>
 pu P (oFldA T.mem_FileData t77 1) fun t78 =>
 st P (oStore T.sl_uint8 t78 t76) w8.drew fun _ w13 =>
 k4 [] w13)) fun k3 =>
 pu P (oBin .lss T.int64 false true t1 (.int .i64 0)) fun t27 =>
 cd t27 (
 st P (oLoad T.error (.pointer (some ⟨G.mem_ErrOutOfRange, 0, none⟩))) w2 fun t28 w14 =>
 K (tup [t28]) w14) (
 k3 [] w2)) fun k2 =>
 pu P (oNil t0) fun t12 =>
 pu P (oFldA T.mem_File t12 3) fun t13 =>
 st P (oLoad T.bool t13) w1 fun t14 w15 =>
 cd t14 (
 pu P (oNil t0) fun t16 =>
 pu P (oFldA T.mem_File t16 4) fun t17 =>
 rd P (oLoad T.p_mem_FileData t17) w15.drew fun t18 =>
 pu P (oNil t18) fun t19 =>
 pu P (oFldA T.mem_FileData t19 0) fun t20 =>
 rd P (oLoad T.string t20) w15.drew fun t21 =>
 st P (oCall Fn.errors_New #[(S [102, 105, 108, 101, 32, 104, 97, 110, 100, 108, 101, 32, 105, 115, 32, 114, 101, 97, 100, 32, 111, 110, 108, 121])]) w15.drew fun t22 w16 =>
 hold P (oLoad T.string t20) t21 w16 ∧ hold P (oLoad T.p_mem_FileData t17) t18 w16 ∧ pu P (oBuild T.os_PathError #[(0, (S [116, 114, 117, 110, 99, 97, 116, 101])), (1, t21), (2, t22)]) fun t23 =>
 st P (oBox T.os_PathError t23) w16 fun t24 w17 =>
 pu P (oMkIface T.p_os_PathError t24) fun t25 =>
 K (tup [t25]) w17) (
 k2 [] w15)) fun k1 =>
 pu P (oNil t0) fun t7 =>
 pu P (oFldA T.mem_File t7 2) fun t8 =>
 st P (oLoad T.bool t8) w fun t9 w18 =>
 cd t9 (
 st P (oLoad T.error (.pointer (some ⟨G.mem_ErrFileClosed, 0, none⟩))) w18 fun t10 w19 =>
 K (tup [t10]) w19) (
 k1 [] w18)
def Tb_mem_File_Truncate : Tab := { join := fun n => match n with | _ => [], loop := fun n => match n with | _ => [] }
theorem S_mem_File_Truncate {t0 t1 : Value} {w : World} {K : Value → World → Prop} (h : F_mem_File_Truncate t0 t1 w K) : Cl P Fn.mem_File_Truncate #[t0, t1] w K :=
  cl_of_eq (T := Tb_mem_File_Truncate) (args := [t0, t1]) Tryd.func47 rfl follows_mixed (by kernel_rfl) (Nat.le_of_ble_eq_true (by kernel_rfl)) (by kernel_rfl) h
def F_mem_File_Close (t0 : Value) (w : World) (K : Value → World → Prop) : Prop :=
 pu P (oNil t0) fun t4 =>
 pu P (oFldA T.mem_File t4 2) fun t5 =>
 st P (oStore T.bool t5 (.bool true)) w fun _ w1 =>
 jn (fun s1 u1 w2 =>
 K (tup [.nilIface]) w2) fun k1 =>
 pu P (oNil t0) fun t7 =>
 pu P (oFldA T.mem_File t7 3) fun t8 =>
 st P (oLoad T.bool t8) w1 fun t9 w3 =>
 pu P (oUn .not t9) fun t10 =>
 cd t10 (
 pu P (oNil t0) fun t12 =>
 pu P (oFldA T.mem_File t12 4) fun t13 =>
 st P (oLoad T.p_mem_FileData t13) w3 fun t14 w4 =>
 st P (oCall Fn.mem_setModTime #[t14, (.int .i64 0)]) w4 fun t15 w5 =>
 k1 [] w5) (
 k1 [] w3)
def Tb_mem_File_Close : Tab := { join := fun n => match n with | _ => [], loop := fun n => match n with | _ => [] }
theorem S_mem_File_Close {t0 : Value} {w : World} {K : Value → World → Prop} (h : F_mem_File_Close t0 w K) : Cl P Fn.mem_File_Close #[t0] w K :=
  cl_of_eq (T := Tb_mem_File_Close) (args := [t0]) Tryd.func48 rfl follows_mixed (by kernel_rfl) (Nat.le_of_ble_eq_true (by kernel_rfl)) (by kernel_rfl) h
def J_mem_File_Readdir_1 (K : Value → World → Prop) (t65 : Value) (s2 : List Value) (s3 : List Value) (u3 : Env) (w7 : World) : Prop :=
 K (tup [t65, (gs s2 0)]) w7
def J_mem_File_Readdir_2 (t40 : Value) (s4 : List Value) (t65 : Value) (C1 : List Value → World → Prop) (s5 : List Value) (u5 : Env) (w9 : World) : Prop :=
 pu P (oIdxA T.sl_p_mem_FileData t40 (gs s4 0)) fun t75 =>
 st P (oLoad T.p_mem_FileData t75) w9 fun t76 w10 =>
 pu P (oBuild T.mem_FileInfo #[(0, t76)]) fun t77 =>
 st P (oBox T.mem_FileInfo t77) w10 fun t78 w11 =>
 pu P (oIdxA T.sl_p_mem_FileInfo t65 (gs s4 0)) fun t79 =>
 st P (oStore T.p_mem_FileInfo t79 t78) w11 fun _ w12 =>
 pu P (oBin .add T.int false true (gs s4 0) (.int .i64 1)) fun t80 =>
 C1 [t80] w12
def J_mem_File_Readdir_3 (t0 : Value) (K : Value → World → Prop) (t40 : Value) (s2 : List Value) (u2 : Env) (w3 : World) : Prop :=
 pu P (oNil t0) fun t57 =>
 pu P (oFldA T.mem_File t57 1) fun t58 =>
 st P (oLoad T.int64 t58) w3 fun t59 w4 =>
 pu P (oBin .add T.int64 false false t59 (gs s2 1)) fun t61 =>
 pu P (oNil t0) fun t62 =>
 pu P (oFldA T.mem_File t62 1) fun t63 =>
 st P (oStore T.int64 t63 t61) w4 fun _ w5 =>
 st P (oMkSlice T.sl_p_mem_FileInfo (gs s2 1) (gs s2 1)) w5 fun t65 w6 =>
 jn (J_mem_File_Readdir_1 K t65 s2) fun k3 =>
 pu P (oBuiltin .len #[T.sl_p_mem_FileInfo] T.int #[false] #[t65]) fun t67 =>
 lp [(.int .i64 0)] w6 fun s4 u4 w8 C1 =>
 pu P (oBin .lss T.int false false (gs s4 0) t67) fun t69 =>
 jn (J_mem_File_Readdir_2 t40 s4 t65 C1) fun k4 =>
 cd t69 (
 k4 [] w8) (
 k3 [] w8)
def J_mem_File_Readdir_4 (t40 : Value) (k2 : List Value → World → Prop) (s1 : List Value) (s6 : List Value) (u6 : Env) (w13 : World) : Prop :=
 pu P (oBuiltin .len #[T.sl_p_mem_FileData] T.int #[false] #[t40]) fun t51 =>
 pu P (oBin .eql T.int false true t51 (.int .i64 0)) fun t52 =>
 cd t52 (
 st P (oLoad T.error (.pointer (some ⟨G.io_EOF, 0, none⟩))) w13 fun t53 w14 =>
 k2 [t53, (gs s6 0)] w14) (
 k2 [(gs s1 0), (gs s6 0)] w13)
def J_mem_File_Readdir_5 (t40 : Value) (k2 : List Value → World → Prop) (s1 : List Value) (t1 : Value) (w2 : World) : Prop :=
 jn (J_mem_File_Readdir_4 t40 k2 s1) fun k5 =>
 pu P (oBuiltin .len #[T.sl_p_mem_FileData] T.int #[false] #[t40]) fun t44 =>
 pu P (oBin .lss T.int false false t44 t1) fun t46 =>
 cd t46 (
 pu P (oBuiltin .len #[T.sl_p_mem_FileData] T.int #[false] #[t40]) fun t48 =>
 k5 [t48] w2) (
 k5 [t1] w2)
def J_mem_File_Readdir_6 (t0 : Value) (K : Value → World → Prop) (t1 : Value) (s1 : List Value) (u1 : Env) (w1 : World) : Prop :=
 pu P (oNil t0) fun t29 =>
 pu P (oFldA T.mem_File t29 4) fun t30 =>
 rd P (oLoad T.p_mem_FileData t30) w1.drew fun t31 =>
 pu P (oNil t31) fun t32 =>
 pu P (oFldA T.mem_FileData t32 2) fun t33 =>
 rd P (oLoad T.mem_DirMap t33) w1.drew fun t34 =>
 pu P (oNil t0) fun t37 =>
 pu P (oFldA T.mem_File t37 1) fun t38 =>
 rd P (oLoad T.int64 t38) w1.drew fun t39 =>
 st P (oCall Fn.mem_DirMap_Files #[t34]) w1.drew fun t35 w2 =>
 hold P (oLoad T.int64 t38) t39 w2 ∧ pu P (oSlice T.sl_p_mem_FileData t35 (some t39) none none) fun t40 =>
 jn (J_mem_File_Readdir_3 t0 K t40) fun k2 =>
 pu P (oBin .gtr T.int false true t1 (.int .i64 0)) fun t42 =>
 cd t42 (J_mem_File_Readdir_5 t40 k2 s1 t1 w2) (
 pu P (oBuiltin .len #[T.sl_p_mem_FileData] T.int #[false] #[t40]) fun t55 =>
 k2 [(gs s1 0), t55] w2)
def J_mem_File_Readdir_7 (t0 : Value) (w16 : World) (K : Value → World → Prop) : Prop :=
 pu P (oNil t0) fun t18 =>
 pu P (oFldA T.mem_File t18 4) fun t19 =>
 rd P (oLoad T.p_mem_FileData t19) w16.drew fun t20 =>
 pu P (oNil t20) fun t21 =>
 pu P (oFldA T.mem_FileData t21 0) fun t22 =>
 rd P (oLoad T.string t22) w16.drew fun t23 =>
 st P (oCall Fn.errors_New #[(S [110, 111, 116, 32, 97, 32, 100, 105, 114])]) w16.drew fun t24 w17 =>
 hold P (oLoad T.string t22) t23 w17 ∧ hold P (oLoad T.p_mem_FileData t19) t20 w17 ∧ pu P (oBuild T.os_PathError #[(0, (S [114, 101, 97, 100, 100, 105, 114])), (1, t23), (2, t24)]) fun t25 =>
 st P (oBox T.os_PathError t25) w17 fun t26 w18 =>
 pu P (oMkIface T.p_os_PathError t26) fun t27 =>
 K (tup [(.slice none 0 0), t27]) w18
def F_mem_File_Readdir (t0 t1 : Value) (w : World) (K : Value → World → Prop) : Prop :=
 jn (J_mem_File_Readdir_6 t0 K t1) fun k1 =>
 pu P (oNil t0) fun t10 =>
 pu P (oFldA T.mem_File t10 4) fun t11 =>
 st P (oLoad T.p_mem_FileData t11) w fun t12 w15 =>
 pu P (oNil t12) fun t13 =>
 pu P (oFldA T.mem_FileData t13 3) fun t14 =>
 st P (oLoad T.bool t14) w15 fun t15 w16 =>
 pu P (oUn .not t15) fun t16 =>
 cd t16 (J_mem_File_Readdir_7 t0 w16 K) (
 k1 [.nilIface] w16)
def Tb_mem_File_Readdir : Tab := { join := fun n => match n with | 3 => [5] | 9 => [6] | 12 => [5, 6] | _ => [], loop := fun n => match n with | 15 => [68] | _ => [] }
theorem S_mem_File_Readdir {t0 t1 : Value} {w : World} {K : Value → World → Prop} (h : F_mem_File_Readdir t0 t1 w K) : Cl P Fn.mem_File_Readdir #[t0, t1] w K :=
  cl_of_eq (T := Tb_mem_File_Readdir) (args := [t0, t1]) Tryd.func49 rfl follows_mixed (by kernel_rfl) (Nat.le_of_ble_eq_true (by kernel_rfl)) (by kernel_rfl) h
def F_impl_fromInfos (t0 : Value) (w : World) (K : Value → World → Prop) : Prop :=
 jn (fun s1 u1 w1 =>
 K (tup [(gs s1 0)]) w1) fun k1 =>
 pu P (oBuiltin .len #[T.sl_p_mem_FileInfo] T.int #[false] #[t0]) fun t7 =>
 lp [(.slice none 0 0), (.int .i64 0)] w fun s2 u2 w2 C1 =>
 pu P (oBin .lss T.int false false (gs s2 1) t7) fun t9 =>
 jn (fun s3 u3 w3 =>
 pu P (oIdxA T.sl_p_mem_FileInfo t0 (gs s2 1)) fun t10 =>
 st P (oLoad T.p_mem_FileInfo t10) w3 fun t11 w4 =>
 st P (oCall Fn.impl_fromInfo #[t11]) w4 fun t14 w5 =>
 st P (oBuildSlice T.sl_impl_Info 1 #[(0, t14)]) w5 fun t15 w6 =>
 st P (oBuiltin .append #[T.sl_impl_Info, T.sl_impl_Info] T.sl_impl_Info #[false, false] #[(gs s2 0), t15]) w6 fun t16 w7 =>
 pu P (oBin .add T.int false true (gs s2 1) (.int .i64 1)) fun t17 =>
 C1 [t16, t17] w7) fun k2 =>
 cd t9 (
 k2 [] w2) (
 k1 [(gs s2 0)] w2)
def Tb_impl_fromInfos : Tab := { join := fun n => match n with | 7 => [3] | _ => [], loop := fun n => match n with | 3 => [3, 8] | _ => [] }
theorem S_impl_fromInfos {t0 : Value} {w : World} {K : Value → World → Prop} (h : F_impl_fromInfos t0 w K) : Cl P Fn.impl_fromInfos #[t0] w K :=
  cl_of_eq (T := Tb_impl_fromInfos) (args := [t0]) Tryd.func50 rfl follows_mixed (by kernel_rfl) (Nat.le_of_ble_eq_true (by kernel_rfl)) (by kernel_rfl) h
end Go.Proofs.YteblpejgenehfaaDoor.X
end
section
namespace Go.Proofs.YteblpejgenehfaaDoor.X
open Go Go.X Go.Proofs
def F_mem_File_Stat (t0 : Value) (w : World) (K : Value → World → Prop) : Prop :=
 pu P (oNil t0) fun t5 =>
 pu P (oFldA T.mem_File t5 4) fun t6 =>
 st P (oLoad T.p_mem_FileData t6) w fun t7 w1 =>
 pu P (oBuild T.mem_FileInfo #[(0, t7)]) fun t8 =>
 st P (oBox T.mem_FileInfo t8) w1 fun t9 w2 =>
 K (tup [t9, .nilIface]) w2
def Tb_mem_File_Stat : Tab := { join := fun n => match n with | _ => [], loop := fun n => match n with | _ => [] }
theorem S_mem_File_Stat {t0 : Value} {w : World} {K : Value → World → Prop} (h : F_mem_File_Stat t0 w K) : Cl P Fn.mem_File_Stat #[t0] w K :=
  cl_of_eq (T := Tb_mem_File_Stat) (args := [t0]) Tryd.func52 rfl follows_mixed (by kernel_rfl) (Nat.le_of_ble_eq_true (by kernel_rfl)) (by kernel_rfl) h
def F_mem_File_Name (t0 : Value) (w : World) (K : Value → World → Prop) : Prop :=
 pu P (oNil t0) fun t4 =>
 pu P (oFldA T.mem_File t4 4) fun t5 =>
 st P (oLoad T.p_mem_FileData t5) w fun t6 w1 =>
 st P (oCall Fn.mem_FileData_Name #[t6]) w1 fun t7 w2 =>
 K (tup [t7]) w2
def Tb_mem_File_Name : Tab := { join := fun n => match n with | _ => [], loop := fun n => match n with | _ => [] }
theorem S_mem_File_Name {t0 : Value} {w : World} {K : Value → World → Prop} (h : F_mem_File_Name t0 w K) : Cl P Fn.mem_File_Name #[t0] w K :=
  cl_of_eq (T := Tb_mem_File_Name) (args := [t0]) Tryd.func53 rfl follows_mixed (by kernel_rfl) (Nat.le_of_ble_eq_true (by kernel_rfl)) (by kernel_rfl) h
def F_mem_File_Sync (t0 : Value) (w : World) (K : Value → World → Prop) : Prop :=
 K (tup [.nilIface]) w
def Tb_mem_File_Sync : Tab := { join := fun n => match n with | _ => [], loop := fun n => match n with | _ => [] }
theorem S_mem_File_Sync {t0 : Value} {w : World} {K : Value → World → Prop} (h : F_mem_File_Sync t0 w K) : Cl P Fn.mem_File_Sync #[t0] w K :=
  cl_of_eq (T := Tb_mem_File_Sync) (args := [t0]) Tryd.func54 rfl follows_mixed (by kernel_rfl) (Nat.le_of_ble_eq_true (by kernel_rfl)) (by kernel_rfl) h
def F_impl_kind (t0 : Value) (w : World) (K : Value → World → Prop) : Prop :=
 jn (fun s1 u1 w1 =>
 jn (fun s2 u2 w2 =>
 K (tup [(.int .i64 13)]) w2) fun k2 =>
 pu P (oBin .eql T.error false true (gs s1 0) .nilIface) fun t39 =>
 cd t39 (
 K (tup [(.int .i64 0)]) w1) (
 jn (fun s3 u3 w3 =>
 cd (gs s3 0) (
 K (tup [(.int .i64 1)]) w3) (
 st P (oLoad T.error (.pointer (some ⟨G.os_ErrExist, 0, none⟩))) w3 fun t46 w4 =>
 st P (oBin .eql T.error false false (gs s1 0) t46) w4 fun t47 w5 =>
 cd t47 (
 K (tup [(.int .i64 2)]) w5) (
 st P (oLoad T.error (.pointer (some ⟨G.mem_ErrFileClosed, 0, none⟩))) w5 fun t49 w6 =>
 st P (oBin .eql T.error false false (gs s1 0) t49) w6 fun t50 w7 =>
 cd t50 (
 K (tup [(.int .i64 3)]) w7) (
 st P (oLoad T.error (.pointer (some ⟨G.io_EOF, 0, none⟩))) w7 fun t52 w8 =>
 st P (oBin .eql T.error false false (gs s1 0) t52) w8 fun t53 w9 =>
 cd t53 (
 K (tup [(.int .i64 4)]) w9) (
 st P (oLoad T.error (.pointer (some ⟨G.io_ErrUnexpectedEOF, 0, none⟩))) w9 fun t55 w10 =>
 st P (oBin .eql T.error false false (gs s1 0) t55) w10 fun t56 w11 =>
 cd t56 (
 K (tup [(.int .i64 5)]) w11) (
 st P (oLoad T.error (.pointer (some ⟨G.mem_ErrOutOfRange, 0, none⟩))) w11 fun t58 w12 =>
 st P (oBin .eql T.error false false (gs s1 0) t58) w12 fun t59 w13 =>
 cd t59 (
 K (tup [(.int .i64 7)]) w13) (
 st P (oLoad T.error (.pointer (some ⟨G.os_ENOTDIR, 0, none⟩))) w13 fun t61 w14 =>
 st P (oBin .eql T.error false false (gs s1 0) t61) w14 fun t62 w15 =>
 cd t62 (
 K (tup [(.int .i64 8)]) w15) (
 st P (oLoad T.error (.pointer (some ⟨G.os_EPERM, 0, none⟩))) w15 fun t64 w16 =>
 st P (oBin .eql T.error false false (gs s1 0) t64) w16 fun t65 w17 =>
 cd t65 (
 K (tup [(.int .i64 9)]) w17) (
 st P (oLoad T.error (.pointer (some ⟨G.os_EBADFD, 0, none⟩))) w17 fun t67 w18 =>
 st P (oBin .eql T.error false false (gs s1 0) t67) w18 fun t68 w19 =>
 cd t68 (
 K (tup [(.int .i64 10)]) w19) (
 st P (oLoad T.error (.pointer (some ⟨G.os_EIO, 0, none⟩))) w19 fun t70 w20 =>
 st P (oBin .eql T.error false false (gs s1 0) t70) w20 fun t71 w21 =>
 cd t71 (
 K (tup [(.int .i64 11)]) w21) (
 k2 [] w21))))))))))) fun k3 =>
 st P (oLoad T.error (.pointer (some ⟨G.os_ErrNotExist, 0, none⟩))) w1 fun t41 w22 =>
 st P (oBin .eql T.error false false (gs s1 0) t41) w22 fun t42 w23 =>
 cd t42 (
 k3 [t42] w23) (
 st P (oLoad T.error (.pointer (some ⟨G.os_ENOENT, 0, none⟩))) w23 fun t43 w24 =>
 st P (oBin .eql T.error false false (gs s1 0) t43) w24 fun t44 w25 =>
 k3 [t44] w25))) fun k1 =>
 pu P (oAssert t0 T.error T.p_os_PathError true) fun t7 =>
 pu P (oExtract t7 0) fun t8 =>
 pu P (oExtract t7 1) fun t9 =>
 cd t9 (
 pu P (oNil t8) fun t12 =>
 pu P (oFldA T.os_PathError t12 2) fun t13 =>
 st P (oLoad T.error t13) w fun t14 w26 =>
 jn (fun s4 u4 w27 =>
 cd (gs s4 0) (
 pu P (oNil t8) fun t34 =>
 pu P (oFldA T.os_PathError t34 2) fun t35 =>
 st P (oLoad T.error t35) w27 fun t36 w28 =>
 k1 [t36] w28) (
 jn (fun s5 u5 w29 =>
 K (tup [(.int .i64 13)]) w29) fun k5 =>
 pu P (oNil t8) fun t16 =>
 pu P (oFldA T.os_PathError t16 0) fun t17 =>
 st P (oLoad T.string t17) w27 fun t18 w30 =>
 pu P (oBin .eql T.string false true t18 (S [114, 101, 97, 100, 100, 105, 114])) fun t20 =>
 cd t20 (
 K (tup [(.int .i64 8)]) w30) (
 jn (fun s6 u6 w31 =>
 cd (gs s6 0) (
 K (tup [(.int .i64 6)]) w31) (
 k5 [] w31)) fun k6 =>
 pu P (oBin .eql T.string false true t18 (S [116, 114, 117, 110, 99, 97, 116, 101])) fun t22 =>
 cd t22 (
 k6 [t22] w30) (
 pu P (oBin .eql T.string false true t18 (S [119, 114, 105, 116, 101])) fun t23 =>
 k6 [t23] w30)))) fun k4 =>
 st P (oLoad T.error (.pointer (some ⟨G.os_ErrNotExist, 0, none⟩))) w26 fun t25 w32 =>
 st P (oBin .eql T.error false false t14 t25) w32 fun t26 w33 =>
 cd t26 (
 k4 [t26] w33) (
 st P (oLoad T.error (.pointer (some ⟨G.os_ErrExist, 0, none⟩))) w33 fun t27 w34 =>
 st P (oBin .eql T.error false false t14 t27) w34 fun t28 w35 =>
 cd t28 (
 k4 [t28] w35) (
 st P (oLoad T.error (.pointer (some ⟨G.os_ENOTDIR, 0, none⟩))) w35 fun t29 w36 =>
 st P (oBin .eql T.error false false t14 t29) w36 fun t30 w37 =>
 cd t30 (
 k4 [t30] w37) (
 st P (oLoad T.error (.pointer (some ⟨G.os_ENOENT, 0, none⟩))) w37 fun t31 w38 =>
 st P (oBin .eql T.error false false t14 t31) w38 fun t32 w39 =>
 k4 [t32] w39)))) (
 k1 [t0] w)
def Tb_impl_kind : Tab := { join := fun n => match n with | 9 => [21] | 15 => [24] | 16 => [0] | 21 => [40] | _ => [], loop := fun n => match n with | _ => [] }
theorem S_impl_kind {t0 : Value} {w : World} {K : Value → World → Prop} (h : F_impl_kind t0 w K) : Cl P Fn.impl_kind #[t0] w K :=
  cl_of_eq (T := Tb_impl_kind) (args := [t0]) Tryd.func55 rfl follows_mixed (by kernel_rfl) (Nat.le_of_ble_eq_true (by kernel_rfl)) (by kernel_rfl) h
def F_afero_UnionFile_Read (t0 t1 : Value) (w : World) (K : Value → World → Prop) : Prop :=
 jn (fun s1 u1 w1 =>
 jn (fun s2 u2 w2 =>
 rd P (oLoad T.error (.pointer (some ⟨G.os_EBADFD, 0, none⟩))) w2.drew fun t65 =>
 K (tup [(.int .i64 0), t65]) w2.drew) fun k2 =>
 pu P (oNil t0) fun t53 =>
 pu P (oFldA T.afero_UnionFile t53 0) fun t54 =>
 st P (oLoad T.p_mem_File t54) w1 fun t55 w3 =>
 pu P (oBin .neq T.p_mem_File false true t55 (.pointer none)) fun t56 =>
 cd t56 (
 pu P (oNil t0) fun t58 =>
 pu P (oFldA T.afero_UnionFile t58 0) fun t59 =>
 st P (oLoad T.p_mem_File t59) w3 fun t60 w4 =>
 st P (oCall Fn.mem_File_Read #[t60, t1]) w4 fun t62 w5 =>
 pu P (oExtract t62 0) fun t63 =>
 pu P (oExtract t62 1) fun t64 =>
 K (tup [t63, t64]) w5) (
 k2 [] w3)) fun k1 =>
 pu P (oNil t0) fun t11 =>
 pu P (oFldA T.afero_UnionFile t11 1) fun t12 =>
 st P (oLoad T.p_mem_File t12) w fun t13 w6 =>
 pu P (oBin .neq T.p_mem_File false true t13 (.pointer none)) fun t14 =>
 cd t14 (
 pu P (oNil t0) fun t17 =>
 pu P (oFldA T.afero_UnionFile t17 1) fun t18 =>
 st P (oLoad T.p_mem_File t18) w6 fun t19 w7 =>
 st P (oCall Fn.mem_File_Read #[t19, t1]) w7 fun t21 w8 =>
 pu P (oExtract t21 0) fun t22 =>
 pu P (oExtract t21 1) fun t23 =>
 jn (fun s3 u3 w9 =>
 K (tup [t22, (gs s3 0)]) w9) fun k3 =>
 pu P (oBin .eql T.error false true t23 .nilIface) fun t25 =>
 gd t25 false w8 (fun K1 => K1 t23 w8) fun t27 w10 =>
 gd t25 false w10 (fun K2 => st P (oLoad T.error (.pointer (some ⟨G.io_EOF, 0, none⟩))) w10 K2) fun t28 w11 =>
 gd t25 false w11 (fun K3 => st P (oBin .eql T.error false false t27 t28) w11 K3) fun t29 w12 =>
 pu P (oPick t25 (.bool true) t29) fun t30 =>
 gd t30 true w12 (fun K4 => K4 t0 w12) fun t32 w13 =>
 gd t30 true w13 (fun K5 => pu P (oNil t32) fun v => K5 v w13) fun t33 w14 =>
 gd t30 true w14 (fun K6 => pu P (oFldA T.afero_UnionFile t33 0) fun v => K6 v w14) fun t34 w15 =>
 gd t30 true w15 (fun K7 => st P (oLoad T.p_mem_File t34) w15 K7) fun t35 w16 =>
 gd t30 true w16 (fun K8 => pu P (oBin .neq T.p_mem_File false true t35 (.pointer none)) fun v => K8 v w16) fun t36 w17 =>
 pu P (oPick t30 t36 (.bool false)) fun t37 =>
 cd t37 (
 pu P (oNil t0) fun t40 =>
 pu P (oFldA T.afero_UnionFile t40 0) fun t41 =>
 st P (oLoad T.p_mem_File t41) w17 fun t42 w18 =>
 st P (oCall Fn.mem_File_Seek #[t42, t22, (.int .i64 1)]) w18 fun t44 w19 =>
 pu P (oExtract t44 0) fun t45 =>
 pu P (oExtract t44 1) fun t46 =>
 pu P (oBin .neq T.error false true t46 .nilIface) fun t48 =>
 cd t48 (
 k3 [t46] w19) (
 k3 [t23] w19)) (
 k3 [t23] w17)) (
 k1 [] w6)
def Tb_afero_UnionFile_Read : Tab := { join := fun n => match n with | 7 => [7] | _ => [], loop := fun n => match n with | _ => [] }
theorem S_afero_UnionFile_Read {t0 t1 : Value} {w : World} {K : Value → World → Prop} (h : F_afero_UnionFile_Read t0 t1 w K) : Cl P Fn.afero_UnionFile_Read #[t0, t1] w K :=
  cl_of_eq (T := Tb_afero_UnionFile_Read) (args := [t0, t1]) Tryd.func58 rfl follows_mixed (by kernel_rfl) (Nat.le_of_ble_eq_true (by kernel_rfl)) (by kernel_rfl) h
def F_afero_UnionFile_Write (t0 t1 : Value) (w : World) (K : Value → World → Prop) : Prop :=
 jn (fun s1 u1 w1 =>
 jn (fun s2 u2 w2 =>
 rd P (oLoad T.error (.pointer (some ⟨G.os_EBADFD, 0, none⟩))) w2.drew fun t53 =>
 K (tup [(.int .i64 0), t53]) w2.drew) fun k2 =>
 pu P (oNil t0) fun t41 =>
 pu P (oFldA T.afero_UnionFile t41 0) fun t42 =>
 st P (oLoad T.p_mem_File t42) w1 fun t43 w3 =>
 pu P (oBin .neq T.p_mem_File false true t43 (.pointer none)) fun t44 =>
 cd t44 (
 pu P (oNil t0) fun t46 =>
 pu P (oFldA T.afero_UnionFile t46 0) fun t47 =>
 st P (oLoad T.p_mem_File t47) w3 fun t48 w4 =>
 st P (oCall Fn.mem_File_Write #[t48, t1]) w4 fun t50 w5 =>
 pu P (oExtract t50 0) fun t51 =>
 pu P (oExtract t50 1) fun t52 =>
 K (tup [t51, t52]) w5) (
 k2 [] w3)) fun k1 =>
 pu P (oNil t0) fun t7 =>
 pu P (oFldA T.afero_UnionFile t7 1) fun t8 =>
 st P (oLoad T.p_mem_File t8) w fun t9 w6 =>
 pu P (oBin .neq T.p_mem_File false true t9 (.pointer none)) fun t10 =>
 cd t10 (
 pu P (oNil t0) fun t13 =>
 pu P (oFldA T.afero_UnionFile t13 1) fun t14 =>
 st P (oLoad T.p_mem_File t14) w6 fun t15 w7 =>
 st P (oCall Fn.mem_File_Write #[t15, t1]) w7 fun t17 w8 =>
 pu P (oExtract t17 0) fun t18 =>
 pu P (oExtract t17 1) fun t19 =>
 jn (fun s3 u3 w9 =>
 K (tup [t18, (gs s3 0)]) w9) fun k3 =>
 pu P (oBin .eql T.error false true t19 .nilIface) fun t21 =>
 gd t21 true w8 (fun K1 => K1 t0 w8) fun t23 w10 =>
 gd t21 true w10 (fun K2 => pu P (oNil t23) fun v => K2 v w10) fun t24 w11 =>
 gd t21 true w11 (fun K3 => pu P (oFldA T.afero_UnionFile t24 0) fun v => K3 v w11) fun t25 w12 =>
 gd t21 true w12 (fun K4 => st P (oLoad T.p_mem_File t25) w12 K4) fun t26 w13 =>
 gd t21 true w13 (fun K5 => pu P (oBin .neq T.p_mem_File false true t26 (.pointer none)) fun v => K5 v w13) fun t27 w14 =>
 pu P (oPick t21 t27 (.bool false)) fun t28 =>
 cd t28 (
 pu P (oNil t0) fun t31 =>
 pu P (oFldA T.afero_UnionFile t31 0) fun t32 =>
 st P (oLoad T.p_mem_File t32) w14 fun t33 w15 =>
 st P (oCall Fn.mem_File_Write #[t33, t1]) w15 fun t35 w16 =>
 pu P (oExtract t35 0) fun t36 =>
 pu P (oExtract t35 1) fun t37 =>
 k3 [t37] w16) (
 k3 [t19] w14)) (
 k1 [] w6)
def Tb_afero_UnionFile_Write : Tab := { join := fun n => match n with | 5 => [5] | _ => [], loop := fun n => match n with | _ => [] }
theorem S_afero_UnionFile_Write {t0 t1 : Value} {w : World} {K : Value → World → Prop} (h : F_afero_UnionFile_Write t0 t1 w K) : Cl P Fn.afero_UnionFile_Write #[t0, t1] w K :=
  cl_of_eq (T := Tb_afero_UnionFile_Write) (args := [t0, t1]) Tryd.func60 rfl follows_mixed (by kernel_rfl) (Nat.le_of_ble_eq_true (by kernel_rfl)) (by kernel_rfl) h
def F_afero_UnionFile_WriteAt (t0 t1 t2 : Value) (w : World) (K : Value → World → Prop) : Prop :=
 jn (fun s1 u1 w1 =>
 jn (fun s2 u2 w2 =>
 rd P (oLoad T.error (.pointer (some ⟨G.os_EBADFD, 0, none⟩))) w2.drew fun t58 =>
 K (tup [(.int .i64 0), t58]) w2.drew) fun k2 =>
 pu P (oNil t0) fun t45 =>
 pu P (oFldA T.afero_UnionFile t45 0) fun t46 =>
 st P (oLoad T.p_mem_File t46) w1 fun t47 w3 =>
 pu P (oBin .neq T.p_mem_File false true t47 (.pointer none)) fun t48 =>
 cd t48 (
 pu P (oNil t0) fun t50 =>
 pu P (oFldA T.afero_UnionFile t50 0) fun t51 =>
 st P (oLoad T.p_mem_File t51) w3 fun t52 w4 =>
 st P (oCall Fn.mem_File_WriteAt #[t52, t1, t2]) w4 fun t55 w5 =>
 pu P (oExtract t55 0) fun t56 =>
 pu P (oExtract t55 1) fun t57 =>
 K (tup [t56, t57]) w5) (
 k2 [] w3)) fun k1 =>
 pu P (oNil t0) fun t9 =>
 pu P (oFldA T.afero_UnionFile t9 1) fun t10 =>
 st P (oLoad T.p_mem_File t10) w fun t11 w6 =>
 pu P (oBin .neq T.p_mem_File false true t11 (.pointer none)) fun t12 =>
 cd t12 (
 pu P (oNil t0) fun t15 =>
 pu P (oFldA T.afero_UnionFile t15 1) fun t16 =>
 st P (oLoad T.p_mem_File t16) w6 fun t17 w7 =>
 st P (oCall Fn.mem_File_WriteAt #[t17, t1, t2]) w7 fun t20 w8 =>
 pu P (oExtract t20 0) fun t21 =>
 pu P (oExtract t20 1) fun t22 =>
 jn (fun s3 u3 w9 =>
 K (tup [t21, (gs s3 0)]) w9) fun k3 =>
 pu P (oBin .eql T.error false true t22 .nilIface) fun t24 =>
 gd t24 true w8 (fun K1 => K1 t0 w8) fun t26 w10 =>
 gd t24 true w10 (fun K2 => pu P (oNil t26) fun v => K2 v w10) fun t27 w11 =>
 gd t24 true w11 (fun K3 => pu P (oFldA T.afero_UnionFile t27 0) fun v => K3 v w11) fun t28 w12 =>
 gd t24 true w12 (fun K4 => st P (oLoad T.p_mem_File t28) w12 K4) fun t29 w13 =>
 gd t24 true w13 (fun K5 => pu P (oBin .neq T.p_mem_File false true t29 (.pointer none)) fun v => K5 v w13) fun t30 w14 =>
 pu P (oPick t24 t30 (.bool false)) fun t31 =>
 cd t31 (
 pu P (oNil t0) fun t34 =>
 pu P (oFldA T.afero_UnionFile t34 0) fun t35 =>
 st P (oLoad T.p_mem_File t35) w14 fun t36 w15 =>
 st P (oCall Fn.mem_File_WriteAt #[t36, t1, t2]) w15 fun t39 w16 =>
 pu P (oExtract t39 0) fun t40 =>
 pu P (oExtract t39 1) fun t41 =>
 k3 [t41] w16) (
 k3 [t22] w14)) (
 k1 [] w6)
def Tb_afero_UnionFile_WriteAt : Tab := { join := fun n => match n with | 5 => [7] | _ => [], loop := fun n => match n with | _ => [] }
theorem S_afero_UnionFile_WriteAt {t0 t1 t2 : Value} {w : World} {K : Value → World → Prop} (h : F_afero_UnionFile_WriteAt t0 t1 t2 w K) : Cl P Fn.afero_UnionFile_WriteAt #[t0, t1, t2] w K :=
  cl_of_eq (T := Tb_afero_UnionFile_WriteAt) (args := [t0, t1, t2]) Tryd.func61 rfl follows_mixed (by kernel_rfl) (Nat.le_of_ble_eq_true (by kernel_rfl)) (by kernel_rfl) h
def F_afero_UnionFile_Seek (t0 t1 t2 : Value) (w : World) (K : Value → World → Prop) : Prop :=
 jn (fun s1 u1 w1 =>
 jn (fun s2 u2 w2 =>
 rd P (oLoad T.error (.pointer (some ⟨G.os_EBADFD, 0, none⟩))) w2.drew fun t63 =>
 K (tup [(.int .i64 0), t63]) w2.drew) fun k2 =>
 pu P (oNil t0) fun t50 =>
 pu P (oFldA T.afero_UnionFile t50 0) fun t51 =>
 st P (oLoad T.p_mem_File t51) w1 fun t52 w3 =>
 pu P (oBin .neq T.p_mem_File false true t52 (.pointer none)) fun t53 =>
 cd t53 (
 pu P (oNil t0) fun t55 =>
 pu P (oFldA T.afero_UnionFile t55 0) fun t56 =>
 st P (oLoad T.p_mem_File t56) w3 fun t57 w4 =>
 st P (oCall Fn.mem_File_Seek #[t57, t1, t2]) w4 fun t60 w5 =>
 pu P (oExtract t60 0) fun t61 =>
 pu P (oExtract t60 1) fun t62 =>
 K (tup [t61, t62]) w5) (
 k2 [] w3)) fun k1 =>
 pu P (oNil t0) fun t9 =>
 pu P (oFldA T.afero_UnionFile t9 1) fun t10 =>
 st P (oLoad T.p_mem_File t10) w fun t11 w6 =>
 pu P (oBin .neq T.p_mem_File false true t11 (.pointer none)) fun t12 =>
 cd t12 (
 pu P (oNil t0) fun t15 =>
 pu P (oFldA T.afero_UnionFile t15 1) fun t16 =>
 st P (oLoad T.p_mem_File t16) w6 fun t17 w7 =>
 st P (oCall Fn.mem_File_Seek #[t17, t1, t2]) w7 fun t20 w8 =>
 pu P (oExtract t20 0) fun t21 =>
 pu P (oExtract t20 1) fun t22 =>
 jn (fun s3 u3 w9 =>
 K (tup [t21, (gs s3 0)]) w9) fun k3 =>
 pu P (oBin .eql T.error false true t22 .nilIface) fun t24 =>
 gd t24 false w8 (fun K1 => K1 t22 w8) fun t26 w10 =>
 gd t24 false w10 (fun K2 => st P (oLoad T.error (.pointer (some ⟨G.io_EOF, 0, none⟩))) w10 K2) fun t27 w11 =>
 gd t24 false w11 (fun K3 => st P (oBin .eql T.error false false t26 t27) w11 K3) fun t28 w12 =>
 pu P (oPick t24 (.bool true) t28) fun t29 =>
 gd t29 true w12 (fun K4 => K4 t0 w12) fun t31 w13 =>
 gd t29 true w13 (fun K5 => pu P (oNil t31) fun v => K5 v w13) fun t32 w14 =>
 gd t29 true w14 (fun K6 => pu P (oFldA T.afero_UnionFile t32 0) fun v => K6 v w14) fun t33 w15 =>
 gd t29 true w15 (fun K7 => st P (oLoad T.p_mem_File t33) w15 K7) fun t34 w16 =>
 gd t29 true w16 (fun K8 => pu P (oBin .neq T.p_mem_File false true t34 (.pointer none)) fun v => K8 v w16) fun t35 w17 =>
 pu P (oPick t29 t35 (.bool false)) fun t36 =>
 cd t36 (
 pu P (oNil t0) fun t39 =>
 pu P (oFldA T.afero_UnionFile t39 0) fun t40 =>
 st P (oLoad T.p_mem_File t40) w17 fun t41 w18 =>
 st P (oCall Fn.mem_File_Seek #[t41, t1, t2]) w18 fun t44 w19 =>
 pu P (oExtract t44 0) fun t45 =>
 pu P (oExtract t44 1) fun t46 =>
 k3 [t46] w19) (
 k3 [t22] w17)) (
 k1 [] w6)
def Tb_afero_UnionFile_Seek : Tab := { join := fun n => match n with | 5 => [7] | _ => [], loop := fun n => match n with | _ => [] }
theorem S_afero_UnionFile_Seek {t0 t1 t2 : Value} {w : World} {K : Value → World → Prop} (h : F_afero_UnionFile_Seek t0 t1 t2 w K) : Cl P Fn.afero_UnionFile_Seek #[t0, t1, t2] w K :=
  cl_of_eq (T := Tb_afero_UnionFile_Seek) (args := [t0, t1, t2]) Tryd.func62 rfl follows_mixed (by kernel_rfl) (Nat.le_of_ble_eq_true (by kernel_rfl)) (by kernel_rfl) h
def F_afero_UnionFile_Truncate (t0 t1 : Value) (w : World) (K : Value → World → Prop) : Prop :=
 jn (fun s1 u1 w1 =>
 jn (fun s2 u2 w2 =>
 st P (oLoad T.error (.pointer (some ⟨G.os_EBADFD, 0, none⟩))) w2 fun t43 w3 =>
 K (tup [t43]) w3) fun k2 =>
 pu P (oNil t0) fun t33 =>
 pu P (oFldA T.afero_UnionFile t33 0) fun t34 =>
 st P (oLoad T.p_mem_File t34) w1 fun t35 w4 =>
 pu P (oBin .neq T.p_mem_File false true t35 (.pointer none)) fun t36 =>
 cd t36 (
 pu P (oNil t0) fun t38 =>
 pu P (oFldA T.afero_UnionFile t38 0) fun t39 =>
 st P (oLoad T.p_mem_File t39) w4 fun t40 w5 =>
 st P (oCall Fn.mem_File_Truncate #[t40, t1]) w5 fun t42 w6 =>
 K (tup [t42]) w6) (
 k2 [] w4)) fun k1 =>
 pu P (oNil t0) fun t6 =>
 pu P (oFldA T.afero_UnionFile t6 1) fun t7 =>
 st P (oLoad T.p_mem_File t7) w fun t8 w7 =>
 pu P (oBin .neq T.p_mem_File false true t8 (.pointer none)) fun t9 =>
 cd t9 (
 pu P (oNil t0) fun t11 =>
 pu P (oFldA T.afero_UnionFile t11 1) fun t12 =>
 st P (oLoad T.p_mem_File t12) w7 fun t13 w8 =>
 st P (oCall Fn.mem_File_Truncate #[t13, t1]) w8 fun t15 w9 =>
 jn (fun s3 u3 w10 =>
 K (tup [(gs s3 0)]) w10) fun k3 =>
 pu P (oBin .eql T.error false true t15 .nilIface) fun t17 =>
 gd t17 true w9 (fun K1 => K1 t0 w9) fun t19 w11 =>
 gd t17 true w11 (fun K2 => pu P (oNil t19) fun v => K2 v w11) fun t20 w12 =>
 gd t17 true w12 (fun K3 => pu P (oFldA T.afero_UnionFile t20 0) fun v => K3 v w12) fun t21 w13 =>
 gd t17 true w13 (fun K4 => st P (oLoad T.p_mem_File t21) w13 K4) fun t22 w14 =>
 gd t17 true w14 (fun K5 => pu P (oBin .neq T.p_mem_File false true t22 (.pointer none)) fun v => K5 v w14) fun t23 w15 =>
 pu P (oPick t17 t23 (.bool false)) fun t24 =>
 cd t24 (
 pu P (oNil t0) fun t26 =>
 pu P (oFldA T.afero_UnionFile t26 0) fun t27 =>
 st P (oLoad T.p_mem_File t27) w15 fun t28 w16 =>
 st P (oCall Fn.mem_File_Truncate #[t28, t1]) w16 fun t30 w17 =>
 k3 [t30] w17) (
 k3 [t15] w15)) (
 k1 [] w7)
def Tb_afero_UnionFile_Truncate : Tab := { join := fun n => match n with | 5 => [4] | _ => [], loop := fun n => match n with | _ => [] }
theorem S_afero_UnionFile_Truncate {t0 t1 : Value} {w : World} {K : Value → World → Prop} (h : F_afero_UnionFile_Truncate t0 t1 w K) : Cl P Fn.afero_UnionFile_Truncate #[t0, t1] w K :=
  cl_of_eq (T := Tb_afero_UnionFile_Truncate) (args := [t0, t1]) Tryd.func63 rfl follows_mixed (by kernel_rfl) (Nat.le_of_ble_eq_true (by kernel_rfl)) (by kernel_rfl) h
def F_afero_UnionFile_Close (t0 : Value) (w : World) (K : Value → World → Prop) : Prop :=
 jn (fun s1 u1 w1 =>
 jn (fun s2 u2 w2 =>
 st P (oLoad T.error (.pointer (some ⟨G.os_EBADFD, 0, none⟩))) w2 fun t23 w3 =>
 K (tup [t23]) w3) fun k2 =>
 pu P (oNil t0) fun t14 =>
 pu P (oFldA T.afero_UnionFile t14 1) fun t15 =>
 st P (oLoad T.p_mem_File t15) w1 fun t16 w4 =>
 pu P (oBin .neq T.p_mem_File false true t16 (.pointer none)) fun t17 =>
 cd t17 (
 pu P (oNil t0) fun t19 =>
 pu P (oFldA T.afero_UnionFile t19 1) fun t20 =>
 st P (oLoad T.p_mem_File t20) w4 fun t21 w5 =>
 st P (oCall Fn.mem_File_Close #[t21]) w5 fun t22 w6 =>
 K (tup [t22]) w6) (
 k2 [] w4)) fun k1 =>
 pu P (oNil t0) fun t4 =>
 pu P (oFldA T.afero_UnionFile t4 0) fun t5 =>
 st P (oLoad T.p_mem_File t5) w fun t6 w7 =>
 pu P (oBin .neq T.p_mem_File false true t6 (.pointer none)) fun t7 =>
 cd t7 (
 pu P (oNil t0) fun t9 =>
 pu P (oFldA T.afero_UnionFile t9 0) fun t10 =>
 st P (oLoad T.p_mem_File t10) w7 fun t11 w8 =>
 st P (oCall Fn.mem_File_Close #[t11]) w8 fun t12 w9 =>
 k1 [] w9) (
 k1 [] w7)
def Tb_afero_UnionFile_Close : Tab := { join := fun n => match n with | _ => [], loop := fun n => match n with | _ => [] }
theorem S_afero_UnionFile_Close {t0 : Value} {w : World} {K : Value → World → Prop} (h : F_afero_UnionFile_Close t0 w K) : Cl P Fn.afero_UnionFile_Close #[t0] w K :=
  cl_of_eq (T := Tb_afero_UnionFile_Close) (args := [t0]) Tryd.func64 rfl follows_mixed (by kernel_rfl) (Nat.le_of_ble_eq_true (by kernel_rfl)) (by kernel_rfl) h
def F_afero_UnionFile_Readdir (t0 t1 : Value) (w : World) (K : Value → World → Prop) : Prop :=
 jn (fun s1 u1 w1 =>
 pu P (oNil t0) fun t67 =>
 pu P (oFldA T.afero_UnionFile t67 3) fun t68 =>
 rd P (oLoad T.sl_p_mem_FileInfo t68) w1.drew fun t69 =>
 pu P (oNil t0) fun t71 =>
 pu P (oFldA T.afero_UnionFile t71 2) fun t72 =>
 rd P (oLoad T.int t72) w1.drew fun t73 =>
 pu P (oSlice T.sl_p_mem_FileInfo t69 (some t73) none none) fun t74 =>
 jn (fun s2 u2 w2 =>
 jn (fun s3 u3 w3 =>
 jn (fun s4 u4 w4 =>
 pu P (oNil t0) fun t89 =>
 pu P (oFldA T.afero_UnionFile t89 2) fun t90 =>
 st P (oLoad T.int t90) w4 fun t91 w5 =>
 pu P (oBin .add T.int false false t91 (gs s4 0)) fun t93 =>
 pu P (oNil t0) fun t94 =>
 pu P (oFldA T.afero_UnionFile t94 2) fun t95 =>
 st P (oStore T.int t95 t93) w5 fun _ w6 =>
 pu P (oSlice T.sl_p_mem_FileInfo t74 none (some (gs s4 0)) none) fun t98 =>
 K (tup [t98, .nilIface]) w6) fun k4 =>
 pu P (oBuiltin .len #[T.sl_p_mem_FileInfo] T.int #[false] #[t74]) fun t84 =>
 pu P (oBin .gtr T.int false false t1 t84) fun t85 =>
 cd t85 (
 pu P (oBuiltin .len #[T.sl_p_mem_FileInfo] T.int #[false] #[t74]) fun t87 =>
 k4 [t87] w3) (
 k4 [t1] w3)) fun k3 =>
 pu P (oBuiltin .len #[T.sl_p_mem_FileInfo] T.int #[false] #[t74]) fun t79 =>
 pu P (oBin .eql T.int false true t79 (.int .i64 0)) fun t80 =>
 cd t80 (
 rd P (oLoad T.error (.pointer (some ⟨G.io_EOF, 0, none⟩))) w2.drew fun t81 =>
 K (tup [(.slice none 0 0), t81]) w2.drew) (
 k3 [] w2)) fun k2 =>
 pu P (oBin .leq T.int false true t1 (.int .i64 0)) fun t76 =>
 cd t76 (
 K (tup [t74, .nilIface]) w1.drew) (
 k2 [] w1.drew)) fun k1 =>
 pu P (oNil t0) fun t12 =>
 pu P (oFldA T.afero_UnionFile t12 2) fun t13 =>
 st P (oLoad T.int t13) w fun t14 w7 =>
 pu P (oBin .eql T.int false true t14 (.int .i64 0)) fun t15 =>
 cd t15 (
 jn (fun s5 u5 w8 =>
 jn (fun s6 u6 w9 =>
 st P (oCall Fn.afero_defaultUnionMergeDirsFn #[(gs s5 0), (gs s6 0)]) w9 fun t51 w10 =>
 pu P (oExtract t51 0) fun t52 =>
 pu P (oExtract t51 1) fun t53 =>
 jn (fun s7 u7 w11 =>
 pu P (oNil t0) fun t59 =>
 pu P (oFldA T.afero_UnionFile t59 3) fun t60 =>
 st P (oLoad T.sl_p_mem_FileInfo t60) w11 fun t61 w12 =>
 st P (oBuiltin .append #[T.sl_p_mem_FileInfo, T.sl_p_mem_FileInfo] T.sl_p_mem_FileInfo #[false, false] #[t61, t52]) w12 fun t63 w13 =>
 pu P (oNil t0) fun t64 =>
 pu P (oFldA T.afero_UnionFile t64 3) fun t65 =>
 st P (oStore T.sl_p_mem_FileInfo t65 t63) w13 fun _ w14 =>
 k1 [] w14) fun k7 =>
 pu P (oBin .neq T.error false true t53 .nilIface) fun t55 =>
 cd t55 (
 K (tup [(.slice none 0 0), t53]) w10) (
 k7 [] w10)) fun k6 =>
 pu P (oNil t0) fun t33 =>
 pu P (oFldA T.afero_UnionFile t33 0) fun t34 =>
 st P (oLoad T.p_mem_File t34) w8 fun t35 w15 =>
 pu P (oBin .neq T.p_mem_File false true t35 (.pointer none)) fun t36 =>
 cd t36 (
 pu P (oNil t0) fun t39 =>
 pu P (oFldA T.afero_UnionFile t39 0) fun t40 =>
 st P (oLoad T.p_mem_File t40) w15 fun t41 w16 =>
 st P (oCall Fn.mem_File_Readdir #[t41, (.int .i64 (-1))]) w16 fun t42 w17 =>
 pu P (oExtract t42 0) fun t43 =>
 pu P (oExtract t42 1) fun t44 =>
 pu P (oBin .neq T.error false true t44 .nilIface) fun t46 =>
 cd t46 (
 K (tup [(.slice none 0 0), t44]) w17) (
 k6 [t43] w17)) (
 k6 [(.slice none 0 0)] w15)) fun k5 =>
 pu P (oNil t0) fun t17 =>
 pu P (oFldA T.afero_UnionFile t17 1) fun t18 =>
 st P (oLoad T.p_mem_File t18) w7 fun t19 w18 =>
 pu P (oBin .neq T.p_mem_File false true t19 (.pointer none)) fun t20 =>
 cd t20 (
 pu P (oNil t0) fun t23 =>
 pu P (oFldA T.afero_UnionFile t23 1) fun t24 =>
 st P (oLoad T.p_mem_File t24) w18 fun t25 w19 =>
 st P (oCall Fn.mem_File_Readdir #[t25, (.int .i64 (-1))]) w19 fun t26 w20 =>
 pu P (oExtract t26 0) fun t27 =>
 pu P (oExtract t26 1) fun t28 =>
 pu P (oBin .neq T.error false true t28 .nilIface) fun t30 =>
 cd t30 (
 K (tup [(.slice none 0 0), t28]) w20) (
 k5 [t27] w20)) (
 k5 [(.slice none 0 0)] w18)) (
 k1 [] w7)
def Tb_afero_UnionFile_Readdir : Tab := { join := fun n => match n with | 7 => [6] | 12 => [7] | 23 => [1] | _ => [], loop := fun n => match n with | _ => [] }
theorem S_afero_UnionFile_Readdir {t0 t1 : Value} {w : World} {K : Value → World → Prop} (h : F_afero_UnionFile_Readdir t0 t1 w K) : Cl P Fn.afero_UnionFile_Readdir #[t0, t1] w K :=
  cl_of_eq (T := Tb_afero_UnionFile_Readdir) (args := [t0, t1]) Tryd.func65 rfl follows_mixed (by kernel_rfl) (Nat.le_of_ble_eq_true (by kernel_rfl)) (by kernel_rfl) h
def F_afero_UnionFile_Readdirnames (t0 t1 : Value) (w : World) (K : Value → World → Prop) : Prop :=
 st P (oCall Fn.afero_UnionFile_Readdir #[t0, t1]) w fun t14 w1 =>
 pu P (oExtract t14 0) fun t15 =>
 pu P (oExtract t14 1) fun t16 =>
 jn (fun s1 u1 w2 =>
 jn (fun s2 u2 w3 =>
 K (tup [(gs s2 0), .nilIface]) w3) fun k2 =>
 pu P (oBuiltin .len #[T.sl_p_mem_FileInfo] T.int #[false] #[t15]) fun t21 =>
 lp [(.slice none 0 0), (.int .i64 0)] w2 fun s3 u3 w4 C1 =>
 pu P (oBin .lss T.int false false (gs s3 1) t21) fun t23 =>
 jn (fun s4 u4 w5 =>
 pu P (oIdxA T.sl_p_mem_FileInfo t15 (gs s3 1)) fun t24 =>
 st P (oLoad T.p_mem_FileInfo t24) w5 fun t25 w6 =>
 st P (oCall Fn.mem_FileInfo_Name #[t25]) w6 fun t28 w7 =>
 st P (oBuildSlice T.sl_string 1 #[(0, t28)]) w7 fun t29 w8 =>
 st P (oBuiltin .append #[T.sl_string, T.sl_string] T.sl_string #[false, false] #[(gs s3 0), t29]) w8 fun t30 w9 =>
 pu P (oBin .add T.int false true (gs s3 1) (.int .i64 1)) fun t31 =>
 C1 [t30, t31] w9) fun k3 =>
 cd t23 (
 k3 [] w4) (
 k2 [(gs s3 0)] w4)) fun k1 =>
 pu P (oBin .neq T.error false true t16 .nilIface) fun t18 =>
 cd t18 (
 K (tup [(.slice none 0 0), t16]) w1) (
 k1 [] w1)
def Tb_afero_UnionFile_Readdirnames : Tab := { join := fun n => match n with | 10 => [8] | _ => [], loop := fun n => match n with | 6 => [8, 22] | _ => [] }
theorem S_afero_UnionFile_Readdirnames {t0 t1 : Value} {w : World} {K : Value → World → Prop} (h : F_afero_UnionFile_Readdirnames t0 t1 w K) : Cl P Fn.afero_UnionFile_Readdirnames #[t0, t1] w K :=
  cl_of_eq (T := Tb_afero_UnionFile_Readdirnames) (args := [t0, t1]) Tryd.func66 rfl follows_mixed (by kernel_rfl) (Nat.le_of_ble_eq_true (by kernel_rfl)) (by kernel_rfl) h
def F_afero_UnionFile_Stat (t0 : Value) (w : World) (K : Value → World → Prop) : Prop :=
 jn (fun s1 u1 w1 =>
 jn (fun s2 u2 w2 =>
 rd P (oLoad T.error (.pointer (some ⟨G.os_EBADFD, 0, none⟩))) w2.drew fun t28 =>
 K (tup [(.pointer none), t28]) w2.drew) fun k2 =>
 pu P (oNil t0) fun t17 =>
 pu P (oFldA T.afero_UnionFile t17 0) fun t18 =>
 st P (oLoad T.p_mem_File t18) w1 fun t19 w3 =>
 pu P (oBin .neq T.p_mem_File false true t19 (.pointer none)) fun t20 =>
 cd t20 (
 pu P (oNil t0) fun t22 =>
 pu P (oFldA T.afero_UnionFile t22 0) fun t23 =>
 st P (oLoad T.p_mem_File t23) w3 fun t24 w4 =>
 st P (oCall Fn.mem_File_Stat #[t24]) w4 fun t25 w5 =>
 pu P (oExtract t25 0) fun t26 =>
 pu P (oExtract t25 1) fun t27 =>
 K (tup [t26, t27]) w5) (
 k2 [] w3)) fun k1 =>
 pu P (oNil t0) fun t5 =>
 pu P (oFldA T.afero_UnionFile t5 1) fun t6 =>
 st P (oLoad T.p_mem_File t6) w fun t7 w6 =>
 pu P (oBin .neq T.p_mem_File false true t7 (.pointer none)) fun t8 =>
 cd t8 (
 pu P (oNil t0) fun t10 =>
 pu P (oFldA T.afero_UnionFile t10 1) fun t11 =>
 st P (oLoad T.p_mem_File t11) w6 fun t12 w7 =>
 st P (oCall Fn.mem_File_Stat #[t12]) w7 fun t13 w8 =>
 pu P (oExtract t13 0) fun t14 =>
 pu P (oExtract t13 1) fun t15 =>
 K (tup [t14, t15]) w8) (
 k1 [] w6)
def Tb_afero_UnionFile_Stat : Tab := { join := fun n => match n with | _ => [], loop := fun n => match n with | _ => [] }
theorem S_afero_UnionFile_Stat {t0 : Value} {w : World} {K : Value → World → Prop} (h : F_afero_UnionFile_Stat t0 w K) : Cl P Fn.afero_UnionFile_Stat #[t0] w K :=
  cl_of_eq (T := Tb_afero_UnionFile_Stat) (args := [t0]) Tryd.func67 rfl follows_mixed (by kernel_rfl) (Nat.le_of_ble_eq_true (by kernel_rfl)) (by kernel_rfl) h
def F_impl_fromInfo (t0 : Value) (w : World) (K : Value → World → Prop) : Prop :=
 st P (oAlloc T.impl_Info) w fun t2 w1 =>
 st P (oCall Fn.mem_FileInfo_Name #[t0]) w1 fun t4 w2 =>
 st P (oCall Fn.mem_FileInfo_Size #[t0]) w2 fun t6 w3 =>
 st P (oCall Fn.mem_FileInfo_Mode #[t0]) w3 fun t8 w4 =>
 pu P (oConv T.os_FileMode T.int t8) fun t9 =>
 st P (oCall Fn.mem_FileInfo_IsDir #[t0]) w4 fun t11 w5 =>
 st P (oCall Fn.mem_FileInfo_ModTime #[t0]) w5 fun t13 w6 =>
 pu P (oBuild T.impl_Info #[(0, t4), (1, t6), (2, t9), (3, t11), (4, t13)]) fun t14 =>
 st P (oStore T.impl_Info t2 t14) w6 fun _ w7 =>
 rsl P T.impl_Info t2 w7 fun r1 =>
 K (tup [r1]) w7
def Tb_impl_fromInfo : Tab := { join := fun n => match n with | _ => [], loop := fun n => match n with | _ => [] }
theorem S_impl_fromInfo {t0 : Value} {w : World} {K : Value → World → Prop} (h : F_impl_fromInfo t0 w K) : Cl P Fn.impl_fromInfo #[t0] w K :=
  cl_of_eq (T := Tb_impl_fromInfo) (args := [t0]) Tryd.func68 rfl follows_mixed (by kernel_rfl) (Nat.le_of_ble_eq_true (by kernel_rfl)) (by kernel_rfl) h
def F_afero_UnionFile_Name (t0 : Value) (w : World) (K : Value → World → Prop) : Prop :=
 jn (fun s1 u1 w1 =>
 pu P (oNil t0) fun t14 =>
 pu P (oFldA T.afero_UnionFile t14 0) fun t15 =>
 st P (oLoad T.p_mem_File t15) w1 fun t16 w2 =>
 st P (oCall Fn.mem_File_Name #[t16]) w2 fun t17 w3 =>
 K (tup [t17]) w3) fun k1 =>
 pu P (oNil t0) fun t4 =>
 pu P (oFldA T.afero_UnionFile t4 1) fun t5 =>
 st P (oLoad T.p_mem_File t5) w fun t6 w4 =>
 pu P (oBin .neq T.p_mem_File false true t6 (.pointer none)) fun t7 =>
 cd t7 (
 pu P (oNil t0) fun t9 =>
 pu P (oFldA T.afero_UnionFile t9 1) fun t10 =>
 st P (oLoad T.p_mem_File t10) w4 fun t11 w5 =>
 st P (oCall Fn.mem_File_Name #[t11]) w5 fun t12 w6 =>
 K (tup [t12]) w6) (
 k1 [] w4)
def Tb_afero_UnionFile_Name : Tab := { join := fun n => match n with | _ => [], loop := fun n => match n with | _ => [] }
theorem S_afero_UnionFile_Name {t0 : Value} {w : World} {K : Value → World → Prop} (h : F_afero_UnionFile_Name t0 w K) : Cl P Fn.afero_UnionFile_Name #[t0] w K :=
  cl_of_eq (T := Tb_afero_UnionFile_Name) (args := [t0]) Tryd.func69 rfl follows_mixed (by kernel_rfl) (Nat.le_of_ble_eq_true (by kernel_rfl)) (by kernel_rfl) h
def F_afero_UnionFile_Sync (t0 : Value) (w : World) (K : Value → World → Prop) : Prop :=
 jn (fun s1 u1 w1 =>
 jn (fun s2 u2 w2 =>
 st P (oLoad T.error (.pointer (some ⟨G.os_EBADFD, 0, none⟩))) w2 fun t38 w3 =>
 K (tup [t38]) w3) fun k2 =>
 pu P (oNil t0) fun t29 =>
 pu P (oFldA T.afero_UnionFile t29 0) fun t30 =>
 st P (oLoad T.p_mem_File t30) w1 fun t31 w4 =>
 pu P (oBin .neq T.p_mem_File false true t31 (.pointer none)) fun t32 =>
 cd t32 (
 pu P (oNil t0) fun t34 =>
 pu P (oFldA T.afero_UnionFile t34 0) fun t35 =>
 st P (oLoad T.p_mem_File t35) w4 fun t36 w5 =>
 st P (oCall Fn.mem_File_Sync #[t36]) w5 fun t37 w6 =>
 K (tup [t37]) w6) (
 k2 [] w4)) fun k1 =>
 pu P (oNil t0) fun t4 =>
 pu P (oFldA T.afero_UnionFile t4 1) fun t5 =>
 st P (oLoad T.p_mem_File t5) w fun t6 w7 =>
 pu P (oBin .neq T.p_mem_File false true t6 (.pointer none)) fun t7 =>
 cd t7 (
 pu P (oNil t0) fun t9 =>
 pu P (oFldA T.afero_UnionFile t9 1) fun t10 =>
 st P (oLoad T.p_mem_File t10) w7 fun t11 w8 =>
 st P (oCall Fn.mem_File_Sync #[t11]) w8 fun t12 w9 =>
 jn (fun s3 u3 w10 =>
 K (tup [(gs s3 0)]) w10) fun k3 =>
 pu P (oBin .eql T.error false true t12 .nilIface) fun t14 =>
 gd t14 true w9 (fun K1 => K1 t0 w9) fun t16 w11 =>
 gd t14 true w11 (fun K2 => pu P (oNil t16) fun v => K2 v w11) fun t17 w12 =>
 gd t14 true w12 (fun K3 => pu P (oFldA T.afero_UnionFile t17 0) fun v => K3 v w12) fun t18 w13 =>
 gd t14 true w13 (fun K4 => st P (oLoad T.p_mem_File t18) w13 K4) fun t19 w14 =>
 gd t14 true w14 (fun K5 => pu P (oBin .neq T.p_mem_File false true t19 (.pointer none)) fun v => K5 v w14) fun t20 w15 =>
 pu P (oPick t14 t20 (.bool false)) fun t21 =>
 cd t21 (
 pu P (oNil t0) fun t23 =>
 pu P (oFldA T.afero_UnionFile t23 0) fun t24 =>
 st P (oLoad T.p_mem_File t24) w15 fun t25 w16 =>
 st P (oCall Fn.mem_File_Sync #[t25]) w16 fun t26 w17 =>
 k3 [t26] w17) (
 k3 [t12] w15)) (
 k1 [] w7)
def Tb_afero_UnionFile_Sync : Tab := { join := fun n => match n with | 5 => [2] | _ => [], loop := fun n => match n with | _ => [] }
theorem S_afero_UnionFile_Sync {t0 : Value} {w : World} {K : Value → World → Prop} (h : F_afero_UnionFile_Sync t0 w K) : Cl P Fn.afero_UnionFile_Sync #[t0] w K :=
  cl_of_eq (T := Tb_afero_UnionFile_Sync) (args := [t0]) Tryd.func70 rfl follows_mixed (by kernel_rfl) (Nat.le_of_ble_eq_true (by kernel_rfl)) (by kernel_rfl) h
def F_errors_New (t0 : Value) (w : World) (K : Value → World → Prop) : Prop :=
 pu P (oBuild T.errors_errorString #[(0, t0)]) fun t4 =>
 st P (oBox T.errors_errorString t4) w fun t5 w1 =>
 pu P (oMkIface T.p_errors_errorString t5) fun t6 =>
 K (tup [t6]) w1
def Tb_errors_New : Tab := { join := fun n => match n with | _ => [], loop := fun n => match n with | _ => [] }
theorem S_errors_New {t0 : Value} {w : World} {K : Value → World → Prop} (h : F_errors_New t0 w K) : Cl P Fn.errors_New #[t0] w K :=
  cl_of_eq (T := Tb_errors_New) (args := [t0]) Tryd.func86 rfl follows_mixed (by kernel_rfl) (Nat.le_of_ble_eq_true (by kernel_rfl)) (by kernel_rfl) h
def F_mem_setModTime (t0 t1 : Value) (w : World) (K : Value → World → Prop) : Prop :=
 pu P (oNil t0) fun t6 =>
 pu P (oFldA T.mem_FileData t6 5) fun t7 =>
 st P (oStore T.int64 t7 t1) w fun _ w1 =>
 K (tup []) w1
def Tb_mem_setModTime : Tab := { join := fun n => match n with | _ => [], loop := fun n => match n with | _ => [] }
theorem S_mem_setModTime {t0 t1 : Value} {w : World} {K : Value → World → Prop} (h : F_mem_setModTime t0 t1 w K) : Cl P Fn.mem_setModTime #[t0, t1] w K :=
  cl_of_eq (T := Tb_mem_setModTime) (args := [t0, t1]) Tryd.func87 rfl follows_mixed (by kernel_rfl) (Nat.le_of_ble_eq_true (by kernel_rfl)) (by kernel_rfl) h
def F_path_Split (t0 : Value) (w : World) (K : Value → World → Prop) : Prop :=
 st P (oCall Fn.bytealg_LastIndexByteString #[t0, (.int .u8 47)]) w fun t6 w1 =>
 pu P (oBin .add T.int false true t6 (.int .i64 1)) fun t9 =>
 pu P (oSlice T.string t0 none (some t9) none) fun t10 =>
 pu P (oBin .add T.int false true t6 (.int .i64 1)) fun t13 =>
 pu P (oSlice T.string t0 (some t13) none none) fun t14 =>
 K (tup [t10, t14]) w1.drew
def Tb_path_Split : Tab := { join := fun n => match n with | _ => [], loop := fun n => match n with | _ => [] }
theorem S_path_Split {t0 : Value} {w : World} {K : Value → World → Prop} (h : F_path_Split t0 w K) : Cl P Fn.path_Split #[t0] w K :=
  cl_of_eq (T := Tb_path_Split) (args := [t0]) Tryd.func89 rfl follows_mixed (by kernel_rfl) (Nat.le_of_ble_eq_true (by kernel_rfl)) (by kernel_rfl) h
def F_mem_FileInfo_Name (t0 : Value) (w : World) (K : Value → World → Prop) : Prop :=
 pu P (oNil t0) fun t7 =>
 pu P (oFldA T.mem_FileInfo t7 0) fun t8 =>
 st P (oLoad T.p_mem_FileData t8) w fun t9 w1 =>
 pu P (oNil t9) fun t10 =>
 pu P (oFldA T.mem_FileData t10 0) fun t11 =>
 st P (oLoad T.string t11) w1 fun t12 w2 =>
 st P (oCall Fn.path_Split #[t12]) w2 fun t13 w3 =>
 pu P (oExtract t13 0) fun t14 =>
 pu P (oExtract t13 1) fun t15 =>
 K (tup [t15]) w3
def Tb_mem_FileInfo_Name : Tab := { join := fun n => match n with | _ => [], loop := fun n => match n with | _ => [] }
theorem S_mem_FileInfo_Name {t0 : Value} {w : World} {K : Value → World → Prop} (h : F_mem_FileInfo_Name t0 w K) : Cl P Fn.mem_FileInfo_Name #[t0] w K :=
  cl_of_eq (T := Tb_mem_FileInfo_Name) (args := [t0]) Tryd.func90 rfl follows_mixed (by kernel_rfl) (Nat.le_of_ble_eq_true (by kernel_rfl)) (by kernel_rfl) h
def F_mem_FileData_Name (t0 : Value) (w : World) (K : Value → World → Prop) : Prop :=
 pu P (oNil t0) fun t4 =>
 pu P (oFldA T.mem_FileData t4 0) fun t5 =>
 st P (oLoad T.string t5) w fun t6 w1 =>
 K (tup [t6]) w1
def Tb_mem_FileData_Name : Tab := { join := fun n => match n with | _ => [], loop := fun n => match n with | _ => [] }
theorem S_mem_FileData_Name {t0 : Value} {w : World} {K : Value → World → Prop} (h : F_mem_FileData_Name t0 w K) : Cl P Fn.mem_FileData_Name #[t0] w K :=
  cl_of_eq (T := Tb_mem_FileData_Name) (args := [t0]) Tryd.func91 rfl follows_mixed (by kernel_rfl) (Nat.le_of_ble_eq_true (by kernel_rfl)) (by kernel_rfl) h
end Go.Proofs.YteblpejgenehfaaDoor.X
end
section
namespace Go.Proofs.YteblpejgenehfaaDoor.X
open Go Go.X Go.Proofs
def F_mem_FileInfo_Size (t0 : Value) (w : World) (K : Value → World → Prop) : Prop :=
 jn (fun s1 u1 w1 =>
 pu P (oNil t0) fun t6 =>
 pu P (oFldA T.mem_FileInfo t6 0) fun t7 =>
 st P (oLoad T.p_mem_FileData t7) w1 fun t8 w2 =>
 pu P (oNil t8) fun t9 =>
 pu P (oFldA T.mem_FileData t9 1) fun t10 =>
 st P (oLoad T.sl_uint8 t10) w2 fun t11 w3 =>
 pu P (oBuiltin .len #[T.sl_uint8] T.int #[false] #[t11]) fun t12 =>
 K (tup [t12]) w3) fun k1 =>
 st P (oCall Fn.mem_FileInfo_IsDir #[t0]) w fun t4 w4 =>
 cd t4 (
 K (tup [(.int .i64 42)]) w4) (
 k1 [] w4)
def Tb_mem_FileInfo_Size : Tab := { join := fun n => match n with | _ => [], loop := fun n => match n with | _ => [] }
theorem S_mem_FileInfo_Size {t0 : Value} {w : World} {K : Value → World → Prop} (h : F_mem_FileInfo_Size t0 w K) : Cl P Fn.mem_FileInfo_Size #[t0] w K :=
  cl_of_eq (T := Tb_mem_FileInfo_Size) (args := [t0]) Tryd.func96 rfl follows_mixed (by kernel_rfl) (Nat.le_of_ble_eq_true (by kernel_rfl)) (by kernel_rfl) h
def F_mem_FileInfo_Mode (t0 : Value) (w : World) (K : Value → World → Prop) : Prop :=
 pu P (oNil t0) fun t4 =>
 pu P (oFldA T.mem_FileInfo t4 0) fun t5 =>
 st P (oLoad T.p_mem_FileData t5) w fun t6 w1 =>
 pu P (oNil t6) fun t7 =>
 pu P (oFldA T.mem_FileData t7 4) fun t8 =>
 st P (oLoad T.os_FileMode t8) w1 fun t9 w2 =>
 K (tup [t9]) w2
def Tb_mem_FileInfo_Mode : Tab := { join := fun n => match n with | _ => [], loop := fun n => match n with | _ => [] }
theorem S_mem_FileInfo_Mode {t0 : Value} {w : World} {K : Value → World → Prop} (h : F_mem_FileInfo_Mode t0 w K) : Cl P Fn.mem_FileInfo_Mode #[t0] w K :=
  cl_of_eq (T := Tb_mem_FileInfo_Mode) (args := [t0]) Tryd.func97 rfl follows_mixed (by kernel_rfl) (Nat.le_of_ble_eq_true (by kernel_rfl)) (by kernel_rfl) h
def F_mem_FileInfo_IsDir (t0 : Value) (w : World) (K : Value → World → Prop) : Prop :=
 pu P (oNil t0) fun t4 =>
 pu P (oFldA T.mem_FileInfo t4 0) fun t5 =>
 st P (oLoad T.p_mem_FileData t5) w fun t6 w1 =>
 pu P (oNil t6) fun t7 =>
 pu P (oFldA T.mem_FileData t7 3) fun t8 =>
 st P (oLoad T.bool t8) w1 fun t9 w2 =>
 K (tup [t9]) w2
def Tb_mem_FileInfo_IsDir : Tab := { join := fun n => match n with | _ => [], loop := fun n => match n with | _ => [] }
theorem S_mem_FileInfo_IsDir {t0 : Value} {w : World} {K : Value → World → Prop} (h : F_mem_FileInfo_IsDir t0 w K) : Cl P Fn.mem_FileInfo_IsDir #[t0] w K :=
  cl_of_eq (T := Tb_mem_FileInfo_IsDir) (args := [t0]) Tryd.func98 rfl follows_mixed (by kernel_rfl) (Nat.le_of_ble_eq_true (by kernel_rfl)) (by kernel_rfl) h
def F_mem_FileInfo_ModTime (t0 : Value) (w : World) (K : Value → World → Prop) : Prop :=
 pu P (oNil t0) fun t4 =>
 pu P (oFldA T.mem_FileInfo t4 0) fun t5 =>
 st P (oLoad T.p_mem_FileData t5) w fun t6 w1 =>
 pu P (oNil t6) fun t7 =>
 pu P (oFldA T.mem_FileData t7 5) fun t8 =>
 st P (oLoad T.int64 t8) w1 fun t9 w2 =>
 K (tup [t9]) w2
def Tb_mem_FileInfo_ModTime : Tab := { join := fun n => match n with | _ => [], loop := fun n => match n with | _ => [] }
theorem S_mem_FileInfo_ModTime {t0 : Value} {w : World} {K : Value → World → Prop} (h : F_mem_FileInfo_ModTime t0 w K) : Cl P Fn.mem_FileInfo_ModTime #[t0] w K :=
  cl_of_eq (T := Tb_mem_FileInfo_ModTime) (args := [t0]) Tryd.func99 rfl follows_mixed (by kernel_rfl) (Nat.le_of_ble_eq_true (by kernel_rfl)) (by kernel_rfl) h
def F_bytealg_LastIndexByteString (t0 t1 : Value) (w : World) (K : Value → World → Prop) : Prop :=
 jn (fun s1 u1 w1 =>
 K (tup [(.int .i64 (-1))]) w1) fun k1 =>
 pu P (oBuiltin .len #[T.string] T.int #[false] #[t0]) fun t7 =>
 pu P (oBin .sub T.int false true t7 (.int .i64 1)) fun t8 =>
 lp [t8] w fun s2 u2 w2 C1 =>
 jn (fun s3 u3 w3 =>
 jn (fun s4 u4 w4 =>
 pu P (oBin .sub T.int false true (gs s2 0) (.int .i64 1)) fun t12 =>
 C1 [t12] w4) fun k3 =>
 pu P (oIdx T.string t0 (gs s2 0)) fun t15 =>
 pu P (oBin .eql T.uint8 false false t15 t1) fun t17 =>
 cd t17 (
 K (tup [(gs s2 0)]) w3) (
 k3 [] w3)) fun k2 =>
 pu P (oBin .geq T.int false true (gs s2 0) (.int .i64 0)) fun t10 =>
 cd t10 (
 k2 [] w2) (
 k1 [] w2)
def Tb_bytealg_LastIndexByteString : Tab := { join := fun n => match n with | _ => [], loop := fun n => match n with | 2 => [5] | _ => [] }
theorem S_bytealg_LastIndexByteString {t0 t1 : Value} {w : World} {K : Value → World → Prop} (h : F_bytealg_LastIndexByteString t0 t1 w K) : Cl P Fn.bytealg_LastIndexByteString #[t0, t1] w K :=
  cl_of_eq (T := Tb_bytealg_LastIndexByteString) (args := [t0, t1]) Tryd.func103 rfl follows_mixed (by kernel_rfl) (Nat.le_of_ble_eq_true (by kernel_rfl)) (by kernel_rfl) h
end Go.Proofs.YteblpejgenehfaaDoor.X
end
section
namespace Go.Proofs.YteblpejgenehfaaDoor.X
open Go Go.X Go.Proofs Go.RowKit
abbrev Of (f d : Nat) (v : Value) : Nat → Prop := fun k => k = f ∨ k = d ∨ v.ownBlock = some k
theorem own_lt {w : World} {B n size : Nat} {e : TypeId} {v : Value} {xs : List Value} (h : w.ownsRow B e size v n xs) : ∀ k, v.ownBlock = some k → B ≤ k ∧ k < w.heap.size := fun k hk => by
  rcases h.2 with ⟨rfl, _⟩ | ⟨g, cap, cur, rfl, h1, h2, h3⟩
  · cases hk
  · injection hk with hk
    subst hk
    exact ⟨h1, (Array.getElem?_eq_some_iff.1 h2).1⟩
def sents : List Nat := [G.os_ErrNotExist, G.os_ErrExist, G.os_ENOENT, G.os_ENOTDIR, G.os_EPERM, G.os_EIO, G.os_EBADFD, G.io_EOF, G.io_ErrUnexpectedEOF, G.mem_ErrFileClosed, G.mem_ErrOutOfRange]
abbrev er (q : Nat × Nat) : Value := .iface T.p_errors_errorString (pt q.1 q.2)
structure Sn (w : World) (B : Nat) (m : Nat → Nat × Nat) : Prop where
  at_ : ∀ g ∈ sents, g < B ∧ ∃ tt, bk w g = some (CB [er (m g)] tt)
  cell : ∀ g ∈ sents, (m g).1 < B ∧ ∃ l tt, bk w (m g).1 = some (CB l tt)
  inj : ∀ g ∈ sents, ∀ g' ∈ sents, m g = m g' → g = g'
theorem Sn.below {w w' : World} {B : Nat} {m : Nat → Nat × Nat} (h : Sn w B m) (hb : Below B w w') : Sn w' B m :=
  ⟨fun g hg => ⟨(h.at_ g hg).1, by rw [bel_bk hb (h.at_ g hg).1]; exact (h.at_ g hg).2⟩, fun g hg => ⟨(h.cell g hg).1, by rw [bel_bk hb (h.cell g hg).1]; exact (h.cell g hg).2⟩, h.inj⟩
theorem errT : ErrT P T.error T.p_errors_errorString T.errors_errorString := ⟨⟨_, Tryd.underlying99⟩, U.p_errors_errorString, by kernel_rfl, by kernel_rfl⟩
theorem Sn.load {w : World} {B : Nat} {m : Nat → Nat × Nat} (h : Sn w B m) {g : Nat} (hg : g ∈ sents) (L : Value → World → Prop) : st P (oLoad T.error (.pointer (some ⟨g, 0, none⟩))) w L = L (er (m g)) w := by
  obtain ⟨_, tt, e⟩ := h.at_ g hg
  have q : cellOf (bk w g) 0 = some (er (m g)) := by rw [e]; rfl
  rw [show st P (oLoad T.error (.pointer (some ⟨g, 0, none⟩))) w L = st P (oLoad T.error (pt g 0)) w L from rfl]
  rw [M.ld_error _ _ _ _ (by rw [q]; rfl), q]
  rfl
theorem Sn.eql {w : World} {B : Nat} {m : Nat → Nat × Nat} (h : Sn w B m) {g g' : Nat} (hg : g ∈ sents) (hg' : g' ∈ sents) (L : Value → World → Prop) : st P (oBin .eql T.error false false (er (m g)) (er (m g'))) w L = L (.bool (decide (g = g'))) w := by
  obtain ⟨_, l, t, e⟩ := h.cell g hg
  obtain ⟨_, l', t', e'⟩ := h.cell g' hg'
  rw [stEqlErr errT false false e e']
  congr 2
  refine decide_eq_decide.2 ⟨fun q => h.inj g hg g' hg' (Prod.ext q.1 q.2), fun q => by subst q; exact ⟨rfl, rfl⟩⟩
theorem oAssertEr (L : Value → Prop) (q : Nat × Nat) : pu P (oAssert (er q) T.error T.p_os_PathError true) L = L (tup [.pointer none, .bool false]) := oAssertOther U.p_os_PathError (by kernel_rfl) (by decide) _
theorem oEqlEr (L : Value → Prop) (q : Nat × Nat) : pu P (oBin .eql T.error false true (er q) .nilIface) L = L (.bool false) := oEqlNil2 Tryd.underlying99 _ _ _ _
theorem kind_nil {w : World} {K : Value → World → Prop} (h : K (.int .i64 0) w) : Cl P Fn.impl_kind #[.nilIface] w K := by
  apply S_impl_kind
  unfold F_impl_kind
  refine jn_with (fun t w' => t = [.nilIface] ∧ w' = w) ?_ ?_
  · rintro t e w1 ⟨rfl, rfl⟩
    refine jn_with (fun _ _ => False) (fun _ _ _ h => h.elim) ?_
    rw [gs0, oEqlNil Tryd.underlying99]
    simp (disch := first | omega | (simp only [sZb, sZa, sZd] <;> omega) | (simp (disch := first | omega | (simp only [sZb, sZa, sZd] <;> omega) | fail) only [go_sem]; done) | fail) only [go_sem, dec_t, dec_f, w_u32, w_u64, w_u16, w_u8, w_i64, Int.reduceToNat, Int.reducePow, Nat.reducePow]
    exact h
  · rw [oAssertNil U.p_os_PathError (by kernel_rfl)]
    simp (disch := first | omega | (simp only [sZb, sZa, sZd] <;> omega) | (simp (disch := first | omega | (simp only [sZb, sZa, sZd] <;> omega) | fail) only [go_sem]; done) | fail) only [go_sem, dec_t, dec_f, w_u32, w_u64, w_u16, w_u8, w_i64, Int.reduceToNat, Int.reducePow, Nat.reducePow]
    exact ⟨trivial, trivial⟩
theorem mkErr (L : Value → Prop) (x : Value) : pu P (oMkIface T.p_errors_errorString x) L = L (.iface T.p_errors_errorString x) := pu_v' (by simp [Instr.makeInterface, rp_bind, rp_underlying U.p_errors_errorString])
theorem mkPath (L : Value → Prop) (x : Value) : pu P (oMkIface T.p_os_PathError x) L = L (.iface T.p_os_PathError x) := pu_v' (by simp [Instr.makeInterface, rp_bind, rp_underlying U.p_os_PathError])
theorem new_spec {w : World} {K : Value → World → Prop} {l : List UInt8} (h : K (er (w.heap.size, 0)) (w.alloc (CB [S l] T.errors_errorString))) : Cl P Fn.errors_New #[S l] w K := by
  apply S_errors_New
  unfold F_errors_New
  simp (disch := first | omega | (simp only [sZb, sZa, sZd] <;> omega) | (simp (disch := first | omega | (simp only [sZb, sZa, sZd] <;> omega) | fail) only [go_sem, mkErr]; done) | fail) only [go_sem, dec_t, dec_f, w_u32, w_u64, w_u16, w_u8, w_i64, Int.reduceToNat, Int.reducePow, Nat.reducePow, mkErr]
  exact h
theorem stEqlNew {w : World} {B : Nat} {m : Nat → Nat × Nat} (hs : Sn w B m) {ib : Nat} {txt : List UInt8} (hb : bk w ib = some (CB [S txt] T.errors_errorString)) (hB : B ≤ ib) {g : Nat} (hg : g ∈ sents) (L : Value → World → Prop) : st P (oBin .eql T.error false false (er (ib, 0)) (er (m g))) w L = L (.bool false) w := by
  obtain ⟨q, l, t, e⟩ := hs.cell g hg
  rw [stEqlErr errT false false hb e]
  congr 2
  refine decide_eq_false fun h => ?_
  have := h.1
  omega
theorem Kp_mono {a b : World} {S T : Nat → Prop} (h : Kp a b S) (hS : ∀ x, S x → T x) : Kp a b T := ⟨h.os, h.tape, h.output, h.size, fun k hk hn => h.block k hk fun hs => hn (hS k hs)⟩
theorem byt_zeros (n : Nat) : (List.replicate n (0 : UInt8)).map byt = List.replicate n (.int .u8 0) := by rw [List.map_replicate]; rfl
theorem app_nil {w : World} {L : Value → World → Prop} {B n : Nat} {v : Value} {xs : List Value} (h : w.ownsRow B T.uint8 1 v n xs) {cs : Array Bool} {ty : TypeId} : st P (oBuiltin .append #[T.sl_uint8, T.sl_uint8] ty cs #[v, .slice none 0 0]) w L = L v w := by
  obtain ⟨a, cap, rfl, hc⟩ := own_cap h
  exact oAppend_none U.sl_uint8 (by kernel_rfl) (Src.ofNil w U.sl_uint8 0) hc
theorem map_byt_inj_take {cur : List Value} {l : List UInt8} {n : Nat} (h : cur.take n = l.map byt) (p : Nat) (hp : p ≤ n) : cur.take p = (l.take p).map byt := by
  rw [List.map_take, ← h, List.take_take, Nat.min_eq_left hp]
theorem over_list {cur cur' : List Value} {bs l : List UInt8} {cap p : Nat} (hc : cur.length = cap) (ht : cur.take bs.length = bs.map byt) (hp : p + l.length < bs.length) (hl : bs.length ≤ cap) (e : cur' = cur.take p ++ l.map byt ++ cur.drop (p + l.length)) :
    (cur'.take (p + l.length) ++ (bs.drop (p + l.length)).map byt ++ cur'.drop bs.length).length = cap ∧ (cur'.take (p + l.length) ++ (bs.drop (p + l.length)).map byt ++ cur'.drop bs.length).take bs.length = (bs.take p ++ l ++ bs.drop (p + l.length)).map byt ∧ cur'.length = cap ∧ (cur'.drop (p + l.length)).take (bs.length - (p + l.length)) = (bs.drop (p + l.length)).map byt := by
  have k1 : cur'.length = cap := by rw [e]; simp; omega
  have k2 : cur'.take (p + l.length) = (bs.take p ++ l).map byt := by
    rw [e, List.take_append_of_le_length (by simp; omega), List.take_of_length_le (by simp; omega), map_byt_inj_take ht p (by omega), List.map_append]
  refine ⟨by simp; omega, ?_, k1, ?_⟩
  · rw [List.take_append_of_le_length (by simp; omega), List.take_of_length_le (by simp; omega), k2]
    simp
  · have e1 : cur'.drop (p + l.length) = cur.drop (p + l.length) := by
      rw [e, List.drop_append, List.drop_of_length_le (by simp; omega), List.nil_append]
      simp
      have e0 : p + l.length - (min p cur.length + l.length) = 0 := by omega
      rw [e0, Nat.add_zero]
    rw [e1, ← List.drop_take, ht, List.map_drop]
def codeOf (g : Nat) : Int := if g = G.os_ErrNotExist then 1 else if g = G.os_ErrExist then 2 else if g = G.os_ENOENT then 1 else if g = G.os_ENOTDIR then 8 else if g = G.os_EPERM then 9 else if g = G.os_EIO then 11 else if g = G.os_EBADFD then 10 else if g = G.io_EOF then 4 else if g = G.io_ErrUnexpectedEOF then 5 else if g = G.mem_ErrFileClosed then 3 else if g = G.mem_ErrOutOfRange then 7 else 13
theorem kind_sent {w : World} {K : Value → World → Prop} {B : Nat} {m : Nat → Nat × Nat} (hs : Sn w B m) {g : Nat} (hg : g ∈ sents) (h : K (.int .i64 (codeOf g)) w) : Cl P Fn.impl_kind #[er (m g)] w K := by
  apply S_impl_kind
  unfold F_impl_kind
  have ld_os_ErrNotExist : ∀ L : Value → World → Prop, st P (oLoad T.error (.pointer (some ⟨G.os_ErrNotExist, 0, none⟩))) w L = L (er (m G.os_ErrNotExist)) w := fun L => hs.load (by decide) L
  have eq_os_ErrNotExist : ∀ L : Value → World → Prop, st P (oBin .eql T.error false false (er (m g)) (er (m G.os_ErrNotExist))) w L = L (.bool (decide (g = G.os_ErrNotExist))) w := fun L => hs.eql hg (by decide) L
  have ld_os_ErrExist : ∀ L : Value → World → Prop, st P (oLoad T.error (.pointer (some ⟨G.os_ErrExist, 0, none⟩))) w L = L (er (m G.os_ErrExist)) w := fun L => hs.load (by decide) L
  have eq_os_ErrExist : ∀ L : Value → World → Prop, st P (oBin .eql T.error false false (er (m g)) (er (m G.os_ErrExist))) w L = L (.bool (decide (g = G.os_ErrExist))) w := fun L => hs.eql hg (by decide) L
  have ld_os_ENOENT : ∀ L : Value → World → Prop, st P (oLoad T.error (.pointer (some ⟨G.os_ENOENT, 0, none⟩))) w L = L (er (m G.os_ENOENT)) w := fun L => hs.load (by decide) L
  have eq_os_ENOENT : ∀ L : Value → World → Prop, st P (oBin .eql T.error false false (er (m g)) (er (m G.os_ENOENT))) w L = L (.bool (decide (g = G.os_ENOENT))) w := fun L => hs.eql hg (by decide) L
  have ld_os_ENOTDIR : ∀ L : Value → World → Prop, st P (oLoad T.error (.pointer (some ⟨G.os_ENOTDIR, 0, none⟩))) w L = L (er (m G.os_ENOTDIR)) w := fun L => hs.load (by decide) L
  have eq_os_ENOTDIR : ∀ L : Value → World → Prop, st P (oBin .eql T.error false false (er (m g)) (er (m G.os_ENOTDIR))) w L = L (.bool (decide (g = G.os_ENOTDIR))) w := fun L => hs.eql hg (by decide) L
  have ld_os_EPERM : ∀ L : Value → World → Prop, st P (oLoad T.error (.pointer (some ⟨G.os_EPERM, 0, none⟩))) w L = L (er (m G.os_EPERM)) w := fun L => hs.load (by decide) L
  have eq_os_EPERM : ∀ L : Value → World → Prop, st P (oBin .eql T.error false false (er (m g)) (er (m G.os_EPERM))) w L = L (.bool (decide (g = G.os_EPERM))) w := fun L => hs.eql hg (by decide) L
  have ld_os_EIO : ∀ L : Value → World → Prop, st P (oLoad T.error (.pointer (some ⟨G.os_EIO, 0, none⟩))) w L = L (er (m G.os_EIO)) w := fun L => hs.load (by decide) L
  have eq_os_EIO : ∀ L : Value → World → Prop, st P (oBin .eql T.error false false (er (m g)) (er (m G.os_EIO))) w L = L (.bool (decide (g = G.os_EIO))) w := fun L => hs.eql hg (by decide) L
  have ld_os_EBADFD : ∀ L : Value → World → Prop, st P (oLoad T.error (.pointer (some ⟨G.os_EBADFD, 0, none⟩))) w L = L (er (m G.os_EBADFD)) w := fun L => hs.load (by decide) L
  have eq_os_EBADFD : ∀ L : Value → World → Prop, st P (oBin .eql T.error false false (er (m g)) (er (m G.os_EBADFD))) w L = L (.bool (decide (g = G.os_EBADFD))) w := fun L => hs.eql hg (by decide) L
  have ld_io_EOF : ∀ L : Value → World → Prop, st P (oLoad T.error (.pointer (some ⟨G.io_EOF, 0, none⟩))) w L = L (er (m G.io_EOF)) w := fun L => hs.load (by decide) L
  have eq_io_EOF : ∀ L : Value → World → Prop, st P (oBin .eql T.error false false (er (m g)) (er (m G.io_EOF))) w L = L (.bool (decide (g = G.io_EOF))) w := fun L => hs.eql hg (by decide) L
  have ld_io_ErrUnexpectedEOF : ∀ L : Value → World → Prop, st P (oLoad T.error (.pointer (some ⟨G.io_ErrUnexpectedEOF, 0, none⟩))) w L = L (er (m G.io_ErrUnexpectedEOF)) w := fun L => hs.load (by decide) L
  have eq_io_ErrUnexpectedEOF : ∀ L : Value → World → Prop, st P (oBin .eql T.error false false (er (m g)) (er (m G.io_ErrUnexpectedEOF))) w L = L (.bool (decide (g = G.io_ErrUnexpectedEOF))) w := fun L => hs.eql hg (by decide) L
  have ld_mem_ErrFileClosed : ∀ L : Value → World → Prop, st P (oLoad T.error (.pointer (some ⟨G.mem_ErrFileClosed, 0, none⟩))) w L = L (er (m G.mem_ErrFileClosed)) w := fun L => hs.load (by decide) L
  have eq_mem_ErrFileClosed : ∀ L : Value → World → Prop, st P (oBin .eql T.error false false (er (m g)) (er (m G.mem_ErrFileClosed))) w L = L (.bool (decide (g = G.mem_ErrFileClosed))) w := fun L => hs.eql hg (by decide) L
  have ld_mem_ErrOutOfRange : ∀ L : Value → World → Prop, st P (oLoad T.error (.pointer (some ⟨G.mem_ErrOutOfRange, 0, none⟩))) w L = L (er (m G.mem_ErrOutOfRange)) w := fun L => hs.load (by decide) L
  have eq_mem_ErrOutOfRange : ∀ L : Value → World → Prop, st P (oBin .eql T.error false false (er (m g)) (er (m G.mem_ErrOutOfRange))) w L = L (.bool (decide (g = G.mem_ErrOutOfRange))) w := fun L => hs.eql hg (by decide) L
  refine jn_with (fun t w' => t = [er (m g)] ∧ w' = w) ?_ ?_
  · rintro t e w1 ⟨rfl, rfl⟩
    refine jn_with (fun _ _ => False) (fun _ _ _ h => h.elim) ?_
    rw [gs0, oEqlEr]
    simp (disch := first | omega | (simp only [sZb, sZa, sZd] <;> omega) | (simp (disch := first | omega | (simp only [sZb, sZa, sZd] <;> omega) | fail) only [go_sem]; done) | fail) only [go_sem, dec_t, dec_f, w_u32, w_u64, w_u16, w_u8, w_i64, Int.reduceToNat, Int.reducePow, Nat.reducePow]
    refine jn_with (fun t w' => t = [.bool (decide (g = G.os_ErrNotExist ∨ g = G.os_ENOENT))] ∧ w' = w1) ?_ ?_
    · rintro t e w2 ⟨rfl, rfl⟩
      simp only [sents, List.mem_cons, List.not_mem_nil, or_false] at hg
      clear hs
      rcases hg with hg | hg | hg | hg | hg | hg | hg | hg | hg | hg | hg
      · have d0 : decide (g = G.os_ErrNotExist ∨ g = G.os_ENOENT) = true := by rw [hg]; decide
        have d_os_ErrExist : decide (g = G.os_ErrExist) = false := by rw [hg]; decide
        have d_os_ENOTDIR : decide (g = G.os_ENOTDIR) = false := by rw [hg]; decide
        have d_os_EPERM : decide (g = G.os_EPERM) = false := by rw [hg]; decide
        have d_os_EIO : decide (g = G.os_EIO) = false := by rw [hg]; decide
        have d_os_EBADFD : decide (g = G.os_EBADFD) = false := by rw [hg]; decide
        have d_io_EOF : decide (g = G.io_EOF) = false := by rw [hg]; decide
        have d_io_ErrUnexpectedEOF : decide (g = G.io_ErrUnexpectedEOF) = false := by rw [hg]; decide
        have d_mem_ErrFileClosed : decide (g = G.mem_ErrFileClosed) = false := by rw [hg]; decide
        have d_mem_ErrOutOfRange : decide (g = G.mem_ErrOutOfRange) = false := by rw [hg]; decide
        have hc : codeOf g = 1 := by rw [hg]; decide
        rw [hc] at h
        simp (disch := first | omega | (simp only [sZb, sZa, sZd] <;> omega) | (simp (disch := first | omega | (simp only [sZb, sZa, sZd] <;> omega) | fail) only [go_sem, d0, ld_os_ErrNotExist, eq_os_ErrNotExist, ld_os_ErrExist, eq_os_ErrExist, ld_os_ENOENT, eq_os_ENOENT, ld_os_ENOTDIR, eq_os_ENOTDIR, ld_os_EPERM, eq_os_EPERM, ld_os_EIO, eq_os_EIO, ld_os_EBADFD, eq_os_EBADFD, ld_io_EOF, eq_io_EOF, ld_io_ErrUnexpectedEOF, eq_io_ErrUnexpectedEOF, ld_mem_ErrFileClosed, eq_mem_ErrFileClosed, ld_mem_ErrOutOfRange, eq_mem_ErrOutOfRange, d_os_ErrExist, d_os_ENOTDIR, d_os_EPERM, d_os_EIO, d_os_EBADFD, d_io_EOF, d_io_ErrUnexpectedEOF, d_mem_ErrFileClosed, d_mem_ErrOutOfRange]; done) | fail) only [go_sem, dec_t, dec_f, w_u32, w_u64, w_u16, w_u8, w_i64, Int.reduceToNat, Int.reducePow, Nat.reducePow, d0, ld_os_ErrNotExist, eq_os_ErrNotExist, ld_os_ErrExist, eq_os_ErrExist, ld_os_ENOENT, eq_os_ENOENT, ld_os_ENOTDIR, eq_os_ENOTDIR, ld_os_EPERM, eq_os_EPERM, ld_os_EIO, eq_os_EIO, ld_os_EBADFD, eq_os_EBADFD, ld_io_EOF, eq_io_EOF, ld_io_ErrUnexpectedEOF, eq_io_ErrUnexpectedEOF, ld_mem_ErrFileClosed, eq_mem_ErrFileClosed, ld_mem_ErrOutOfRange, eq_mem_ErrOutOfRange, d_os_ErrExist, d_os_ENOTDIR, d_os_EPERM, d_os_EIO, d_os_EBADFD, d_io_EOF, d_io_ErrUnexpectedEOF, d_mem_ErrFileClosed, d_mem_ErrOutOfRange]
        exact h
      · have d0 : decide (g = G.os_ErrNotExist ∨ g = G.os_ENOENT) = false := by rw [hg]; decide
        have d_os_ErrExist : decide (g = G.os_ErrExist) = true := by rw [hg]; decide
        have d_os_ENOTDIR : decide (g = G.os_ENOTDIR) = false := by rw [hg]; decide
        have d_os_EPERM : decide (g = G.os_EPERM) = false := by rw [hg]; decide
        have d_os_EIO : decide (g = G.os_EIO) = false := by rw [hg]; decide
        have d_os_EBADFD : decide (g = G.os_EBADFD) = false := by rw [hg]; decide
        have d_io_EOF : decide (g = G.io_EOF) = false := by rw [hg]; decide
        have d_io_ErrUnexpectedEOF : decide (g = G.io_ErrUnexpectedEOF) = false := by rw [hg]; decide
        have d_mem_ErrFileClosed : decide (g = G.mem_ErrFileClosed) = false := by rw [hg]; decide
        have d_mem_ErrOutOfRange : decide (g = G.mem_ErrOutOfRange) = false := by rw [hg]; decide
        have hc : codeOf g = 2 := by rw [hg]; decide
        rw [hc] at h
        simp (disch := first | omega | (simp only [sZb, sZa, sZd] <;> omega) | (simp (disch := first | omega | (simp only [sZb, sZa, sZd] <;> omega) | fail) only [go_sem, d0, ld_os_ErrNotExist, eq_os_ErrNotExist, ld_os_ErrExist, eq_os_ErrExist, ld_os_ENOENT, eq_os_ENOENT, ld_os_ENOTDIR, eq_os_ENOTDIR, ld_os_EPERM, eq_os_EPERM, ld_os_EIO, eq_os_EIO, ld_os_EBADFD, eq_os_EBADFD, ld_io_EOF, eq_io_EOF, ld_io_ErrUnexpectedEOF, eq_io_ErrUnexpectedEOF, ld_mem_ErrFileClosed, eq_mem_ErrFileClosed, ld_mem_ErrOutOfRange, eq_mem_ErrOutOfRange, d_os_ErrExist, d_os_ENOTDIR, d_os_EPERM, d_os_EIO, d_os_EBADFD, d_io_EOF, d_io_ErrUnexpectedEOF, d_mem_ErrFileClosed, d_mem_ErrOutOfRange]; done) | fail) only [go_sem, dec_t, dec_f, w_u32, w_u64, w_u16, w_u8, w_i64, Int.reduceToNat, Int.reducePow, Nat.reducePow, d0, ld_os_ErrNotExist, eq_os_ErrNotExist, ld_os_ErrExist, eq_os_ErrExist, ld_os_ENOENT, eq_os_ENOENT, ld_os_ENOTDIR, eq_os_ENOTDIR, ld_os_EPERM, eq_os_EPERM, ld_os_EIO, eq_os_EIO, ld_os_EBADFD, eq_os_EBADFD, ld_io_EOF, eq_io_EOF, ld_io_ErrUnexpectedEOF, eq_io_ErrUnexpectedEOF, ld_mem_ErrFileClosed, eq_mem_ErrFileClosed, ld_mem_ErrOutOfRange, eq_mem_ErrOutOfRange, d_os_ErrExist, d_os_ENOTDIR, d_os_EPERM, d_os_EIO, d_os_EBADFD, d_io_EOF, d_io_ErrUnexpectedEOF, d_mem_ErrFileClosed, d_mem_ErrOutOfRange]
        exact h
      · have d0 : decide (g = G.os_ErrNotExist ∨ g = G.os_ENOENT) = true := by rw [hg]; decide
        have d_os_ErrExist : decide (g = G.os_ErrExist) = false := by rw [hg]; decide
        have d_os_ENOTDIR : decide (g = G.os_ENOTDIR) = false := by rw [hg]; decide
        have d_os_EPERM : decide (g = G.os_EPERM) = false := by rw [hg]; decide
        have d_os_EIO : decide (g = G.os_EIO) = false := by rw [hg]; decide
        have d_os_EBADFD : decide (g = G.os_EBADFD) = false := by rw [hg]; decide
        have d_io_EOF : decide (g = G.io_EOF) = false := by rw [hg]; decide
        have d_io_ErrUnexpectedEOF : decide (g = G.io_ErrUnexpectedEOF) = false := by rw [hg]; decide
        have d_mem_ErrFileClosed : decide (g = G.mem_ErrFileClosed) = false := by rw [hg]; decide
        have d_mem_ErrOutOfRange : decide (g = G.mem_ErrOutOfRange) = false := by rw [hg]; decide
        have hc : codeOf g = 1 := by rw [hg]; decide
        rw [hc] at h
        simp (disch := first | omega | (simp only [sZb, sZa, sZd] <;> omega) | (simp (disch := first | omega | (simp only [sZb, sZa, sZd] <;> omega) | fail) only [go_sem, d0, ld_os_ErrNotExist, eq_os_ErrNotExist, ld_os_ErrExist, eq_os_ErrExist, ld_os_ENOENT, eq_os_ENOENT, ld_os_ENOTDIR, eq_os_ENOTDIR, ld_os_EPERM, eq_os_EPERM, ld_os_EIO, eq_os_EIO, ld_os_EBADFD, eq_os_EBADFD, ld_io_EOF, eq_io_EOF, ld_io_ErrUnexpectedEOF, eq_io_ErrUnexpectedEOF, ld_mem_ErrFileClosed, eq_mem_ErrFileClosed, ld_mem_ErrOutOfRange, eq_mem_ErrOutOfRange, d_os_ErrExist, d_os_ENOTDIR, d_os_EPERM, d_os_EIO, d_os_EBADFD, d_io_EOF, d_io_ErrUnexpectedEOF, d_mem_ErrFileClosed, d_mem_ErrOutOfRange]; done) | fail) only [go_sem, dec_t, dec_f, w_u32, w_u64, w_u16, w_u8, w_i64, Int.reduceToNat, Int.reducePow, Nat.reducePow, d0, ld_os_ErrNotExist, eq_os_ErrNotExist, ld_os_ErrExist, eq_os_ErrExist, ld_os_ENOENT, eq_os_ENOENT, ld_os_ENOTDIR, eq_os_ENOTDIR, ld_os_EPERM, eq_os_EPERM, ld_os_EIO, eq_os_EIO, ld_os_EBADFD, eq_os_EBADFD, ld_io_EOF, eq_io_EOF, ld_io_ErrUnexpectedEOF, eq_io_ErrUnexpectedEOF, ld_mem_ErrFileClosed, eq_mem_ErrFileClosed, ld_mem_ErrOutOfRange, eq_mem_ErrOutOfRange, d_os_ErrExist, d_os_ENOTDIR, d_os_EPERM, d_os_EIO, d_os_EBADFD, d_io_EOF, d_io_ErrUnexpectedEOF, d_mem_ErrFileClosed, d_mem_ErrOutOfRange]
        exact h
      · have d0 : decide (g = G.os_ErrNotExist ∨ g = G.os_ENOENT) = false := by rw [hg]; decide
        have d_os_ErrExist : decide (g = G.os_ErrExist) = false := by rw [hg]; decide
        have d_os_ENOTDIR : decide (g = G.os_ENOTDIR) = true := by rw [hg]; decide
        have d_os_EPERM : decide (g = G.os_EPERM) = false := by rw [hg]; decide
        have d_os_EIO : decide (g = G.os_EIO) = false := by rw [hg]; decide
        have d_os_EBADFD : decide (g = G.os_EBADFD) = false := by rw [hg]; decide
        have d_io_EOF : decide (g = G.io_EOF) = false := by rw [hg]; decide
        have d_io_ErrUnexpectedEOF : decide (g = G.io_ErrUnexpectedEOF) = false := by rw [hg]; decide
        have d_mem_ErrFileClosed : decide (g = G.mem_ErrFileClosed) = false := by rw [hg]; decide
        have d_mem_ErrOutOfRange : decide (g = G.mem_ErrOutOfRange) = false := by rw [hg]; decide
        have hc : codeOf g = 8 := by rw [hg]; decide
        rw [hc] at h
        simp (disch := first | omega | (simp only [sZb, sZa, sZd] <;> omega) | (simp (disch := first | omega | (simp only [sZb, sZa, sZd] <;> omega) | fail) only [go_sem, d0, ld_os_ErrNotExist, eq_os_ErrNotExist, ld_os_ErrExist, eq_os_ErrExist, ld_os_ENOENT, eq_os_ENOENT, ld_os_ENOTDIR, eq_os_ENOTDIR, ld_os_EPERM, eq_os_EPERM, ld_os_EIO, eq_os_EIO, ld_os_EBADFD, eq_os_EBADFD, ld_io_EOF, eq_io_EOF, ld_io_ErrUnexpectedEOF, eq_io_ErrUnexpectedEOF, ld_mem_ErrFileClosed, eq_mem_ErrFileClosed, ld_mem_ErrOutOfRange, eq_mem_ErrOutOfRange, d_os_ErrExist, d_os_ENOTDIR, d_os_EPERM, d_os_EIO, d_os_EBADFD, d_io_EOF, d_io_ErrUnexpectedEOF, d_mem_ErrFileClosed, d_mem_ErrOutOfRange]; done) | fail) only [go_sem, dec_t, dec_f, w_u32, w_u64, w_u16, w_u8, w_i64, Int.reduceToNat, Int.reducePow, Nat.reducePow, d0, ld_os_ErrNotExist, eq_os_ErrNotExist, ld_os_ErrExist, eq_os_ErrExist, ld_os_ENOENT, eq_os_ENOENT, ld_os_ENOTDIR, eq_os_ENOTDIR, ld_os_EPERM, eq_os_EPERM, ld_os_EIO, eq_os_EIO, ld_os_EBADFD, eq_os_EBADFD, ld_io_EOF, eq_io_EOF, ld_io_ErrUnexpectedEOF, eq_io_ErrUnexpectedEOF, ld_mem_ErrFileClosed, eq_mem_ErrFileClosed, ld_mem_ErrOutOfRange, eq_mem_ErrOutOfRange, d_os_ErrExist, d_os_ENOTDIR, d_os_EPERM, d_os_EIO, d_os_EBADFD, d_io_EOF, d_io_ErrUnexpectedEOF, d_mem_ErrFileClosed, d_mem_ErrOutOfRange]
        exact h
      · have d0 : decide (g = G.os_ErrNotExist ∨ g = G.os_ENOENT) = false := by rw [hg]; decide
        have d_os_ErrExist : decide (g = G.os_ErrExist) = false := by rw [hg]; decide
        have d_os_ENOTDIR : decide (g = G.os_ENOTDIR) = false := by rw [hg]; decide
        have d_os_EPERM : decide (g = G.os_EPERM) = true := by rw [hg]; decide
        have d_os_EIO : decide (g = G.os_EIO) = false := by rw [hg]; decide
        have d_os_EBADFD : decide (g = G.os_EBADFD) = false := by rw [hg]; decide
        have d_io_EOF : decide (g = G.io_EOF) = false := by rw [hg]; decide
        have d_io_ErrUnexpectedEOF : decide (g = G.io_ErrUnexpectedEOF) = false := by rw [hg]; decide
        have d_mem_ErrFileClosed : decide (g = G.mem_ErrFileClosed) = false := by rw [hg]; decide
        have d_mem_ErrOutOfRange : decide (g = G.mem_ErrOutOfRange) = false := by rw [hg]; decide
        have hc : codeOf g = 9 := by rw [hg]; decide
        rw [hc] at h
        simp (disch := first | omega | (simp only [sZb, sZa, sZd] <;> omega) | (simp (disch := first | omega | (simp only [sZb, sZa, sZd] <;> omega) | fail) only [go_sem, d0, ld_os_ErrNotExist, eq_os_ErrNotExist, ld_os_ErrExist, eq_os_ErrExist, ld_os_ENOENT, eq_os_ENOENT, ld_os_ENOTDIR, eq_os_ENOTDIR, ld_os_EPERM, eq_os_EPERM, ld_os_EIO, eq_os_EIO, ld_os_EBADFD, eq_os_EBADFD, ld_io_EOF, eq_io_EOF, ld_io_ErrUnexpectedEOF, eq_io_ErrUnexpectedEOF, ld_mem_ErrFileClosed, eq_mem_ErrFileClosed, ld_mem_ErrOutOfRange, eq_mem_ErrOutOfRange, d_os_ErrExist, d_os_ENOTDIR, d_os_EPERM, d_os_EIO, d_os_EBADFD, d_io_EOF, d_io_ErrUnexpectedEOF, d_mem_ErrFileClosed, d_mem_ErrOutOfRange]; done) | fail) only [go_sem, dec_t, dec_f, w_u32, w_u64, w_u16, w_u8, w_i64, Int.reduceToNat, Int.reducePow, Nat.reducePow, d0, ld_os_ErrNotExist, eq_os_ErrNotExist, ld_os_ErrExist, eq_os_ErrExist, ld_os_ENOENT, eq_os_ENOENT, ld_os_ENOTDIR, eq_os_ENOTDIR, ld_os_EPERM, eq_os_EPERM, ld_os_EIO, eq_os_EIO, ld_os_EBADFD, eq_os_EBADFD, ld_io_EOF, eq_io_EOF, ld_io_ErrUnexpectedEOF, eq_io_ErrUnexpectedEOF, ld_mem_ErrFileClosed, eq_mem_ErrFileClosed, ld_mem_ErrOutOfRange, eq_mem_ErrOutOfRange, d_os_ErrExist, d_os_ENOTDIR, d_os_EPERM, d_os_EIO, d_os_EBADFD, d_io_EOF, d_io_ErrUnexpectedEOF, d_mem_ErrFileClosed, d_mem_ErrOutOfRange]
        exact h
      · have d0 : decide (g = G.os_ErrNotExist ∨ g = G.os_ENOENT) = false := by rw [hg]; decide
        have d_os_ErrExist : decide (g = G.os_ErrExist) = false := by rw [hg]; decide
        have d_os_ENOTDIR : decide (g = G.os_ENOTDIR) = false := by rw [hg]; decide
        have d_os_EPERM : decide (g = G.os_EPERM) = false := by rw [hg]; decide
        have d_os_EIO : decide (g = G.os_EIO) = true := by rw [hg]; decide
        have d_os_EBADFD : decide (g = G.os_EBADFD) = false := by rw [hg]; decide
        have d_io_EOF : decide (g = G.io_EOF) = false := by rw [hg]; decide
        have d_io_ErrUnexpectedEOF : decide (g = G.io_ErrUnexpectedEOF) = false := by rw [hg]; decide
        have d_mem_ErrFileClosed : decide (g = G.mem_ErrFileClosed) = false := by rw [hg]; decide
        have d_mem_ErrOutOfRange : decide (g = G.mem_ErrOutOfRange) = false := by rw [hg]; decide
        have hc : codeOf g = 11 := by rw [hg]; decide
        rw [hc] at h
        simp (disch := first | omega | (simp only [sZb, sZa, sZd] <;> omega) | (simp (disch := first | omega | (simp only [sZb, sZa, sZd] <;> omega) | fail) only [go_sem, d0, ld_os_ErrNotExist, eq_os_ErrNotExist, ld_os_ErrExist, eq_os_ErrExist, ld_os_ENOENT, eq_os_ENOENT, ld_os_ENOTDIR, eq_os_ENOTDIR, ld_os_EPERM, eq_os_EPERM, ld_os_EIO, eq_os_EIO, ld_os_EBADFD, eq_os_EBADFD, ld_io_EOF, eq_io_EOF, ld_io_ErrUnexpectedEOF, eq_io_ErrUnexpectedEOF, ld_mem_ErrFileClosed, eq_mem_ErrFileClosed, ld_mem_ErrOutOfRange, eq_mem_ErrOutOfRange, d_os_ErrExist, d_os_ENOTDIR, d_os_EPERM, d_os_EIO, d_os_EBADFD, d_io_EOF, d_io_ErrUnexpectedEOF, d_mem_ErrFileClosed, d_mem_ErrOutOfRange]; done) | fail) only [go_sem, dec_t, dec_f, w_u32, w_u64, w_u16, w_u8, w_i64, Int.reduceToNat, Int.reducePow, Nat.reducePow, d0, ld_os_ErrNotExist, eq_os_ErrNotExist, ld_os_ErrExist, eq_os_ErrExist, ld_os_ENOENT, eq_os_ENOENT, ld_os_ENOTDIR, eq_os_ENOTDIR, ld_os_EPERM, eq_os_EPERM, ld_os_EIO, eq_os_EIO, ld_os_EBADFD, eq_os_EBADFD, ld_io_EOF, eq_io_EOF, ld_io_ErrUnexpectedEOF, eq_io_ErrUnexpectedEOF, ld_mem_ErrFileClosed, eq_mem_ErrFileClosed, ld_mem_ErrOutOfRange, eq_mem_ErrOutOfRange, d_os_ErrExist, d_os_ENOTDIR, d_os_EPERM, d_os_EIO, d_os_EBADFD, d_io_EOF, d_io_ErrUnexpectedEOF, d_mem_ErrFileClosed, d_mem_ErrOutOfRange]
        exact h
      · have d0 : decide (g = G.os_ErrNotExist ∨ g = G.os_ENOENT) = false := by rw [hg]; decide
        have d_os_ErrExist : decide (g = G.os_ErrExist) = false := by rw [hg]; decide
        have d_os_ENOTDIR : decide (g = G.os_ENOTDIR) = false := by rw [hg]; decide
        have d_os_EPERM : decide (g = G.os_EPERM) = false := by rw [hg]; decide
        have d_os_EIO : decide (g = G.os_EIO) = false := by rw [hg]; decide
        have d_os_EBADFD : decide (g = G.os_EBADFD) = true := by rw [hg]; decide
        have d_io_EOF : decide (g = G.io_EOF) = false := by rw [hg]; decide
        have d_io_ErrUnexpectedEOF : decide (g = G.io_ErrUnexpectedEOF) = false := by rw [hg]; decide
        have d_mem_ErrFileClosed : decide (g = G.mem_ErrFileClosed) = false := by rw [hg]; decide
        have d_mem_ErrOutOfRange : decide (g = G.mem_ErrOutOfRange) = false := by rw [hg]; decide
        have hc : codeOf g = 10 := by rw [hg]; decide
        rw [hc] at h
        simp (disch := first | omega | (simp only [sZb, sZa, sZd] <;> omega) | (simp (disch := first | omega | (simp only [sZb, sZa, sZd] <;> omega) | fail) only [go_sem, d0, ld_os_ErrNotExist, eq_os_ErrNotExist, ld_os_ErrExist, eq_os_ErrExist, ld_os_ENOENT, eq_os_ENOENT, ld_os_ENOTDIR, eq_os_ENOTDIR, ld_os_EPERM, eq_os_EPERM, ld_os_EIO, eq_os_EIO, ld_os_EBADFD, eq_os_EBADFD, ld_io_EOF, eq_io_EOF, ld_io_ErrUnexpectedEOF, eq_io_ErrUnexpectedEOF, ld_mem_ErrFileClosed, eq_mem_ErrFileClosed, ld_mem_ErrOutOfRange, eq_mem_ErrOutOfRange, d_os_ErrExist, d_os_ENOTDIR, d_os_EPERM, d_os_EIO, d_os_EBADFD, d_io_EOF, d_io_ErrUnexpectedEOF, d_mem_ErrFileClosed, d_mem_ErrOutOfRange]; done) | fail) only [go_sem, dec_t, dec_f, w_u32, w_u64, w_u16, w_u8, w_i64, Int.reduceToNat, Int.reducePow, Nat.reducePow, d0, ld_os_ErrNotExist, eq_os_ErrNotExist, ld_os_ErrExist, eq_os_ErrExist, ld_os_ENOENT, eq_os_ENOENT, ld_os_ENOTDIR, eq_os_ENOTDIR, ld_os_EPERM, eq_os_EPERM, ld_os_EIO, eq_os_EIO, ld_os_EBADFD, eq_os_EBADFD, ld_io_EOF, eq_io_EOF, ld_io_ErrUnexpectedEOF, eq_io_ErrUnexpectedEOF, ld_mem_ErrFileClosed, eq_mem_ErrFileClosed, ld_mem_ErrOutOfRange, eq_mem_ErrOutOfRange, d_os_ErrExist, d_os_ENOTDIR, d_os_EPERM, d_os_EIO, d_os_EBADFD, d_io_EOF, d_io_ErrUnexpectedEOF, d_mem_ErrFileClosed, d_mem_ErrOutOfRange]
        exact h
      · have d0 : decide (g = G.os_ErrNotExist ∨ g = G.os_ENOENT) = false := by rw [hg]; decide
        have d_os_ErrExist : decide (g = G.os_ErrExist) = false := by rw [hg]; decide
        have d_os_ENOTDIR : decide (g = G.os_ENOTDIR) = false := by rw [hg]; decide
        have d_os_EPERM : decide (g = G.os_EPERM) = false := by rw [hg]; decide
        have d_os_EIO : decide (g = G.os_EIO) = false := by rw [hg]; decide
        have d_os_EBADFD : decide (g = G.os_EBADFD) = false := by rw [hg]; decide
        have d_io_EOF : decide (g = G.io_EOF) = true := by rw [hg]; decide
        have d_io_ErrUnexpectedEOF : decide (g = G.io_ErrUnexpectedEOF) = false := by rw [hg]; decide
        have d_mem_ErrFileClosed : decide (g = G.mem_ErrFileClosed) = false := by rw [hg]; decide
        have d_mem_ErrOutOfRange : decide (g = G.mem_ErrOutOfRange) = false := by rw [hg]; decide
        have hc : codeOf g = 4 := by rw [hg]; decide
        rw [hc] at h
        simp (disch := first | omega | (simp only [sZb, sZa, sZd] <;> omega) | (simp (disch := first | omega | (simp only [sZb, sZa, sZd] <;> omega) | fail) only [go_sem, d0, ld_os_ErrNotExist, eq_os_ErrNotExist, ld_os_ErrExist, eq_os_ErrExist, ld_os_ENOENT, eq_os_ENOENT, ld_os_ENOTDIR, eq_os_ENOTDIR, ld_os_EPERM, eq_os_EPERM, ld_os_EIO, eq_os_EIO, ld_os_EBADFD, eq_os_EBADFD, ld_io_EOF, eq_io_EOF, ld_io_ErrUnexpectedEOF, eq_io_ErrUnexpectedEOF, ld_mem_ErrFileClosed, eq_mem_ErrFileClosed, ld_mem_ErrOutOfRange, eq_mem_ErrOutOfRange, d_os_ErrExist, d_os_ENOTDIR, d_os_EPERM, d_os_EIO, d_os_EBADFD, d_io_EOF, d_io_ErrUnexpectedEOF, d_mem_ErrFileClosed, d_mem_ErrOutOfRange]; done) | fail) only [go_sem, dec_t, dec_f, w_u32, w_u64, w_u16, w_u8, w_i64, Int.reduceToNat, Int.reducePow, Nat.reducePow, d0, ld_os_ErrNotExist, eq_os_ErrNotExist, ld_os_ErrExist, eq_os_ErrExist, ld_os_ENOENT, eq_os_ENOENT, ld_os_ENOTDIR, eq_os_ENOTDIR, ld_os_EPERM, eq_os_EPERM, ld_os_EIO, eq_os_EIO, ld_os_EBADFD, eq_os_EBADFD, ld_io_EOF, eq_io_EOF, ld_io_ErrUnexpectedEOF, eq_io_ErrUnexpectedEOF, ld_mem_ErrFileClosed, eq_mem_ErrFileClosed, ld_mem_ErrOutOfRange, eq_mem_ErrOutOfRange, d_os_ErrExist, d_os_ENOTDIR, d_os_EPERM, d_os_EIO, d_os_EBADFD, d_io_EOF, d_io_ErrUnexpectedEOF, d_mem_ErrFileClosed, d_mem_ErrOutOfRange]
        exact h
      · have d0 : decide (g = G.os_ErrNotExist ∨ g = G.os_ENOENT) = false := by rw [hg]; decide
        have d_os_ErrExist : decide (g = G.os_ErrExist) = false := by rw [hg]; decide
        have d_os_ENOTDIR : decide (g = G.os_ENOTDIR) = false := by rw [hg]; decide
        have d_os_EPERM : decide (g = G.os_EPERM) = false := by rw [hg]; decide
        have d_os_EIO : decide (g = G.os_EIO) = false := by rw [hg]; decide
        have d_os_EBADFD : decide (g = G.os_EBADFD) = false := by rw [hg]; decide
        have d_io_EOF : decide (g = G.io_EOF) = false := by rw [hg]; decide
        have d_io_ErrUnexpectedEOF : decide (g = G.io_ErrUnexpectedEOF) = true := by rw [hg]; decide
        have d_mem_ErrFileClosed : decide (g = G.mem_ErrFileClosed) = false := by rw [hg]; decide
        have d_mem_ErrOutOfRange : decide (g = G.mem_ErrOutOfRange) = false := by rw [hg]; decide
        have hc : codeOf g = 5 := by rw [hg]; decide
        rw [hc] at h
        simp (disch := first | omega | (simp only [sZb, sZa, sZd] <;> omega) | (simp (disch := first | omega | (simp only [sZb, sZa, sZd] <;> omega) | fail) only [go_sem, d0, ld_os_ErrNotExist, eq_os_ErrNotExist, ld_os_ErrExist, eq_os_ErrExist, ld_os_ENOENT, eq_os_ENOENT, ld_os_ENOTDIR, eq_os_ENOTDIR, ld_os_EPERM, eq_os_EPERM, ld_os_EIO, eq_os_EIO, ld_os_EBADFD, eq_os_EBADFD, ld_io_EOF, eq_io_EOF, ld_io_ErrUnexpectedEOF, eq_io_ErrUnexpectedEOF, ld_mem_ErrFileClosed, eq_mem_ErrFileClosed, ld_mem_ErrOutOfRange, eq_mem_ErrOutOfRange, d_os_ErrExist, d_os_ENOTDIR, d_os_EPERM, d_os_EIO, d_os_EBADFD, d_io_EOF, d_io_ErrUnexpectedEOF, d_mem_ErrFileClosed, d_mem_ErrOutOfRange]; done) | fail) only [go_sem, dec_t, dec_f, w_u32, w_u64, w_u16, w_u8, w_i64, Int.reduceToNat, Int.reducePow, Nat.reducePow, d0, ld_os_ErrNotExist, eq_os_ErrNotExist, ld_os_ErrExist, eq_os_ErrExist, ld_os_ENOENT, eq_os_ENOENT, ld_os_ENOTDIR, eq_os_ENOTDIR, ld_os_EPERM, eq_os_EPERM, ld_os_EIO, eq_os_EIO, ld_os_EBADFD, eq_os_EBADFD, ld_io_EOF, eq_io_EOF, ld_io_ErrUnexpectedEOF, eq_io_ErrUnexpectedEOF, ld_mem_ErrFileClosed, eq_mem_ErrFileClosed, ld_mem_ErrOutOfRange, eq_mem_ErrOutOfRange, d_os_ErrExist, d_os_ENOTDIR, d_os_EPERM, d_os_EIO, d_os_EBADFD, d_io_EOF, d_io_ErrUnexpectedEOF, d_mem_ErrFileClosed, d_mem_ErrOutOfRange]
        exact h
      · have d0 : decide (g = G.os_ErrNotExist ∨ g = G.os_ENOENT) = false := by rw [hg]; decide
        have d_os_ErrExist : decide (g = G.os_ErrExist) = false := by rw [hg]; decide
        have d_os_ENOTDIR : decide (g = G.os_ENOTDIR) = false := by rw [hg]; decide
        have d_os_EPERM : decide (g = G.os_EPERM) = false := by rw [hg]; decide
        have d_os_EIO : decide (g = G.os_EIO) = false := by rw [hg]; decide
        have d_os_EBADFD : decide (g = G.os_EBADFD) = false := by rw [hg]; decide
        have d_io_EOF : decide (g = G.io_EOF) = false := by rw [hg]; decide
        have d_io_ErrUnexpectedEOF : decide (g = G.io_ErrUnexpectedEOF) = false := by rw [hg]; decide
        have d_mem_ErrFileClosed : decide (g = G.mem_ErrFileClosed) = true := by rw [hg]; decide
        have d_mem_ErrOutOfRange : decide (g = G.mem_ErrOutOfRange) = false := by rw [hg]; decide
        have hc : codeOf g = 3 := by rw [hg]; decide
        rw [hc] at h
        simp (disch := first | omega | (simp only [sZb, sZa, sZd] <;> omega) | (simp (disch := first | omega | (simp only [sZb, sZa, sZd] <;> omega) | fail) only [go_sem, d0, ld_os_ErrNotExist, eq_os_ErrNotExist, ld_os_ErrExist, eq_os_ErrExist, ld_os_ENOENT, eq_os_ENOENT, ld_os_ENOTDIR, eq_os_ENOTDIR, ld_os_EPERM, eq_os_EPERM, ld_os_EIO, eq_os_EIO, ld_os_EBADFD, eq_os_EBADFD, ld_io_EOF, eq_io_EOF, ld_io_ErrUnexpectedEOF, eq_io_ErrUnexpectedEOF, ld_mem_ErrFileClosed, eq_mem_ErrFileClosed, ld_mem_ErrOutOfRange, eq_mem_ErrOutOfRange, d_os_ErrExist, d_os_ENOTDIR, d_os_EPERM, d_os_EIO, d_os_EBADFD, d_io_EOF, d_io_ErrUnexpectedEOF, d_mem_ErrFileClosed, d_mem_ErrOutOfRange]; done) | fail) only [go_sem, dec_t, dec_f, w_u32, w_u64, w_u16, w_u8, w_i64, Int.reduceToNat, Int.reducePow, Nat.reducePow, d0, ld_os_ErrNotExist, eq_os_ErrNotExist, ld_os_ErrExist, eq_os_ErrExist, ld_os_ENOENT, eq_os_ENOENT, ld_os_ENOTDIR, eq_os_ENOTDIR, ld_os_EPERM, eq_os_EPERM, ld_os_EIO, eq_os_EIO, ld_os_EBADFD, eq_os_EBADFD, ld_io_EOF, eq_io_EOF, ld_io_ErrUnexpectedEOF, eq_io_ErrUnexpectedEOF, ld_mem_ErrFileClosed, eq_mem_ErrFileClosed, ld_mem_ErrOutOfRange, eq_mem_ErrOutOfRange, d_os_ErrExist, d_os_ENOTDIR, d_os_EPERM, d_os_EIO, d_os_EBADFD, d_io_EOF, d_io_ErrUnexpectedEOF, d_mem_ErrFileClosed, d_mem_ErrOutOfRange]
        exact h
      · have d0 : decide (g = G.os_ErrNotExist ∨ g = G.os_ENOENT) = false := by rw [hg]; decide
        have d_os_ErrExist : decide (g = G.os_ErrExist) = false := by rw [hg]; decide
        have d_os_ENOTDIR : decide (g = G.os_ENOTDIR) = false := by rw [hg]; decide
        have d_os_EPERM : decide (g = G.os_EPERM) = false := by rw [hg]; decide
        have d_os_EIO : decide (g = G.os_EIO) = false := by rw [hg]; decide
        have d_os_EBADFD : decide (g = G.os_EBADFD) = false := by rw [hg]; decide
        have d_io_EOF : decide (g = G.io_EOF) = false := by rw [hg]; decide
        have d_io_ErrUnexpectedEOF : decide (g = G.io_ErrUnexpectedEOF) = false := by rw [hg]; decide
        have d_mem_ErrFileClosed : decide (g = G.mem_ErrFileClosed) = false := by rw [hg]; decide
        have d_mem_ErrOutOfRange : decide (g = G.mem_ErrOutOfRange) = true := by rw [hg]; decide
        have hc : codeOf g = 7 := by rw [hg]; decide
        rw [hc] at h
        simp (disch := first | omega | (simp only [sZb, sZa, sZd] <;> omega) | (simp (disch := first | omega | (simp only [sZb, sZa, sZd] <;> omega) | fail) only [go_sem, d0, ld_os_ErrNotExist, eq_os_ErrNotExist, ld_os_ErrExist, eq_os_ErrExist, ld_os_ENOENT, eq_os_ENOENT, ld_os_ENOTDIR, eq_os_ENOTDIR, ld_os_EPERM, eq_os_EPERM, ld_os_EIO, eq_os_EIO, ld_os_EBADFD, eq_os_EBADFD, ld_io_EOF, eq_io_EOF, ld_io_ErrUnexpectedEOF, eq_io_ErrUnexpectedEOF, ld_mem_ErrFileClosed, eq_mem_ErrFileClosed, ld_mem_ErrOutOfRange, eq_mem_ErrOutOfRange, d_os_ErrExist, d_os_ENOTDIR, d_os_EPERM, d_os_EIO, d_os_EBADFD, d_io_EOF, d_io_ErrUnexpectedEOF, d_mem_ErrFileClosed, d_mem_ErrOutOfRange]; done) | fail) only [go_sem, dec_t, dec_f, w_u32, w_u64, w_u16, w_u8, w_i64, Int.reduceToNat, Int.reducePow, Nat.reducePow, d0, ld_os_ErrNotExist, eq_os_ErrNotExist, ld_os_ErrExist, eq_os_ErrExist, ld_os_ENOENT, eq_os_ENOENT, ld_os_ENOTDIR, eq_os_ENOTDIR, ld_os_EPERM, eq_os_EPERM, ld_os_EIO, eq_os_EIO, ld_os_EBADFD, eq_os_EBADFD, ld_io_EOF, eq_io_EOF, ld_io_ErrUnexpectedEOF, eq_io_ErrUnexpectedEOF, ld_mem_ErrFileClosed, eq_mem_ErrFileClosed, ld_mem_ErrOutOfRange, eq_mem_ErrOutOfRange, d_os_ErrExist, d_os_ENOTDIR, d_os_EPERM, d_os_EIO, d_os_EBADFD, d_io_EOF, d_io_ErrUnexpectedEOF, d_mem_ErrFileClosed, d_mem_ErrOutOfRange]
        exact h
    · by_cases c1 : g = G.os_ErrNotExist
      · have d1 : decide (g = G.os_ErrNotExist) = true := by simp [c1]
        have d2 : decide (g = G.os_ErrNotExist ∨ g = G.os_ENOENT) = true := by simp [c1]
        simp (disch := first | omega | (simp only [sZb, sZa, sZd] <;> omega) | (simp (disch := first | omega | (simp only [sZb, sZa, sZd] <;> omega) | fail) only [go_sem, ld_os_ErrNotExist, eq_os_ErrNotExist, d1, d2]; done) | fail) only [go_sem, dec_t, dec_f, w_u32, w_u64, w_u16, w_u8, w_i64, Int.reduceToNat, Int.reducePow, Nat.reducePow, ld_os_ErrNotExist, eq_os_ErrNotExist, d1, d2]
        exact ⟨trivial, trivial⟩
      · have d1 : decide (g = G.os_ErrNotExist) = false := by simp [c1]
        have d2 : decide (g = G.os_ErrNotExist ∨ g = G.os_ENOENT) = decide (g = G.os_ENOENT) := by simp [c1]
        simp (disch := first | omega | (simp only [sZb, sZa, sZd] <;> omega) | (simp (disch := first | omega | (simp only [sZb, sZa, sZd] <;> omega) | fail) only [go_sem, ld_os_ErrNotExist, eq_os_ErrNotExist, d1, d2, ld_os_ENOENT, eq_os_ENOENT]; done) | fail) only [go_sem, dec_t, dec_f, w_u32, w_u64, w_u16, w_u8, w_i64, Int.reduceToNat, Int.reducePow, Nat.reducePow, ld_os_ErrNotExist, eq_os_ErrNotExist, d1, d2, ld_os_ENOENT, eq_os_ENOENT]
        exact ⟨trivial, trivial⟩
  · rw [oAssertEr]
    simp (disch := first | omega | (simp only [sZb, sZa, sZd] <;> omega) | (simp (disch := first | omega | (simp only [sZb, sZa, sZd] <;> omega) | fail) only [go_sem]; done) | fail) only [go_sem, dec_t, dec_f, w_u32, w_u64, w_u16, w_u8, w_i64, Int.reduceToNat, Int.reducePow, Nat.reducePow]
    exact ⟨trivial, trivial⟩
def PE (w : World) (C : Nat) (x : Value) (op : List UInt8) (q : Nat × Nat) : Prop := ∃ pb nm, x = .iface T.p_os_PathError (pt pb 0) ∧ bk w pb = some (CB [S op, S nm, er q] T.os_PathError) ∧ C ≤ pb
def NE (w : World) (C : Nat) (q : Nat × Nat) : Prop := q.2 = 0 ∧ C ≤ q.1 ∧ ∃ txt, bk w q.1 = some (CB [S txt] T.errors_errorString)
def four : List Nat := [G.os_ErrNotExist, G.os_ErrExist, G.os_ENOTDIR, G.os_ENOENT]
theorem four_sents {g : Nat} (h : g ∈ four) : g ∈ sents := by
  simp only [four, List.mem_cons, List.not_mem_nil, or_false] at h
  rcases h with h | h | h | h <;> (rw [h]; decide)
theorem kind_path {w : World} {K : Value → World → Prop} {B C : Nat} {m : Nat → Nat × Nat} (hs : Sn w B m) {x : Value} {op : List UInt8} {g : Nat} (hg : g ∈ four) (hx : PE w C x op (m g)) (h : K (.int .i64 (codeOf g)) w) : Cl P Fn.impl_kind #[x] w K := by
  obtain ⟨pb, nm, rfl, hp, hC⟩ := hx
  have hg0 := four_sents hg
  apply S_impl_kind
  unfold F_impl_kind
  have as1 : ∀ (L : Value → Prop), pu P (oAssert (.iface T.p_os_PathError (pt pb 0)) T.error T.p_os_PathError true) L = L (tup [pt pb 0, .bool true]) := fun L => oAssertSame U.p_os_PathError _
  have ld_os_ErrNotExist : ∀ L : Value → World → Prop, st P (oLoad T.error (.pointer (some ⟨G.os_ErrNotExist, 0, none⟩))) w L = L (er (m G.os_ErrNotExist)) w := fun L => hs.load (by decide) L
  have eq_os_ErrNotExist : ∀ L : Value → World → Prop, st P (oBin .eql T.error false false (er (m g)) (er (m G.os_ErrNotExist))) w L = L (.bool (decide (g = G.os_ErrNotExist))) w := fun L => hs.eql hg0 (by decide) L
  have ld_os_ErrExist : ∀ L : Value → World → Prop, st P (oLoad T.error (.pointer (some ⟨G.os_ErrExist, 0, none⟩))) w L = L (er (m G.os_ErrExist)) w := fun L => hs.load (by decide) L
  have eq_os_ErrExist : ∀ L : Value → World → Prop, st P (oBin .eql T.error false false (er (m g)) (er (m G.os_ErrExist))) w L = L (.bool (decide (g = G.os_ErrExist))) w := fun L => hs.eql hg0 (by decide) L
  have ld_os_ENOENT : ∀ L : Value → World → Prop, st P (oLoad T.error (.pointer (some ⟨G.os_ENOENT, 0, none⟩))) w L = L (er (m G.os_ENOENT)) w := fun L => hs.load (by decide) L
  have eq_os_ENOENT : ∀ L : Value → World → Prop, st P (oBin .eql T.error false false (er (m g)) (er (m G.os_ENOENT))) w L = L (.bool (decide (g = G.os_ENOENT))) w := fun L => hs.eql hg0 (by decide) L
  have ld_os_ENOTDIR : ∀ L : Value → World → Prop, st P (oLoad T.error (.pointer (some ⟨G.os_ENOTDIR, 0, none⟩))) w L = L (er (m G.os_ENOTDIR)) w := fun L => hs.load (by decide) L
  have eq_os_ENOTDIR : ∀ L : Value → World → Prop, st P (oBin .eql T.error false false (er (m g)) (er (m G.os_ENOTDIR))) w L = L (.bool (decide (g = G.os_ENOTDIR))) w := fun L => hs.eql hg0 (by decide) L
  have ld_os_EPERM : ∀ L : Value → World → Prop, st P (oLoad T.error (.pointer (some ⟨G.os_EPERM, 0, none⟩))) w L = L (er (m G.os_EPERM)) w := fun L => hs.load (by decide) L
  have eq_os_EPERM : ∀ L : Value → World → Prop, st P (oBin .eql T.error false false (er (m g)) (er (m G.os_EPERM))) w L = L (.bool (decide (g = G.os_EPERM))) w := fun L => hs.eql hg0 (by decide) L
  have ld_os_EIO : ∀ L : Value → World → Prop, st P (oLoad T.error (.pointer (some ⟨G.os_EIO, 0, none⟩))) w L = L (er (m G.os_EIO)) w := fun L => hs.load (by decide) L
  have eq_os_EIO : ∀ L : Value → World → Prop, st P (oBin .eql T.error false false (er (m g)) (er (m G.os_EIO))) w L = L (.bool (decide (g = G.os_EIO))) w := fun L => hs.eql hg0 (by decide) L
  have ld_os_EBADFD : ∀ L : Value → World → Prop, st P (oLoad T.error (.pointer (some ⟨G.os_EBADFD, 0, none⟩))) w L = L (er (m G.os_EBADFD)) w := fun L => hs.load (by decide) L
  have eq_os_EBADFD : ∀ L : Value → World → Prop, st P (oBin .eql T.error false false (er (m g)) (er (m G.os_EBADFD))) w L = L (.bool (decide (g = G.os_EBADFD))) w := fun L => hs.eql hg0 (by decide) L
  have ld_io_EOF : ∀ L : Value → World → Prop, st P (oLoad T.error (.pointer (some ⟨G.io_EOF, 0, none⟩))) w L = L (er (m G.io_EOF)) w := fun L => hs.load (by decide) L
  have eq_io_EOF : ∀ L : Value → World → Prop, st P (oBin .eql T.error false false (er (m g)) (er (m G.io_EOF))) w L = L (.bool (decide (g = G.io_EOF))) w := fun L => hs.eql hg0 (by decide) L
  have ld_io_ErrUnexpectedEOF : ∀ L : Value → World → Prop, st P (oLoad T.error (.pointer (some ⟨G.io_ErrUnexpectedEOF, 0, none⟩))) w L = L (er (m G.io_ErrUnexpectedEOF)) w := fun L => hs.load (by decide) L
  have eq_io_ErrUnexpectedEOF : ∀ L : Value → World → Prop, st P (oBin .eql T.error false false (er (m g)) (er (m G.io_ErrUnexpectedEOF))) w L = L (.bool (decide (g = G.io_ErrUnexpectedEOF))) w := fun L => hs.eql hg0 (by decide) L
  have ld_mem_ErrFileClosed : ∀ L : Value → World → Prop, st P (oLoad T.error (.pointer (some ⟨G.mem_ErrFileClosed, 0, none⟩))) w L = L (er (m G.mem_ErrFileClosed)) w := fun L => hs.load (by decide) L
  have eq_mem_ErrFileClosed : ∀ L : Value → World → Prop, st P (oBin .eql T.error false false (er (m g)) (er (m G.mem_ErrFileClosed))) w L = L (.bool (decide (g = G.mem_ErrFileClosed))) w := fun L => hs.eql hg0 (by decide) L
  have ld_mem_ErrOutOfRange : ∀ L : Value → World → Prop, st P (oLoad T.error (.pointer (some ⟨G.mem_ErrOutOfRange, 0, none⟩))) w L = L (er (m G.mem_ErrOutOfRange)) w := fun L => hs.load (by decide) L
  have eq_mem_ErrOutOfRange : ∀ L : Value → World → Prop, st P (oBin .eql T.error false false (er (m g)) (er (m G.mem_ErrOutOfRange))) w L = L (.bool (decide (g = G.mem_ErrOutOfRange))) w := fun L => hs.eql hg0 (by decide) L
  refine jn_with (fun t w' => t = [er (m g)] ∧ w' = w) ?_ ?_
  · rintro t e w1 ⟨rfl, rfl⟩
    refine jn_with (fun _ _ => False) (fun _ _ _ h => h.elim) ?_
    rw [gs0, oEqlEr]
    simp (disch := first | omega | (simp only [sZb, sZa, sZd] <;> omega) | (simp (disch := first | omega | (simp only [sZb, sZa, sZd] <;> omega) | fail) only [go_sem]; done) | fail) only [go_sem, dec_t, dec_f, w_u32, w_u64, w_u16, w_u8, w_i64, Int.reduceToNat, Int.reducePow, Nat.reducePow]
    refine jn_with (fun t w' => t = [.bool (decide (g = G.os_ErrNotExist ∨ g = G.os_ENOENT))] ∧ w' = w1) ?_ ?_
    · rintro t e w2 ⟨rfl, rfl⟩
      simp only [four, List.mem_cons, List.not_mem_nil, or_false] at hg
      clear hs
      rcases hg with hg | hg | hg | hg
      · have d0 : decide (g = G.os_ErrNotExist ∨ g = G.os_ENOENT) = true := by rw [hg]; decide
        have d_os_ErrExist : decide (g = G.os_ErrExist) = false := by rw [hg]; decide
        have d_os_ENOTDIR : decide (g = G.os_ENOTDIR) = false := by rw [hg]; decide
        have d_os_EPERM : decide (g = G.os_EPERM) = false := by rw [hg]; decide
        have d_os_EIO : decide (g = G.os_EIO) = false := by rw [hg]; decide
        have d_os_EBADFD : decide (g = G.os_EBADFD) = false := by rw [hg]; decide
        have d_io_EOF : decide (g = G.io_EOF) = false := by rw [hg]; decide
        have d_io_ErrUnexpectedEOF : decide (g = G.io_ErrUnexpectedEOF) = false := by rw [hg]; decide
        have d_mem_ErrFileClosed : decide (g = G.mem_ErrFileClosed) = false := by rw [hg]; decide
        have d_mem_ErrOutOfRange : decide (g = G.mem_ErrOutOfRange) = false := by rw [hg]; decide
        have hc : codeOf g = 1 := by rw [hg]; decide
        rw [hc] at h
        simp (disch := first | omega | (simp only [sZb, sZa, sZd] <;> omega) | (simp (disch := first | omega | (simp only [sZb, sZa, sZd] <;> omega) | fail) only [go_sem, d0, ld_os_ErrNotExist, eq_os_ErrNotExist, ld_os_ErrExist, eq_os_ErrExist, ld_os_ENOENT, eq_os_ENOENT, ld_os_ENOTDIR, eq_os_ENOTDIR, ld_os_EPERM, eq_os_EPERM, ld_os_EIO, eq_os_EIO, ld_os_EBADFD, eq_os_EBADFD, ld_io_EOF, eq_io_EOF, ld_io_ErrUnexpectedEOF, eq_io_ErrUnexpectedEOF, ld_mem_ErrFileClosed, eq_mem_ErrFileClosed, ld_mem_ErrOutOfRange, eq_mem_ErrOutOfRange, d_os_ErrExist, d_os_ENOTDIR, d_os_EPERM, d_os_EIO, d_os_EBADFD, d_io_EOF, d_io_ErrUnexpectedEOF, d_mem_ErrFileClosed, d_mem_ErrOutOfRange]; done) | fail) only [go_sem, dec_t, dec_f, w_u32, w_u64, w_u16, w_u8, w_i64, Int.reduceToNat, Int.reducePow, Nat.reducePow, d0, ld_os_ErrNotExist, eq_os_ErrNotExist, ld_os_ErrExist, eq_os_ErrExist, ld_os_ENOENT, eq_os_ENOENT, ld_os_ENOTDIR, eq_os_ENOTDIR, ld_os_EPERM, eq_os_EPERM, ld_os_EIO, eq_os_EIO, ld_os_EBADFD, eq_os_EBADFD, ld_io_EOF, eq_io_EOF, ld_io_ErrUnexpectedEOF, eq_io_ErrUnexpectedEOF, ld_mem_ErrFileClosed, eq_mem_ErrFileClosed, ld_mem_ErrOutOfRange, eq_mem_ErrOutOfRange, d_os_ErrExist, d_os_ENOTDIR, d_os_EPERM, d_os_EIO, d_os_EBADFD, d_io_EOF, d_io_ErrUnexpectedEOF, d_mem_ErrFileClosed, d_mem_ErrOutOfRange]
        exact h
      · have d0 : decide (g = G.os_ErrNotExist ∨ g = G.os_ENOENT) = false := by rw [hg]; decide
        have d_os_ErrExist : decide (g = G.os_ErrExist) = true := by rw [hg]; decide
        have d_os_ENOTDIR : decide (g = G.os_ENOTDIR) = false := by rw [hg]; decide
        have d_os_EPERM : decide (g = G.os_EPERM) = false := by rw [hg]; decide
        have d_os_EIO : decide (g = G.os_EIO) = false := by rw [hg]; decide
        have d_os_EBADFD : decide (g = G.os_EBADFD) = false := by rw [hg]; decide
        have d_io_EOF : decide (g = G.io_EOF) = false := by rw [hg]; decide
        have d_io_ErrUnexpectedEOF : decide (g = G.io_ErrUnexpectedEOF) = false := by rw [hg]; decide
        have d_mem_ErrFileClosed : decide (g = G.mem_ErrFileClosed) = false := by rw [hg]; decide
        have d_mem_ErrOutOfRange : decide (g = G.mem_ErrOutOfRange) = false := by rw [hg]; decide
        have hc : codeOf g = 2 := by rw [hg]; decide
        rw [hc] at h
        simp (disch := first | omega | (simp only [sZb, sZa, sZd] <;> omega) | (simp (disch := first | omega | (simp only [sZb, sZa, sZd] <;> omega) | fail) only [go_sem, d0, ld_os_ErrNotExist, eq_os_ErrNotExist, ld_os_ErrExist, eq_os_ErrExist, ld_os_ENOENT, eq_os_ENOENT, ld_os_ENOTDIR, eq_os_ENOTDIR, ld_os_EPERM, eq_os_EPERM, ld_os_EIO, eq_os_EIO, ld_os_EBADFD, eq_os_EBADFD, ld_io_EOF, eq_io_EOF, ld_io_ErrUnexpectedEOF, eq_io_ErrUnexpectedEOF, ld_mem_ErrFileClosed, eq_mem_ErrFileClosed, ld_mem_ErrOutOfRange, eq_mem_ErrOutOfRange, d_os_ErrExist, d_os_ENOTDIR, d_os_EPERM, d_os_EIO, d_os_EBADFD, d_io_EOF, d_io_ErrUnexpectedEOF, d_mem_ErrFileClosed, d_mem_ErrOutOfRange]; done) | fail) only [go_sem, dec_t, dec_f, w_u32, w_u64, w_u16, w_u8, w_i64, Int.reduceToNat, Int.reducePow, Nat.reducePow, d0, ld_os_ErrNotExist, eq_os_ErrNotExist, ld_os_ErrExist, eq_os_ErrExist, ld_os_ENOENT, eq_os_ENOENT, ld_os_ENOTDIR, eq_os_ENOTDIR, ld_os_EPERM, eq_os_EPERM, ld_os_EIO, eq_os_EIO, ld_os_EBADFD, eq_os_EBADFD, ld_io_EOF, eq_io_EOF, ld_io_ErrUnexpectedEOF, eq_io_ErrUnexpectedEOF, ld_mem_ErrFileClosed, eq_mem_ErrFileClosed, ld_mem_ErrOutOfRange, eq_mem_ErrOutOfRange, d_os_ErrExist, d_os_ENOTDIR, d_os_EPERM, d_os_EIO, d_os_EBADFD, d_io_EOF, d_io_ErrUnexpectedEOF, d_mem_ErrFileClosed, d_mem_ErrOutOfRange]
        exact h
      · have d0 : decide (g = G.os_ErrNotExist ∨ g = G.os_ENOENT) = false := by rw [hg]; decide
        have d_os_ErrExist : decide (g = G.os_ErrExist) = false := by rw [hg]; decide
        have d_os_ENOTDIR : decide (g = G.os_ENOTDIR) = true := by rw [hg]; decide
        have d_os_EPERM : decide (g = G.os_EPERM) = false := by rw [hg]; decide
        have d_os_EIO : decide (g = G.os_EIO) = false := by rw [hg]; decide
        have d_os_EBADFD : decide (g = G.os_EBADFD) = false := by rw [hg]; decide
        have d_io_EOF : decide (g = G.io_EOF) = false := by rw [hg]; decide
        have d_io_ErrUnexpectedEOF : decide (g = G.io_ErrUnexpectedEOF) = false := by rw [hg]; decide
        have d_mem_ErrFileClosed : decide (g = G.mem_ErrFileClosed) = false := by rw [hg]; decide
        have d_mem_ErrOutOfRange : decide (g = G.mem_ErrOutOfRange) = false := by rw [hg]; decide
        have hc : codeOf g = 8 := by rw [hg]; decide
        rw [hc] at h
        simp (disch := first | omega | (simp only [sZb, sZa, sZd] <;> omega) | (simp (disch := first | omega | (simp only [sZb, sZa, sZd] <;> omega) | fail) only [go_sem, d0, ld_os_ErrNotExist, eq_os_ErrNotExist, ld_os_ErrExist, eq_os_ErrExist, ld_os_ENOENT, eq_os_ENOENT, ld_os_ENOTDIR, eq_os_ENOTDIR, ld_os_EPERM, eq_os_EPERM, ld_os_EIO, eq_os_EIO, ld_os_EBADFD, eq_os_EBADFD, ld_io_EOF, eq_io_EOF, ld_io_ErrUnexpectedEOF, eq_io_ErrUnexpectedEOF, ld_mem_ErrFileClosed, eq_mem_ErrFileClosed, ld_mem_ErrOutOfRange, eq_mem_ErrOutOfRange, d_os_ErrExist, d_os_ENOTDIR, d_os_EPERM, d_os_EIO, d_os_EBADFD, d_io_EOF, d_io_ErrUnexpectedEOF, d_mem_ErrFileClosed, d_mem_ErrOutOfRange]; done) | fail) only [go_sem, dec_t, dec_f, w_u32, w_u64, w_u16, w_u8, w_i64, Int.reduceToNat, Int.reducePow, Nat.reducePow, d0, ld_os_ErrNotExist, eq_os_ErrNotExist, ld_os_ErrExist, eq_os_ErrExist, ld_os_ENOENT, eq_os_ENOENT, ld_os_ENOTDIR, eq_os_ENOTDIR, ld_os_EPERM, eq_os_EPERM, ld_os_EIO, eq_os_EIO, ld_os_EBADFD, eq_os_EBADFD, ld_io_EOF, eq_io_EOF, ld_io_ErrUnexpectedEOF, eq_io_ErrUnexpectedEOF, ld_mem_ErrFileClosed, eq_mem_ErrFileClosed, ld_mem_ErrOutOfRange, eq_mem_ErrOutOfRange, d_os_ErrExist, d_os_ENOTDIR, d_os_EPERM, d_os_EIO, d_os_EBADFD, d_io_EOF, d_io_ErrUnexpectedEOF, d_mem_ErrFileClosed, d_mem_ErrOutOfRange]
        exact h
      · have d0 : decide (g = G.os_ErrNotExist ∨ g = G.os_ENOENT) = true := by rw [hg]; decide
        have d_os_ErrExist : decide (g = G.os_ErrExist) = false := by rw [hg]; decide
        have d_os_ENOTDIR : decide (g = G.os_ENOTDIR) = false := by rw [hg]; decide
        have d_os_EPERM : decide (g = G.os_EPERM) = false := by rw [hg]; decide
        have d_os_EIO : decide (g = G.os_EIO) = false := by rw [hg]; decide
        have d_os_EBADFD : decide (g = G.os_EBADFD) = false := by rw [hg]; decide
        have d_io_EOF : decide (g = G.io_EOF) = false := by rw [hg]; decide
        have d_io_ErrUnexpectedEOF : decide (g = G.io_ErrUnexpectedEOF) = false := by rw [hg]; decide
        have d_mem_ErrFileClosed : decide (g = G.mem_ErrFileClosed) = false := by rw [hg]; decide
        have d_mem_ErrOutOfRange : decide (g = G.mem_ErrOutOfRange) = false := by rw [hg]; decide
        have hc : codeOf g = 1 := by rw [hg]; decide
        rw [hc] at h
        simp (disch := first | omega | (simp only [sZb, sZa, sZd] <;> omega) | (simp (disch := first | omega | (simp only [sZb, sZa, sZd] <;> omega) | fail) only [go_sem, d0, ld_os_ErrNotExist, eq_os_ErrNotExist, ld_os_ErrExist, eq_os_ErrExist, ld_os_ENOENT, eq_os_ENOENT, ld_os_ENOTDIR, eq_os_ENOTDIR, ld_os_EPERM, eq_os_EPERM, ld_os_EIO, eq_os_EIO, ld_os_EBADFD, eq_os_EBADFD, ld_io_EOF, eq_io_EOF, ld_io_ErrUnexpectedEOF, eq_io_ErrUnexpectedEOF, ld_mem_ErrFileClosed, eq_mem_ErrFileClosed, ld_mem_ErrOutOfRange, eq_mem_ErrOutOfRange, d_os_ErrExist, d_os_ENOTDIR, d_os_EPERM, d_os_EIO, d_os_EBADFD, d_io_EOF, d_io_ErrUnexpectedEOF, d_mem_ErrFileClosed, d_mem_ErrOutOfRange]; done) | fail) only [go_sem, dec_t, dec_f, w_u32, w_u64, w_u16, w_u8, w_i64, Int.reduceToNat, Int.reducePow, Nat.reducePow, d0, ld_os_ErrNotExist, eq_os_ErrNotExist, ld_os_ErrExist, eq_os_ErrExist, ld_os_ENOENT, eq_os_ENOENT, ld_os_ENOTDIR, eq_os_ENOTDIR, ld_os_EPERM, eq_os_EPERM, ld_os_EIO, eq_os_EIO, ld_os_EBADFD, eq_os_EBADFD, ld_io_EOF, eq_io_EOF, ld_io_ErrUnexpectedEOF, eq_io_ErrUnexpectedEOF, ld_mem_ErrFileClosed, eq_mem_ErrFileClosed, ld_mem_ErrOutOfRange, eq_mem_ErrOutOfRange, d_os_ErrExist, d_os_ENOTDIR, d_os_EPERM, d_os_EIO, d_os_EBADFD, d_io_EOF, d_io_ErrUnexpectedEOF, d_mem_ErrFileClosed, d_mem_ErrOutOfRange]
        exact h
    · by_cases c1 : g = G.os_ErrNotExist
      · have d1 : decide (g = G.os_ErrNotExist) = true := by simp [c1]
        have d2 : decide (g = G.os_ErrNotExist ∨ g = G.os_ENOENT) = true := by simp [c1]
        simp (disch := first | omega | (simp only [sZb, sZa, sZd] <;> omega) | (simp (disch := first | omega | (simp only [sZb, sZa, sZd] <;> omega) | fail) only [go_sem, ld_os_ErrNotExist, eq_os_ErrNotExist, d1, d2]; done) | fail) only [go_sem, dec_t, dec_f, w_u32, w_u64, w_u16, w_u8, w_i64, Int.reduceToNat, Int.reducePow, Nat.reducePow, ld_os_ErrNotExist, eq_os_ErrNotExist, d1, d2]
        exact ⟨trivial, trivial⟩
      · have d1 : decide (g = G.os_ErrNotExist) = false := by simp [c1]
        have d2 : decide (g = G.os_ErrNotExist ∨ g = G.os_ENOENT) = decide (g = G.os_ENOENT) := by simp [c1]
        simp (disch := first | omega | (simp only [sZb, sZa, sZd] <;> omega) | (simp (disch := first | omega | (simp only [sZb, sZa, sZd] <;> omega) | fail) only [go_sem, ld_os_ErrNotExist, eq_os_ErrNotExist, d1, d2, ld_os_ENOENT, eq_os_ENOENT]; done) | fail) only [go_sem, dec_t, dec_f, w_u32, w_u64, w_u16, w_u8, w_i64, Int.reduceToNat, Int.reducePow, Nat.reducePow, ld_os_ErrNotExist, eq_os_ErrNotExist, d1, d2, ld_os_ENOENT, eq_os_ENOENT]
        exact ⟨trivial, trivial⟩
  · rw [as1]
    simp (disch := first | omega | (simp only [sZb, sZa, sZd] <;> omega) | (simp (disch := first | omega | (simp only [sZb, sZa, sZd] <;> omega) | fail) only [go_sem, hp]; done) | fail) only [go_sem, dec_t, dec_f, w_u32, w_u64, w_u16, w_u8, w_i64, Int.reduceToNat, Int.reducePow, Nat.reducePow, hp]
    refine jn_with (fun t w' => t = [.bool true] ∧ w' = w) ?_ ?_
    · rintro t e w1 ⟨rfl, rfl⟩
      simp (disch := first | omega | (simp only [sZb, sZa, sZd] <;> omega) | (simp (disch := first | omega | (simp only [sZb, sZa, sZd] <;> omega) | fail) only [go_sem, hp]; done) | fail) only [go_sem, dec_t, dec_f, w_u32, w_u64, w_u16, w_u8, w_i64, Int.reduceToNat, Int.reducePow, Nat.reducePow, hp]
      exact ⟨trivial, trivial⟩
    · simp only [four, List.mem_cons, List.not_mem_nil, or_false] at hg
      clear hs
      rcases hg with hg | hg | hg | hg
      · have d_os_ErrNotExist : decide (g = G.os_ErrNotExist) = true := by rw [hg]; decide
        simp (disch := first | omega | (simp only [sZb, sZa, sZd] <;> omega) | (simp (disch := first | omega | (simp only [sZb, sZa, sZd] <;> omega) | fail) only [go_sem, ld_os_ErrNotExist, eq_os_ErrNotExist, ld_os_ErrExist, eq_os_ErrExist, ld_os_ENOENT, eq_os_ENOENT, ld_os_ENOTDIR, eq_os_ENOTDIR, ld_os_EPERM, eq_os_EPERM, ld_os_EIO, eq_os_EIO, ld_os_EBADFD, eq_os_EBADFD, ld_io_EOF, eq_io_EOF, ld_io_ErrUnexpectedEOF, eq_io_ErrUnexpectedEOF, ld_mem_ErrFileClosed, eq_mem_ErrFileClosed, ld_mem_ErrOutOfRange, eq_mem_ErrOutOfRange, d_os_ErrNotExist]; done) | fail) only [go_sem, dec_t, dec_f, w_u32, w_u64, w_u16, w_u8, w_i64, Int.reduceToNat, Int.reducePow, Nat.reducePow, ld_os_ErrNotExist, eq_os_ErrNotExist, ld_os_ErrExist, eq_os_ErrExist, ld_os_ENOENT, eq_os_ENOENT, ld_os_ENOTDIR, eq_os_ENOTDIR, ld_os_EPERM, eq_os_EPERM, ld_os_EIO, eq_os_EIO, ld_os_EBADFD, eq_os_EBADFD, ld_io_EOF, eq_io_EOF, ld_io_ErrUnexpectedEOF, eq_io_ErrUnexpectedEOF, ld_mem_ErrFileClosed, eq_mem_ErrFileClosed, ld_mem_ErrOutOfRange, eq_mem_ErrOutOfRange, d_os_ErrNotExist]
        exact ⟨trivial, trivial⟩
      · have d_os_ErrNotExist : decide (g = G.os_ErrNotExist) = false := by rw [hg]; decide
        have d_os_ErrExist : decide (g = G.os_ErrExist) = true := by rw [hg]; decide
        simp (disch := first | omega | (simp only [sZb, sZa, sZd] <;> omega) | (simp (disch := first | omega | (simp only [sZb, sZa, sZd] <;> omega) | fail) only [go_sem, ld_os_ErrNotExist, eq_os_ErrNotExist, ld_os_ErrExist, eq_os_ErrExist, ld_os_ENOENT, eq_os_ENOENT, ld_os_ENOTDIR, eq_os_ENOTDIR, ld_os_EPERM, eq_os_EPERM, ld_os_EIO, eq_os_EIO, ld_os_EBADFD, eq_os_EBADFD, ld_io_EOF, eq_io_EOF, ld_io_ErrUnexpectedEOF, eq_io_ErrUnexpectedEOF, ld_mem_ErrFileClosed, eq_mem_ErrFileClosed, ld_mem_ErrOutOfRange, eq_mem_ErrOutOfRange, d_os_ErrNotExist, d_os_ErrExist]; done) | fail) only [go_sem, dec_t, dec_f, w_u32, w_u64, w_u16, w_u8, w_i64, Int.reduceToNat, Int.reducePow, Nat.reducePow, ld_os_ErrNotExist, eq_os_ErrNotExist, ld_os_ErrExist, eq_os_ErrExist, ld_os_ENOENT, eq_os_ENOENT, ld_os_ENOTDIR, eq_os_ENOTDIR, ld_os_EPERM, eq_os_EPERM, ld_os_EIO, eq_os_EIO, ld_os_EBADFD, eq_os_EBADFD, ld_io_EOF, eq_io_EOF, ld_io_ErrUnexpectedEOF, eq_io_ErrUnexpectedEOF, ld_mem_ErrFileClosed, eq_mem_ErrFileClosed, ld_mem_ErrOutOfRange, eq_mem_ErrOutOfRange, d_os_ErrNotExist, d_os_ErrExist]
        exact ⟨trivial, trivial⟩
      · have d_os_ErrNotExist : decide (g = G.os_ErrNotExist) = false := by rw [hg]; decide
        have d_os_ErrExist : decide (g = G.os_ErrExist) = false := by rw [hg]; decide
        have d_os_ENOTDIR : decide (g = G.os_ENOTDIR) = true := by rw [hg]; decide
        simp (disch := first | omega | (simp only [sZb, sZa, sZd] <;> omega) | (simp (disch := first | omega | (simp only [sZb, sZa, sZd] <;> omega) | fail) only [go_sem, ld_os_ErrNotExist, eq_os_ErrNotExist, ld_os_ErrExist, eq_os_ErrExist, ld_os_ENOENT, eq_os_ENOENT, ld_os_ENOTDIR, eq_os_ENOTDIR, ld_os_EPERM, eq_os_EPERM, ld_os_EIO, eq_os_EIO, ld_os_EBADFD, eq_os_EBADFD, ld_io_EOF, eq_io_EOF, ld_io_ErrUnexpectedEOF, eq_io_ErrUnexpectedEOF, ld_mem_ErrFileClosed, eq_mem_ErrFileClosed, ld_mem_ErrOutOfRange, eq_mem_ErrOutOfRange, d_os_ErrNotExist, d_os_ErrExist, d_os_ENOTDIR]; done) | fail) only [go_sem, dec_t, dec_f, w_u32, w_u64, w_u16, w_u8, w_i64, Int.reduceToNat, Int.reducePow, Nat.reducePow, ld_os_ErrNotExist, eq_os_ErrNotExist, ld_os_ErrExist, eq_os_ErrExist, ld_os_ENOENT, eq_os_ENOENT, ld_os_ENOTDIR, eq_os_ENOTDIR, ld_os_EPERM, eq_os_EPERM, ld_os_EIO, eq_os_EIO, ld_os_EBADFD, eq_os_EBADFD, ld_io_EOF, eq_io_EOF, ld_io_ErrUnexpectedEOF, eq_io_ErrUnexpectedEOF, ld_mem_ErrFileClosed, eq_mem_ErrFileClosed, ld_mem_ErrOutOfRange, eq_mem_ErrOutOfRange, d_os_ErrNotExist, d_os_ErrExist, d_os_ENOTDIR]
        exact ⟨trivial, trivial⟩
      · have d_os_ErrNotExist : decide (g = G.os_ErrNotExist) = false := by rw [hg]; decide
        have d_os_ErrExist : decide (g = G.os_ErrExist) = false := by rw [hg]; decide
        have d_os_ENOTDIR : decide (g = G.os_ENOTDIR) = false := by rw [hg]; decide
        have d_os_ENOENT : decide (g = G.os_ENOENT) = true := by rw [hg]; decide
        simp (disch := first | omega | (simp only [sZb, sZa, sZd] <;> omega) | (simp (disch := first | omega | (simp only [sZb, sZa, sZd] <;> omega) | fail) only [go_sem, ld_os_ErrNotExist, eq_os_ErrNotExist, ld_os_ErrExist, eq_os_ErrExist, ld_os_ENOENT, eq_os_ENOENT, ld_os_ENOTDIR, eq_os_ENOTDIR, ld_os_EPERM, eq_os_EPERM, ld_os_EIO, eq_os_EIO, ld_os_EBADFD, eq_os_EBADFD, ld_io_EOF, eq_io_EOF, ld_io_ErrUnexpectedEOF, eq_io_ErrUnexpectedEOF, ld_mem_ErrFileClosed, eq_mem_ErrFileClosed, ld_mem_ErrOutOfRange, eq_mem_ErrOutOfRange, d_os_ErrNotExist, d_os_ErrExist, d_os_ENOTDIR, d_os_ENOENT]; done) | fail) only [go_sem, dec_t, dec_f, w_u32, w_u64, w_u16, w_u8, w_i64, Int.reduceToNat, Int.reducePow, Nat.reducePow, ld_os_ErrNotExist, eq_os_ErrNotExist, ld_os_ErrExist, eq_os_ErrExist, ld_os_ENOENT, eq_os_ENOENT, ld_os_ENOTDIR, eq_os_ENOTDIR, ld_os_EPERM, eq_os_EPERM, ld_os_EIO, eq_os_EIO, ld_os_EBADFD, eq_os_EBADFD, ld_io_EOF, eq_io_EOF, ld_io_ErrUnexpectedEOF, eq_io_ErrUnexpectedEOF, ld_mem_ErrFileClosed, eq_mem_ErrFileClosed, ld_mem_ErrOutOfRange, eq_mem_ErrOutOfRange, d_os_ErrNotExist, d_os_ErrExist, d_os_ENOTDIR, d_os_ENOENT]
        exact ⟨trivial, trivial⟩
def opCode (op : List UInt8) : Int := if op = [114, 101, 97, 100, 100, 105, 114] then 8 else if op = [116, 114, 117, 110, 99, 97, 116, 101] ∨ op = [119, 114, 105, 116, 101] then 6 else 13
theorem kind_new {w : World} {K : Value → World → Prop} {B C : Nat} {m : Nat → Nat × Nat} (hs : Sn w B m) (hBC : B ≤ C) {x : Value} {op : List UInt8} {q : Nat × Nat} (hq : NE w C q) (hx : PE w C x op q) (h : K (.int .i64 (opCode op)) w) : Cl P Fn.impl_kind #[x] w K := by
  obtain ⟨pb, nm, rfl, hp, hC⟩ := hx
  obtain ⟨ib, i0⟩ := q
  obtain ⟨q0, qB, txt, hi⟩ := hq
  simp only at q0 qB hi
  subst q0
  apply S_impl_kind
  unfold F_impl_kind
  have eq : ∀ {g : Nat}, g ∈ sents → ∀ (L : Value → World → Prop), st P (oBin .eql T.error false false (er (ib, 0)) (er (m g))) w L = L (.bool false) w := fun hg L => stEqlNew hs hi (by omega) hg L
  have as1 : ∀ (L : Value → Prop), pu P (oAssert (.iface T.p_os_PathError (pt pb 0)) T.error T.p_os_PathError true) L = L (tup [pt pb 0, .bool true]) := fun L => oAssertSame U.p_os_PathError _
  have l1 := fun L => hs.load (g := G.os_ErrNotExist) (by decide) L
  have l2 := fun L => hs.load (g := G.os_ErrExist) (by decide) L
  have l3 := fun L => hs.load (g := G.os_ENOTDIR) (by decide) L
  have l4 := fun L => hs.load (g := G.os_ENOENT) (by decide) L
  have e1 := @eq G.os_ErrNotExist (by decide)
  have e2 := @eq G.os_ErrExist (by decide)
  have e3 := @eq G.os_ENOTDIR (by decide)
  have e4 := @eq G.os_ENOENT (by decide)
  refine jn_with (fun _ _ => False) (fun _ _ _ h => h.elim) ?_
  rw [as1]
  simp (disch := first | omega | (simp only [sZb, sZa, sZd] <;> omega) | (simp (disch := first | omega | (simp only [sZb, sZa, sZd] <;> omega) | fail) only [go_sem, hp]; done) | fail) only [go_sem, dec_t, dec_f, w_u32, w_u64, w_u16, w_u8, w_i64, Int.reduceToNat, Int.reducePow, Nat.reducePow, hp]
  refine jn_with (fun t w' => t = [.bool false] ∧ w' = w) ?_ ?_
  · rintro t e w1 ⟨rfl, rfl⟩
    simp (disch := first | omega | (simp only [sZb, sZa, sZd] <;> omega) | (simp (disch := first | omega | (simp only [sZb, sZa, sZd] <;> omega) | fail) only [go_sem]; done) | fail) only [go_sem, dec_t, dec_f, w_u32, w_u64, w_u16, w_u8, w_i64, Int.reduceToNat, Int.reducePow, Nat.reducePow]
    unfold opCode at h
    by_cases c1 : op = [114, 101, 97, 100, 100, 105, 114]
    · rw [if_pos c1] at h
      refine jn_with (fun _ _ => False) (fun _ _ _ h => h.elim) ?_
      simp (disch := first | omega | (simp only [sZb, sZa, sZd] <;> omega) | (simp (disch := first | omega | (simp only [sZb, sZa, sZd] <;> omega) | fail) only [go_sem, hp, c1, decide_true]; done) | fail) only [go_sem, dec_t, dec_f, w_u32, w_u64, w_u16, w_u8, w_i64, Int.reduceToNat, Int.reducePow, Nat.reducePow, hp, c1, decide_true]
      exact h
    · rw [if_neg c1] at h
      by_cases c2 : op = [116, 114, 117, 110, 99, 97, 116, 101] ∨ op = [119, 114, 105, 116, 101]
      · rw [if_pos c2] at h
        refine jn_with (fun _ _ => False) (fun _ _ _ h => h.elim) ?_
        simp (disch := first | omega | (simp only [sZb, sZa, sZd] <;> omega) | (simp (disch := first | omega | (simp only [sZb, sZa, sZd] <;> omega) | fail) only [go_sem, hp, c1, decide_false]; done) | fail) only [go_sem, dec_t, dec_f, w_u32, w_u64, w_u16, w_u8, w_i64, Int.reduceToNat, Int.reducePow, Nat.reducePow, hp, c1, decide_false]
        refine jn_with (fun t w' => t = [.bool true] ∧ w' = w1) ?_ ?_
        · rintro t e w2 ⟨rfl, rfl⟩
          simp (disch := first | omega | (simp only [sZb, sZa, sZd] <;> omega) | (simp (disch := first | omega | (simp only [sZb, sZa, sZd] <;> omega) | fail) only [go_sem]; done) | fail) only [go_sem, dec_t, dec_f, w_u32, w_u64, w_u16, w_u8, w_i64, Int.reduceToNat, Int.reducePow, Nat.reducePow]
          exact h
        · by_cases c3 : op = [116, 114, 117, 110, 99, 97, 116, 101]
          · have d3 : decide (op = [116, 114, 117, 110, 99, 97, 116, 101]) = true := by rw [c3]; decide
            simp (disch := first | omega | (simp only [sZb, sZa, sZd] <;> omega) | (simp (disch := first | omega | (simp only [sZb, sZa, sZd] <;> omega) | fail) only [go_sem, d3]; done) | fail) only [go_sem, dec_t, dec_f, w_u32, w_u64, w_u16, w_u8, w_i64, Int.reduceToNat, Int.reducePow, Nat.reducePow, d3]
            exact ⟨trivial, trivial⟩
          · have c4 := c2.resolve_left c3
            have d3 : decide (op = [116, 114, 117, 110, 99, 97, 116, 101]) = false := decide_eq_false c3
            have d4 : decide (op = [119, 114, 105, 116, 101]) = true := by rw [c4]; decide
            simp (disch := first | omega | (simp only [sZb, sZa, sZd] <;> omega) | (simp (disch := first | omega | (simp only [sZb, sZa, sZd] <;> omega) | fail) only [go_sem, d3, d4]; done) | fail) only [go_sem, dec_t, dec_f, w_u32, w_u64, w_u16, w_u8, w_i64, Int.reduceToNat, Int.reducePow, Nat.reducePow, d3, d4]
            exact ⟨trivial, trivial⟩
      · rw [if_neg c2] at h
        refine jn_with (fun t w' => w' = w1) ?_ ?_
        · rintro t e w2 rfl
          exact h
        · simp (disch := first | omega | (simp only [sZb, sZa, sZd] <;> omega) | (simp (disch := first | omega | (simp only [sZb, sZa, sZd] <;> omega) | fail) only [go_sem, hp, c1, decide_false]; done) | fail) only [go_sem, dec_t, dec_f, w_u32, w_u64, w_u16, w_u8, w_i64, Int.reduceToNat, Int.reducePow, Nat.reducePow, hp, c1, decide_false]
          have d3 : decide (op = [116, 114, 117, 110, 99, 97, 116, 101]) = false := decide_eq_false fun e => c2 (.inl e)
          have d4 : decide (op = [119, 114, 105, 116, 101]) = false := decide_eq_false fun e => c2 (.inr e)
          refine jn_with (fun t w' => t = [.bool false] ∧ w' = w1) ?_ ?_
          · rintro t e w2 ⟨rfl, rfl⟩
            simp (disch := first | omega | (simp only [sZb, sZa, sZd] <;> omega) | (simp (disch := first | omega | (simp only [sZb, sZa, sZd] <;> omega) | fail) only [go_sem]; done) | fail) only [go_sem, dec_t, dec_f, w_u32, w_u64, w_u16, w_u8, w_i64, Int.reduceToNat, Int.reducePow, Nat.reducePow]
          · simp (disch := first | omega | (simp only [sZb, sZa, sZd] <;> omega) | (simp (disch := first | omega | (simp only [sZb, sZa, sZd] <;> omega) | fail) only [go_sem, d3, d4]; done) | fail) only [go_sem, dec_t, dec_f, w_u32, w_u64, w_u16, w_u8, w_i64, Int.reduceToNat, Int.reducePow, Nat.reducePow, d3, d4]
            exact ⟨trivial, trivial⟩
  · simp (disch := first | omega | (simp only [sZb, sZa, sZd] <;> omega) | (simp (disch := first | omega | (simp only [sZb, sZa, sZd] <;> omega) | fail) only [go_sem, l1, l2, l3, l4, e1, e2, e3, e4]; done) | fail) only [go_sem, dec_t, dec_f, w_u32, w_u64, w_u16, w_u8, w_i64, Int.reduceToNat, Int.reducePow, Nat.reducePow, l1, l2, l3, l4, e1, e2, e3, e4]
    exact ⟨trivial, trivial⟩
def ErrV (w : World) (C : Nat) (m : Nat → Nat × Nat) (e : Int) (x : Value) : Prop :=
  (e = 0 ∧ x = .nilIface) ∨ (∃ g ∈ sents, x = er (m g) ∧ e = codeOf g) ∨ (∃ g ∈ four, ∃ op, PE w C x op (m g) ∧ e = codeOf g) ∨ ∃ op q, PE w C x op q ∧ NE w C q ∧ e = opCode op
theorem kind_err {w : World} {K : Value → World → Prop} {B C : Nat} {m : Nat → Nat × Nat} (hs : Sn w B m) (hBC : B ≤ C) {e : Int} {x : Value} (hx : ErrV w C m e x) (h : K (.int .i64 e) w) : Cl P Fn.impl_kind #[x] w K := by
  rcases hx with ⟨rfl, rfl⟩ | ⟨g, hg, rfl, rfl⟩ | ⟨g, hg, op, hp, rfl⟩ | ⟨op, q, hp, hq, rfl⟩
  · exact kind_nil h
  · exact kind_sent hs hg h
  · exact kind_path hs hg hp h
  · exact kind_new hs hBC hq hp h
theorem PE.kp {w w' : World} {C : Nat} {x : Value} {op : List UInt8} {q : Nat × Nat} {S : Nat → Prop} (h : PE w C x op q) (k : Kp w w' S) (hS : ∀ b, C ≤ b → b < w.heap.size → ¬ S b) : PE w' C x op q := by
  obtain ⟨pb, nm, e, h1, h2⟩ := h
  exact ⟨pb, nm, e, (k.block pb (bk_lt h1) (hS pb h2 (bk_lt h1))).trans h1, h2⟩
theorem NE.kp {w w' : World} {C : Nat} {q : Nat × Nat} {S : Nat → Prop} (h : NE w C q) (k : Kp w w' S) (hS : ∀ b, C ≤ b → b < w.heap.size → ¬ S b) : NE w' C q := by
  obtain ⟨h0, h2, txt, h1⟩ := h
  exact ⟨h0, h2, txt, (k.block q.1 (bk_lt h1) (hS q.1 h2 (bk_lt h1))).trans h1⟩
theorem ErrV.kp {w w' : World} {C : Nat} {m : Nat → Nat × Nat} {e : Int} {x : Value} {S : Nat → Prop} (h : ErrV w C m e x) (k : Kp w w' S) (hS : ∀ b, C ≤ b → b < w.heap.size → ¬ S b) : ErrV w' C m e x := by
  rcases h with h | h | ⟨g, hg, op, hp, he⟩ | ⟨op, q, hp, hq, he⟩
  · exact .inl h
  · exact .inr (.inl h)
  · exact .inr (.inr (.inl ⟨g, hg, op, hp.kp k hS, he⟩))
  · exact .inr (.inr (.inr ⟨op, q, hp.kp k hS, hq.kp k hS, he⟩))
theorem ErrV.old {w w' : World} {C : Nat} {m : Nat → Nat × Nat} {e : Int} {x : Value} (h : ErrV w C m e x) (k : Below w.heap.size w w') : ErrV w' C m e x := h.kp (Kp.of_below k fun b => w.heap.size ≤ b) fun b _ hb => by omega
theorem ErrV.less {w : World} {C C' : Nat} {m : Nat → Nat × Nat} {e : Int} {x : Value} (h : ErrV w C m e x) (hC : C' ≤ C) : ErrV w C' m e x := by
  rcases h with h | h | ⟨g, hg, op, ⟨pb, nm, e1, h1, h2⟩, he⟩ | ⟨op, q, ⟨pb, nm, e1, h1, h2⟩, ⟨g0, g2, g3⟩, he⟩
  · exact .inl h
  · exact .inr (.inl h)
  · exact .inr (.inr (.inl ⟨g, hg, op, ⟨pb, nm, e1, h1, by omega⟩, he⟩))
  · exact .inr (.inr (.inr ⟨op, q, ⟨pb, nm, e1, h1, by omega⟩, ⟨g0, by omega, g3⟩, he⟩))
theorem codeOf_ne {g : Nat} (h : g ∈ sents) : codeOf g ≠ 0 := by
  simp only [sents, List.mem_cons, List.not_mem_nil, or_false] at h
  rcases h with h | h | h | h | h | h | h | h | h | h | h <;> (rw [h]; decide)
theorem opCode_ne (op : List UInt8) : opCode op ≠ 0 := by
  unfold opCode
  split
  · decide
  · split <;> decide
theorem ErrV.nil_iff {w : World} {C : Nat} {m : Nat → Nat × Nat} {e : Int} {x : Value} (h : ErrV w C m e x) : (e = 0 ∧ x = .nilIface) ∨ (e ≠ 0 ∧ ∃ t y, x = .iface t y) := by
  rcases h with h | ⟨g, hg, rfl, rfl⟩ | ⟨g, hg, op, ⟨pb, nm, rfl, h1, h2⟩, rfl⟩ | ⟨op, q, ⟨pb, nm, rfl, h1, h2⟩, hq, rfl⟩
  · exact .inl h
  · exact .inr ⟨codeOf_ne hg, _, _, rfl⟩
  · exact .inr ⟨codeOf_ne (four_sents hg), _, _, rfl⟩
  · exact .inr ⟨opCode_ne op, _, _, rfl⟩
theorem ErrV.nil (w : World) (C : Nat) (m : Nat → Nat × Nat) : ErrV w C m 0 .nilIface := .inl ⟨rfl, rfl⟩
end Go.Proofs.YteblpejgenehfaaDoor.X
end
section
namespace Go.Proofs.YteblpejgenehfaaDoor.X
open Go Go.X Go.Proofs Go.RowKit
def errV (m : Nat → Nat × Nat) (k : Nat) : Value := if k = 4 then er (m G.io_EOF) else if k = 5 then er (m G.io_ErrUnexpectedEOF) else .nilIface
structure FX where
  bytes : List UInt8
  pos : Int
  cl : Bool
  ro : Bool
  rdc : Int
  nm : List UInt8
  md : Value
  dir : Bool
  mode : Int
  mt : Int
  uid : Int
  gid : Int
structure FH (w : World) (B f d : Nat) (v : Value) (s : FX) : Prop where
  hf : B ≤ f
  hd : B ≤ d
  fd : f ≠ d
  bf : bk w f = some (CB [.int .i64 s.pos, .int .i64 s.rdc, .bool s.cl, .bool s.ro, pt d 0] T.mem_File)
  bd : bk w d = some (CB [S s.nm, v, s.md, .bool s.dir, .int .u32 s.mode, .int .i64 s.mt, .int .i64 s.uid, .int .i64 s.gid] T.mem_FileData)
  md1 : s.md.oneCell' = true
  own : w.ownsRow B T.uint8 1 v s.bytes.length (s.bytes.map byt)
  nf : v.ownBlock ≠ some f
  nd : v.ownBlock ≠ some d
theorem FH.lt {w : World} {B f d : Nat} {v : Value} {s : FX} (h : FH w B f d v s) : f < w.heap.size ∧ d < w.heap.size := ⟨bk_lt h.bf, bk_lt h.bd⟩
theorem FH.kept {w w' : World} {B f d : Nat} {v : Value} {s : FX} (h : FH w B f d v s) {R : Nat → Prop} (k : Kp w w' R) (hR : ∀ x, Of f d v x → ¬ R x) : FH w' B f d v s := by
  obtain ⟨l1, l2⟩ := h.lt
  refine ⟨h.hf, h.hd, h.fd, ?_, ?_, h.md1, own_kp h.own k fun x hx => hR x (.inr (.inr hx)), h.nf, h.nd⟩
  · rw [k.block f l1 (hR f (.inl rfl))]; exact h.bf
  · rw [k.block d l2 (hR d (.inr (.inl rfl)))]; exact h.bd
theorem FH.old {w w' : World} {B f d : Nat} {v : Value} {s : FX} (h : FH w B f d v s) (hb : Below w.heap.size w w') : FH w' B f d v s := by
  refine h.kept (R := fun x => w.heap.size ≤ x) ⟨hb.os, hb.tape, hb.output, hb.size, fun k hk _ => hb.block k hk⟩ fun x hx => ?_
  obtain ⟨l1, l2⟩ := h.lt
  rcases hx with rfl | rfl | hx
  · omega
  · omega
  · have := (own_lt h.own x hx).2; omega
theorem FH.below {w w' : World} {B f d : Nat} {v : Value} {s : FX} (h : FH w B f d v s) (k : Kp w w' (Of f d v)) : Below B w w' := by
  refine k.below (fun x hx hs => ?_) (by have := h.lt.1; have := h.hf; omega)
  rcases hs with rfl | rfl | hs
  · exact absurd h.hf (by omega)
  · exact absurd h.hd (by omega)
  · have := (own_lt h.own x hs).1; omega
theorem FH.setHd {w : World} {B f d : Nat} {v : Value} {s : FX} (h : FH w B f d v s) (p r : Int) (c o : Bool) : FH (setb w f (CB [.int .i64 p, .int .i64 r, .bool c, .bool o, pt d 0] T.mem_File)) B f d v { s with pos := p, rdc := r, cl := c, ro := o } := by
  obtain ⟨l1, l2⟩ := h.lt
  have k := Kp.setb w f (CB [.int .i64 p, .int .i64 r, .bool c, .bool o, pt d 0] T.mem_File)
  refine ⟨h.hf, h.hd, h.fd, bk_setb_eq _ _ _ _ rfl l1, ?_, h.md1, own_kp h.own k fun x hx e => h.nf (by rw [hx, e]), h.nf, h.nd⟩
  rw [bk_setb_ne _ _ _ _ (Ne.symm h.fd)]
  exact h.bd
theorem FH.setPos {w : World} {B f d : Nat} {v : Value} {s : FX} (h : FH w B f d v s) (p : Int) : FH (setb w f (CB [.int .i64 p, .int .i64 s.rdc, .bool s.cl, .bool s.ro, pt d 0] T.mem_File)) B f d v { s with pos := p } := h.setHd p s.rdc s.cl s.ro
def seekX (s : FX) (off wh : Int) : Int := if wh = 0 then off else if wh = 1 then s.pos + off else if wh = 2 then s.bytes.length + off else s.pos
theorem seek_fx {w : World} {K : Value → World → Prop} {B f d : Nat} {v : Value} {s : FX} {off wh : Int} (h : FH w B f d v s) (hc : s.cl = false) (h1 : -4611686018427387904 ≤ off ∧ off ≤ 4611686018427387903) (h2 : -4611686018427387904 ≤ s.pos ∧ s.pos ≤ 4611686018427387903) (h3 : s.bytes.length ≤ 4611686018427387903)
    (hk : ∀ w', FH w' B f d v { s with pos := seekX s off wh } → Kp w w' (Of f d v) → K (tup [.int .i64 (seekX s off wh), .nilIface]) w') : Cl P Fn.mem_File_Seek #[pt f 0, .int .i64 off, .int .i64 wh] w K := by
  apply S_mem_File_Seek
  unfold F_mem_File_Seek
  have hf := h.bf
  have hd := h.bd
  have hmd := h.md1
  obtain ⟨l1, l2⟩ := h.lt
  have hfd := h.fd
  obtain ⟨a, cap, rfl⟩ := own_slice h.own
  have fin : ∀ p : Int, seekX s off wh = p → ∀ w', w' = setb w f (CB [.int .i64 p, .int .i64 s.rdc, .bool s.cl, .bool s.ro, pt d 0] T.mem_File) → K (tup [.int .i64 p, .nilIface]) w' := fun p e w' e2 => by
    subst e
    subst e2
    have kp := Kp.setb w f (CB [.int .i64 (seekX s off wh), .int .i64 s.rdc, .bool s.cl, .bool s.ro, pt d 0] T.mem_File)
    exact hk _ (h.setPos _) ⟨kp.os, kp.tape, kp.output, kp.size, fun k hk hn => kp.block k hk fun e3 => hn (.inl e3)⟩
  refine jn_with (fun t w' => w' = w) ?_ ?_
  · rintro t e w1 rfl
    refine jn_with (fun t w' => w' = setb w1 f (CB [.int .i64 (seekX s off wh), .int .i64 s.rdc, .bool s.cl, .bool s.ro, pt d 0] T.mem_File)) ?_ ?_
    · rintro t e w2 e2
      have hf2 : bk w2 f = some (CB [.int .i64 (seekX s off wh), .int .i64 s.rdc, .bool s.cl, .bool s.ro, pt d 0] T.mem_File) := by rw [e2]; exact bk_setb_eq _ _ _ _ rfl l1
      simp (disch := first | omega | (simp only [sZb, sZa, sZd] <;> omega) | (simp (disch := first | omega | (simp only [sZb, sZa, sZd] <;> omega) | fail) only [go_sem, hf2]; done) | fail) only [go_sem, dec_t, dec_f, w_u32, w_u64, w_u16, w_u8, w_i64, Int.reduceToNat, Int.reducePow, Nat.reducePow, hf2]
      exact fin _ rfl _ e2
    · by_cases c0 : wh = 0
      · simp (disch := first | omega | (simp only [sZb, sZa, sZd] <;> omega) | (simp (disch := first | omega | (simp only [sZb, sZa, sZd] <;> omega) | fail) only [go_sem, c0, hf, decide_true]; done) | fail) only [go_sem, dec_t, dec_f, w_u32, w_u64, w_u16, w_u8, w_i64, Int.reduceToNat, Int.reducePow, Nat.reducePow, c0, hf, decide_true]
        simp [seekX]
      by_cases c1 : wh = 1
      · simp (disch := first | omega | (simp only [sZb, sZa, sZd] <;> omega) | (simp (disch := first | omega | (simp only [sZb, sZa, sZd] <;> omega) | fail) only [go_sem, c0, c1, hf, decide_true, decide_false]; done) | fail) only [go_sem, dec_t, dec_f, w_u32, w_u64, w_u16, w_u8, w_i64, Int.reduceToNat, Int.reducePow, Nat.reducePow, c0, c1, hf, decide_true, decide_false]
        simp [seekX]
      by_cases c2 : wh = 2
      · simp (disch := first | omega | (simp only [sZb, sZa, sZd] <;> omega) | (simp (disch := first | omega | (simp only [sZb, sZa, sZd] <;> omega) | fail) only [go_sem, c0, c1, c2, hf, hd, decide_true, decide_false]; done) | fail) only [go_sem, dec_t, dec_f, w_u32, w_u64, w_u16, w_u8, w_i64, Int.reduceToNat, Int.reducePow, Nat.reducePow, c0, c1, c2, hf, hd, decide_true, decide_false]
        simp [seekX]
      · simp (disch := first | omega | (simp only [sZb, sZa, sZd] <;> omega) | (simp (disch := first | omega | (simp only [sZb, sZa, sZd] <;> omega) | fail) only [go_sem, c0, c1, c2, hf, decide_true, decide_false]; done) | fail) only [go_sem, dec_t, dec_f, w_u32, w_u64, w_u16, w_u8, w_i64, Int.reduceToNat, Int.reducePow, Nat.reducePow, c0, c1, c2, hf, decide_true, decide_false]
        have e5 : seekX s off wh = s.pos := by simp [seekX, c0, c1, c2]
        rw [e5]
        exact (setb_same hf).symm
  · simp (disch := first | omega | (simp only [sZb, sZa, sZd] <;> omega) | (simp (disch := first | omega | (simp only [sZb, sZa, sZd] <;> omega) | fail) only [go_sem, hf, hc]; done) | fail) only [go_sem, dec_t, dec_f, w_u32, w_u64, w_u16, w_u8, w_i64, Int.reduceToNat, Int.reducePow, Nat.reducePow, hf, hc]
def rdX (s : FX) (n : Nat) : List UInt8 × Nat := if 0 < n ∧ s.pos = s.bytes.length then ([], 4) else if (s.bytes.length : Int) < s.pos then ([], 5) else ((s.bytes.drop s.pos.toNat).take n, 0)
set_option maxHeartbeats 4000000 in
theorem read_fx {w : World} {K : Value → World → Prop} {B f d b n : Nat} {v : Value} {s : FX} {m : Nat → Nat × Nat} (h : FH w B f d v s) (hs : Sn w B m) (hc : s.cl = false) (h2 : 0 ≤ s.pos ∧ s.pos ≤ 4611686018427387903) (h3 : s.bytes.length ≤ 281474976710656) (hn : n ≤ 281474976710656)
    (hb : bk w b = some (CB (List.replicate n (.int .u8 0)) T.uint8)) (hbf : b ≠ f) (hbd : b ≠ d) (hbv : v.ownBlock ≠ some b)
    (hk : ∀ w', FH w' B f d v { s with pos := s.pos + (rdX s n).1.length } → Kp w w' (fun k => k = f ∨ k = b) → bk w' b = some (CB ((rdX s n).1.map byt ++ List.replicate (n - (rdX s n).1.length) (.int .u8 0)) T.uint8) → K (tup [.int .i64 (rdX s n).1.length, errV m (rdX s n).2]) w') :
    Cl P Fn.mem_File_Read #[pt f 0, sl b 0 n n] w K := by
  apply S_mem_File_Read
  unfold F_mem_File_Read
  have hf := h.bf
  have hd := h.bd
  have hmd := h.md1
  obtain ⟨l1, l2⟩ := h.lt
  have hfd := h.fd
  obtain ⟨a, cap, rfl⟩ := own_slice h.own
  obtain ⟨q1, t1, e1⟩ := hs.at_ G.io_EOF (by simp [sents])
  obtain ⟨q2, t2, e2⟩ := hs.at_ G.io_ErrUnexpectedEOF (by simp [sents])
  have fin0 : ∀ k, rdX s n = ([], k) → ∀ w', Kp w w' (fun _ => False) → K (tup [.int .i64 0, errV m k]) w' := fun k e w' kp => by
    have q := hk w'
    rw [e] at q
    refine q ?_ ⟨kp.os, kp.tape, kp.output, kp.size, fun x hx _ => kp.block x hx id⟩ ?_
    · have := h.kept kp fun _ _ h => h
      simpa using this
    · rw [kp.block b (bk_lt hb) id, hb]; simp
  have kd : ∀ {x : World}, Kp w x (fun _ => False) → Kp w x.drew (fun _ => False) := fun h => ⟨h.os, h.tape, h.output, h.size, h.block⟩
  refine jn_with (fun t w' => t = [.nilIface] ∧ w' = w) ?_ ?_
  · rintro t e w1 ⟨rfl, rfl⟩
    refine jn_with (fun t w' => t = [.nilIface] ∧ Kp w1 w' (fun _ => False) ∧ ¬ (0 < n ∧ s.pos = s.bytes.length)) ?_ ?_
    · rintro t e w2 ⟨rfl, k2, hn2⟩
      have hf2 := (k2.block f l1 id).trans hf
      have hd2 := (k2.block d l2 id).trans hd
      by_cases c2 : (s.bytes.length : Int) < s.pos
      · refine jn_with (fun _ _ => False) (fun _ _ _ h => h.elim) ?_
        have e3 : bk w2 G.io_ErrUnexpectedEOF = some (CB [er (m G.io_ErrUnexpectedEOF)] t2) := by
          rw [k2.block _ (by have := h.hf; omega) id, e2]
        simp (disch := first | omega | (simp only [sZb, sZa, sZd] <;> omega) | (simp (disch := first | omega | (simp only [sZb, sZa, sZd] <;> omega) | fail) only [go_sem, hf2, hd2, e3]; done) | fail) only [go_sem, dec_t, dec_f, w_u32, w_u64, w_u16, w_u8, w_i64, Int.reduceToNat, Int.reducePow, Nat.reducePow, hf2, hd2, e3]
        exact fin0 5 (by rw [rdX, if_neg hn2, if_pos c2]) _ (kd (kd k2))
      · refine jn_with (fun t w' => t = [.nilIface] ∧ Kp w1 w' (fun _ => False)) ?_ ?_
        · rintro t e w3 ⟨rfl, k3⟩
          have hf3 := (k3.block f l1 id).trans hf
          have hd3 := (k3.block d l2 id).trans hd
          have hb3 := (k3.block b (bk_lt hb) id).trans hb
          obtain ⟨p, hp⟩ := Int.eq_ofNat_of_zero_le h2.1
          have hpl : p ≤ s.bytes.length := by omega
          have erd : rdX s n = ((s.bytes.drop p).take n, 0) := by rw [rdX, if_neg hn2, if_neg c2, hp]; rfl
          have erl : (rdX s n).1.length = min n (s.bytes.length - p) := by rw [erd]; simp
          refine jn_with (fun t w' => t = [.int .i64 (rdX s n).1.length] ∧ Kp w1 w' (fun _ => False)) ?_ ?_
          · rintro t e w4 ⟨rfl, k4⟩
            have hf4 := (k4.block f l1 id).trans hf
            have hd4 := (k4.block d l2 id).trans hd
            have hb4 := (k4.block b (bk_lt hb) id).trans hb
            have lb4 : b < w4.heap.size := bk_lt hb4
            have lf4 : f < w4.heap.size := bk_lt hf4
            have ed : (rdX s n).1 = (s.bytes.drop p).take n := congrArg Prod.fst erd
            have ek : (rdX s n).2 = 0 := congrArg Prod.snd erd
            have h4 : FH w4.drew B f d (.slice a s.bytes.length cap) s := h.kept (kd k4) fun _ _ h => h
            generalize hM : (rdX s n).1.length = M at *
            rw [ek] at hk
            have hMl : p + M ≤ s.bytes.length := by omega
            have hMn : M ≤ n := by omega
            have fin : ∀ w5, w5 = setb w4.drew b (CB ((rdX s n).1.map byt ++ List.replicate (n - M) (.int .u8 0)) T.uint8) → ∀ w6, w6 = setb w5 f (CB [.int .i64 (s.pos + M), .int .i64 s.rdc, .bool s.cl, .bool s.ro, pt d 0] T.mem_File) → K (tup [.int .i64 M, .nilIface]) w6 := by
              rintro w5 rfl w6 rfl
              have k5 := Kp.setb w4.drew b (CB ((rdX s n).1.map byt ++ List.replicate (n - M) (.int .u8 0)) T.uint8)
              have h5 := h4.kept k5 fun x hx e => by
                subst e
                rcases hx with e | e | e
                · exact hbf e
                · exact hbd e
                · exact hbv e
              have h6 := h5.setPos (s.pos + M)
              refine hk _ h6 ?_ ?_
              · have k6 := Kp.setb (setb w4.drew b (CB ((rdX s n).1.map byt ++ List.replicate (n - M) (.int .u8 0)) T.uint8)) f (CB [.int .i64 (s.pos + M), .int .i64 s.rdc, .bool s.cl, .bool s.ro, pt d 0] T.mem_File)
                have q1 := (kd k4).trans (k5) (S := fun _ => False) (T := fun x => x = b)
                refine ⟨k6.os.trans (k5.os.trans k4.os), k6.tape.trans (k5.tape.trans k4.tape), k6.output.trans (k5.output.trans k4.output), ?_, ?_⟩
                · simp only [go_sem]; exact k4.size
                · intro x hx hn3
                  have n1 : x ≠ f := fun e => hn3 (.inl e)
                  have n2 : x ≠ b := fun e => hn3 (.inr e)
                  rw [bk_setb_ne _ _ _ _ n1, bk_setb_ne _ _ _ _ n2]
                  exact k4.block x hx id
              · rw [bk_setb_ne _ _ _ _ hbf]
                exact bk_setb_eq _ _ _ _ rfl (show b < w4.drew.heap.size from lb4)
            by_cases hz : s.bytes.length = 0
            · have hp0 : p = 0 := by omega
              have hM0 : M = 0 := by omega
              subst hp0 hM0
              have ei : ((0 : Nat) : Int) = 0 := rfl
              have sx : ∀ (L : Value → Prop), pu P (oSlice T.sl_uint8 (.slice a s.bytes.length cap) (some (.int .i64 0)) (some (.int .i64 0)) none) L = L (.slice a 0 cap) := fun L => oSlice_00 (size := 1) U.sl_uint8 (by kernel_rfl)
              have cp : ∀ (w : World) (L : Value → World → Prop), st P (oBuiltin .copy #[T.sl_uint8, T.sl_uint8] T.int #[false, false] #[sl b 0 n n, .slice a 0 cap]) w L = L (.int .i64 0) w := fun w L => oCopy0 U.sl_uint8 (by kernel_rfl)
              have er0 : (rdX s n).1 = [] := List.length_eq_zero_iff.1 hM
              have f5 := fin w4.drew (by
                rw [er0]
                simp only [List.map_nil, List.nil_append, Nat.sub_zero]
                exact (setb_same (w := w4.drew) hb4).symm) _ rfl
              rw [hp] at f5
              simp (disch := first | omega | (simp only [sZb, sZa, sZd] <;> omega) | (simp (disch := first | omega | (simp only [sZb, sZa, sZd] <;> omega) | fail) only [go_sem, hf4, hd4, hp, ei, Int.add_zero, sx, cp]; done) | fail) only [go_sem, dec_t, dec_f, w_u32, w_u64, w_u16, w_u8, w_i64, Int.reduceToNat, Int.reducePow, Nat.reducePow, hf4, hd4, hp, ei, Int.add_zero, sx, cp]
              simpa using f5
            · obtain ⟨b', cap', cur, ev, r1, r2, r3, r4, r5, r6⟩ := own_row h4.own hz
              injection ev with ev1 ev2 ev3
              subst ev1 ev3
              obtain ⟨o', eo, hro⟩ := part_at (w := w4.drew) (b := b') (cap := cap) r4 (by omega) (by simpa using r6) r1 p M hMl
              have sx : ∀ (L : Value → Prop), pu P (oSlice T.sl_uint8 (sl b' 0 s.bytes.length cap) (some (.int .i64 p)) (some (.int .i64 ((p : Int) + M))) none) L = L (sl b' o' M (cap - p)) := fun L => by
                rw [oSlice_sl (size := 1) L U.sl_uint8 (by kernel_rfl) (by omega) (by omega) (by omega)]
                rw [show (p : Int).toNat = p by omega, show ((p : Int) + M).toNat - p = M by omega, eo]
              have hpre : (rdX s n).1 = (s.bytes.drop p).take M := by
                have q := List.prefix_iff_eq_take.1 (List.take_prefix n (s.bytes.drop p))
                rw [← ed, hM] at q
                exact q
              have hl : ((s.bytes.drop p).take M).length = M := by rw [← hpre, hM]
              have cp : ∀ (L : Value → World → Prop), st P (oBuiltin .copy #[T.sl_uint8, T.sl_uint8] T.int #[false, false] #[sl b 0 n n, sl b' o' M (cap - p)]) w4.drew L = L (.int .i64 M) (setb w4.drew b (CB ((rdX s n).1.map byt ++ List.replicate (n - M) (.int .u8 0)) T.uint8)) := fun L => by
                rw [oCopy L w4.drew (tE := T.uint8) (l0 := List.replicate n (.int .u8 0)) (t := T.uint8) (l := (s.bytes.drop p).take M) U.sl_uint8 (by kernel_rfl) hb4 hl.symm (by omega) (by simp only [List.length_replicate]; omega) hro]
                rw [hl, ← hpre]
                simp
              have f5 := fin _ rfl _ rfl
              rw [hp] at f5
              have hf5 : bk (setb w4.drew b (CB ((rdX s n).1.map byt ++ List.replicate (n - M) (.int .u8 0)) T.uint8)) f = some (CB [.int .i64 s.pos, .int .i64 s.rdc, .bool s.cl, .bool s.ro, pt d 0] T.mem_File) := by
                rw [bk_setb_ne _ _ _ _ (Ne.symm hbf)]; exact hf4
              simp (disch := first | omega | (simp only [sZb, sZa, sZd] <;> omega) | (simp (disch := first | omega | (simp only [sZb, sZa, sZd] <;> omega) | fail) only [go_sem, hf4, hd4, hp, sx, cp, hf5]; done) | fail) only [go_sem, dec_t, dec_f, w_u32, w_u64, w_u16, w_u8, w_i64, Int.reduceToNat, Int.reducePow, Nat.reducePow, hf4, hd4, hp, sx, cp, hf5]
              exact f5
          · rw [erl]
            by_cases c3 : (n : Int) ≤ (s.bytes.length : Int) - p
            · simp (disch := first | omega | (simp only [sZb, sZa, sZd] <;> omega) | (simp (disch := first | omega | (simp only [sZb, sZa, sZd] <;> omega) | fail) only [go_sem, hf3, hd3, hp]; done) | fail) only [go_sem, dec_t, dec_f, w_u32, w_u64, w_u16, w_u8, w_i64, Int.reduceToNat, Int.reducePow, Nat.reducePow, hf3, hd3, hp]
              exact ⟨by rw [Nat.min_eq_left (by omega)], kd k3⟩
            · simp (disch := first | omega | (simp only [sZb, sZa, sZd] <;> omega) | (simp (disch := first | omega | (simp only [sZb, sZa, sZd] <;> omega) | fail) only [go_sem, hf3, hd3, hp]; done) | fail) only [go_sem, dec_t, dec_f, w_u32, w_u64, w_u16, w_u8, w_i64, Int.reduceToNat, Int.reducePow, Nat.reducePow, hf3, hd3, hp]
              refine ⟨?_, kd (kd k3)⟩
              have e9 : ((s.bytes.length : Int) - p) = (min n (s.bytes.length - p) : Nat) := by omega
              rw [e9]
        · simp (disch := first | omega | (simp only [sZb, sZa, sZd] <;> omega) | (simp (disch := first | omega | (simp only [sZb, sZa, sZd] <;> omega) | fail) only [go_sem, hf2, hd2]; done) | fail) only [go_sem, dec_t, dec_f, w_u32, w_u64, w_u16, w_u8, w_i64, Int.reduceToNat, Int.reducePow, Nat.reducePow, hf2, hd2]
          exact ⟨trivial, kd k2⟩
    · by_cases c1 : 0 < n ∧ s.pos = s.bytes.length
      · have g1 : (0 : Int) < n := by omega
        have g2 : s.pos = (s.bytes.length : Int) := c1.2
        simp (disch := first | omega | (simp only [sZb, sZa, sZd] <;> omega) | (simp (disch := first | omega | (simp only [sZb, sZa, sZd] <;> omega) | fail) only [go_sem, hf, hd, e1]; done) | fail) only [go_sem, dec_t, dec_f, w_u32, w_u64, w_u16, w_u8, w_i64, Int.reduceToNat, Int.reducePow, Nat.reducePow, hf, hd, e1]
        exact fin0 4 (by rw [rdX, if_pos c1]) _ (kd (kd (Kp.refl _ _)))
      · by_cases g1 : (0 : Int) < n
        · have g2 : ¬ s.pos = (s.bytes.length : Int) := fun e => c1 ⟨by omega, e⟩
          simp (disch := first | omega | (simp only [sZb, sZa, sZd] <;> omega) | (simp (disch := first | omega | (simp only [sZb, sZa, sZd] <;> omega) | fail) only [go_sem, hf, hd]; done) | fail) only [go_sem, dec_t, dec_f, w_u32, w_u64, w_u16, w_u8, w_i64, Int.reduceToNat, Int.reducePow, Nat.reducePow, hf, hd]
          exact ⟨trivial, kd (Kp.refl _ _), c1⟩
        · simp (disch := first | omega | (simp only [sZb, sZa, sZd] <;> omega) | (simp (disch := first | omega | (simp only [sZb, sZa, sZd] <;> omega) | fail) only [go_sem, hf, hd]; done) | fail) only [go_sem, dec_t, dec_f, w_u32, w_u64, w_u16, w_u8, w_i64, Int.reduceToNat, Int.reducePow, Nat.reducePow, hf, hd]
          exact ⟨trivial, kd (Kp.refl _ _), c1⟩
  · simp (disch := first | omega | (simp only [sZb, sZa, sZd] <;> omega) | (simp (disch := first | omega | (simp only [sZb, sZa, sZd] <;> omega) | fail) only [go_sem, hf, hc]; done) | fail) only [go_sem, dec_t, dec_f, w_u32, w_u64, w_u16, w_u8, w_i64, Int.reduceToNat, Int.reducePow, Nat.reducePow, hf, hc]
    exact ⟨trivial, trivial⟩
def wrX (s : FX) (l : List UInt8) : List UInt8 :=
  if (s.bytes.length : Int) < s.pos then s.bytes ++ (List.replicate (s.pos.toNat - s.bytes.length) 0 ++ l) else s.bytes.take s.pos.toNat ++ l ++ s.bytes.drop (s.pos.toNat + l.length)
theorem FH.setData {w : World} {B f d : Nat} {v v' : Value} {s s' : FX} (h : FH w B f d v s) (e : s'.pos = s.pos ∧ s'.rdc = s.rdc ∧ s'.cl = s.cl ∧ s'.ro = s.ro) (o : w.ownsRow B T.uint8 1 v' s'.bytes.length (s'.bytes.map byt)) (n1 : v'.ownBlock ≠ some f) (n2 : v'.ownBlock ≠ some d) (hmd : s'.md.oneCell' = true) :
    FH (setb w d (CB [S s'.nm, v', s'.md, .bool s'.dir, .int .u32 s'.mode, .int .i64 s'.mt, .int .i64 s'.uid, .int .i64 s'.gid] T.mem_FileData)) B f d v' s' := by
  obtain ⟨l1, l2⟩ := h.lt
  have k := Kp.setb w d (CB [S s'.nm, v', s'.md, .bool s'.dir, .int .u32 s'.mode, .int .i64 s'.mt, .int .i64 s'.uid, .int .i64 s'.gid] T.mem_FileData)
  refine ⟨h.hf, h.hd, h.fd, ?_, bk_setb_eq _ _ _ _ rfl l2, hmd, own_kp o k fun x hx e => n2 (by rw [hx, e]), n1, n2⟩
  rw [bk_setb_ne _ _ _ _ h.fd, e.1, e.2.1, e.2.2.1, e.2.2.2]
  exact h.bf
set_option maxHeartbeats 8000000 in
theorem write_fx {w : World} {K : Value → World → Prop} {B f d : Nat} {v x : Value} {s : FX} {l : List UInt8} (h : FH w B f d v s) (hc : s.cl = false) (hro : s.ro = false) (hx : BS w x l) (hxf : x.ownBlock ≠ some f) (hxd : x.ownBlock ≠ some d) (h0 : 0 ≤ s.pos) (h1 : s.pos + l.length ≤ 140737488355328) (h2 : s.bytes.length ≤ 140737488355328)
    (hk : ∀ w' v', FH w' B f d v' { s with bytes := wrX s l, pos := s.pos + l.length, mt := 0 } → Kp w w' (Of f d v) → (v'.ownBlock = v.ownBlock ∨ ∀ k, v'.ownBlock = some k → w.heap.size ≤ k) → K (tup [.int .i64 l.length, .nilIface]) w') : Cl P Fn.mem_File_Write #[pt f 0, x] w K := by
  apply S_mem_File_Write
  unfold F_mem_File_Write
  have hf := h.bf
  have hd := h.bd
  have hmd := h.md1
  obtain ⟨l1, l2⟩ := h.lt
  have hfd := h.fd
  have hBf := h.hf
  have hBd := h.hd
  have hnf := h.nf
  have hnd := h.nd
  have hown := h.own
  have hlt := own_lt h.own
  obtain ⟨a, cap, ev, hcap⟩ := own_cap h.own
  obtain ⟨xa, xc, ex⟩ := BS_slice hx
  obtain ⟨p, hp⟩ := Int.eq_ofNat_of_zero_le h0
  refine jn_with (fun t w' => t = [.nilIface] ∧ w' = w) ?_ ?_
  · rintro t e w1 ⟨rfl, rfl⟩
    refine jn_with (fun t w' => t = [.nilIface] ∧ w' = w1) ?_ ?_
    · rintro t e w2 ⟨rfl, rfl⟩
      subst ex ev
      simp (disch := first | omega | (simp only [sZb, sZa, sZd] <;> omega) | (simp (disch := first | omega | (simp only [sZb, sZa, sZd] <;> omega) | fail) only [go_sem, hf, hd]; done) | fail) only [go_sem, dec_t, dec_f, w_u32, w_u64, w_u16, w_u8, w_i64, Int.reduceToNat, Int.reducePow, Nat.reducePow, hf, hd]
      refine jn_with (fun t w' => w' = w2 ∧ ((¬ p + l.length < s.bytes.length ∧ t = [.slice none 0 0]) ∨ (p + l.length < s.bytes.length ∧ ∃ g, a = some ⟨g, 0, none⟩ ∧ t = [sl g (p + l.length) (s.bytes.length - (p + l.length)) (cap - (p + l.length))]))) ?_ ?_
      · rintro t e w3 ⟨rfl, ht⟩
        refine jn_with (fun t w' => ∃ v', FH w' B f d v' { s with bytes := wrX s l } ∧ Kp w3 w' (Of f d (.slice a s.bytes.length cap)) ∧ (v'.ownBlock = (Value.slice a s.bytes.length cap).ownBlock ∨ ∀ k, v'.ownBlock = some k → w3.heap.size ≤ k)) ?_ ?_
        · rintro t e w4 ⟨v4, F4, K4, a4⟩
          have hf4 := F4.bf
          have hd4 := F4.bd
          obtain ⟨l14, l24⟩ := F4.lt
          simp (disch := first | omega | (simp only [sZb, sZa, sZd] <;> omega) | (simp (disch := first | omega | (simp only [sZb, sZa, sZd] <;> omega) | fail) only [go_sem, hf4]; done) | fail) only [go_sem, dec_t, dec_f, w_u32, w_u64, w_u16, w_u8, w_i64, Int.reduceToNat, Int.reducePow, Nat.reducePow, hf4]
          apply S_mem_setModTime
          unfold F_mem_setModTime
          simp (disch := first | omega | (simp only [sZb, sZa, sZd] <;> omega) | (simp (disch := first | omega | (simp only [sZb, sZa, sZd] <;> omega) | fail) only [go_sem, hd4, hf4]; done) | fail) only [go_sem, dec_t, dec_f, w_u32, w_u64, w_u16, w_u8, w_i64, Int.reduceToNat, Int.reducePow, Nat.reducePow, hd4, hf4]
          have F5 := F4.setData (s' := { s with bytes := wrX s l, mt := 0 }) ⟨rfl, rfl, rfl, rfl⟩ F4.own F4.nf F4.nd hmd
          have K5 := K4.trans (Kp.setb w4 d (CB [S s.nm, v4, s.md, .bool s.dir, .int .u32 s.mode, .int .i64 0, .int .i64 s.uid, .int .i64 s.gid] T.mem_FileData)) fun y _ e => .inr (.inl e)
          refine hk _ _ (F5.setPos (s.pos + l.length)) (K5.trans (Kp.setb _ f _) fun y _ e => .inl e) a4
        · have fin : ∀ w5 v5, bk w5 f = some (CB [.int .i64 s.pos, .int .i64 s.rdc, .bool s.cl, .bool s.ro, pt d 0] T.mem_File) → w5.ownsRow B T.uint8 1 v5 (wrX s l).length ((wrX s l).map byt) → v5.ownBlock ≠ some f → v5.ownBlock ≠ some d → Kp w3 w5 (Of f d (.slice a s.bytes.length cap)) → (v5.ownBlock = (Value.slice a s.bytes.length cap).ownBlock ∨ ∀ k, v5.ownBlock = some k → w3.heap.size ≤ k) → ∀ w6, w6 = setb w5 d (CB [S s.nm, v5, s.md, .bool s.dir, .int .u32 s.mode, .int .i64 s.mt, .int .i64 s.uid, .int .i64 s.gid] T.mem_FileData) →
              ∃ v', FH w6 B f d v' { s with bytes := wrX s l } ∧ Kp w3 w6 (Of f d (.slice a s.bytes.length cap)) ∧ (v'.ownBlock = (Value.slice a s.bytes.length cap).ownBlock ∨ ∀ k, v'.ownBlock = some k → w3.heap.size ≤ k) := by
            rintro w5 v5 f5 o5 n1 n2 K5 a5 w6 rfl
            have k := Kp.setb w5 d (CB [S s.nm, v5, s.md, .bool s.dir, .int .u32 s.mode, .int .i64 s.mt, .int .i64 s.uid, .int .i64 s.gid] T.mem_FileData)
            have z5 := K5.size
            refine ⟨v5, ⟨hBf, hBd, hfd, ?_, bk_setb_eq _ _ _ _ rfl (by omega), hmd, own_kp o5 k fun y hy e => n2 (by rw [hy, e]), n1, n2⟩, K5.trans k fun y _ e => .inr (.inl e), a5⟩
            rw [bk_setb_ne _ _ _ _ hfd]
            exact f5
          have fin2 : ∀ w6 v6, bk w6 f = some (CB [.int .i64 s.pos, .int .i64 s.rdc, .bool s.cl, .bool s.ro, pt d 0] T.mem_File) → w6.ownsRow B T.uint8 1 v6 (wrX s l).length ((wrX s l).map byt) → v6.ownBlock ≠ some f → v6.ownBlock ≠ some d → Kp w3 w6 (Of f d (.slice a s.bytes.length cap)) → (v6.ownBlock = (Value.slice a s.bytes.length cap).ownBlock ∨ ∀ k, v6.ownBlock = some k → w3.heap.size ≤ k) →
              st P (oBuiltin .append #[T.sl_uint8, T.sl_uint8] T.sl_uint8 #[false, false] #[v6, .slice none 0 0]) (setb w6 d (CB [S s.nm, v6, s.md, .bool s.dir, .int .u32 s.mode, .int .i64 s.mt, .int .i64 s.uid, .int .i64 s.gid] T.mem_FileData)).drew fun t100 w16 => hold P (oLoad T.p_mem_FileData (.pointer (some ⟨f, 4, none⟩))) (pt d 0) w16 ∧ st P (oStore T.sl_uint8 (.pointer (some ⟨d, 1, none⟩)) t100) w16 fun _ w17 =>
                ∃ v', FH w17 B f d v' { s with bytes := wrX s l } ∧ Kp w3 w17 (Of f d (.slice a s.bytes.length cap)) ∧ (v'.ownBlock = (Value.slice a s.bytes.length cap).ownBlock ∨ ∀ k, v'.ownBlock = some k → w3.heap.size ≤ k) := by
            intro w6 v6 hf6 o6 n61 n62 K6 a6
            have z6 := K6.size
            have o7 := own_kp o6 ((Kp.setb w6 d (CB [S s.nm, v6, s.md, .bool s.dir, .int .u32 s.mode, .int .i64 s.mt, .int .i64 s.uid, .int .i64 s.gid] T.mem_FileData)).trans (Kp.drew _ (fun k => k = d)) fun _ _ h => h) fun k hk e => n62 (by rw [hk, e])
            have one6 : v6.oneCell' = true := by obtain ⟨_, _, rfl⟩ := own_slice o6; rfl
            rw [app_nil o7]
            simp (disch := first | omega | (simp only [sZb, sZa, sZd] <;> omega) | (simp (disch := first | omega | (simp only [sZb, sZa, sZd] <;> omega) | fail) only [go_sem, hf6, one6]; done) | fail) only [go_sem, dec_t, dec_f, w_u32, w_u64, w_u16, w_u8, w_i64, Int.reduceToNat, Int.reducePow, Nat.reducePow, hf6, one6]
            refine ⟨trivial, ?_⟩
            rw [setb_same (w := (setb w6 d (CB [S s.nm, v6, s.md, .bool s.dir, .int .u32 s.mode, .int .i64 s.mt, .int .i64 s.uid, .int .i64 s.gid] T.mem_FileData)).drew) (by show bk (setb w6 d _) d = _; exact bk_setb_eq _ _ _ _ rfl (by omega))]
            exact fin w6.drew v6 hf6 o6 n61 n62 (K6.trans (Kp.drew _ (fun _ => False)) fun _ _ h => h.elim) a6 _ rfl
          rcases ht with ⟨g1, rfl⟩ | ⟨g1, g, rfl, rfl⟩
          · by_cases g2 : s.bytes.length < p
            · have ed : s.pos - (s.bytes.length : Int) = ((p - s.bytes.length : Nat) : Int) := by omega
              generalize hm : p - s.bytes.length = m at *
              simp (disch := first | omega | (simp only [sZb, sZa, sZd] <;> omega) | (simp (disch := first | omega | (simp only [sZb, sZa, sZd] <;> omega) | fail) only [go_sem, ed]; done) | fail) only [go_sem, dec_t, dec_f, w_u32, w_u64, w_u16, w_u8, w_i64, Int.reduceToNat, Int.reducePow, Nat.reducePow, ed]
              simp (disch := first | omega | (simp only [sZb, sZa, sZd] <;> omega) | (simp (disch := first | omega | (simp only [sZb, sZa, sZd] <;> omega) | fail) only [go_sem, hf, hd]; done) | fail) only [go_sem, dec_t, dec_f, w_u32, w_u64, w_u16, w_u8, w_i64, Int.reduceToNat, Int.reducePow, Nat.reducePow, hf, hd]
              rw [oMkB U.sl_uint8 (by kernel_rfl) m (by omega)]
              have oz : (w3.drew.alloc (CB (List.replicate m (.int .u8 0)) T.uint8)).ownsRow w3.heap.size T.uint8 1 (sl w3.heap.size 0 m m) m ((List.replicate m (0 : UInt8)).map byt) := ⟨by simp, .inr ⟨w3.heap.size, m, (List.replicate m (.int .u8 0)).toArray, rfl, Nat.le_refl _, heap_alloc_new w3.drew _, Nat.le_refl _, by simp only [maxLen]; omega, by simp, by rw [byt_zeros]; simp⟩⟩
              have B4 : Below w3.heap.size w3 (w3.drew.alloc (CB (List.replicate m (.int .u8 0)) T.uint8)) := by repeat (first | exact Below.refl _ _ | assumption | refine bel_setb ?_ (by first | exact Nat.le_refl _ | omega | (simp only [go_sem] <;> omega)) _ | refine Below.alloc ?_ (by first | exact Nat.le_refl _ | omega | (simp only [go_sem]; omega)) _ | refine Below.drew ?_)
              have z4 : (w3.drew.alloc (CB (List.replicate m (.int .u8 0)) T.uint8)).heap.size = w3.heap.size + 1 := by simp only [go_sem]
              rw [show sl w3.drew.heap.size 0 m m = sl w3.heap.size 0 m m from rfl]
              generalize w3.drew.alloc (CB (List.replicate m (.int .u8 0)) T.uint8) = w4 at *
              have hf4 := (bel_bk B4 l1).trans hf
              have hd4 := (bel_bk B4 l2).trans hd
              simp (disch := first | omega | (simp only [sZb, sZa, sZd] <;> omega) | (simp (disch := first | omega | (simp only [sZb, sZa, sZd] <;> omega) | fail) only [go_sem, hf4, hd4]; done) | fail) only [go_sem, dec_t, dec_f, w_u32, w_u64, w_u16, w_u8, w_i64, Int.reduceToNat, Int.reducePow, Nat.reducePow, hf4, hd4]
              refine ⟨trivial, trivial, trivial, ?_⟩
              refine oAppendBS U.sl_uint8 (by kernel_rfl) oz (BS_old hx B4 (Nat.le_refl _)) (by omega) (by omega) fun y w5 o5 g5 a5 => ?_
              have K5 := Kp.of_grown g5
              have z5 := K5.size
              have n5 : ∀ k, k < w3.heap.size → ¬ ((sl w3.heap.size 0 m m).ownBlock = some k) := fun k hk e => by
                have e2 : w3.heap.size = k := Option.some.inj e
                omega
              have hf5 := (K5.block f (by omega) (n5 f l1)).trans hf4
              have hd5 := (K5.block d (by omega) (n5 d l2)).trans hd4
              have own5 := own_kp (own_old hown B4 (Nat.le_refl _)) K5 fun k hk => n5 k (hlt k hk).2
              have y5 : ∀ k, y.ownBlock = some k → w3.heap.size ≤ k := fun k hk => (own_lt o5 k hk).1
              rw [← List.map_append] at o5
              have el : (List.replicate m (0 : UInt8) ++ l).length = m + l.length := by simp
              rw [← el] at o5
              have by5 := BS_own o5
              have B5 : Below w3.heap.size w3 w5 := B4.trans (K5.below (fun k hk => n5 k hk) (by omega))
              obtain ⟨ya, yc, ey⟩ := own_slice o5
              simp (disch := first | omega | (simp only [sZb, sZa, sZd] <;> omega) | (simp (disch := first | omega | (simp only [sZb, sZa, sZd] <;> omega) | fail) only [go_sem, hf5, hd5]; done) | fail) only [go_sem, dec_t, dec_f, w_u32, w_u64, w_u16, w_u8, w_i64, Int.reduceToNat, Int.reducePow, Nat.reducePow, hf5, hd5]
              refine ⟨trivial, trivial, trivial, ?_⟩
              refine oAppendBS U.sl_uint8 (by kernel_rfl) own5 by5 (by omega) (by omega) fun v6 w6 o6 g6 a6 => ?_
              have K6 := Kp.of_grown g6
              have z6 := K6.size
              have hf6 := (K6.block f (by omega) hnf).trans hf5
              have hd6 := (K6.block d (by omega) hnd).trans hd5
              have ew : wrX s l = s.bytes ++ (List.replicate m (0 : UInt8) ++ l) := by
                unfold wrX
                rw [if_pos (by omega)]
                congr 3
                omega
              rw [← List.map_append, ← ew] at o6
              rw [show s.bytes.length + (List.replicate m (0 : UInt8) ++ l).length = (wrX s l).length by rw [ew, List.length_append, List.length_append, List.length_append]] at o6
              have n61 : v6.ownBlock ≠ some f := fun e => by
                rcases a6 with h | h
                · exact hnf (by rw [← h]; exact e)
                · rw [h] at e; have := Option.some.inj e; omega
              have n62 : v6.ownBlock ≠ some d := fun e => by
                rcases a6 with h | h
                · exact hnd (by rw [← h]; exact e)
                · rw [h] at e; have := Option.some.inj e; omega
              have a6' : v6.ownBlock = (Value.slice a s.bytes.length cap).ownBlock ∨ ∀ k, v6.ownBlock = some k → w3.heap.size ≤ k := by
                rcases a6 with h | h
                · exact .inl h
                · exact .inr fun k hk => by rw [h] at hk; have := Option.some.inj hk; omega
              have K6' : Kp w3 w6 (Of f d (.slice a s.bytes.length cap)) := (Kp.of_below B5 _).trans K6 fun y _ e => .inr (.inr e)
              have one6 : v6.oneCell' = true := by obtain ⟨_, _, rfl⟩ := own_slice o6; rfl
              simp (disch := first | omega | (simp only [sZb, sZa, sZd] <;> omega) | (simp (disch := first | omega | (simp only [sZb, sZa, sZd] <;> omega) | fail) only [go_sem, hf6, hd6, one6]; done) | fail) only [go_sem, dec_t, dec_f, w_u32, w_u64, w_u16, w_u8, w_i64, Int.reduceToNat, Int.reducePow, Nat.reducePow, hf6, hd6, one6]
              refine ⟨trivial, ?_⟩
              exact fin2 w6 v6 hf6 o6 n61 n62 K6' a6'
            · simp (disch := first | omega | (simp only [sZb, sZa, sZd] <;> omega) | (simp (disch := first | omega | (simp only [sZb, sZa, sZd] <;> omega) | fail) only [go_sem, hp]; done) | fail) only [go_sem, dec_t, dec_f, w_u32, w_u64, w_u16, w_u8, w_i64, Int.reduceToNat, Int.reducePow, Nat.reducePow, hp]
              simp (disch := first | omega | (simp only [sZb, sZa, sZd] <;> omega) | (simp (disch := first | omega | (simp only [sZb, sZa, sZd] <;> omega) | fail) only [go_sem, hp, hf, hd]; done) | fail) only [go_sem, dec_t, dec_f, w_u32, w_u64, w_u16, w_u8, w_i64, Int.reduceToNat, Int.reducePow, Nat.reducePow, hp, hf, hd]
              obtain ⟨v4, o4, e4, sl4, _⟩ := own_hi U.sl_uint8 (by kernel_rfl) hown (p := p) (by omega)
              simp (disch := first | omega | (simp only [sZb, sZa, sZd] <;> omega) | (simp (disch := first | omega | (simp only [sZb, sZa, sZd] <;> omega) | fail) only [go_sem, hp, hf, hd, sl4]; done) | fail) only [go_sem, dec_t, dec_f, w_u32, w_u64, w_u16, w_u8, w_i64, Int.reduceToNat, Int.reducePow, Nat.reducePow, hp, hf, hd, sl4]
              refine oAppendBS (w := w3.drew) U.sl_uint8 (by kernel_rfl) (own_kp o4 (Kp.drew _ (fun _ => False)) fun _ _ h => h) (show BS w3.drew _ l from hx) (by omega) (by show B ≤ w3.heap.size; omega) fun v6 w6 o6 g6 a6 => ?_
              have K6 := Kp.of_grown g6
              have z6 : w3.heap.size ≤ w6.heap.size := K6.size
              rw [e4] at K6 a6
              have hf6 := (K6.block f l1 hnf).trans hf
              have hd6 := (K6.block d l2 hnd).trans hd
              have ew : wrX s l = s.bytes.take p ++ l := by
                unfold wrX
                rw [if_neg (by omega), hp]
                simp only [Int.toNat_natCast]
                rw [List.drop_of_length_le (by omega), List.append_nil]
              rw [← List.map_take, ← List.map_append, ← ew] at o6
              rw [show p + l.length = (wrX s l).length by rw [ew, List.length_append, List.length_take]; omega] at o6
              have n61 : v6.ownBlock ≠ some f := fun e => by
                rcases a6 with h | h
                · exact hnf (by rw [← h]; exact e)
                · rw [h] at e
                  have e2 : w3.heap.size = f := Option.some.inj e
                  omega
              have n62 : v6.ownBlock ≠ some d := fun e => by
                rcases a6 with h | h
                · exact hnd (by rw [← h]; exact e)
                · rw [h] at e
                  have e2 : w3.heap.size = d := Option.some.inj e
                  omega
              have a6' : v6.ownBlock = (Value.slice a s.bytes.length cap).ownBlock ∨ ∀ k, v6.ownBlock = some k → w3.heap.size ≤ k := by
                rcases a6 with h | h
                · exact .inl h
                · refine .inr fun k hk => ?_
                  rw [h] at hk
                  have e2 : w3.heap.size = k := Option.some.inj hk
                  omega
              have K6' : Kp w3 w6 (Of f d (.slice a s.bytes.length cap)) := ((Kp.drew w3 _).trans K6 (S := Of f d (.slice a s.bytes.length cap)) (T := fun k => (Value.slice a s.bytes.length cap).ownBlock = some k) fun y _ e => .inr (.inr e))
              have one6 : v6.oneCell' = true := by obtain ⟨_, _, rfl⟩ := own_slice o6; rfl
              rw [hp] at hf6
              simp (disch := first | omega | (simp only [sZb, sZa, sZd] <;> omega) | (simp (disch := first | omega | (simp only [sZb, sZa, sZd] <;> omega) | fail) only [go_sem, hf6, hd6, one6]; done) | fail) only [go_sem, dec_t, dec_f, w_u32, w_u64, w_u16, w_u8, w_i64, Int.reduceToNat, Int.reducePow, Nat.reducePow, hf6, hd6, one6]
              refine ⟨trivial, ?_⟩
              have q := fin2 w6 v6 (by rw [hp]; exact hf6) o6 n61 n62 K6' a6'
              rw [hp] at q
              exact q
          · obtain ⟨b', cap', cur, ev, r1, r2, r3, r4, r5, r6⟩ := own_row hown (by omega)
            injection ev with ev1 ev2 ev3
            injection ev1 with ev1
            injection ev1 with ev1
            subst ev1 ev3
            rw [Nat.mul_one] at r5 r6
            have gp : ¬ ((s.bytes.length : Int) < p) := by omega
            simp (disch := first | omega | (simp only [sZb, sZa, sZd] <;> omega) | (simp (disch := first | omega | (simp only [sZb, sZa, sZd] <;> omega) | fail) only [go_sem, hp, hf, hd]; done) | fail) only [go_sem, dec_t, dec_f, w_u32, w_u64, w_u16, w_u8, w_i64, Int.reduceToNat, Int.reducePow, Nat.reducePow, hp, hf, hd]
            have sl4 : ∀ (M : Value → Prop), pu P (oSlice T.sl_uint8 (sl g 0 s.bytes.length cap) none (some (.int .i64 p)) none) M = M (sl g 0 p cap) := fun M => by
              rw [oSlice_hi (size := 1) M U.sl_uint8 (by kernel_rfl) (by omega) (by omega), Int.toNat_natCast]
            simp (disch := first | omega | (simp only [sZb, sZa, sZd] <;> omega) | (simp (disch := first | omega | (simp only [sZb, sZa, sZd] <;> omega) | fail) only [go_sem, hp, hf, hd, sl4]; done) | fail) only [go_sem, dec_t, dec_f, w_u32, w_u64, w_u16, w_u8, w_i64, Int.reduceToNat, Int.reducePow, Nat.reducePow, hp, hf, hd, sl4]
            rw [oAppend_room (P := P) (w := w3.drew) U.sl_uint8 (by kernel_rfl) (BS_src U.sl_uint8 (show BS w3.drew _ l from hx)) (show bk w3.drew g = _ from r4) (by omega) (by omega)]
            obtain ⟨cur', ecur'⟩ : ∃ cur' : List Value, cur' = cur.take (0 + p) ++ l.map byt ++ cur.drop (0 + p + l.length) := ⟨_, rfl⟩
            rw [← ecur']
            rw [Nat.zero_add] at ecur'
            obtain ⟨q1, q2, q3, q4⟩ := over_list r5 r6 g1 r1 ecur'
            have gf : g ≠ f := fun e => hnf (by rw [e]; rfl)
            have gd : g ≠ d := fun e => hnd (by rw [e]; rfl)
            have lg : g < w3.heap.size := r3
            obtain ⟨wg, ewg⟩ : ∃ wg : World, wg = setb w3.drew g (CB cur' T.uint8) := ⟨_, rfl⟩
            have Kg : Kp w3 wg (Of f d (sl g 0 s.bytes.length cap)) := by
              rw [ewg]
              exact (Kp.drew w3 _).trans (Kp.setb w3.drew g (CB cur' T.uint8)) fun y _ e => .inr (.inr (by rw [e]; rfl))
            have zg : wg.heap.size = w3.heap.size := by rw [ewg]; simp only [go_sem]
            have hfg : bk wg f = some (CB [.int .i64 p, .int .i64 s.rdc, .bool s.cl, .bool s.ro, pt d 0] T.mem_File) := by rw [ewg, bk_setb_ne _ _ _ _ (Ne.symm gf), ← hp]; exact hf
            have hdg : bk wg d = some (CB [S s.nm, sl g 0 s.bytes.length cap, s.md, .bool s.dir, .int .u32 s.mode, .int .i64 s.mt, .int .i64 s.uid, .int .i64 s.gid] T.mem_FileData) := by rw [ewg, bk_setb_ne _ _ _ _ (Ne.symm gd)]; exact hd
            have hgg : bk wg g = some (CB cur' T.uint8) := by rw [ewg]; exact bk_setb_eq _ _ _ _ rfl lg
            rw [← ewg]
            clear ewg
            simp (disch := first | omega | (simp only [sZb, sZa, sZd] <;> omega) | (simp (disch := first | omega | (simp only [sZb, sZa, sZd] <;> omega) | fail) only [go_sem, hfg, hdg]; done) | fail) only [go_sem, dec_t, dec_f, w_u32, w_u64, w_u16, w_u8, w_i64, Int.reduceToNat, Int.reducePow, Nat.reducePow, hfg, hdg]
            refine ⟨trivial, ?_⟩
            obtain ⟨wh, ewh⟩ : ∃ wh : World, wh = (setb wg d (CB [S s.nm, sl g 0 (p + l.length) cap, s.md, .bool s.dir, .int .u32 s.mode, .int .i64 s.mt, .int .i64 s.uid, .int .i64 s.gid] T.mem_FileData)).drew := ⟨_, rfl⟩
            have Kh : Kp w3 wh (Of f d (sl g 0 s.bytes.length cap)) := by
              rw [ewh]
              exact (Kg.trans (Kp.setb wg d _) fun y _ e => .inr (.inl e)).trans (Kp.drew _ _) fun _ _ h => h
            have zh : wh.heap.size = w3.heap.size := by rw [ewh]; simp only [go_sem, zg]
            have hfh : bk wh f = some (CB [.int .i64 p, .int .i64 s.rdc, .bool s.cl, .bool s.ro, pt d 0] T.mem_File) := by rw [ewh]; show bk (setb wg d _) f = _; rw [bk_setb_ne _ _ _ _ hfd]; exact hfg
            have hdh : bk wh d = some (CB [S s.nm, sl g 0 (p + l.length) cap, s.md, .bool s.dir, .int .u32 s.mode, .int .i64 s.mt, .int .i64 s.uid, .int .i64 s.gid] T.mem_FileData) := by rw [ewh]; show bk (setb wg d _) d = _; exact bk_setb_eq _ _ _ _ rfl (by omega)
            have hgh : bk wh g = some (CB cur' T.uint8) := by rw [ewh]; show bk (setb wg d _) g = _; rw [bk_setb_ne _ _ _ _ gd]; exact hgg
            rw [← ewh]
            clear ewh
            have enl : ((s.bytes.drop (p + l.length)).map byt).length = s.bytes.length - (p + l.length) := by simp
            have srcT : Src P 1 T.sl_uint8 (sl g (p + l.length) (s.bytes.length - (p + l.length)) (cap - (p + l.length))) (s.bytes.length - (p + l.length)) ((s.bytes.drop (p + l.length)).map byt) wh := by
              refine src_row U.sl_uint8 ?_ enl.symm fun u hu => by obtain ⟨y, _, rfl⟩ := List.mem_map.1 hu; rfl
              rw [hgh, enl]
              simp only [rowOf]
              rw [if_pos (by simp only [List.size_toArray]; omega)]
              exact congrArg some q4
            rw [oAppend_room (P := P) (w := wh) U.sl_uint8 (by kernel_rfl) srcT hgh (by omega) (by omega)]
            have lhg : g < wh.heap.size := by omega
            obtain ⟨wi, ewi⟩ : ∃ wi : World, wi = setb wh g (CB (cur'.take (0 + (p + l.length)) ++ (s.bytes.drop (p + l.length)).map byt ++ cur'.drop (0 + (p + l.length) + (s.bytes.length - (p + l.length)))) T.uint8) := ⟨_, rfl⟩
            have en : p + l.length + (s.bytes.length - (p + l.length)) = s.bytes.length := by omega
            rw [← ewi]
            rw [Nat.zero_add, en] at ewi
            have Ki : Kp w3 wi (Of f d (sl g 0 s.bytes.length cap)) := by
              rw [ewi]
              exact Kh.trans (Kp.setb wh g _) fun y _ e => .inr (.inr (by rw [e]; rfl))
            have hfi : bk wi f = some (CB [.int .i64 p, .int .i64 s.rdc, .bool s.cl, .bool s.ro, pt d 0] T.mem_File) := by rw [ewi, bk_setb_ne _ _ _ _ (Ne.symm gf)]; exact hfh
            have hdi : bk wi d = some (CB [S s.nm, sl g 0 (p + l.length) cap, s.md, .bool s.dir, .int .u32 s.mode, .int .i64 s.mt, .int .i64 s.uid, .int .i64 s.gid] T.mem_FileData) := by rw [ewi, bk_setb_ne _ _ _ _ (Ne.symm gd)]; exact hdh
            have ldi := bk_lt hdi
            have ew : wrX s l = s.bytes.take p ++ l ++ s.bytes.drop (p + l.length) := by
              unfold wrX
              rw [if_neg (by omega), hp]
              simp only [Int.toNat_natCast]
            have ewl : (wrX s l).length = s.bytes.length := by rw [ew]; simp; omega
            have hcapm : cap ≤ maxLen := by
              rcases hown.2 with ⟨e, _⟩ | ⟨gb, cap', cur, e, h3, h4, h5, h6, _⟩
              · cases e
              · injection e with _ _ ec; rw [ec]; exact h6
            have oi : wi.ownsRow B T.uint8 1 (sl g 0 s.bytes.length cap) (wrX s l).length ((wrX s l).map byt) := by
              refine ⟨by simp, .inr ⟨g, cap, _, by rw [ewl], r2, by rw [ewi]; exact bk_setb_eq _ _ _ _ rfl lhg, by omega, hcapm, ?_, ?_⟩⟩
              · simp only [List.size_toArray, q1, Nat.mul_one]
              · rw [Nat.mul_one, ewl, ew]; exact q2
            rw [en]
            simp (disch := first | omega | (simp only [sZb, sZa, sZd] <;> omega) | (simp (disch := first | omega | (simp only [sZb, sZa, sZd] <;> omega) | fail) only [go_sem, hfi, hdi]; done) | fail) only [go_sem, dec_t, dec_f, w_u32, w_u64, w_u16, w_u8, w_i64, Int.reduceToNat, Int.reducePow, Nat.reducePow, hfi, hdi]
            refine ⟨trivial, ?_⟩
            have q := fin wi (sl g 0 s.bytes.length cap) (by rw [hp]; exact hfi) oi hnf hnd Ki (.inl rfl) _ rfl
            rw [hp] at q
            exact q
      · by_cases g1 : p + l.length < s.bytes.length
        · obtain ⟨b', cap', cur, ev, r1, r2, r3, r4, r5, r6⟩ := own_row hown (by omega)
          injection ev with ev1 ev2 ev3
          subst ev1 ev3
          have e1 : (l.length : Int) + p = ((p + l.length : Nat) : Int) := by omega
          simp (disch := first | omega | (simp only [sZb, sZa, sZd] <;> omega) | (simp (disch := first | omega | (simp only [sZb, sZa, sZd] <;> omega) | fail) only [go_sem, hp, e1, hf, hd]; done) | fail) only [go_sem, dec_t, dec_f, w_u32, w_u64, w_u16, w_u8, w_i64, Int.reduceToNat, Int.reducePow, Nat.reducePow, hp, e1, hf, hd]
          rw [oSlice_lo (size := 1) _ U.sl_uint8 (by kernel_rfl) (by omega) (by omega) (by omega)]
          refine ⟨trivial, .inr ⟨g1, b', rfl, ?_⟩⟩
          rw [Int.toNat_natCast, if_neg (by omega)]
          simp
        · simp (disch := first | omega | (simp only [sZb, sZa, sZd] <;> omega) | (simp (disch := first | omega | (simp only [sZb, sZa, sZd] <;> omega) | fail) only [go_sem, hp]; done) | fail) only [go_sem, dec_t, dec_f, w_u32, w_u64, w_u16, w_u8, w_i64, Int.reduceToNat, Int.reducePow, Nat.reducePow, hp]
          exact ⟨trivial, .inl ⟨g1, trivial⟩⟩
    · simp (disch := first | omega | (simp only [sZb, sZa, sZd] <;> omega) | (simp (disch := first | omega | (simp only [sZb, sZa, sZd] <;> omega) | fail) only [go_sem, hf, hro]; done) | fail) only [go_sem, dec_t, dec_f, w_u32, w_u64, w_u16, w_u8, w_i64, Int.reduceToNat, Int.reducePow, Nat.reducePow, hf, hro]
      exact ⟨trivial, trivial⟩
  · simp (disch := first | omega | (simp only [sZb, sZa, sZd] <;> omega) | (simp (disch := first | omega | (simp only [sZb, sZa, sZd] <;> omega) | fail) only [go_sem, hf, hc]; done) | fail) only [go_sem, dec_t, dec_f, w_u32, w_u64, w_u16, w_u8, w_i64, Int.reduceToNat, Int.reducePow, Nat.reducePow, hf, hc]
    exact ⟨trivial, trivial⟩
end Go.Proofs.YteblpejgenehfaaDoor.X
end
section
namespace Go.Proofs.YteblpejgenehfaaDoor.X
open Go Go.X Go.Proofs Go.RowKit
abbrev OwnOk (w : World) (v v' : Value) : Prop := v'.ownBlock = v.ownBlock ∨ ∀ k, v'.ownBlock = some k → w.heap.size ≤ k
theorem infoB8 : (P.info? T.uint8).map (fun i => (i.zero, i.size, i.bytes)) = some (some (.int .u8 0), 1, 1) := by kernel_rfl
section
variable {w : World} {K : Value → World → Prop} {B f d : Nat} {v x : Value} {s : FX} {m : Nat → Nat × Nat} {l : List UInt8}
theorem errV_ok (w : World) (C : Nat) (m : Nat → Nat × Nat) {k : Nat} (h : k = 0 ∨ k = 4 ∨ k = 5) : ErrV w C m k (errV m k) := by
  rcases h with rfl | rfl | rfl
  · exact .inl ⟨rfl, rfl⟩
  · exact .inr (.inl ⟨G.io_EOF, by decide, rfl, by decide⟩)
  · exact .inr (.inl ⟨G.io_ErrUnexpectedEOF, by decide, rfl, by decide⟩)
theorem rdX_err (s : FX) (n : Nat) : (rdX s n).2 = 0 ∨ (rdX s n).2 = 4 ∨ (rdX s n).2 = 5 := by
  unfold rdX
  split
  · exact .inr (.inl rfl)
  · split
    · exact .inr (.inr rfl)
    · exact .inl rfl
theorem rdX_len (s : FX) (n : Nat) : (rdX s n).1.length ≤ n ∧ (rdX s n).1.length ≤ s.bytes.length := by
  unfold rdX
  split
  · simp
  · split
    · simp
    · simp; omega
theorem pe_new {w w' : World} {op nm txt : List UInt8} (hb : bk w' w.heap.size = some (CB [S txt] T.errors_errorString)) (hp : bk w' (w.heap.size + 1) = some (CB [S op, S nm, er (w.heap.size, 0)] T.os_PathError)) : ErrV w' w.heap.size m (opCode op) (.iface T.p_os_PathError (pt (w.heap.size + 1) 0)) :=
  .inr (.inr (.inr ⟨op, (w.heap.size, 0), ⟨_, nm, rfl, hp, by omega⟩, ⟨rfl, Nat.le_refl _, txt, hb⟩, rfl⟩))
def wrR (s : FX) (l : List UInt8) : FX × Int × Int := if s.cl = true then (s, 3, 0) else if s.ro = true then (s, 6, 0) else ({ s with bytes := wrX s l, pos := s.pos + l.length, mt := 0 }, 0, l.length)
theorem write_any (h : FH w B f d v s) (hs : Sn w B m) (hx : BS w x l) (hxf : x.ownBlock ≠ some f) (hxd : x.ownBlock ≠ some d) (hb : s.cl = false → s.ro = false → 0 ≤ s.pos ∧ s.pos + l.length ≤ 140737488355328 ∧ s.bytes.length ≤ 140737488355328)
    (hk : ∀ w' v' y, FH w' B f d v' (wrR s l).1 → Kp w w' (Of f d v) → OwnOk w v v' → ErrV w' w.heap.size m (wrR s l).2.1 y → K (tup [.int .i64 (wrR s l).2.2, y]) w') : Cl P Fn.mem_File_Write #[pt f 0, x] w K := by
  unfold wrR at hk
  have hf := h.bf
  have hd := h.bd
  obtain ⟨lf, ld⟩ := h.lt
  by_cases hc : s.cl = true
  · rw [if_pos hc] at hk
    apply S_mem_File_Write
    unfold F_mem_File_Write
    refine jn_with (fun _ _ => False) (fun _ _ _ h => h.elim) ?_
    obtain ⟨q1, t1, e1⟩ := hs.at_ G.mem_ErrFileClosed (by decide)
    simp (disch := first | omega | (simp only [sZb, sZa, sZd] <;> omega) | (simp (disch := first | omega | (simp only [sZb, sZa, sZd] <;> omega) | fail) only [go_sem, hf, hc, e1]; done) | fail) only [go_sem, dec_t, dec_f, w_u32, w_u64, w_u16, w_u8, w_i64, Int.reduceToNat, Int.reducePow, Nat.reducePow, hf, hc, e1]
    exact hk _ v _ (h.old (by repeat (first | exact Below.refl _ _ | assumption | refine bel_setb ?_ (by first | exact Nat.le_refl _ | omega | (simp only [go_sem] <;> omega)) _ | refine Below.alloc ?_ (by first | exact Nat.le_refl _ | omega | (simp only [go_sem]; omega)) _ | refine Below.drew ?_))) (Kp.drew w _) (.inl rfl) (.inr (.inl ⟨G.mem_ErrFileClosed, by decide, rfl, (by decide : (3 : Int) = codeOf G.mem_ErrFileClosed)⟩))
  rw [if_neg hc] at hk
  have hc' : s.cl = false := by simpa using hc
  by_cases hr : s.ro = true
  · rw [if_pos hr] at hk
    apply S_mem_File_Write
    unfold F_mem_File_Write
    refine jn_with (fun t w' => t = [.nilIface] ∧ w' = w) ?_ ?_
    · rintro t e w1 ⟨rfl, rfl⟩
      refine jn_with (fun _ _ => False) (fun _ _ _ h => h.elim) ?_
      simp (disch := first | omega | (simp only [sZb, sZa, sZd] <;> omega) | (simp (disch := first | omega | (simp only [sZb, sZa, sZd] <;> omega) | fail) only [go_sem, hf, hd, hr]; done) | fail) only [go_sem, dec_t, dec_f, w_u32, w_u64, w_u16, w_u8, w_i64, Int.reduceToNat, Int.reducePow, Nat.reducePow, hf, hd, hr]
      refine new_spec ?_
      simp (disch := first | omega | (simp only [sZb, sZa, sZd] <;> omega) | (simp (disch := first | omega | (simp only [sZb, sZa, sZd] <;> omega) | fail) only [go_sem, hf, hd, mkPath]; done) | fail) only [go_sem, dec_t, dec_f, w_u32, w_u64, w_u16, w_u8, w_i64, Int.reduceToNat, Int.reducePow, Nat.reducePow, hf, hd, mkPath]
      refine ⟨trivial, trivial, ?_⟩
      obtain ⟨W2, e2⟩ : ∃ W2, W2 = (w1.drew.alloc (CB [S [102, 105, 108, 101, 32, 104, 97, 110, 100, 108, 101, 32, 105, 115, 32, 114, 101, 97, 100, 32, 111, 110, 108, 121]] T.errors_errorString)).alloc (CB [S [119, 114, 105, 116, 101], S s.nm, er (w1.heap.size, 0)] T.os_PathError) := ⟨_, rfl⟩
      have b1 : bk W2 w1.heap.size = some (CB [S [102, 105, 108, 101, 32, 104, 97, 110, 100, 108, 101, 32, 105, 115, 32, 114, 101, 97, 100, 32, 111, 110, 108, 121]] T.errors_errorString) := by
        rw [e2, bk_alloc_ne _ _ _ (by simp only [go_sem]; omega)]; exact bk_alloc_eq _ _ _ rfl
      have b2 : bk W2 (w1.heap.size + 1) = some (CB [S [119, 114, 105, 116, 101], S s.nm, er (w1.heap.size, 0)] T.os_PathError) := by
        rw [e2]; exact bk_alloc_eq _ _ _ (by simp only [go_sem])
      have BB : Below w1.heap.size w1 W2 := by rw [e2]; repeat (first | exact Below.refl _ _ | assumption | refine bel_setb ?_ (by first | exact Nat.le_refl _ | omega | (simp only [go_sem] <;> omega)) _ | refine Below.alloc ?_ (by first | exact Nat.le_refl _ | omega | (simp only [go_sem]; omega)) _ | refine Below.drew ?_)
      have := hk W2 v _ (h.old BB) (Kp.of_below BB _) (.inl rfl) (pe_new b1 b2)
      rw [e2] at this
      exact this
    · simp (disch := first | omega | (simp only [sZb, sZa, sZd] <;> omega) | (simp (disch := first | omega | (simp only [sZb, sZa, sZd] <;> omega) | fail) only [go_sem, hf, hc']; done) | fail) only [go_sem, dec_t, dec_f, w_u32, w_u64, w_u16, w_u8, w_i64, Int.reduceToNat, Int.reducePow, Nat.reducePow, hf, hc']
      exact ⟨trivial, trivial⟩
  · rw [if_neg hr] at hk
    have hr' : s.ro = false := by simpa using hr
    obtain ⟨b1, b2, b3⟩ := hb hc' hr'
    exact write_fx h hc' hr' hx hxf hxd b1 b2 b3 fun w' v' F' K' o' => hk w' v' _ F' K' o' (.inl ⟨rfl, rfl⟩)
theorem writeAt_any {off : Int} (h : FH w B f d v s) (hs : Sn w B m) (hx : BS w x l) (hxf : x.ownBlock ≠ some f) (hxd : x.ownBlock ≠ some d) (hb : s.cl = false → s.ro = false → 0 ≤ off ∧ off + l.length ≤ 140737488355328 ∧ s.bytes.length ≤ 140737488355328)
    (hk : ∀ w' v' y, FH w' B f d v' (wrR { s with pos := off } l).1 → Kp w w' (Of f d v) → OwnOk w v v' → ErrV w' w.heap.size m (wrR { s with pos := off } l).2.1 y → K (tup [.int .i64 (wrR { s with pos := off } l).2.2, y]) w') : Cl P Fn.mem_File_WriteAt #[pt f 0, x, .int .i64 off] w K := by
  apply S_mem_File_WriteAt
  unfold F_mem_File_WriteAt
  have hf := h.bf
  obtain ⟨l1, l2⟩ := h.lt
  simp (disch := first | omega | (simp only [sZb, sZa, sZd] <;> omega) | (simp (disch := first | omega | (simp only [sZb, sZa, sZd] <;> omega) | fail) only [go_sem, hf]; done) | fail) only [go_sem, dec_t, dec_f, w_u32, w_u64, w_u16, w_u8, w_i64, Int.reduceToNat, Int.reducePow, Nat.reducePow, hf]
  have h5 := h.setPos off
  have k5 := Kp.setb w f (CB [.int .i64 off, .int .i64 s.rdc, .bool s.cl, .bool s.ro, pt d 0] T.mem_File)
  have z5 : (setb w f (CB [.int .i64 off, .int .i64 s.rdc, .bool s.cl, .bool s.ro, pt d 0] T.mem_File)).heap.size = w.heap.size := by simp only [go_sem]
  have x5 := BS_kp hx k5 fun k hk e => hxf (by rw [hk, e])
  have s5 : Sn (setb w f (CB [.int .i64 off, .int .i64 s.rdc, .bool s.cl, .bool s.ro, pt d 0] T.mem_File)) B m := hs.below (k5.below (fun x hx e => by have := h.hf; omega) (by have := h.hf; omega))
  generalize setb w f (CB [.int .i64 off, .int .i64 s.rdc, .bool s.cl, .bool s.ro, pt d 0] T.mem_File) = w1 at *
  refine write_any h5 s5 x5 hxf hxd hb fun w2 v2 y F2 K2 a2 e2 => ?_
  rw [z5] at e2
  simp (disch := first | omega | (simp only [sZb, sZa, sZd] <;> omega) | (simp (disch := first | omega | (simp only [sZb, sZa, sZd] <;> omega) | fail) only [go_sem]; done) | fail) only [go_sem, dec_t, dec_f, w_u32, w_u64, w_u16, w_u8, w_i64, Int.reduceToNat, Int.reducePow, Nat.reducePow]
  refine hk w2 v2 y F2 ((Kp_mono k5 fun _ e => .inl e).trans K2 fun _ _ h => h) (a2.imp id fun h k hk => by rw [← z5]; exact h k hk) e2
def clR (s : FX) : FX := if s.ro = true then { s with cl := true } else { s with cl := true, mt := 0 }
theorem close_any (h : FH w B f d v s) (hk : ∀ w', FH w' B f d v (clR s) → Kp w w' (Of f d v) → K .nilIface w') : Cl P Fn.mem_File_Close #[pt f 0] w K := by
  apply S_mem_File_Close
  unfold F_mem_File_Close
  have hf := h.bf
  have hd := h.bd
  obtain ⟨lf, ld⟩ := h.lt
  have h1 := h.setHd s.pos s.rdc true s.ro
  have k1 := Kp.setb w f (CB [.int .i64 s.pos, .int .i64 s.rdc, .bool true, .bool s.ro, pt d 0] T.mem_File)
  have hfd := h.fd
  unfold clR at hk
  simp (disch := first | omega | (simp only [sZb, sZa, sZd] <;> omega) | (simp (disch := first | omega | (simp only [sZb, sZa, sZd] <;> omega) | fail) only [go_sem, hf]; done) | fail) only [go_sem, dec_t, dec_f, w_u32, w_u64, w_u16, w_u8, w_i64, Int.reduceToNat, Int.reducePow, Nat.reducePow, hf]
  generalize setb w f (CB [.int .i64 s.pos, .int .i64 s.rdc, .bool true, .bool s.ro, pt d 0] T.mem_File) = w1 at *
  have hf1 := h1.bf
  have hd1 := h1.bd
  obtain ⟨lf1, ld1⟩ := h1.lt
  by_cases hr : s.ro = true
  · rw [if_pos hr] at hk
    refine jn_with (fun t w' => w' = w1) ?_ ?_
    · rintro t e w2 rfl
      exact hk _ h1 (Kp_mono k1 fun _ e => .inl e)
    · simp (disch := first | omega | (simp only [sZb, sZa, sZd] <;> omega) | (simp (disch := first | omega | (simp only [sZb, sZa, sZd] <;> omega) | fail) only [go_sem, hf1, hr]; done) | fail) only [go_sem, dec_t, dec_f, w_u32, w_u64, w_u16, w_u8, w_i64, Int.reduceToNat, Int.reducePow, Nat.reducePow, hf1, hr]
  · rw [if_neg hr] at hk
    have hr' : s.ro = false := by simpa using hr
    obtain ⟨s1, es1⟩ : ∃ s1, s1 = { s with cl := true, mt := 0 } := ⟨_, rfl⟩
    rw [← es1] at hk
    refine jn_with (fun t w' => FH w' B f d v s1 ∧ Kp w w' (Of f d v)) ?_ ?_
    · rintro t e w2 ⟨h2, k2⟩
      exact hk _ h2 k2
    · simp (disch := first | omega | (simp only [sZb, sZa, sZd] <;> omega) | (simp (disch := first | omega | (simp only [sZb, sZa, sZd] <;> omega) | fail) only [go_sem, hf1, hr']; done) | fail) only [go_sem, dec_t, dec_f, w_u32, w_u64, w_u16, w_u8, w_i64, Int.reduceToNat, Int.reducePow, Nat.reducePow, hf1, hr']
      apply S_mem_setModTime
      unfold F_mem_setModTime
      simp (disch := first | omega | (simp only [sZb, sZa, sZd] <;> omega) | (simp (disch := first | omega | (simp only [sZb, sZa, sZd] <;> omega) | fail) only [go_sem, hd1]; done) | fail) only [go_sem, dec_t, dec_f, w_u32, w_u64, w_u16, w_u8, w_i64, Int.reduceToNat, Int.reducePow, Nat.reducePow, hd1]
      rw [es1]
      refine ⟨h1.setData (s' := { s with cl := true, mt := 0 }) ⟨rfl, rfl, rfl, rfl⟩ h1.own h1.nf h1.nd h1.md1, ?_⟩
      exact (Kp_mono k1 fun _ e => .inl e).trans (Kp.setb _ _ _) fun _ _ e => .inr (.inl e)
theorem stat_any (h : FH w B f d v s) (hk : K (tup [pt w.heap.size 0, .nilIface]) (w.alloc (CB [pt d 0] T.mem_FileInfo))) : Cl P Fn.mem_File_Stat #[pt f 0] w K := by
  apply S_mem_File_Stat
  unfold F_mem_File_Stat
  have hf := h.bf
  simp (disch := first | omega | (simp only [sZb, sZa, sZd] <;> omega) | (simp (disch := first | omega | (simp only [sZb, sZa, sZd] <;> omega) | fail) only [go_sem, hf]; done) | fail) only [go_sem, dec_t, dec_f, w_u32, w_u64, w_u16, w_u8, w_i64, Int.reduceToNat, Int.reducePow, Nat.reducePow, hf]
  exact hk
theorem name_any (h : FH w B f d v s) (hk : K (S s.nm) w) : Cl P Fn.mem_File_Name #[pt f 0] w K := by
  apply S_mem_File_Name
  unfold F_mem_File_Name
  have hf := h.bf
  have hd := h.bd
  simp (disch := first | omega | (simp only [sZb, sZa, sZd] <;> omega) | (simp (disch := first | omega | (simp only [sZb, sZa, sZd] <;> omega) | fail) only [go_sem, hf]; done) | fail) only [go_sem, dec_t, dec_f, w_u32, w_u64, w_u16, w_u8, w_i64, Int.reduceToNat, Int.reducePow, Nat.reducePow, hf]
  apply S_mem_FileData_Name
  unfold F_mem_FileData_Name
  simp (disch := first | omega | (simp only [sZb, sZa, sZd] <;> omega) | (simp (disch := first | omega | (simp only [sZb, sZa, sZd] <;> omega) | fail) only [go_sem, hd]; done) | fail) only [go_sem, dec_t, dec_f, w_u32, w_u64, w_u16, w_u8, w_i64, Int.reduceToNat, Int.reducePow, Nat.reducePow, hd]
  exact hk
def trR (s : FX) (n : Int) : FX × Int := if s.cl = true then (s, 3) else if s.ro = true then (s, 6) else if n < 0 then (s, 7) else ({ s with bytes := if (s.bytes.length : Int) < n then s.bytes ++ List.replicate (n.toNat - s.bytes.length) 0 else s.bytes.take n.toNat, mt := 0 }, 0)
set_option maxHeartbeats 4000000 in
theorem trunc_any {n : Int} (h : FH w B f d v s) (hs : Sn w B m) (hn : n ≤ 281474976710) (hb : s.bytes.length ≤ 281474976710)
    (hk : ∀ w' v' y, FH w' B f d v' (trR s n).1 → Kp w w' (Of f d v) → OwnOk w v v' → ErrV w' w.heap.size m (trR s n).2 y → K y w') : Cl P Fn.mem_File_Truncate #[pt f 0, .int .i64 n] w K := by
  apply S_mem_File_Truncate
  unfold F_mem_File_Truncate
  unfold trR at hk
  have hf := h.bf
  have hd := h.bd
  obtain ⟨lf, ld⟩ := h.lt
  by_cases hc : s.cl = true
  · rw [if_pos hc] at hk
    refine jn_with (fun _ _ => False) (fun _ _ _ h => h.elim) ?_
    obtain ⟨q1, t1, e1⟩ := hs.at_ G.mem_ErrFileClosed (by decide)
    simp (disch := first | omega | (simp only [sZb, sZa, sZd] <;> omega) | (simp (disch := first | omega | (simp only [sZb, sZa, sZd] <;> omega) | fail) only [go_sem, hf, hc, e1]; done) | fail) only [go_sem, dec_t, dec_f, w_u32, w_u64, w_u16, w_u8, w_i64, Int.reduceToNat, Int.reducePow, Nat.reducePow, hf, hc, e1]
    exact hk _ v _ h (Kp.refl w _) (.inl rfl) (.inr (.inl ⟨G.mem_ErrFileClosed, by decide, rfl, (by decide : (3 : Int) = codeOf G.mem_ErrFileClosed)⟩))
  rw [if_neg hc] at hk
  have hc' : s.cl = false := by simpa using hc
  refine jn_with (fun t w' => w' = w) ?_ ?_
  · rintro t e w1 rfl
    by_cases hr : s.ro = true
    · rw [if_pos hr] at hk
      refine jn_with (fun _ _ => False) (fun _ _ _ h => h.elim) ?_
      simp (disch := first | omega | (simp only [sZb, sZa, sZd] <;> omega) | (simp (disch := first | omega | (simp only [sZb, sZa, sZd] <;> omega) | fail) only [go_sem, hf, hd, hr]; done) | fail) only [go_sem, dec_t, dec_f, w_u32, w_u64, w_u16, w_u8, w_i64, Int.reduceToNat, Int.reducePow, Nat.reducePow, hf, hd, hr]
      refine new_spec ?_
      simp (disch := first | omega | (simp only [sZb, sZa, sZd] <;> omega) | (simp (disch := first | omega | (simp only [sZb, sZa, sZd] <;> omega) | fail) only [go_sem, hf, hd, mkPath]; done) | fail) only [go_sem, dec_t, dec_f, w_u32, w_u64, w_u16, w_u8, w_i64, Int.reduceToNat, Int.reducePow, Nat.reducePow, hf, hd, mkPath]
      refine ⟨trivial, trivial, ?_⟩
      obtain ⟨W2, e2⟩ : ∃ W2, W2 = (w1.drew.alloc (CB [S [102, 105, 108, 101, 32, 104, 97, 110, 100, 108, 101, 32, 105, 115, 32, 114, 101, 97, 100, 32, 111, 110, 108, 121]] T.errors_errorString)).alloc (CB [S [116, 114, 117, 110, 99, 97, 116, 101], S s.nm, er (w1.heap.size, 0)] T.os_PathError) := ⟨_, rfl⟩
      have b1 : bk W2 w1.heap.size = some (CB [S [102, 105, 108, 101, 32, 104, 97, 110, 100, 108, 101, 32, 105, 115, 32, 114, 101, 97, 100, 32, 111, 110, 108, 121]] T.errors_errorString) := by
        rw [e2, bk_alloc_ne _ _ _ (by simp only [go_sem]; omega)]; exact bk_alloc_eq _ _ _ rfl
      have b2 : bk W2 (w1.heap.size + 1) = some (CB [S [116, 114, 117, 110, 99, 97, 116, 101], S s.nm, er (w1.heap.size, 0)] T.os_PathError) := by
        rw [e2]; exact bk_alloc_eq _ _ _ (by simp only [go_sem])
      have BB : Below w1.heap.size w1 W2 := by rw [e2]; repeat (first | exact Below.refl _ _ | assumption | refine bel_setb ?_ (by first | exact Nat.le_refl _ | omega | (simp only [go_sem] <;> omega)) _ | refine Below.alloc ?_ (by first | exact Nat.le_refl _ | omega | (simp only [go_sem]; omega)) _ | refine Below.drew ?_)
      have := hk W2 v _ (h.old BB) (Kp.of_below BB _) (.inl rfl) (pe_new b1 b2)
      rw [e2] at this
      exact this
    · rw [if_neg hr] at hk
      have hr' : s.ro = false := by simpa using hr
      refine jn_with (fun t w' => w' = w1) ?_ ?_
      · rintro t e w2 rfl
        by_cases hn0 : n < 0
        · rw [if_pos hn0] at hk
          refine jn_with (fun _ _ => False) (fun _ _ _ h => h.elim) ?_
          obtain ⟨q1, t1, e1⟩ := hs.at_ G.mem_ErrOutOfRange (by decide)
          simp (disch := first | omega | (simp only [sZb, sZa, sZd] <;> omega) | (simp (disch := first | omega | (simp only [sZb, sZa, sZd] <;> omega) | fail) only [go_sem, e1]; done) | fail) only [go_sem, dec_t, dec_f, w_u32, w_u64, w_u16, w_u8, w_i64, Int.reduceToNat, Int.reducePow, Nat.reducePow, e1]
          exact hk _ v _ h (Kp.refl w2 _) (.inl rfl) (.inr (.inl ⟨G.mem_ErrOutOfRange, by decide, rfl, (by decide : (7 : Int) = codeOf G.mem_ErrOutOfRange)⟩))
        · rw [if_neg hn0] at hk
          refine jn_with (fun t w' => w' = w2) ?_ ?_
          · rintro t e w3 rfl
            obtain ⟨x, rfl⟩ := Int.eq_ofNat_of_zero_le (show 0 ≤ n by omega)
            rw [Int.toNat_natCast] at hk
            obtain ⟨nb, enb⟩ : ∃ nb, nb = (if (s.bytes.length : Int) < (x : Int) then s.bytes ++ List.replicate (x - s.bytes.length) 0 else s.bytes.take x) := ⟨_, rfl⟩
            rw [← enb] at hk
            obtain ⟨a, cap, ev⟩ := own_slice h.own
            refine jn_with (fun t w' => ∃ v', FH w' B f d v' { s with bytes := nb } ∧ Kp w3 w' (Of f d v) ∧ OwnOk w3 v v') ?_ ?_
            · rintro t e w4 ⟨v4, h4, k4, o4⟩
              have hf4 := h4.bf
              have hd4 := h4.bd
              obtain ⟨lf4, ld4⟩ := h4.lt
              simp (disch := first | omega | (simp only [sZb, sZa, sZd] <;> omega) | (simp (disch := first | omega | (simp only [sZb, sZa, sZd] <;> omega) | fail) only [go_sem, hf4]; done) | fail) only [go_sem, dec_t, dec_f, w_u32, w_u64, w_u16, w_u8, w_i64, Int.reduceToNat, Int.reducePow, Nat.reducePow, hf4]
              apply S_mem_setModTime
              unfold F_mem_setModTime
              simp (disch := first | omega | (simp only [sZb, sZa, sZd] <;> omega) | (simp (disch := first | omega | (simp only [sZb, sZa, sZd] <;> omega) | fail) only [go_sem, hd4]; done) | fail) only [go_sem, dec_t, dec_f, w_u32, w_u64, w_u16, w_u8, w_i64, Int.reduceToNat, Int.reducePow, Nat.reducePow, hd4]
              refine hk _ v4 _ (h4.setData (s' := { s with bytes := nb, mt := 0 }) ⟨rfl, rfl, rfl, rfl⟩ h4.own h4.nf h4.nd h4.md1) (k4.trans (Kp.setb _ _ _) fun _ _ e => .inr (.inl e)) o4 (.inl ⟨rfl, rfl⟩)
            · by_cases hlt : (s.bytes.length : Int) < (x : Int)
              · rw [if_pos hlt] at enb
                have es : ((x : Int) - (s.bytes.length : Int)) = ((x - s.bytes.length : Nat) : Int) := by omega
                subst ev
                simp (disch := first | omega | (simp only [sZb, sZa, sZd] <;> omega) | (simp (disch := first | omega | (simp only [sZb, sZa, sZd] <;> omega) | fail) only [go_sem, hf, hd, es]; done) | fail) only [go_sem, dec_t, dec_f, w_u32, w_u64, w_u16, w_u8, w_i64, Int.reduceToNat, Int.reducePow, Nat.reducePow, hf, hd, es]
                have D1 : Below w3.heap.size w3 w3.drew := by repeat (first | exact Below.refl _ _ | assumption | refine bel_setb ?_ (by first | exact Nat.le_refl _ | omega | (simp only [go_sem] <;> omega)) _ | refine Below.alloc ?_ (by first | exact Nat.le_refl _ | omega | (simp only [go_sem]; omega)) _ | refine Below.drew ?_)
                refine oAppendZ U.sl_uint8 infoB8 U.int (own_old h.own D1 (Nat.le_refl _)) (by omega) (by omega) (by have := h.hf; show B ≤ w3.heap.size; omega) fun v5 w5 o5 g5 a5 => ?_
                have K5 : Kp w3 w5 (fun k => (Value.slice a s.bytes.length cap).ownBlock = some k) := (Kp.drew w3 _).trans (Kp.of_grown g5) fun _ _ h => h
                have hf5 : bk w5 f = _ := (K5.block f lf h.nf).trans hf
                have hd5 : bk w5 d = _ := (K5.block d ld h.nd).trans hd
                have n5f : v5.ownBlock ≠ some f := fun e => by
                  rcases a5 with a5 | a5
                  · exact h.nf (by rw [← a5]; exact e)
                  · rw [a5] at e; have := Option.some.inj e; have e9 : w3.drew.heap.size = w3.heap.size := rfl; omega
                have n5d : v5.ownBlock ≠ some d := fun e => by
                  rcases a5 with a5 | a5
                  · exact h.nd (by rw [← a5]; exact e)
                  · rw [a5] at e; have := Option.some.inj e; have e9 : w3.drew.heap.size = w3.heap.size := rfl; omega
                have one5 : v5.oneCell' = true := by obtain ⟨_, _, rfl⟩ := own_slice o5; rfl
                have ld5 := bk_lt hd5
                simp (disch := first | omega | (simp only [sZb, sZa, sZd] <;> omega) | (simp (disch := first | omega | (simp only [sZb, sZa, sZd] <;> omega) | fail) only [go_sem, hf5, hd5, one5]; done) | fail) only [go_sem, dec_t, dec_f, w_u32, w_u64, w_u16, w_u8, w_i64, Int.reduceToNat, Int.reducePow, Nat.reducePow, hf5, hd5, one5]
                refine ⟨trivial, v5, ?_, ?_, ?_⟩
                · have o6 : w5.ownsRow B T.uint8 1 v5 nb.length (nb.map byt) := by
                    rw [enb]
                    have e1 : (s.bytes ++ List.replicate (x - s.bytes.length) 0).length = s.bytes.length + (x - s.bytes.length) := by simp
                    rw [e1, List.map_append, byt_zeros]
                    exact o5
                  have kd := Kp.setb w5 d (CB [S s.nm, v5, s.md, .bool s.dir, .int .u32 s.mode, .int .i64 s.mt, .int .i64 s.uid, .int .i64 s.gid] T.mem_FileData)
                  refine ⟨h.hf, h.hd, h.fd, ?_, bk_setb_eq _ _ _ _ rfl ld5, h.md1, own_kp o6 kd fun k hk e => n5d (by rw [hk, e]), n5f, n5d⟩
                  rw [bk_setb_ne _ _ _ _ h.fd]; exact hf5
                · exact (Kp_mono K5 fun _ e => .inr (.inr e)).trans (Kp.setb _ _ _) fun _ _ e => .inr (.inl e)
                · rcases a5 with a5 | a5
                  · exact .inl a5
                  · exact .inr fun k hk => by rw [a5] at hk; have := Option.some.inj hk; have e9 : w3.drew.heap.size = w3.heap.size := rfl; omega
              · rw [if_neg hlt] at enb
                obtain ⟨v5, o5, a5, _, s5⟩ := own_hi U.sl_uint8 (by kernel_rfl) h.own (p := x) (by omega)
                subst ev
                have one5 : v5.oneCell' = true := by obtain ⟨_, _, rfl⟩ := own_slice o5; rfl
                simp (disch := first | omega | (simp only [sZb, sZa, sZd] <;> omega) | (simp (disch := first | omega | (simp only [sZb, sZa, sZd] <;> omega) | fail) only [go_sem, hf, hd, s5, one5]; done) | fail) only [go_sem, dec_t, dec_f, w_u32, w_u64, w_u16, w_u8, w_i64, Int.reduceToNat, Int.reducePow, Nat.reducePow, hf, hd, s5, one5]
                refine ⟨v5, ?_, ?_, .inl a5⟩
                · have o6 : w3.drew.ownsRow B T.uint8 1 v5 nb.length (nb.map byt) := by
                    rw [enb]
                    have e1 : (s.bytes.take x).length = x := by simp; omega
                    rw [e1, List.map_take]
                    exact o5
                  have kd := Kp.setb w3.drew d (CB [S s.nm, v5, s.md, .bool s.dir, .int .u32 s.mode, .int .i64 s.mt, .int .i64 s.uid, .int .i64 s.gid] T.mem_FileData)
                  refine ⟨h.hf, h.hd, h.fd, ?_, bk_setb_eq _ _ _ _ rfl ld, h.md1, own_kp o6 kd fun k hk e => h.nd (by rw [← a5, hk, e]), by rw [a5]; exact h.nf, by rw [a5]; exact h.nd⟩
                  rw [bk_setb_ne _ _ _ _ h.fd]; exact hf
                · exact (Kp.drew w3 _).trans (Kp.setb _ _ _) fun _ _ e => .inr (.inl e)
          · simp (disch := first | omega | (simp only [sZb, sZa, sZd] <;> omega) | (simp (disch := first | omega | (simp only [sZb, sZa, sZd] <;> omega) | fail) only [go_sem]; done) | fail) only [go_sem, dec_t, dec_f, w_u32, w_u64, w_u16, w_u8, w_i64, Int.reduceToNat, Int.reducePow, Nat.reducePow]
      · simp (disch := first | omega | (simp only [sZb, sZa, sZd] <;> omega) | (simp (disch := first | omega | (simp only [sZb, sZa, sZd] <;> omega) | fail) only [go_sem, hf, hr']; done) | fail) only [go_sem, dec_t, dec_f, w_u32, w_u64, w_u16, w_u8, w_i64, Int.reduceToNat, Int.reducePow, Nat.reducePow, hf, hr']
  · simp (disch := first | omega | (simp only [sZb, sZa, sZd] <;> omega) | (simp (disch := first | omega | (simp only [sZb, sZa, sZd] <;> omega) | fail) only [go_sem, hf, hc']; done) | fail) only [go_sem, dec_t, dec_f, w_u32, w_u64, w_u16, w_u8, w_i64, Int.reduceToNat, Int.reducePow, Nat.reducePow, hf, hc']
end
end Go.Proofs.YteblpejgenehfaaDoor.X
end
section
set_option linter.unusedSectionVars false
namespace Go.X
open Go Go.RowKit
abbrev emS (l : List UInt8) : Value := S l
abbrev emI (n : Int) : Value := .int .i64 n
section
variable {κ : Type} [DecidableEq κ]
abbrev ML (κ : Type) := List (κ × Value × Nat)
def mes (emb : κ → Value) (l : ML κ) : Array MapEntry := (l.map fun x => (⟨emb x.1, x.2.1, x.2.2⟩ : MapEntry)).toArray
def MO (emb : κ → Value) (l : ML κ) (c : Nat) : Obj := .map (mes emb l) c
def mget : ML κ → κ → Option Value
  | [], _ => none
  | x :: l, k => if x.1 = k then some x.2.1 else mget l k
def mmod : ML κ → κ → Value → ML κ
  | [], _, _ => []
  | x :: l, k, v => if x.1 = k then (x.1, v, x.2.2) :: l else x :: mmod l k v
def mputL (l : ML κ) (k : κ) (v : Value) (c : Nat) : ML κ := if (mget l k).isSome then mmod l k v else l ++ [(k, v, c)]
def mputC (l : ML κ) (k : κ) (c : Nat) : Nat := if (mget l k).isSome then c else c + 1
variable {P : Program} {emb : κ → Value}
structure MWF (l : ML κ) (c : Nat) : Prop where
  keys : (l.map (·.1)).Nodup
  born : (l.map (·.2.2)).Nodup
  lt : ∀ x ∈ l, x.2.2 < c
theorem MWF.nil (c : Nat) : MWF ([] : ML κ) c := ⟨List.nodup_nil, List.nodup_nil, fun _ h => by cases h⟩
theorem mget_none_iff : ∀ (l : ML κ) (k : κ), mget l k = none ↔ k ∉ l.map (·.1)
  | [], k => by simp [mget]
  | x :: l, k => by
    simp only [mget, List.map_cons, List.mem_cons, not_or]
    by_cases h : x.1 = k
    · simp [h]
    · rw [if_neg h, mget_none_iff l k]
      exact ⟨fun q => ⟨fun e => h e.symm, q⟩, fun q => q.2⟩
theorem mmod_keys : ∀ (l : ML κ) (k : κ) (v : Value), (mmod l k v).map (·.1) = l.map (·.1) ∧ (mmod l k v).map (·.2.2) = l.map (·.2.2)
  | [], _, _ => ⟨rfl, rfl⟩
  | x :: l, k, v => by
    simp only [mmod]
    by_cases h : x.1 = k
    · simp [h]
    · simp [h, mmod_keys l k v]
theorem MWF.put {l : ML κ} {c : Nat} (h : MWF l c) (k : κ) (v : Value) : MWF (mputL l k v c) (mputC l k c) := by
  unfold mputL mputC
  cases hk : mget l k with
  | none =>
    simp only [Option.isSome_none, Bool.false_eq_true, if_false]
    have hn := (mget_none_iff l k).1 hk
    refine ⟨?_, ?_, fun x hx => ?_⟩
    · rw [List.map_append, List.nodup_append]
      refine ⟨h.keys, by simp, fun a ha b hb => ?_⟩
      simp at hb
      subst hb
      exact fun e => hn (e ▸ ha)
    · rw [List.map_append, List.nodup_append]
      refine ⟨h.born, by simp, fun a ha b hb => ?_⟩
      simp at hb
      obtain ⟨x, hx, rfl⟩ := List.mem_map.1 ha
      have := h.lt x hx
      omega
    · rcases List.mem_append.1 hx with hx | hx
      · have := h.lt x hx; omega
      · simp at hx; subst hx; exact Nat.lt_succ_self _
  | some u =>
    simp only [Option.isSome_some, if_true]
    refine ⟨by rw [(mmod_keys l k v).1]; exact h.keys, by rw [(mmod_keys l k v).2]; exact h.born, fun x hx => ?_⟩
    have : x.2.2 ∈ (mmod l k v).map (·.2.2) := List.mem_map.2 ⟨x, hx, rfl⟩
    rw [(mmod_keys l k v).2] at this
    obtain ⟨y, hy, e⟩ := List.mem_map.1 this
    rw [← e]; exact h.lt y hy
end
section
def mlS (o : Option Obj) : Option (ML (List UInt8) × Nat) :=
  match o with
  | some (.map es c) => (es.toList.mapM fun (e : MapEntry) => match e.key with | .string s => some (s.data.toList, e.val, e.born) | _ => none).map (·, c)
  | _ => none
def mlI (o : Option Obj) : Option (ML Int × Nat) :=
  match o with
  | some (.map es c) => (es.toList.mapM fun (e : MapEntry) => match e.key with | .int .i64 n => some (n, e.val, e.born) | _ => none).map (·, c)
  | _ => none
theorem mapM_some {α β : Type} (f : α → Option β) (g : β → α) (h : ∀ b, f (g b) = some b) : ∀ l : List β, (l.map g).mapM f = some l
  | [] => rfl
  | b :: l => by simp [List.mapM_cons, h, mapM_some f g h l]
@[go_sem] theorem mlS_MO (l : ML (List UInt8)) (c : Nat) : mlS (some (MO emS l c)) = some (l, c) := by
  simp only [mlS, MO, mes]
  rw [mapM_some _ (fun x : List UInt8 × Value × Nat => (⟨emS x.1, x.2.1, x.2.2⟩ : MapEntry)) (fun b => by simp [emS, S])]
  rfl
@[go_sem] theorem mlI_MO (l : ML Int) (c : Nat) : mlI (some (MO emI l c)) = some (l, c) := by
  simp only [mlI, MO, mes]
  rw [mapM_some _ (fun x : Int × Value × Nat => (⟨emI x.1, x.2.1, x.2.2⟩ : MapEntry)) (fun b => by simp [emI])]
  rfl
variable {P : Program} (w : World)
end
end Go.X
end
section
namespace Go.X
open Go Go.RowKit Go.Lib
def rest (l : List UInt8) (i : Nat) : List (List UInt8) := if i ≤ l.length then Pa.els (l.drop i) else []
end Go.X
end
section
namespace Go.X
open Go Go.RowKit Go.Lib
end Go.X
end
section
namespace Go.X
open Go
abbrev Str := List UInt8
def andI (x y : Int) : Int := (BitVec.ofInt 64 x &&& BitVec.ofInt 64 y).toInt
def orI (x y : Int) : Int := (BitVec.ofInt 64 x ||| BitVec.ofInt 64 y).toInt
def andNotI (x y : Int) : Int := (BitVec.ofInt 64 x &&& ~~~ BitVec.ofInt 64 y).toInt
theorem wrap_bvI (x : BitVec 64) : IntKind.i64.wrap (x.toNat : Int) = x.toInt := by
  rw [BitVec.toInt_eq_toNat_cond]
  have := x.isLt
  simp only [IntKind.wrap]
  simp [IntKind.bits, IntKind.signed]
  split <;> omega
section
variable {P : Program} (K : Value → Prop)
@[go_sem high] theorem oandI (t : TypeId) (cx cy : Bool) (x y : Int) : pu P (oBin .and t cx cy (.int .i64 x) (.int .i64 y)) K = K (.int .i64 (andI x y)) :=
  bin_int K (by
    simp only [binOp, Op.intBits]
    rw [if_neg (by simp), rp_pure]
    exact congrArg (fun z => some (Value.int .i64 z)) (wrap_bvI _))
@[go_sem high] theorem oorI (t : TypeId) (cx cy : Bool) (x y : Int) : pu P (oBin .or t cx cy (.int .i64 x) (.int .i64 y)) K = K (.int .i64 (orI x y)) :=
  bin_int K (by
    simp only [binOp, Op.intBits]
    rw [if_neg (by simp), rp_pure]
    exact congrArg (fun z => some (Value.int .i64 z)) (wrap_bvI _))
@[go_sem high] theorem oandNotI (t : TypeId) (cx cy : Bool) (x y : Int) : pu P (oBin .andNot t cx cy (.int .i64 x) (.int .i64 y)) K = K (.int .i64 (andNotI x y)) :=
  bin_int K (by
    simp only [binOp, Op.intBits]
    rw [if_neg (by simp), rp_pure]
    exact congrArg (fun z => some (Value.int .i64 z)) (wrap_bvI _))
end
namespace SM
structure Node where
  dir : Bool
  mode : Int
  data : Str
  time : Int
  name : Str
  deriving DecidableEq
structure Hnd where
  node : Nat
  pos : Int
  listed : Int
  cl : Bool
  ro : Bool
  deriving DecidableEq
structure Info where
  name : Str
  size : Int
  mode : Int
  dir : Bool
  time : Int
  deriving DecidableEq
structure Ans where
  e : Int
  n : Int
  off : Int
  data : Str
  names : List Str
  infos : List Info
  deriving DecidableEq
abbrev Ans.z : Ans := ⟨0, 0, 0, [], [], []⟩
abbrev Ans.err (e : Int) : Ans := ⟨e, 0, 0, [], [], []⟩
structure Stp where
  op : Int
  name : Str
  other : Str
  flag : Int
  perm : Int
  h : Int
  data : Str
  off : Int
  wh : Int
  n : Int
  deriving DecidableEq
abbrev HM := List (Int × Hnd)
def hget : HM → Int → Option Hnd
  | [], _ => none
  | x :: l, k => if x.1 = k then some x.2 else hget l k
structure Mem where
  names : List Str
  ats : List Nat
  nodes : List Node
  hs : HM
def placeG (l : List Str) (n : Str) (i : Nat) : Nat × Bool :=
  match l with
  | [] => (i, false)
  | x :: l => if Op.bytesLess x n = true then placeG l n (i + 1) else (i, decide (x = n))
def place (l : List Str) (n : Str) : Nat × Bool := placeG l n 0
def Mem.find (m : Mem) (n : Str) : Option Nat := if (place m.names n).2 then some (m.ats.getD (place m.names n).1 0) else none
def Mem.put (m : Mem) (n : Str) (x : Nat) : Mem :=
  let p := place m.names n
  if p.2 then { m with ats := m.ats.set p.1 x }
  else { m with names := m.names.take p.1 ++ n :: m.names.drop p.1, ats := m.ats.take p.1 ++ x :: m.ats.drop p.1 }
def Mem.drop (m : Mem) (n : Str) : Mem :=
  let p := place m.names n
  if p.2 then { m with names := m.names.take p.1 ++ m.names.drop (p.1 + 1), ats := m.ats.take p.1 ++ m.ats.drop (p.1 + 1) } else m
def Mem.add (m : Mem) (n : Str) (x : Node) : Mem := Mem.put { m with nodes := m.nodes ++ [{ x with name := n }] } n m.nodes.length
def ls (l : Str) : Nat → Option Nat
  | 0 => none
  | i + 1 => if l.getD i 0 = 47 then some i else ls l i
def lastSlash (l : Str) : Option Nat := ls l l.length
def parent (l : Str) : Str := match lastSlash l with | some 0 => [47] | some i => l.take i | none => [47]
def base (l : Str) : Str := match lastSlash l with | some i => l.drop (i + 1) | none => l
theorem ls_lt {l : Str} : ∀ {i j : Nat}, ls l i = some j → j < i
  | 0, _, h => by cases h
  | i + 1, j, h => by
    simp only [ls] at h
    by_cases e : l.getD i 0 = 47
    · rw [if_pos e] at h; injection h with h; omega
    · rw [if_neg e] at h; have := ls_lt h; omega
theorem lastSlash_lt {l : Str} {i : Nat} (h : lastSlash l = some i) : i < l.length := ls_lt h
def Mem.node (m : Mem) (x : Nat) : Node := m.nodes.getD x ⟨false, 0, [], 0, []⟩
def Mem.setNode (m : Mem) (x : Nat) (n : Node) : Mem := { m with nodes := m.nodes.set x n }
def has (a b : Int) : Bool := decide (andI a b ≠ 0)
def readFrom (data : Str) (pos : Int) (n : Int) : Str × Int :=
  if pos < 0 then ([], 13)
  else if 0 < max n 0 ∧ pos = data.length then ([], 4)
  else if (data.length : Int) < pos then ([], 5)
  else ((data.drop pos.toNat).take (max n 0).toNat, 0)
def grown (data : Str) (n : Int) : Str := data ++ List.replicate (n.toNat - data.length) 0
def over (data : Str) (pos : Int) (b : Str) : Str := (grown data (pos + b.length)).take pos.toNat ++ b ++ (grown data (pos + b.length)).drop (pos.toNat + b.length)
def Mem.clearF (m : Mem) (n : Str) : Nat → Bool
  | 0 => true
  | f + 1 => if n = [47] then true else
    match m.find (parent n) with
    | some x => if (m.node x).dir = false then false else m.clearF (parent n) f
    | none => m.clearF (parent n) f
def Mem.clear (m : Mem) (n : Str) : Bool := m.clearF n (n.length + 2)
end SM
end Go.X
end
section
namespace Go.Proofs.YteblpejgenehfaaDoor.X
open Go Go.X Go.Proofs Go.RowKit
theorem take_get {α : Type} {cur xs : List α} {m j : Nat} (h : cur.take m = xs) (hj : j < m) : cur[j]? = xs[j]? := by
  rw [← h, List.getElem?_take_of_lt hj]
end Go.Proofs.YteblpejgenehfaaDoor.X
end
section
namespace Go.X
open Go
section
variable {P : Program} {L : Value → Prop} {t te : TypeId}
theorem rp_eqPd {d : Nat} (h : P.underlying t = some (.pointer te)) (a : Option Addr) : rp P (Op.equalIn (d + 1) t (.pointer a) (.pointer none)) = some a.isNone := by
  cases a with
  | none => simp [Op.equalIn, rp_bind, rp_underlying h]
  | some b => simp [Op.equalIn, rp_bind, rp_underlying h]
theorem rp_eqP (h : P.underlying t = some (.pointer te)) (a : Option Addr) : rp P (Op.equal t (.pointer a) (.pointer none)) = some a.isNone := rp_eqPd h a
theorem oNeqP (h : P.underlying t = some (.pointer te)) (cx cy : Bool) (a : Option Addr) : pu P (oBin .neq t cx cy (.pointer a) (.pointer none)) L = L (.bool a.isSome) :=
  pu_v' (by
    rw [rp_bind]
    have g : rp P (eqGuard .neq t (fl cx) (fl cy) (.pointer a) (.pointer none)) = some () := by unfold eqGuard; rfl
    rw [g]
    simp only [Option.bind_some]
    have e2 : binOp .neq t (.pointer a) (.pointer none) = (do pure (.bool (!(← Op.equal t (.pointer a) (.pointer none))))) := rfl
    rw [e2, rp_bind, rp_eqP h]
    cases a <;> rfl)
end
end Go.X
end
section
namespace Go.Proofs.YteblpejgenehfaaDoor.X
open Go Go.X Go.Proofs Go.RowKit
inductive Rl | no | mem | nms | ats | nds | hmp | hnd (k : Int)
  deriving DecidableEq
abbrev nodeC (n : SM.Node) (v : Value) : List Value := [.bool n.dir, .int .i64 n.mode, v, .int .i64 n.time, S n.name]
abbrev hndC (h : SM.Hnd) : List Value := [.int .i64 h.node, .int .i64 h.pos, .int .i64 h.listed, .bool h.cl, .bool h.ro]
def nodesC (ns : List SM.Node) (ds : List Value) : List Value := (List.zipWith nodeC ns ds).flatten
structure MemX (w : World) (B p : Nat) (m : SM.Mem) (F : Fp) (vn va vd : Value) (q : Nat) (ds : List Value) (hl : ML Int) (c : Nat) (hb : Int → Nat) (ρ : Nat → Rl) : Prop where
  own : ∀ b, F.own b ↔ ρ b ≠ .no
  sub : ∀ b, F.own b → F.use b
  lt : ∀ b, F.use b → b < w.heap.size
  ge : ∀ b, F.own b → B ≤ b
  rp : ρ p = .mem
  bm : bk w p = some (CB [vn, va, vd, .map (some q)] T.spec_Mem)
  on : w.ownsRow B T.string 1 vn m.names.length (m.names.map S)
  rn : ∀ b, vn.ownBlock = some b → ρ b = .nms
  oa : w.ownsRow B T.int 1 va m.ats.length (m.ats.map fun (n : Nat) => .int .i64 n)
  ra : ∀ b, va.ownBlock = some b → ρ b = .ats
  od : w.ownsRow B T.spec_MemNode 5 vd m.nodes.length (nodesC m.nodes ds)
  rd : ∀ b, vd.ownBlock = some b → ρ b = .nds
  dl : ds.length = m.nodes.length
  db : ∀ i (h1 : i < ds.length) (h2 : i < m.nodes.length), BS w ds[i] m.nodes[i].data ∧ ∀ b, ds[i].ownBlock = some b → F.use b ∧ ρ b = .no
  rq : ρ q = .hmp
  bq : bk w q = some (MO emI hl c)
  wf : MWF hl c
  hm : ∀ k, mget hl k = (SM.hget m.hs k).map fun _ => pt (hb k) 0
  bh : ∀ k h, SM.hget m.hs k = some h → ρ (hb k) = .hnd k ∧ bk w (hb k) = some (CB (hndC h) T.spec_MemHandle)
def MemS (w : World) (B p : Nat) (m : SM.Mem) (F : Fp) : Prop := ∃ vn va vd q ds hl c hb ρ, MemX w B p m F vn va vd q ds hl c hb ρ
section
variable {w w' : World} {B p : Nat} {m : SM.Mem} {F : Fp} {vn va vd : Value} {q : Nat} {ds : List Value} {hl : ML Int} {c : Nat} {hb : Int → Nat} {ρ : Nat → Rl}
theorem MemX.frame (h : MemX w B p m F vn va vd q ds hl c hb ρ) {G : Nat → Prop} (k : Kp w w' G) (hG : ∀ b, F.use b → ¬ G b) : MemX w' B p m F vn va vd q ds hl c hb ρ := by
  have ol : ∀ b, ρ b ≠ .no → b < w.heap.size ∧ ¬ G b := fun b hb => by
    have := h.sub b ((h.own b).2 hb)
    exact ⟨h.lt b this, hG b this⟩
  refine ⟨h.own, h.sub, fun b hb => Nat.lt_of_lt_of_le (h.lt b hb) k.size, h.ge, h.rp, ?_, own_kp h.on k fun b hb => ?_, h.rn, own_kp h.oa k fun b hb => ?_, h.ra, own_kp h.od k fun b hb => ?_, h.rd, h.dl, fun i h1 h2 => ?_, h.rq, ?_, h.wf, h.hm, fun x y hx => ?_⟩
  · obtain ⟨l1, l2⟩ := ol p (by rw [h.rp]; decide)
    rw [k.block p l1 l2]; exact h.bm
  · exact (ol b (by rw [h.rn b hb]; decide)).2
  · exact (ol b (by rw [h.ra b hb]; decide)).2
  · exact (ol b (by rw [h.rd b hb]; decide)).2
  · obtain ⟨d1, d2⟩ := h.db i h1 h2
    exact ⟨BS_kp d1 k fun b hb => hG b (d2 b hb).1, d2⟩
  · obtain ⟨l1, l2⟩ := ol q (by rw [h.rq]; decide)
    rw [k.block q l1 l2]; exact h.bq
  · obtain ⟨h1, h2⟩ := h.bh x y hx
    obtain ⟨l1, l2⟩ := ol (hb x) (by rw [h1]; exact fun e => by cases e)
    exact ⟨h1, by rw [k.block _ l1 l2]; exact h2⟩
theorem MemS.frame (h : MemS w B p m F) {G : Nat → Prop} (k : Kp w w' G) (hG : ∀ b, F.use b → ¬ G b) : MemS w' B p m F := by
  obtain ⟨vn, va, vd, q, ds, hl, c, hb, ρ, h⟩ := h
  exact ⟨vn, va, vd, q, ds, hl, c, hb, ρ, h.frame k hG⟩
theorem MemX.old (h : MemX w B p m F vn va vd q ds hl c hb ρ) (k : Below w.heap.size w w') : MemX w' B p m F vn va vd q ds hl c hb ρ :=
  h.frame (Kp.of_below k (fun b => w.heap.size ≤ b)) fun b hb => by have := h.lt b hb; omega
theorem MemS.lt (h : MemS w B p m F) : ∀ b, F.use b → b < w.heap.size := by
  obtain ⟨vn, va, vd, q, ds, hl, c, hb, ρ, h⟩ := h
  exact h.lt
theorem MemS.sub (h : MemS w B p m F) : ∀ b, F.own b → F.use b := by
  obtain ⟨vn, va, vd, q, ds, hl, c, hb, ρ, h⟩ := h
  exact h.sub
end
theorem placeG_le : ∀ (l : List Str) (n : Str) (i : Nat), i ≤ (SM.placeG l n i).1 ∧ (SM.placeG l n i).1 ≤ i + l.length ∧ ((SM.placeG l n i).2 = true → (SM.placeG l n i).1 < i + l.length)
  | [], n, i => by simp [SM.placeG]
  | x :: l, n, i => by
    simp only [SM.placeG]
    split
    · obtain ⟨h1, h2, h3⟩ := placeG_le l n (i + 1)
      simp only [List.length_cons]
      exact ⟨by omega, by omega, fun h => by have := h3 h; omega⟩
    · simp
theorem place_le (l : List Str) (n : Str) : (SM.place l n).1 ≤ l.length ∧ ((SM.place l n).2 = true → (SM.place l n).1 < l.length) := by
  obtain ⟨h1, h2, h3⟩ := placeG_le l n 0
  unfold SM.place
  exact ⟨by omega, fun h => by have := h3 h; omega⟩
end Go.Proofs.YteblpejgenehfaaDoor.X
end
section
namespace Go.Proofs.YteblpejgenehfaaDoor.X
open Go Go.X Go.Proofs Go.RowKit
section
variable {w w' : World} {B p : Nat} {m : SM.Mem} {F : Fp} {vn va vd : Value} {q : Nat} {ds : List Value} {hl : ML Int} {c : Nat} {hb : Int → Nat} {ρ : Nat → Rl}
theorem MemX.in_ (h : MemX w B p m F vn va vd q ds hl c hb ρ) {b : Nat} (hb : ρ b ≠ .no) : b < w.heap.size := h.lt b (h.sub b ((h.own b).2 hb))
structure Left (w' : World) (B p : Nat) (m : SM.Mem) (F : Fp) (vn va vd : Value) (q : Nat) (ds : List Value) (hl : ML Int) (c : Nat) (hb : Int → Nat) (ρ : Nat → Rl) (R : Rl) : Prop where
  lt : ∀ b, F.use b → b < w'.heap.size
  bm : R ≠ .mem → bk w' p = some (CB [vn, va, vd, .map (some q)] T.spec_Mem)
  on : R ≠ .nms → w'.ownsRow B T.string 1 vn m.names.length (m.names.map S)
  oa : R ≠ .ats → w'.ownsRow B T.int 1 va m.ats.length (m.ats.map fun (n : Nat) => .int .i64 n)
  od : R ≠ .nds → w'.ownsRow B T.spec_MemNode 5 vd m.nodes.length (nodesC m.nodes ds)
  db : ∀ i (h1 : i < ds.length) (h2 : i < m.nodes.length), BS w' ds[i] m.nodes[i].data ∧ ∀ b, ds[i].ownBlock = some b → F.use b ∧ ρ b = .no
  bq : R ≠ .hmp → bk w' q = some (MO emI hl c)
  bh : ∀ k h, SM.hget m.hs k = some h → R ≠ .hnd k → bk w' (hb k) = some (CB (hndC h) T.spec_MemHandle)
theorem MemX.only (h : MemX w B p m F vn va vd q ds hl c hb ρ) {R : Rl} {G : Nat → Prop} (k : Kp w w' G) (hG : ∀ b, b < w.heap.size → G b → ρ b = R) (hR : R ≠ .no) : Left w' B p m F vn va vd q ds hl c hb ρ R := by
  have ne : ∀ b, ρ b ≠ .no → R ≠ ρ b → b < w.heap.size ∧ ¬ G b := fun b h1 h2 => ⟨h.in_ h1, fun hg => h2 (hG b (h.in_ h1) hg).symm⟩
  refine ⟨fun b hb => Nat.lt_of_lt_of_le (h.lt b hb) k.size, fun e => ?_, fun e => own_kp h.on k fun b hb => ?_, fun e => own_kp h.oa k fun b hb => ?_, fun e => own_kp h.od k fun b hb => ?_, fun i h1 h2 => ?_, fun e => ?_, fun x y hx e => ?_⟩
  · obtain ⟨l1, l2⟩ := ne p (by rw [h.rp]; decide) (by rw [h.rp]; exact e)
    rw [k.block p l1 l2]; exact h.bm
  · exact (ne b (by rw [h.rn b hb]; decide) (by rw [h.rn b hb]; exact e)).2
  · exact (ne b (by rw [h.ra b hb]; decide) (by rw [h.ra b hb]; exact e)).2
  · exact (ne b (by rw [h.rd b hb]; decide) (by rw [h.rd b hb]; exact e)).2
  · obtain ⟨d1, d2⟩ := h.db i h1 h2
    exact ⟨BS_kp d1 k fun b hb hg => hR (by rw [← hG b (h.lt b (d2 b hb).1) hg]; exact (d2 b hb).2), d2⟩
  · obtain ⟨l1, l2⟩ := ne q (by rw [h.rq]; decide) (by rw [h.rq]; exact e)
    rw [k.block q l1 l2]; exact h.bq
  · obtain ⟨h1, h2⟩ := h.bh x y hx
    obtain ⟨l1, l2⟩ := ne (hb x) (by rw [h1]; exact fun e => by cases e) (by rw [h1]; exact e)
    rw [k.block _ l1 l2]; exact h2
theorem MemX.tr (h : MemX w B p m F vn va vd q ds hl c hb ρ) {R : Rl} {G : Nat → Prop} (k : Kp w w' G) (hG : ∀ b, b < w.heap.size → G b → ρ b = R) (hR : R ≠ .no) : Tr w w' F F :=
  ⟨Kp_sub k fun b hb hg => (h.own b).2 (by rw [hG b hb hg]; exact hR), Fp.step_refl _ _⟩
end
end Go.Proofs.YteblpejgenehfaaDoor.X
end
section
namespace Go.Proofs.YteblpejgenehfaaDoor.X
open Go Go.X Go.Proofs Go.RowKit
end Go.Proofs.YteblpejgenehfaaDoor.X
end
section
namespace Go.Proofs.YteblpejgenehfaaDoor.X
open Go Go.X Go.Proofs Go.RowKit
theorem nodesC_len (ns : List SM.Node) (ds : List Value) (h : ds.length = ns.length) : (nodesC ns ds).length = ns.length * 5 := by
  unfold nodesC
  have : ∀ (ns : List SM.Node) (ds : List Value), ds.length = ns.length → (List.zipWith nodeC ns ds).flatten.length = ns.length * 5 := by
    intro ns
    induction ns with
    | nil => intro ds h; simp
    | cons n ns ih =>
      intro ds h
      cases ds with
      | nil => simp at h
      | cons d ds => simp at h; simp [ih ds h]; omega
  exact this ns ds h
theorem nodesC_at (ns : List SM.Node) (ds : List Value) (h : ds.length = ns.length) {i : Nat} (hi : i < ns.length) : ((nodesC ns ds).drop (i * 5)).take 5 = nodeC ns[i] (ds[i]'(by omega)) := by
  unfold nodesC
  induction ns generalizing ds i with
  | nil => simp at hi
  | cons n ns ih =>
    cases ds with
    | nil => simp at h
    | cons d ds =>
      simp at h
      cases i with
      | zero => simp
      | succ i =>
        simp only [List.length_cons] at hi
        have := ih ds h (i := i) (by omega)
        simp only [List.zipWith_cons_cons, List.flatten_cons, List.getElem_cons_succ]
        rw [← this]
        congr 1
        rw [show (i + 1) * 5 = (nodeC n d).length + i * 5 by simp; omega, List.drop_append]
        simp
theorem nodesC_set (ns : List SM.Node) (ds : List Value) (h : ds.length = ns.length) {i : Nat} (hi : i < ns.length) (n : SM.Node) (d : Value) : nodesC (ns.set i n) (ds.set i d) = (nodesC ns ds).take (i * 5) ++ nodeC n d ++ (nodesC ns ds).drop (i * 5 + 5) := by
  unfold nodesC
  induction ns generalizing ds i with
  | nil => simp at hi
  | cons a ns ih =>
    cases ds with
    | nil => simp at h
    | cons e ds =>
      simp at h
      cases i with
      | zero => simp
      | succ i =>
        simp only [List.length_cons] at hi
        have := ih ds h (i := i) (by omega)
        simp only [List.set_cons_succ, List.zipWith_cons_cons, List.flatten_cons]
        rw [this, show (i + 1) * 5 = (nodeC a e).length + i * 5 by simp; omega, List.take_length_add_append, show (nodeC a e).length + i * 5 + 5 = (nodeC a e).length + (i * 5 + 5) by omega, List.drop_length_add_append]
        simp only [List.append_assoc]
end Go.Proofs.YteblpejgenehfaaDoor.X
end
section
namespace Go.Proofs.YteblpejgenehfaaDoor.X
open Go Go.X Go.Proofs Go.RowKit
section
variable {w w' : World} {B p : Nat} {m : SM.Mem} {F : Fp} {vn va vd : Value} {q : Nat} {ds : List Value} {hl : ML Int} {c : Nat} {hb : Int → Nat} {ρ : Nat → Rl}
theorem MemX.more (h : MemX w B p m F vn va vd q ds hl c hb ρ) {U : Nat → Prop} (hU : ∀ b, U b → b < w.heap.size) : MemX w B p m ⟨F.own, fun b => F.use b ∨ U b⟩ vn va vd q ds hl c hb ρ :=
  ⟨h.own, fun b hb => .inl (h.sub b hb), fun b hb => hb.elim (h.lt b) (hU b), h.ge, h.rp, h.bm, h.on, h.rn, h.oa, h.ra, h.od, h.rd, h.dl, fun i h1 h2 => ⟨(h.db i h1 h2).1, fun b hb => ⟨.inl ((h.db i h1 h2).2 b hb).1, ((h.db i h1 h2).2 b hb).2⟩⟩, h.rq, h.bq, h.wf, h.hm, h.bh⟩
theorem MemX.turnD (h : MemX w B p m F vn va vd q ds hl c hb ρ) {g : Nat} {cur cur' : List Value} {nodes' : List SM.Node} {ds' : List Value} (hg : vd.ownBlock = some g) (hc : bk w g = some (CB cur T.spec_MemNode)) (hcl : cur'.length = cur.length) (hn : nodes'.length = m.nodes.length) (ht : cur'.take (m.nodes.length * 5) = nodesC nodes' ds')
    (hd : ds'.length = nodes'.length) (hdb : ∀ i (h1 : i < ds'.length) (h2 : i < nodes'.length), BS w ds'[i] nodes'[i].data ∧ ∀ b, ds'[i].ownBlock = some b → F.use b ∧ ρ b = .no) :
    MemX (setb w g (CB cur' T.spec_MemNode)) B p { m with nodes := nodes' } F vn va vd q ds' hl c hb ρ ∧ Tr w (setb w g (CB cur' T.spec_MemNode)) F F := by
  have rg := h.rd g hg
  have k := Kp.setb w g (CB cur' T.spec_MemNode)
  have hG : ∀ b, b < w.heap.size → b = g → ρ b = .nds := fun b _ e => by rw [e]; exact rg
  have l := h.only k hG (by decide)
  refine ⟨⟨h.own, h.sub, l.lt, h.ge, h.rp, l.bm (by decide), l.on (by decide), h.rn, l.oa (by decide), h.ra, ?_, h.rd, hd, fun i h1 h2 => ?_, h.rq, l.bq (by decide), h.wf, h.hm, fun a b hx => ⟨(h.bh a b hx).1, l.bh a b hx (fun e => by cases e)⟩⟩, h.tr k hG (by decide)⟩
  · have o := own_set h.od hg hc hcl _ (rfl : CB cur' T.spec_MemNode = _)
    rw [ht] at o
    show World.ownsRow _ _ _ _ _ nodes'.length _
    rw [hn]; exact o
  · obtain ⟨d1, d2⟩ := hdb i h1 h2
    exact ⟨BS_kp d1 k fun b hb e => (by have := (d2 b hb).2; rw [e, rg] at this; cases this), d2⟩
end
theorem BS_one' {w : World} {v : Value} {l : List UInt8} (h : BS w v l) : v.oneCell' = true := by
  obtain ⟨a, c, rfl⟩ := BS_slice h
  rfl
end Go.Proofs.YteblpejgenehfaaDoor.X
end
section
namespace Go.Proofs.YteblpejgenehfaaDoor.X
open Go Go.X Go.Proofs Go.RowKit Go.Lib
end Go.Proofs.YteblpejgenehfaaDoor.X
end
section
namespace Go.Proofs.YteblpejgenehfaaDoor.X
open Go Go.X Go.Proofs Go.RowKit
theorem BS_nil (w : World) : BS w (.slice none 0 0) [] := .inl ⟨rfl, _, _, rfl⟩
end Go.Proofs.YteblpejgenehfaaDoor.X
end
section
namespace Go.Proofs.YteblpejgenehfaaDoor.X
open Go Go.X Go.Proofs Go.RowKit
structure NodeAt (w : World) (vd : Value) (m : SM.Mem) (i : Nat) (d : Value) (g : Nat) (cur : List Value) : Prop where
  ob : vd.ownBlock = some g
  bg : bk w g = some (CB cur T.spec_MemNode)
  len : i * 5 + 5 ≤ cur.length
  ix : ∀ (k : IntKind) (M : Value → Prop), pu P (oIdxA T.sl_spec_MemNode vd (.int k i)) M = M (pt g (i * 5))
  row : (cur.drop (i * 5)).take 5 = nodeC (m.node i) d
  c0 : cur[i * 5]? = some (.bool (m.node i).dir)
  c1 : cur[i * 5 + 1]? = some (.int .i64 (m.node i).mode)
  c2 : cur[i * 5 + 2]? = some d
  c3 : cur[i * 5 + 3]? = some (.int .i64 (m.node i).time)
  c4 : cur[i * 5 + 4]? = some (S (m.node i).name)
theorem node_get {m : SM.Mem} {i : Nat} (h : i < m.nodes.length) : m.node i = m.nodes[i] := by
  unfold SM.Mem.node
  simp [h]
section
variable {w w' : World} {B p : Nat} {m : SM.Mem} {F : Fp} {vn va vd : Value} {q : Nat} {ds : List Value} {hl : ML Int} {c : Nat} {hb : Int → Nat} {ρ : Nat → Rl}
theorem MemX.node (h : MemX w B p m F vn va vd q ds hl c hb ρ) {i : Nat} (hi : i < m.nodes.length) : ∃ g cur, NodeAt w vd m i (ds[i]'(by rw [h.dl]; exact hi)) g cur ∧ m.nodes.length * 5 ≤ cur.length ∧ cur.take (m.nodes.length * 5) = nodesC m.nodes ds := by
  obtain ⟨g, cur, h1, h2, h3, h4, h5, h6⟩ := own_idx U.sl_spec_MemNode (by kernel_rfl) h.od hi
  have hl5 : i * 5 + 5 ≤ m.nodes.length * 5 := by omega
  have row : (cur.drop (i * 5)).take 5 = nodeC (m.node i) (ds[i]'(by rw [h.dl]; exact hi)) := by
    rw [node_get hi, ← nodesC_at m.nodes ds h.dl hi, ← h5, List.drop_take, List.take_take, Nat.min_eq_left (by omega)]
  have gt : ∀ j, j < 5 → cur[i * 5 + j]? = (nodeC (m.node i) (ds[i]'(by rw [h.dl]; exact hi)))[j]? := fun j hj => by
    rw [← row, List.getElem?_take_of_lt hj, List.getElem?_drop]
  exact ⟨g, cur, ⟨h1, h3, by omega, h6, row, gt 0 (by omega), gt 1 (by omega), gt 2 (by omega), gt 3 (by omega), gt 4 (by omega)⟩, h4, h5⟩
theorem MemX.data (h : MemX w B p m F vn va vd q ds hl c hb ρ) {i : Nat} (hi : i < m.nodes.length) : BS w (ds[i]'(by rw [h.dl]; exact hi)) (m.node i).data ∧ ∀ b, (ds[i]'(by rw [h.dl]; exact hi)).ownBlock = some b → F.use b ∧ ρ b = .no := by
  have := h.db i (by rw [h.dl]; exact hi) hi
  rw [node_get hi]; exact this
end
theorem find_lt {m : SM.Mem} (hA : m.ats.length = m.names.length) (hL : ∀ a ∈ m.ats, a < m.nodes.length) {l : Str} {x : Nat} (h : m.find l = some x) : x < m.nodes.length := by
  unfold SM.Mem.find at h
  by_cases e : (SM.place m.names l).2 = true
  · rw [if_pos e] at h
    injection h with h
    have := (place_le m.names l).2 e
    rw [← h]
    have hlt : (SM.place m.names l).1 < m.ats.length := by omega
    simp only [List.getD_eq_getElem?_getD, List.getElem?_eq_getElem hlt, Option.getD_some]
    exact hL _ (List.getElem_mem hlt)
  · rw [if_neg e] at h; cases h
end Go.Proofs.YteblpejgenehfaaDoor.X
end
section
namespace Go.Proofs.YteblpejgenehfaaDoor.X
open Go Go.X Go.Proofs Go.RowKit
theorem infoB : (P.info? T.uint8).map (fun i => (i.zero, i.size, i.bytes)) = some (some (.int .u8 0), 1, 1) := by kernel_rfl
theorem oCopyNo {P : Program} {w : World} {L : Value → World → Prop} {tB tE : TypeId} {cs : Array Bool} {ty : TypeId} (h2 : P.underlying tB = some (.slice tE)) (hs : (P.info? tE).map (·.size) = some 1) {n m cap : Nat} {a a' : Option Addr} :
    st P (oBuiltin .copy #[tB, tB] ty cs #[.slice a' n m, .slice a 0 cap]) w L = L (.int .i64 0) w := by
  refine st_eq_value (run_v' ?_)
  cases hie : P.info? tE with
  | none => rw [hie] at hs; cases hs
  | some ie =>
  cases a <;> cases a' <;> simp [Builtin.copy_, run_underlying h2, sizeOf, typeInfo, hie, Builtin.lenOf, Builtin.firstCells, loadCells, loadCellsFrom, storeCells, goInt]
theorem copy_lit {w : World} {K : Value → World → Prop} {v : Value} {l : List UInt8} {cs : Array Bool} {ty : TypeId} (hv : BS w v l) (hl : l.length ≤ 140737488355328)
    (h : ∀ v' w', w'.ownsRow w.heap.size T.uint8 1 v' l.length (l.map byt) → Below w.heap.size w w' → K v' w') :
    st P (oBuiltin .append #[T.sl_uint8, T.sl_uint8] ty cs #[sl w.heap.size 0 0 0, v]) (w.alloc (CB [] T.uint8)) K := by
  have B1 : Below w.heap.size w (w.alloc (CB [] T.uint8)) := by repeat (first | exact Below.refl _ _ | assumption | refine bel_setb ?_ (by first | exact Nat.le_refl _ | omega | (simp only [go_sem] <;> omega)) _ | refine Below.alloc ?_ (by first | exact Nat.le_refl _ | omega | (simp only [go_sem]; omega)) _ | refine Below.drew ?_)
  have o1 : (w.alloc (CB [] T.uint8)).ownsRow w.heap.size T.uint8 1 (sl w.heap.size 0 0 0) 0 [] := ⟨rfl, .inr ⟨w.heap.size, 0, #[], rfl, Nat.le_refl _, heap_alloc_new w _, Nat.le_refl _, by simp [maxLen], rfl, rfl⟩⟩
  refine oAppendBS U.sl_uint8 infoB o1 (BS_old hv B1 (Nat.le_refl _)) (by omega) (by simp only [go_sem]; omega) fun v' w' o g a => ?_
  exact h _ _ (by simpa using o) (B1.trans (own_bel o1 g (by simp only [go_sem]; omega)))
theorem grown_len (l : Str) (n : Int) : (SM.grown l n).length = max l.length n.toNat := by
  unfold SM.grown
  simp; omega
end Go.Proofs.YteblpejgenehfaaDoor.X
end
section
namespace Go.Proofs.YteblpejgenehfaaDoor.X
open Go Go.X Go.Proofs Go.RowKit
abbrev infoC (i : SM.Info) : List Value := [S i.name, .int .i64 i.size, .int .i64 i.mode, .bool i.dir, .int .i64 i.time]
abbrev stepC (s : SM.Stp) (v : Value) : List Value := [.int .i64 s.op, S s.name, S s.other, .int .i64 s.flag, .int .i64 s.perm, .int .i64 s.h, v, .int .i64 s.off, .int .i64 s.wh, .int .i64 s.n]
abbrev answC (a : SM.Ans) (x y z : Value) : List Value := [.int .i64 a.e, .int .i64 a.n, .int .i64 a.off, x, y, z]
abbrev ansZ : List Value := answC SM.Ans.z (.slice none 0 0) (.slice none 0 0) (.slice none 0 0)
def infosC (l : List SM.Info) : List Value := (l.map infoC).flatten
def AnsV (w : World) (lo : Nat) (a : SM.Ans) (c : List Value) : Prop := ∃ x y z, c = answC a x y z ∧ BS w x a.data ∧ RowS w y a.names.length (a.names.map S) ∧ RowS w z a.infos.length (infosC a.infos) ∧ ∀ b, (x.ownBlock = some b ∨ y.ownBlock = some b ∨ z.ownBlock = some b) → lo ≤ b ∧ b < w.heap.size
theorem RowS_nil (w : World) : RowS w (.slice none 0 0) 0 [] := .inr ⟨rfl, rfl, _, _, rfl⟩
theorem AnsV.plain (w : World) (lo : Nat) {a : SM.Ans} (h1 : a.data = []) (h2 : a.names = []) (h3 : a.infos = []) : AnsV w lo a (answC a (.slice none 0 0) (.slice none 0 0) (.slice none 0 0)) :=
  ⟨_, _, _, rfl, by rw [h1]; exact BS_nil w, by rw [h2]; exact RowS_nil w, by rw [h3]; exact RowS_nil w, fun b hb => by rcases hb with h | h | h <;> cases h⟩
theorem AnsV.data {w : World} {lo : Nat} {a : SM.Ans} {x : Value} (hx : BS w x a.data) (hl : ∀ b, x.ownBlock = some b → lo ≤ b ∧ b < w.heap.size) (h2 : a.names = []) (h3 : a.infos = []) : AnsV w lo a (answC a x (.slice none 0 0) (.slice none 0 0)) :=
  ⟨_, _, _, rfl, hx, by rw [h2]; exact RowS_nil w, by rw [h3]; exact RowS_nil w, fun b hb => by rcases hb with h | h | h; exact hl b h; cases h; cases h⟩
theorem AnsV.less {w : World} {lo lo' : Nat} {a : SM.Ans} {c : List Value} (h : AnsV w lo a c) (hl : lo' ≤ lo) : AnsV w lo' a c := by
  obtain ⟨x, y, z, e, h1, h2, h3, h4⟩ := h
  exact ⟨x, y, z, e, h1, h2, h3, fun b hb => ⟨by have := (h4 b hb).1; omega, (h4 b hb).2⟩⟩
def AnsN (w : World) (lo : Nat) (U : Nat → Prop) (a : SM.Ans) (c : List Value) : Prop := ∃ x y z, c = answC a x y z ∧ BS w x a.data ∧ RowS w y a.names.length (a.names.map S) ∧ RowS w z a.infos.length (infosC a.infos) ∧ ∀ b, (x.ownBlock = some b ∨ y.ownBlock = some b ∨ z.ownBlock = some b) → lo ≤ b ∧ b < w.heap.size ∧ ¬ U b
theorem AnsV.n {w : World} {lo : Nat} {U : Nat → Prop} {a : SM.Ans} {c : List Value} (h : AnsV w lo a c) (hU : ∀ b, U b → b < lo) : AnsN w lo U a c := by
  obtain ⟨x, y, z, e, h1, h2, h3, h4⟩ := h
  exact ⟨x, y, z, e, h1, h2, h3, fun b hb => ⟨(h4 b hb).1, (h4 b hb).2, fun u => by have := hU b u; have := (h4 b hb).1; omega⟩⟩
theorem AnsN.v {w : World} {lo : Nat} {U : Nat → Prop} {a : SM.Ans} {c : List Value} (h : AnsN w lo U a c) : AnsV w lo a c := by
  obtain ⟨x, y, z, e, h1, h2, h3, h4⟩ := h
  exact ⟨x, y, z, e, h1, h2, h3, fun b hb => ⟨(h4 b hb).1, (h4 b hb).2.1⟩⟩
theorem AnsN.plain (w : World) (lo : Nat) (U : Nat → Prop) {a : SM.Ans} (h1 : a.data = []) (h2 : a.names = []) (h3 : a.infos = []) : AnsN w lo U a (answC a (.slice none 0 0) (.slice none 0 0) (.slice none 0 0)) :=
  ⟨_, _, _, rfl, by rw [h1]; exact BS_nil w, by rw [h2]; exact RowS_nil w, by rw [h3]; exact RowS_nil w, fun b hb => by rcases hb with h | h | h <;> cases h⟩
theorem AnsN.kp {w w' : World} {lo : Nat} {U : Nat → Prop} {a : SM.Ans} {c : List Value} {S : Nat → Prop} (h : AnsN w lo U a c) (k : Kp w w' S) (hS : ∀ b, lo ≤ b → b < w.heap.size → ¬ U b → ¬ S b) : AnsN w' lo U a c := by
  obtain ⟨x, y, z, e, h1, h2, h3, h4⟩ := h
  have g : ∀ b, (x.ownBlock = some b ∨ y.ownBlock = some b ∨ z.ownBlock = some b) → ¬ S b := fun b hb => hS b (h4 b hb).1 (h4 b hb).2.1 (h4 b hb).2.2
  exact ⟨x, y, z, e, BS_kp h1 k fun b hb => g b (.inl hb), h2.kp k fun b hb => g b (.inr (.inl hb)), h3.kp k fun b hb => g b (.inr (.inr hb)), fun b hb => ⟨(h4 b hb).1, Nat.lt_of_lt_of_le (h4 b hb).2.1 k.size, (h4 b hb).2.2⟩⟩
theorem AnsN.less {w : World} {lo lo' : Nat} {U : Nat → Prop} {a : SM.Ans} {c : List Value} (h : AnsN w lo U a c) (hl : lo' ≤ lo) : AnsN w lo' U a c := by
  obtain ⟨x, y, z, e, h1, h2, h3, h4⟩ := h
  exact ⟨x, y, z, e, h1, h2, h3, fun b hb => ⟨by have := (h4 b hb).1; omega, (h4 b hb).2⟩⟩
theorem AnsN.to {w : World} {lo : Nat} {U V : Nat → Prop} {a : SM.Ans} {c : List Value} (h : AnsN w lo U a c) (hV : ∀ b, lo ≤ b → b < w.heap.size → ¬ U b → ¬ V b) : AnsN w lo V a c := by
  obtain ⟨x, y, z, e, h1, h2, h3, h4⟩ := h
  exact ⟨x, y, z, e, h1, h2, h3, fun b hb => ⟨(h4 b hb).1, (h4 b hb).2.1, hV b (h4 b hb).1 (h4 b hb).2.1 (h4 b hb).2.2⟩⟩
section
variable {w w' : World} {B p : Nat} {m : SM.Mem} {F : Fp} {vn va vd : Value} {q : Nat} {ds : List Value} {hl : ML Int} {c : Nat} {hb : Int → Nat} {ρ : Nat → Rl}
theorem MemX.store (h : MemX w B p m F vn va vd q ds hl c hb ρ) {i j g : Nat} {x d d' : Value} {n' : SM.Node} {cur : List Value} (hi : i < m.nodes.length) (na : NodeAt w vd m i d g cur) (hd0 : d = ds[i]'(by rw [h.dl]; exact hi)) (hcl : m.nodes.length * 5 ≤ cur.length) (ht : cur.take (m.nodes.length * 5) = nodesC m.nodes ds) (hj : j < 5) (e : (nodeC (m.node i) d).set j x = nodeC n' d')
    (hd : BS w d' n'.data ∧ ∀ b, d'.ownBlock = some b → F.use b ∧ ρ b = .no) :
    MemX (setb w g (CB (cur.set (i * 5 + j) x) T.spec_MemNode)) B p (m.setNode i n') F vn va vd q (ds.set i d') hl c hb ρ ∧ NodeAt (setb w g (CB (cur.set (i * 5 + j) x) T.spec_MemNode)) vd (m.setNode i n') i d' g (cur.set (i * 5 + j) x) ∧ Tr w (setb w g (CB (cur.set (i * 5 + j) x) T.spec_MemNode)) F F ∧
      (m.setNode i n').nodes.length * 5 ≤ (cur.set (i * 5 + j) x).length ∧ (cur.set (i * 5 + j) x).take ((m.setNode i n').nodes.length * 5) = nodesC (m.setNode i n').nodes (ds.set i d') := by
  have hl5 : i * 5 + 5 ≤ m.nodes.length * 5 := by omega
  have ln := nodesC_len m.nodes ds h.dl
  have ht' : (cur.set (i * 5 + j) x).take (m.nodes.length * 5) = nodesC (m.nodes.set i n') (ds.set i d') := by
    rw [List.take_set, ht, nodesC_set m.nodes ds h.dl hi, ← e]
    have e5 := nodesC_at m.nodes ds h.dl hi
    rw [← node_get hi, ← hd0] at e5
    rw [← e5]
    have l5 : ((nodesC m.nodes ds).drop (i * 5)).length = m.nodes.length * 5 - i * 5 := by rw [List.length_drop, ln]
    apply List.ext_getElem?
    intro a
    by_cases ha : a = i * 5 + j
    · subst ha
      rw [List.getElem?_set_self (by omega), List.append_assoc, List.getElem?_append_right (by simp; omega), List.getElem?_append_left (by simp; omega)]
      rw [show i * 5 + j - ((nodesC m.nodes ds).take (i * 5)).length = j by simp; omega, List.getElem?_set_self (by simp; omega)]
    · rw [List.getElem?_set_ne (fun q => ha q.symm), List.append_assoc]
      by_cases h1 : a < i * 5
      · rw [List.getElem?_append_left (by simp; omega), List.getElem?_take_of_lt h1]
      · rw [List.getElem?_append_right (by simp; omega)]
        have la : ((nodesC m.nodes ds).take (i * 5)).length = i * 5 := by simp; omega
        rw [la]
        by_cases h2 : a < i * 5 + 5
        · rw [List.getElem?_append_left (by simp; omega), List.getElem?_set_ne (by omega), List.getElem?_take_of_lt (by omega), List.getElem?_drop]
          congr 1; omega
        · rw [List.getElem?_append_right (by simp; omega), List.getElem?_drop]
          congr 1
          simp; omega
  have hdl : (ds.set i d').length = (m.nodes.set i n').length := by simp [h.dl]
  obtain ⟨r1, r2⟩ := h.turnD (nodes' := m.nodes.set i n') (ds' := ds.set i d') na.ob na.bg (by simp) (by simp) ht' hdl (fun a h1 h2 => by
    by_cases ea : i = a
    · subst ea
      simp only [List.getElem_set_self]
      exact hd
    · rw [List.getElem_set_ne ea, List.getElem_set_ne ea]
      exact h.db a (by simpa using h1) (by simpa using h2))
  refine ⟨r1, ?_, r2, by simp [SM.Mem.setNode]; omega, by simpa [SM.Mem.setNode] using ht'⟩
  have hi' : i < (m.setNode i n').nodes.length := by simpa [SM.Mem.setNode] using hi
  obtain ⟨g2, cur2, na2, _, _⟩ := r1.node hi'
  have eg : g2 = g := Option.some.inj (na2.ob.symm.trans na.ob)
  subst eg
  have ec : cur2 = cur.set (i * 5 + j) x := by
    have := na2.bg
    rw [bk_setb_eq _ _ _ _ rfl (bk_lt na.bg)] at this
    injection this with this
    injection this with this
    simpa using this.symm
  subst ec
  have ed : (ds.set i d')[i]'(by rw [r1.dl]; exact hi') = d' := by simp
  rw [ed] at na2
  exact na2
end
end Go.Proofs.YteblpejgenehfaaDoor.X
end
section
namespace Go.Proofs.YteblpejgenehfaaDoor.X
open Go Go.X Go.Proofs Go.RowKit
section
variable {w : World} {K : Value → World → Prop} {B p : Nat} {m : SM.Mem} {F : Fp} {vn va vd : Value} {q : Nat} {ds : List Value} {hl : ML Int} {c : Nat} {hb : Int → Nat} {ρ : Nat → Rl} {k : Int} {hd : SM.Hnd} {s : SM.Stp} {v : Value}
theorem MemX.hne (h : MemX w B p m F vn va vd q ds hl c hb ρ) (hh : SM.hget m.hs k = some hd) {b : Nat} (hw : w.heap.size ≤ b) : hb k ≠ b := fun e => by
  have := h.in_ (b := hb k) (by rw [(h.bh k hd hh).1]; exact fun e => by cases e)
  omega
structure Fc (w W : World) (B p : Nat) (m : SM.Mem) (F : Fp) (vn va vd : Value) (q : Nat) (ds : List Value) (hl : ML Int) (c : Nat) (hb : Int → Nat) (ρ : Nat → Rl) (s : SM.Stp) (v : Value) : Prop where
  h : MemX W B p m F vn va vd q ds hl c hb ρ
  lt : ∀ b, F.use b → b < w.heap.size
  t : Tr w W F F
  S : bk W w.heap.size = some (CB (stepC s v) T.impl_Step)
  A : bk W (w.heap.size + 1) = some (CB ansZ T.impl_Answer)
theorem Fc.drew {W : World} (f : Fc w W B p m F vn va vd q ds hl c hb ρ s v) : Fc w W.drew B p m F vn va vd q ds hl c hb ρ s v :=
  ⟨f.h.old (by repeat (first | exact Below.refl _ _ | assumption | refine bel_setb ?_ (by first | exact Nat.le_refl _ | omega | (simp only [go_sem] <;> omega)) _ | refine Below.alloc ?_ (by first | exact Nat.le_refl _ | omega | (simp only [go_sem]; omega)) _ | refine Below.drew ?_)), f.lt, f.t.after (by repeat (first | exact Below.refl _ _ | assumption | refine bel_setb ?_ (by first | exact Nat.le_refl _ | omega | (simp only [go_sem] <;> omega)) _ | refine Below.alloc ?_ (by first | exact Nat.le_refl _ | omega | (simp only [go_sem]; omega)) _ | refine Below.drew ?_)), f.S, f.A⟩
theorem Fc.tr {W : World} (f : Fc w W B p m F vn va vd q ds hl c hb ρ s v) : Tr w W F F := f.t
theorem Fc.hne {W : World} (f : Fc w W B p m F vn va vd q ds hl c hb ρ s v) (hh : SM.hget m.hs k = some hd) {b : Nat} (hw : w.heap.size ≤ b) : hb k ≠ b := fun e => by
  have := f.lt (hb k) (f.h.sub _ ((f.h.own _).2 (by rw [(f.h.bh k hd hh).1]; exact fun e => by cases e)))
  omega
theorem Fc.nA {W : World} (f : Fc w W B p m F vn va vd q ds hl c hb ρ s v) : ¬ F.use (w.heap.size + 1) := fun e => by have := f.lt _ e; omega
end
end Go.Proofs.YteblpejgenehfaaDoor.X
end
section
namespace Go.Proofs.YteblpejgenehfaaDoor.X
open Go Go.X Go.Proofs Go.RowKit
end Go.Proofs.YteblpejgenehfaaDoor.X
end
section
namespace Go.Proofs.YteblpejgenehfaaDoor.X
open Go Go.X Go.Proofs Go.RowKit
end Go.Proofs.YteblpejgenehfaaDoor.X
end
section
namespace Go.Proofs.YteblpejgenehfaaDoor.X
open Go Go.X Go.Proofs Go.RowKit
section
variable {w W : World} {K : Value → World → Prop} {B p : Nat} {m : SM.Mem} {F : Fp} {vn va vd : Value} {q : Nat} {ds : List Value} {hl : ML Int} {c : Nat} {hb : Int → Nat} {ρ : Nat → Rl} {k : Int} {hd : SM.Hnd} {s : SM.Stp} {v : Value}
theorem Fc.lA (f : Fc w W B p m F vn va vd q ds hl c hb ρ s v) : w.heap.size + 1 < W.heap.size := bk_lt f.A
theorem Fc.below {W' : World} (f : Fc w W B p m F vn va vd q ds hl c hb ρ s v) (b : Below W.heap.size W W') : Fc w W' B p m F vn va vd q ds hl c hb ρ s v := by
  have := f.lA
  exact ⟨f.h.old b, f.lt, f.t.after b, by rw [bel_bk b (by omega)]; exact f.S, by rw [bel_bk b (by omega)]; exact f.A⟩
end
end Go.Proofs.YteblpejgenehfaaDoor.X
end
