/- The functions' own texts over values, each held against the loaded code by the kernel. Laid by a program of this session. No condition. -/
import Derived.Test.YteblpejgenehfaaDoorXN
set_option linter.unusedVariables false
set_option maxRecDepth 100000
namespace Go.Proofs.YteblpejgenehfaaDoor.X
open Go Go.X Go.Proofs

/-- (*pub-marram/pub/afero.UnionFile).Readdirnames -/
def F_afero_UnionFile_Readdirnames (t0 t1 : Value) (w : World) (K : Value → World → Prop) : Prop :=
 st P (oCall Fn.afero_UnionFile_Readdir #[t0, t1]) w fun t14 w1 =>
 pu P (oExtract t14 0) fun t15 =>
 pu P (oExtract t14 1) fun t16 =>
 jn (fun s1 u1 w2 =>
 jn (fun s2 u2 w3 =>
 K (tup [(gs s2 0), .nilIface]) w3) fun k2 =>
 pu P (oBuiltin .len #[T.sl_p_mem_FileInfo] T.int #[false] #[t15]) fun t21 =>
 lp [(.slice none 0 0), (.int .i64 0)] w2 fun s3 u3 w4 C1 =>
 pu P (oBin .lss T.int false false (gs s3 1) t21) fun t23 =>
 jn (fun s4 u4 w5 =>
 pu P (oIdxA T.sl_p_mem_FileInfo t15 (gs s3 1)) fun t24 =>
 st P (oLoad T.p_mem_FileInfo t24) w5 fun t25 w6 =>
 st P (oCall Fn.mem_FileInfo_Name #[t25]) w6 fun t28 w7 =>
 st P (oBuildSlice T.sl_string 1 #[(0, t28)]) w7 fun t29 w8 =>
 st P (oBuiltin .append #[T.sl_string, T.sl_string] T.sl_string #[false, false] #[(gs s3 0), t29]) w8 fun t30 w9 =>
 pu P (oBin .add T.int false true (gs s3 1) (.int .i64 1)) fun t31 =>
 C1 [t30, t31] w9) fun k3 =>
 cd t23 (
 k3 [] w4) (
 k2 [(gs s3 0)] w4)) fun k1 =>
 pu P (oBin .neq T.error false true t16 .nilIface) fun t18 =>
 cd t18 (
 K (tup [(.slice none 0 0), t16]) w1) (
 k1 [] w1)
def Tb_afero_UnionFile_Readdirnames : Tab := { join := fun n => match n with | 10 => [8] | _ => [], loop := fun n => match n with | 6 => [8, 22] | _ => [] }
theorem S_afero_UnionFile_Readdirnames {t0 t1 : Value} {w : World} {K : Value → World → Prop} (h : F_afero_UnionFile_Readdirnames t0 t1 w K) : Cl P Fn.afero_UnionFile_Readdirnames #[t0, t1] w K :=
  cl_of_eq (T := Tb_afero_UnionFile_Readdirnames) (args := [t0, t1]) Tryd.func66 rfl follows_mixed (by kernel_rfl) (Nat.le_of_ble_eq_true (by kernel_rfl)) (by kernel_rfl) h

/-- (*pub-marram/pub/afero.UnionFile).Stat -/
def F_afero_UnionFile_Stat (t0 : Value) (w : World) (K : Value → World → Prop) : Prop :=
 jn (fun s1 u1 w1 =>
 jn (fun s2 u2 w2 =>
 rd P (oLoad T.error (.pointer (some ⟨G.os_EBADFD, 0, none⟩))) w2.drew fun t28 =>
 K (tup [(.pointer none), t28]) w2.drew) fun k2 =>
 pu P (oNil t0) fun t17 =>
 pu P (oFldA T.afero_UnionFile t17 0) fun t18 =>
 st P (oLoad T.p_mem_File t18) w1 fun t19 w3 =>
 pu P (oBin .neq T.p_mem_File false true t19 (.pointer none)) fun t20 =>
 cd t20 (
 pu P (oNil t0) fun t22 =>
 pu P (oFldA T.afero_UnionFile t22 0) fun t23 =>
 st P (oLoad T.p_mem_File t23) w3 fun t24 w4 =>
 st P (oCall Fn.mem_File_Stat #[t24]) w4 fun t25 w5 =>
 pu P (oExtract t25 0) fun t26 =>
 pu P (oExtract t25 1) fun t27 =>
 K (tup [t26, t27]) w5) (
 k2 [] w3)) fun k1 =>
 pu P (oNil t0) fun t5 =>
 pu P (oFldA T.afero_UnionFile t5 1) fun t6 =>
 st P (oLoad T.p_mem_File t6) w fun t7 w6 =>
 pu P (oBin .neq T.p_mem_File false true t7 (.pointer none)) fun t8 =>
 cd t8 (
 pu P (oNil t0) fun t10 =>
 pu P (oFldA T.afero_UnionFile t10 1) fun t11 =>
 st P (oLoad T.p_mem_File t11) w6 fun t12 w7 =>
 st P (oCall Fn.mem_File_Stat #[t12]) w7 fun t13 w8 =>
 pu P (oExtract t13 0) fun t14 =>
 pu P (oExtract t13 1) fun t15 =>
 K (tup [t14, t15]) w8) (
 k1 [] w6)
def Tb_afero_UnionFile_Stat : Tab := { join := fun n => match n with | _ => [], loop := fun n => match n with | _ => [] }
theorem S_afero_UnionFile_Stat {t0 : Value} {w : World} {K : Value → World → Prop} (h : F_afero_UnionFile_Stat t0 w K) : Cl P Fn.afero_UnionFile_Stat #[t0] w K :=
  cl_of_eq (T := Tb_afero_UnionFile_Stat) (args := [t0]) Tryd.func67 rfl follows_mixed (by kernel_rfl) (Nat.le_of_ble_eq_true (by kernel_rfl)) (by kernel_rfl) h

/-- pub-marram/impl.fromInfo -/
def F_impl_fromInfo (t0 : Value) (w : World) (K : Value → World → Prop) : Prop :=
 st P (oAlloc T.impl_Info) w fun t2 w1 =>
 st P (oCall Fn.mem_FileInfo_Name #[t0]) w1 fun t4 w2 =>
 st P (oCall Fn.mem_FileInfo_Size #[t0]) w2 fun t6 w3 =>
 st P (oCall Fn.mem_FileInfo_Mode #[t0]) w3 fun t8 w4 =>
 pu P (oConv T.os_FileMode T.int t8) fun t9 =>
 st P (oCall Fn.mem_FileInfo_IsDir #[t0]) w4 fun t11 w5 =>
 st P (oCall Fn.mem_FileInfo_ModTime #[t0]) w5 fun t13 w6 =>
 pu P (oBuild T.impl_Info #[(0, t4), (1, t6), (2, t9), (3, t11), (4, t13)]) fun t14 =>
 st P (oStore T.impl_Info t2 t14) w6 fun _ w7 =>
 rsl P T.impl_Info t2 w7 fun r1 =>
 K (tup [r1]) w7
def Tb_impl_fromInfo : Tab := { join := fun n => match n with | _ => [], loop := fun n => match n with | _ => [] }
theorem S_impl_fromInfo {t0 : Value} {w : World} {K : Value → World → Prop} (h : F_impl_fromInfo t0 w K) : Cl P Fn.impl_fromInfo #[t0] w K :=
  cl_of_eq (T := Tb_impl_fromInfo) (args := [t0]) Tryd.func68 rfl follows_mixed (by kernel_rfl) (Nat.le_of_ble_eq_true (by kernel_rfl)) (by kernel_rfl) h

/-- (*pub-marram/pub/afero.UnionFile).Name -/
def F_afero_UnionFile_Name (t0 : Value) (w : World) (K : Value → World → Prop) : Prop :=
 jn (fun s1 u1 w1 =>
 pu P (oNil t0) fun t14 =>
 pu P (oFldA T.afero_UnionFile t14 0) fun t15 =>
 st P (oLoad T.p_mem_File t15) w1 fun t16 w2 =>
 st P (oCall Fn.mem_File_Name #[t16]) w2 fun t17 w3 =>
 K (tup [t17]) w3) fun k1 =>
 pu P (oNil t0) fun t4 =>
 pu P (oFldA T.afero_UnionFile t4 1) fun t5 =>
 st P (oLoad T.p_mem_File t5) w fun t6 w4 =>
 pu P (oBin .neq T.p_mem_File false true t6 (.pointer none)) fun t7 =>
 cd t7 (
 pu P (oNil t0) fun t9 =>
 pu P (oFldA T.afero_UnionFile t9 1) fun t10 =>
 st P (oLoad T.p_mem_File t10) w4 fun t11 w5 =>
 st P (oCall Fn.mem_File_Name #[t11]) w5 fun t12 w6 =>
 K (tup [t12]) w6) (
 k1 [] w4)
def Tb_afero_UnionFile_Name : Tab := { join := fun n => match n with | _ => [], loop := fun n => match n with | _ => [] }
theorem S_afero_UnionFile_Name {t0 : Value} {w : World} {K : Value → World → Prop} (h : F_afero_UnionFile_Name t0 w K) : Cl P Fn.afero_UnionFile_Name #[t0] w K :=
  cl_of_eq (T := Tb_afero_UnionFile_Name) (args := [t0]) Tryd.func69 rfl follows_mixed (by kernel_rfl) (Nat.le_of_ble_eq_true (by kernel_rfl)) (by kernel_rfl) h

/-- (*pub-marram/pub/afero.UnionFile).Sync -/
def F_afero_UnionFile_Sync (t0 : Value) (w : World) (K : Value → World → Prop) : Prop :=
 jn (fun s1 u1 w1 =>
 jn (fun s2 u2 w2 =>
 st P (oLoad T.error (.pointer (some ⟨G.os_EBADFD, 0, none⟩))) w2 fun t38 w3 =>
 K (tup [t38]) w3) fun k2 =>
 pu P (oNil t0) fun t29 =>
 pu P (oFldA T.afero_UnionFile t29 0) fun t30 =>
 st P (oLoad T.p_mem_File t30) w1 fun t31 w4 =>
 pu P (oBin .neq T.p_mem_File false true t31 (.pointer none)) fun t32 =>
 cd t32 (
 pu P (oNil t0) fun t34 =>
 pu P (oFldA T.afero_UnionFile t34 0) fun t35 =>
 st P (oLoad T.p_mem_File t35) w4 fun t36 w5 =>
 st P (oCall Fn.mem_File_Sync #[t36]) w5 fun t37 w6 =>
 K (tup [t37]) w6) (
 k2 [] w4)) fun k1 =>
 pu P (oNil t0) fun t4 =>
 pu P (oFldA T.afero_UnionFile t4 1) fun t5 =>
 st P (oLoad T.p_mem_File t5) w fun t6 w7 =>
 pu P (oBin .neq T.p_mem_File false true t6 (.pointer none)) fun t7 =>
 cd t7 (
 pu P (oNil t0) fun t9 =>
 pu P (oFldA T.afero_UnionFile t9 1) fun t10 =>
 st P (oLoad T.p_mem_File t10) w7 fun t11 w8 =>
 st P (oCall Fn.mem_File_Sync #[t11]) w8 fun t12 w9 =>
 jn (fun s3 u3 w10 =>
 K (tup [(gs s3 0)]) w10) fun k3 =>
 pu P (oBin .eql T.error false true t12 .nilIface) fun t14 =>
 gd t14 true w9 (fun K1 => K1 t0 w9) fun t16 w11 =>
 gd t14 true w11 (fun K2 => pu P (oNil t16) fun v => K2 v w11) fun t17 w12 =>
 gd t14 true w12 (fun K3 => pu P (oFldA T.afero_UnionFile t17 0) fun v => K3 v w12) fun t18 w13 =>
 gd t14 true w13 (fun K4 => st P (oLoad T.p_mem_File t18) w13 K4) fun t19 w14 =>
 gd t14 true w14 (fun K5 => pu P (oBin .neq T.p_mem_File false true t19 (.pointer none)) fun v => K5 v w14) fun t20 w15 =>
 pu P (oPick t14 t20 (.bool false)) fun t21 =>
 cd t21 (
 pu P (oNil t0) fun t23 =>
 pu P (oFldA T.afero_UnionFile t23 0) fun t24 =>
 st P (oLoad T.p_mem_File t24) w15 fun t25 w16 =>
 st P (oCall Fn.mem_File_Sync #[t25]) w16 fun t26 w17 =>
 k3 [t26] w17) (
 k3 [t12] w15)) (
 k1 [] w7)
def Tb_afero_UnionFile_Sync : Tab := { join := fun n => match n with | 5 => [2] | _ => [], loop := fun n => match n with | _ => [] }
theorem S_afero_UnionFile_Sync {t0 : Value} {w : World} {K : Value → World → Prop} (h : F_afero_UnionFile_Sync t0 w K) : Cl P Fn.afero_UnionFile_Sync #[t0] w K :=
  cl_of_eq (T := Tb_afero_UnionFile_Sync) (args := [t0]) Tryd.func70 rfl follows_mixed (by kernel_rfl) (Nat.le_of_ble_eq_true (by kernel_rfl)) (by kernel_rfl) h

/-- pub-marram/spec.MemName -/
def F_spec_MemName (t0 : Value) (w : World) (K : Value → World → Prop) : Prop :=
 pu P (oBuiltin .len #[T.string] T.int #[false] #[t0]) fun t13 =>
 pu P (oBin .gtr T.int false true t13 (.int .i64 0)) fun t14 =>
 gd t14 true w.drew (fun K1 => K1 t0 w.drew) fun t16 w1 =>
 gd t14 true w1 (fun K2 => pu P (oIdx T.string t16 (.int .i64 0)) fun v => K2 v w1) fun t17 w2 =>
 gd t14 true w2 (fun K3 => pu P (oBin .eql T.uint8 false true t17 (.int .u8 47)) fun v => K3 v w2) fun t18 w3 =>
 pu P (oPick t14 t18 (.bool false)) fun t19 =>
 st P (oBuildSlice T.sl_string 0 #[]) w3 fun t11 w4 =>
 jn (fun s1 u1 w5 =>
 jn (fun s2 u2 w6 =>
 jn (fun s3 u3 w7 =>
 K (tup [(gs s2 0)]) w7) fun k3 =>
 pu P (oBin .eql T.string false true (gs s2 0) (S [])) fun t101 =>
 gd t101 false w6 (fun K4 => K4 (gs s2 0) w6) fun t103 w8 =>
 gd t101 false w8 (fun K5 => pu P (oBin .eql T.string false true t103 (S [46, 46])) fun v => K5 v w8) fun t104 w9 =>
 pu P (oPick t101 (.bool true) t104) fun t105 =>
 cd t105 (
 K (tup [(S [47])]) w9) (
 k3 [] w9)) fun k2 =>
 pu P (oBuiltin .len #[T.sl_string] T.int #[false] #[(gs s1 0)]) fun t83 =>
 lp [(S []), (.int .i64 0)] w5 fun s4 u4 w10 C1 =>
 pu P (oBin .lss T.int false false (gs s4 1) t83) fun t85 =>
 jn (fun s5 u5 w11 =>
 jn (fun s6 u6 w12 =>
 pu P (oBin .add T.int false true (gs s4 1) (.int .i64 1)) fun t99 =>
 C1 [(gs s6 0), t99] w12) fun k5 =>
 pu P (oIdxA T.sl_string (gs s1 0) (gs s4 1)) fun t87 =>
 st P (oLoad T.string t87) w11 fun t88 w13 =>
 jn (fun s7 u7 w14 =>
 pu P (oBin .add T.string false false (gs s7 0) t88) fun t98 =>
 k5 [t98] w14) fun k6 =>
 pu P (oBin .gtr T.int false true (gs s4 1) (.int .i64 0)) fun t90 =>
 gd t90 false w13 (fun K6 => K6 t19 w13) fun t92 w15 =>
 pu P (oPick t90 (.bool true) t92) fun t93 =>
 cd t93 (
 pu P (oBin .add T.string false true (gs s4 0) (S [47])) fun t95 =>
 k6 [t95] w15) (
 k6 [(gs s4 0)] w15)) fun k4 =>
 cd t85 (
 k4 [] w10) (
 k2 [(gs s4 0)] w10)) fun k1 =>
 lp [t11, (.int .i64 0)] w4 fun s8 u8 w16 C2 =>
 jn (fun s9 u9 w17 =>
 jn (fun s10 u10 w18 =>
 jn (fun s11 u11 w19 =>
 pu P (oBin .add T.int false true (gs s10 0) (.int .i64 1)) fun t81 =>
 C2 [(gs s11 0), t81] w19) fun k9 =>
 pu P (oSlice T.string t0 (some (gs s8 1)) (some (gs s10 0)) none) fun t40 =>
 pu P (oBin .eql T.string false true t40 (S [])) fun t43 =>
 gd t43 false w18 (fun K7 => K7 t40 w18) fun t45 w20 =>
 gd t43 false w20 (fun K8 => pu P (oBin .eql T.string false true t45 (S [46])) fun v => K8 v w20) fun t46 w21 =>
 pu P (oPick t43 (.bool true) t46) fun t47 =>
 cd t47 (
 k9 [(gs s8 0)] w21) (
 pu P (oBin .neq T.string false true t40 (S [46, 46])) fun t50 =>
 cd t50 (
 st P (oBuildSlice T.sl_string 1 #[(0, t40)]) w21 fun t53 w22 =>
 st P (oBuiltin .append #[T.sl_string, T.sl_string] T.sl_string #[false, false] #[(gs s8 0), t53]) w22 fun t54 w23 =>
 k9 [t54] w23) (
 pu P (oBuiltin .len #[T.sl_string] T.int #[false] #[(gs s8 0)]) fun t57 =>
 pu P (oBin .gtr T.int false true t57 (.int .i64 0)) fun t58 =>
 gd t58 true w21 (fun K9 => K9 (gs s8 0) w21) fun t60 w24 =>
 gd t58 true w24 (fun K10 => K10 (gs s8 0) w24) fun t61 w25 =>
 gd t58 true w25 (fun K11 => pu P (oBuiltin .len #[T.sl_string] T.int #[false] #[t61]) fun v => K11 v w25) fun t62 w26 =>
 gd t58 true w26 (fun K12 => pu P (oBin .sub T.int false true t62 (.int .i64 1)) fun v => K12 v w26) fun t63 w27 =>
 gd t58 true w27 (fun K13 => pu P (oIdxA T.sl_string t60 t63) fun v => K13 v w27) fun t64 w28 =>
 gd t58 true w28 (fun K14 => st P (oLoad T.string t64) w28 K14) fun t65 w29 =>
 gd t58 true w29 (fun K15 => pu P (oBin .neq T.string false true t65 (S [46, 46])) fun v => K15 v w29) fun t66 w30 =>
 pu P (oPick t58 t66 (.bool false)) fun t67 =>
 cd t67 (
 pu P (oBuiltin .len #[T.sl_string] T.int #[false] #[(gs s8 0)]) fun t70 =>
 pu P (oBin .sub T.int false true t70 (.int .i64 1)) fun t71 =>
 pu P (oSlice T.sl_string (gs s8 0) none (some t71) none) fun t72 =>
 k9 [t72] w30) (
 pu P (oUn .not t19) fun t75 =>
 cd t75 (
 st P (oBuildSlice T.sl_string 1 #[(0, t40)]) w30 fun t78 w31 =>
 st P (oBuiltin .append #[T.sl_string, T.sl_string] T.sl_string #[false, false] #[(gs s8 0), t78]) w31 fun t79 w32 =>
 k9 [t79] w32) (
 k9 [(gs s8 0)] w30))))) fun k8 =>
 lp [(gs s8 1)] w17 fun s12 u12 w33 C3 =>
 jn (fun s13 u13 w34 =>
 pu P (oBin .add T.int false true (gs s12 0) (.int .i64 1)) fun t36 =>
 C3 [t36] w34) fun k10 =>
 pu P (oBuiltin .len #[T.string] T.int #[false] #[t0]) fun t27 =>
 pu P (oBin .lss T.int false false (gs s12 0) t27) fun t28 =>
 gd t28 true w33 (fun K16 => K16 t0 w33) fun t30 w35 =>
 gd t28 true w35 (fun K17 => K17 (gs s12 0) w35) fun t31 w36 =>
 gd t28 true w36 (fun K18 => pu P (oIdx T.string t30 t31) fun v => K18 v w36) fun t32 w37 =>
 gd t28 true w37 (fun K19 => pu P (oBin .neq T.uint8 false true t32 (.int .u8 47)) fun v => K19 v w37) fun t33 w38 =>
 pu P (oPick t28 t33 (.bool false)) fun t34 =>
 cd t34 (
 k10 [] w38) (
 k8 [(gs s12 0)] w38)) fun k7 =>
 pu P (oBuiltin .len #[T.string] T.int #[false] #[t0]) fun t22 =>
 pu P (oBin .lss T.int false false (gs s8 1) t22) fun t23 =>
 cd t23 (
 k7 [] w16) (
 k1 [(gs s8 0)] w16)
def Tb_spec_MemName : Tab := { join := fun n => match n with | 7 => [6] | 15 => [3] | 16 => [3] | 22 => [8] | 23 => [8] | 24 => [8] | _ => [], loop := fun n => match n with | 3 => [3, 5] | 5 => [6] | 18 => [8, 84] | _ => [] }
theorem S_spec_MemName {t0 : Value} {w : World} {K : Value → World → Prop} (h : F_spec_MemName t0 w K) : Cl P Fn.spec_MemName #[t0] w K :=
  cl_of_eq (T := Tb_spec_MemName) (args := [t0]) Tryd.func71 rfl follows_mixed (by kernel_rfl) (Nat.le_of_ble_eq_true (by kernel_rfl)) (by kernel_rfl) h

/-- (*pub-marram/spec.Mem).Find -/
def F_spec_Mem_Find (t0 t1 : Value) (w : World) (K : Value → World → Prop) : Prop :=
 st P (oCall Fn.spec_Mem_place #[t0, t1]) w fun t11 w1 =>
 pu P (oExtract t11 0) fun t12 =>
 pu P (oExtract t11 1) fun t13 =>
 jn (fun s1 u1 w2 =>
 pu P (oNil t0) fun t17 =>
 pu P (oFldA T.spec_Mem t17 1) fun t18 =>
 st P (oLoad T.sl_int t18) w2 fun t19 w3 =>
 pu P (oIdxA T.sl_int t19 t12) fun t21 =>
 st P (oLoad T.int t21) w3 fun t22 w4 =>
 K (tup [t22, (.bool true)]) w4) fun k1 =>
 pu P (oUn .not t13) fun t15 =>
 cd t15 (
 K (tup [(.int .i64 0), (.bool false)]) w1) (
 k1 [] w1)
def Tb_spec_Mem_Find : Tab := { join := fun n => match n with | _ => [], loop := fun n => match n with | _ => [] }
theorem S_spec_Mem_Find {t0 t1 : Value} {w : World} {K : Value → World → Prop} (h : F_spec_Mem_Find t0 t1 w K) : Cl P Fn.spec_Mem_Find #[t0, t1] w K :=
  cl_of_eq (T := Tb_spec_Mem_Find) (args := [t0, t1]) Tryd.func72 rfl follows_mixed (by kernel_rfl) (Nat.le_of_ble_eq_true (by kernel_rfl)) (by kernel_rfl) h

/-- pub-marram/spec.named -/
def F_spec_named (t0 : Value) (w : World) (K : Value → World → Prop) : Prop :=
 jn (fun s1 u1 w1 =>
 st P (oCall Fn.spec_MemName #[t0]) w1 fun t8 w2 =>
 pu P (oBuiltin .len #[T.string] T.int #[false] #[t8]) fun t10 =>
 pu P (oBin .gtr T.int false true t10 (.int .i64 2)) fun t11 =>
 gd t11 true w2 (fun K1 => K1 t8 w2) fun t13 w3 =>
 gd t11 true w3 (fun K2 => pu P (oSlice T.string t13 none (some (.int .i64 3)) none) fun v => K2 v w3) fun t14 w4 =>
 gd t11 true w4 (fun K3 => pu P (oBin .eql T.string false true t14 (S [46, 46, 47])) fun v => K3 v w4) fun t15 w5 =>
 pu P (oPick t11 t15 (.bool false)) fun t16 =>
 pu P (oUn .not t16) fun t17 =>
 K (tup [t17]) w5) fun k1 =>
 pu P (oBuiltin .len #[T.string] T.int #[false] #[t0]) fun t5 =>
 pu P (oBin .gtr T.int false true t5 (.int .i64 400)) fun t6 =>
 cd t6 (
 K (tup [(.bool false)]) w) (
 k1 [] w)
def Tb_spec_named : Tab := { join := fun n => match n with | _ => [], loop := fun n => match n with | _ => [] }
theorem S_spec_named {t0 : Value} {w : World} {K : Value → World → Prop} (h : F_spec_named t0 w K) : Cl P Fn.spec_named #[t0] w K :=
  cl_of_eq (T := Tb_spec_named) (args := [t0]) Tryd.func73 rfl follows_mixed (by kernel_rfl) (Nat.le_of_ble_eq_true (by kernel_rfl)) (by kernel_rfl) h

/-- (*pub-marram/spec.Mem).isDir -/
def F_spec_Mem_isDir (t0 t1 : Value) (w : World) (K : Value → World → Prop) : Prop :=
 st P (oCall Fn.spec_Mem_Find #[t0, t1]) w fun t10 w1 =>
 pu P (oExtract t10 0) fun t11 =>
 pu P (oExtract t10 1) fun t12 =>
 gd t12 true w1 (fun K1 => K1 t0 w1) fun t15 w2 =>
 gd t12 true w2 (fun K2 => pu P (oNil t15) fun v => K2 v w2) fun t16 w3 =>
 gd t12 true w3 (fun K3 => pu P (oFldA T.spec_Mem t16 2) fun v => K3 v w3) fun t17 w4 =>
 gd t12 true w4 (fun K4 => st P (oLoad T.sl_spec_MemNode t17) w4 K4) fun t18 w5 =>
 gd t12 true w5 (fun K5 => K5 t11 w5) fun t19 w6 =>
 gd t12 true w6 (fun K6 => pu P (oIdxA T.sl_spec_MemNode t18 t19) fun v => K6 v w6) fun t20 w7 =>
 gd t12 true w7 (fun K7 => pu P (oFldA T.spec_MemNode t20 0) fun v => K7 v w7) fun t21 w8 =>
 gd t12 true w8 (fun K8 => st P (oLoad T.bool t21) w8 K8) fun t22 w9 =>
 pu P (oPick t12 t22 (.bool false)) fun t23 =>
 K (tup [t23]) w9
def Tb_spec_Mem_isDir : Tab := { join := fun n => match n with | _ => [], loop := fun n => match n with | _ => [] }
theorem S_spec_Mem_isDir {t0 t1 : Value} {w : World} {K : Value → World → Prop} (h : F_spec_Mem_isDir t0 t1 w K) : Cl P Fn.spec_Mem_isDir #[t0, t1] w K :=
  cl_of_eq (T := Tb_spec_Mem_isDir) (args := [t0, t1]) Tryd.func74 rfl follows_mixed (by kernel_rfl) (Nat.le_of_ble_eq_true (by kernel_rfl)) (by kernel_rfl) h

/-- (*pub-marram/spec.Mem).clear -/
def F_spec_Mem_clear (t0 t1 : Value) (w : World) (K : Value → World → Prop) : Prop :=
 jn (fun s1 u1 w1 =>
 K (tup [(.bool true)]) w1) fun k1 =>
 lp [t1] w fun s2 u2 w2 C1 =>
 jn (fun s3 u3 w3 =>
 st P (oCall Fn.spec_MemParent #[(gs s2 0)]) w3 fun t10 w4 =>
 st P (oCall Fn.spec_Mem_Find #[t0, t10]) w4 fun t14 w5 =>
 pu P (oExtract t14 0) fun t15 =>
 pu P (oExtract t14 1) fun t16 =>
 gd t16 true w5 (fun K1 => K1 t0 w5) fun t19 w6 =>
 gd t16 true w6 (fun K2 => pu P (oNil t19) fun v => K2 v w6) fun t20 w7 =>
 gd t16 true w7 (fun K3 => pu P (oFldA T.spec_Mem t20 2) fun v => K3 v w7) fun t21 w8 =>
 gd t16 true w8 (fun K4 => st P (oLoad T.sl_spec_MemNode t21) w8 K4) fun t22 w9 =>
 gd t16 true w9 (fun K5 => K5 t15 w9) fun t23 w10 =>
 gd t16 true w10 (fun K6 => pu P (oIdxA T.sl_spec_MemNode t22 t23) fun v => K6 v w10) fun t24 w11 =>
 gd t16 true w11 (fun K7 => pu P (oFldA T.spec_MemNode t24 0) fun v => K7 v w11) fun t25 w12 =>
 gd t16 true w12 (fun K8 => st P (oLoad T.bool t25) w12 K8) fun t26 w13 =>
 gd t16 true w13 (fun K9 => pu P (oUn .not t26) fun v => K9 v w13) fun t27 w14 =>
 pu P (oPick t16 t27 (.bool false)) fun t28 =>
 cd t28 (
 K (tup [(.bool false)]) w14) (
 C1 [t10] w14)) fun k2 =>
 pu P (oBin .neq T.string false true (gs s2 0) (S [47])) fun t8 =>
 cd t8 (
 k2 [] w2) (
 k1 [] w2)
def Tb_spec_Mem_clear : Tab := { join := fun n => match n with | _ => [], loop := fun n => match n with | 1 => [1] | _ => [] }
theorem S_spec_Mem_clear {t0 t1 : Value} {w : World} {K : Value → World → Prop} (h : F_spec_Mem_clear t0 t1 w K) : Cl P Fn.spec_Mem_clear #[t0, t1] w K :=
  cl_of_eq (T := Tb_spec_Mem_clear) (args := [t0, t1]) Tryd.func75 rfl follows_mixed (by kernel_rfl) (Nat.le_of_ble_eq_true (by kernel_rfl)) (by kernel_rfl) h

/-- (*pub-marram/spec.Mem).Children -/
def F_spec_Mem_Children (t0 t1 : Value) (w : World) (K : Value → World → Prop) : Prop :=
 st P (oBuildSlice T.sl_string 0 #[]) w fun t8 w1 =>
 jn (fun s1 u1 w2 =>
 K (tup [(gs s1 0)]) w2) fun k1 =>
 pu P (oNil t0) fun t10 =>
 pu P (oFldA T.spec_Mem t10 0) fun t11 =>
 st P (oLoad T.sl_string t11) w1 fun t12 w3 =>
 pu P (oBuiltin .len #[T.sl_string] T.int #[false] #[t12]) fun t13 =>
 lp [t8, (.int .i64 0)] w3 fun s2 u2 w4 C1 =>
 pu P (oBin .lss T.int false false (gs s2 1) t13) fun t15 =>
 jn (fun s3 u3 w5 =>
 jn (fun s4 u4 w6 =>
 pu P (oBin .add T.int false true (gs s2 1) (.int .i64 1)) fun t30 =>
 C1 [(gs s4 0), t30] w6) fun k3 =>
 pu P (oIdxA T.sl_string t12 (gs s2 1)) fun t16 =>
 st P (oLoad T.string t16) w5 fun t17 w7 =>
 pu P (oBin .neq T.string false true t17 (S [47])) fun t19 =>
 gd t19 true w7 (fun K1 => K1 t17 w7) fun t21 w8 =>
 gd t19 true w8 (fun K2 => st P (oCall Fn.spec_MemParent #[t21]) w8 K2) fun t22 w9 =>
 gd t19 true w9 (fun K3 => K3 t1 w9) fun t23 w10 =>
 gd t19 true w10 (fun K4 => pu P (oBin .eql T.string false false t22 t23) fun v => K4 v w10) fun t24 w11 =>
 pu P (oPick t19 t24 (.bool false)) fun t25 =>
 cd t25 (
 st P (oBuildSlice T.sl_string 1 #[(0, t17)]) w11 fun t28 w12 =>
 st P (oBuiltin .append #[T.sl_string, T.sl_string] T.sl_string #[false, false] #[(gs s2 0), t28]) w12 fun t29 w13 =>
 k3 [t29] w13) (
 k3 [(gs s2 0)] w11)) fun k2 =>
 cd t15 (
 k2 [] w4) (
 k1 [(gs s2 0)] w4)
def Tb_spec_Mem_Children : Tab := { join := fun n => match n with | 7 => [5] | 8 => [5] | _ => [], loop := fun n => match n with | 3 => [5, 14] | _ => [] }
theorem S_spec_Mem_Children {t0 t1 : Value} {w : World} {K : Value → World → Prop} (h : F_spec_Mem_Children t0 t1 w K) : Cl P Fn.spec_Mem_Children #[t0, t1] w K :=
  cl_of_eq (T := Tb_spec_Mem_Children) (args := [t0, t1]) Tryd.func76 rfl follows_mixed (by kernel_rfl) (Nat.le_of_ble_eq_true (by kernel_rfl)) (by kernel_rfl) h

/-- pub-marram/spec.MemBelow -/
def F_spec_MemBelow (t0 t1 : Value) (w : World) (K : Value → World → Prop) : Prop :=
 jn (fun s1 u1 w1 =>
 pu P (oBuiltin .len #[T.string] T.int #[false] #[t0]) fun t10 =>
 pu P (oBuiltin .len #[T.string] T.int #[false] #[t1]) fun t12 =>
 pu P (oBin .gtr T.int false false t10 t12) fun t13 =>
 gd t13 true w1 (fun K1 => K1 t0 w1) fun t15 w2 =>
 gd t13 true w2 (fun K2 => K2 t1 w2) fun t16 w3 =>
 gd t13 true w3 (fun K3 => pu P (oBuiltin .len #[T.string] T.int #[false] #[t16]) fun v => K3 v w3) fun t17 w4 =>
 gd t13 true w4 (fun K4 => pu P (oSlice T.string t15 none (some t17) none) fun v => K4 v w4) fun t18 w5 =>
 gd t13 true w5 (fun K5 => K5 t1 w5) fun t19 w6 =>
 gd t13 true w6 (fun K6 => pu P (oBin .eql T.string false false t18 t19) fun v => K6 v w6) fun t20 w7 =>
 pu P (oPick t13 t20 (.bool false)) fun t21 =>
 gd t21 true w7 (fun K7 => K7 t0 w7) fun t23 w8 =>
 gd t21 true w8 (fun K8 => K8 t1 w8) fun t24 w9 =>
 gd t21 true w9 (fun K9 => pu P (oBuiltin .len #[T.string] T.int #[false] #[t24]) fun v => K9 v w9) fun t25 w10 =>
 gd t21 true w10 (fun K10 => pu P (oIdx T.string t23 t25) fun v => K10 v w10) fun t26 w11 =>
 gd t21 true w11 (fun K11 => pu P (oBin .eql T.uint8 false true t26 (.int .u8 47)) fun v => K11 v w11) fun t27 w12 =>
 pu P (oPick t21 t27 (.bool false)) fun t28 =>
 K (tup [t28]) w12) fun k1 =>
 pu P (oBin .eql T.string false true t1 (S [47])) fun t6 =>
 cd t6 (
 pu P (oBin .neq T.string false true t0 (S [47])) fun t8 =>
 K (tup [t8]) w) (
 k1 [] w)
def Tb_spec_MemBelow : Tab := { join := fun n => match n with | _ => [], loop := fun n => match n with | _ => [] }
theorem S_spec_MemBelow {t0 t1 : Value} {w : World} {K : Value → World → Prop} (h : F_spec_MemBelow t0 t1 w K) : Cl P Fn.spec_MemBelow #[t0, t1] w K :=
  cl_of_eq (T := Tb_spec_MemBelow) (args := [t0, t1]) Tryd.func77 rfl follows_mixed (by kernel_rfl) (Nat.le_of_ble_eq_true (by kernel_rfl)) (by kernel_rfl) h

/-- (*pub-marram/spec.Mem).parents -/
def F_spec_Mem_parents (t0 t1 t2 : Value) (w : World) (K : Value → World → Prop) : Prop :=
 st P (oCall Fn.spec_MemParent #[t1]) w fun t10 w1 =>
 st P (oCall Fn.spec_Mem_Find #[t0, t10]) w1 fun t14 w2 =>
 pu P (oExtract t14 0) fun t15 =>
 pu P (oExtract t14 1) fun t16 =>
 pu P (oUn .not t16) fun t18 =>
 cd t18 (
 st P (oCall Fn.spec_Mem_parents #[t0, t10, t2]) w2 fun t22 w3 =>
 pu P (oBin .or T.int true false (.int .i64 2147483648) t2) fun t26 =>
 pu P (oBuild T.spec_MemNode #[(0, (.bool true)), (1, t26)]) fun t27 =>
 st P (oCall Fn.spec_Mem_add #[t0, t10, t27]) w3 fun t28 w4 =>
 K (tup []) w4) (
 K (tup []) w2)
def Tb_spec_Mem_parents : Tab := { join := fun n => match n with | _ => [], loop := fun n => match n with | _ => [] }
theorem S_spec_Mem_parents {t0 t1 t2 : Value} {w : World} {K : Value → World → Prop} (h : F_spec_Mem_parents t0 t1 t2 w K) : Cl P Fn.spec_Mem_parents #[t0, t1, t2] w K :=
  cl_of_eq (T := Tb_spec_Mem_parents) (args := [t0, t1, t2]) Tryd.func78 rfl follows_mixed (by kernel_rfl) (Nat.le_of_ble_eq_true (by kernel_rfl)) (by kernel_rfl) h

/-- (*pub-marram/spec.Mem).drop -/
def F_spec_Mem_drop (t0 t1 : Value) (w : World) (K : Value → World → Prop) : Prop :=
 st P (oCall Fn.spec_Mem_place #[t0, t1]) w fun t9 w1 =>
 pu P (oExtract t9 0) fun t10 =>
 pu P (oExtract t9 1) fun t11 =>
 cd t11 (
 pu P (oNil t0) fun t15 =>
 pu P (oFldA T.spec_Mem t15 0) fun t16 =>
 rd P (oLoad T.sl_string t16) w1.drew fun t17 =>
 pu P (oSlice T.sl_string t17 none (some t10) none) fun t19 =>
 pu P (oNil t0) fun t21 =>
 pu P (oFldA T.spec_Mem t21 0) fun t22 =>
 rd P (oLoad T.sl_string t22) w1.drew fun t23 =>
 pu P (oBin .add T.int false true t10 (.int .i64 1)) fun t25 =>
 pu P (oSlice T.sl_string t23 (some t25) none none) fun t26 =>
 st P (oBuiltin .append #[T.sl_string, T.sl_string] T.sl_string #[false, false] #[t19, t26]) w1.drew fun t27 w2 =>
 pu P (oNil t0) fun t28 =>
 pu P (oFldA T.spec_Mem t28 0) fun t29 =>
 st P (oStore T.sl_string t29 t27) w2 fun _ w3 =>
 pu P (oNil t0) fun t32 =>
 pu P (oFldA T.spec_Mem t32 1) fun t33 =>
 rd P (oLoad T.sl_int t33) w3.drew fun t34 =>
 pu P (oSlice T.sl_int t34 none (some t10) none) fun t36 =>
 pu P (oNil t0) fun t38 =>
 pu P (oFldA T.spec_Mem t38 1) fun t39 =>
 rd P (oLoad T.sl_int t39) w3.drew fun t40 =>
 pu P (oBin .add T.int false true t10 (.int .i64 1)) fun t42 =>
 pu P (oSlice T.sl_int t40 (some t42) none none) fun t43 =>
 st P (oBuiltin .append #[T.sl_int, T.sl_int] T.sl_int #[false, false] #[t36, t43]) w3.drew fun t44 w4 =>
 pu P (oNil t0) fun t45 =>
 pu P (oFldA T.spec_Mem t45 1) fun t46 =>
 st P (oStore T.sl_int t46 t44) w4 fun _ w5 =>
 K (tup []) w5) (
 K (tup []) w1)
def Tb_spec_Mem_drop : Tab := { join := fun n => match n with | _ => [], loop := fun n => match n with | _ => [] }
theorem S_spec_Mem_drop {t0 t1 : Value} {w : World} {K : Value → World → Prop} (h : F_spec_Mem_drop t0 t1 w K) : Cl P Fn.spec_Mem_drop #[t0, t1] w K :=
  cl_of_eq (T := Tb_spec_Mem_drop) (args := [t0, t1]) Tryd.func79 rfl follows_mixed (by kernel_rfl) (Nat.le_of_ble_eq_true (by kernel_rfl)) (by kernel_rfl) h

/-- (*pub-marram/spec.Mem).rename -/
def F_spec_Mem_rename (t0 t1 t2 : Value) (w : World) (K : Value → World → Prop) : Prop :=
 st P (oAlloc T.impl_Answer) w fun t6 w1 =>
 jn (fun s1 u1 w2 =>
 jn (fun s2 u2 w3 =>
 st P (oCall Fn.spec_Mem_parents #[t0, t2, (.int .i64 0)]) w3 fun t28 w4 =>
 jn (fun s3 u3 w5 =>
 pu P (oBuild T.impl_Answer #[]) fun t80 =>
 st P (oStore T.impl_Answer t6 t80) w5 fun _ w6 =>
 rsl P T.impl_Answer t6 w6 fun r1 =>
 K (tup [r1]) w6) fun k3 =>
 st P (oBuildSlice T.sl_string 0 #[]) w4 fun t29 w7 =>
 pu P (oNil t0) fun t31 =>
 pu P (oFldA T.spec_Mem t31 0) fun t32 =>
 st P (oLoad T.sl_string t32) w7 fun t33 w8 =>
 st P (oBuiltin .append #[T.sl_string, T.sl_string] T.sl_string #[false, false] #[t29, t33]) w8 fun t34 w9 =>
 pu P (oBuiltin .len #[T.sl_string] T.int #[false] #[t34]) fun t35 =>
 lp [(.int .i64 0)] w9 fun s4 u4 w10 C1 =>
 pu P (oBin .lss T.int false false (gs s4 0) t35) fun t37 =>
 jn (fun s5 u5 w11 =>
 jn (fun s6 u6 w12 =>
 pu P (oBin .add T.int false true (gs s4 0) (.int .i64 1)) fun t79 =>
 C1 [t79] w12) fun k5 =>
 pu P (oIdxA T.sl_string t34 (gs s4 0)) fun t38 =>
 st P (oLoad T.string t38) w11 fun t39 w13 =>
 pu P (oBin .eql T.string false false t39 t1) fun t42 =>
 gd t42 false w13 (fun K1 => K1 t39 w13) fun t44 w14 =>
 gd t42 false w14 (fun K2 => K2 t1 w14) fun t45 w15 =>
 gd t42 false w15 (fun K3 => st P (oCall Fn.spec_MemBelow #[t44, t45]) w15 K3) fun t46 w16 =>
 pu P (oPick t42 (.bool true) t46) fun t47 =>
 cd t47 (
 st P (oCall Fn.spec_Mem_Find #[t0, t39]) w16 fun t51 w17 =>
 pu P (oExtract t51 0) fun t52 =>
 pu P (oExtract t51 1) fun t53 =>
 st P (oCall Fn.spec_Mem_drop #[t0, t39]) w17 fun t56 w18 =>
 pu P (oBuiltin .len #[T.string] T.int #[false] #[t1]) fun t61 =>
 pu P (oSlice T.string t39 (some t61) none none) fun t62 =>
 pu P (oBin .add T.string false false t2 t62) fun t63 =>
 st P (oCall Fn.spec_Mem_put #[t0, t63, t52]) w18 fun t65 w19 =>
 pu P (oNil t0) fun t67 =>
 pu P (oFldA T.spec_Mem t67 2) fun t68 =>
 rd P (oLoad T.sl_spec_MemNode t68) w19.drew fun t69 =>
 pu P (oBuiltin .len #[T.string] T.int #[false] #[t1]) fun t74 =>
 pu P (oSlice T.string t39 (some t74) none none) fun t75 =>
 pu P (oBin .add T.string false false t2 t75) fun t76 =>
 pu P (oIdxA T.sl_spec_MemNode t69 t52) fun t77 =>
 pu P (oFldA T.spec_MemNode t77 4) fun t78 =>
 st P (oStore T.string t78 t76) w19.drew fun _ w20 =>
 k5 [] w20) (
 k5 [] w16)) fun k4 =>
 cd t37 (
 k4 [] w10) (
 k3 [] w10)) fun k2 =>
 st P (oCall Fn.spec_Mem_Find #[t0, t1]) w2 fun t20 w21 =>
 pu P (oExtract t20 0) fun t21 =>
 pu P (oExtract t20 1) fun t22 =>
 pu P (oUn .not t22) fun t24 =>
 cd t24 (
 pu P (oBuild T.impl_Answer #[(0, (.int .i64 1))]) fun t25 =>
 st P (oStore T.impl_Answer t6 t25) w21 fun _ w22 =>
 rsl P T.impl_Answer t6 w22 fun r2 =>
 K (tup [r2]) w22) (
 k2 [] w21)) fun k1 =>
 pu P (oBin .eql T.string false false t1 t2) fun t15 =>
 cd t15 (
 pu P (oBuild T.impl_Answer #[]) fun t16 =>
 st P (oStore T.impl_Answer t6 t16) w1 fun _ w23 =>
 rsl P T.impl_Answer t6 w23 fun r3 =>
 K (tup [r3]) w23) (
 k1 [] w1)
def Tb_spec_Mem_rename : Tab := { join := fun n => match n with | _ => [], loop := fun n => match n with | 8 => [36] | _ => [] }
theorem S_spec_Mem_rename {t0 t1 t2 : Value} {w : World} {K : Value → World → Prop} (h : F_spec_Mem_rename t0 t1 t2 w K) : Cl P Fn.spec_Mem_rename #[t0, t1, t2] w K :=
  cl_of_eq (T := Tb_spec_Mem_rename) (args := [t0, t1, t2]) Tryd.func80 rfl follows_mixed (by kernel_rfl) (Nat.le_of_ble_eq_true (by kernel_rfl)) (by kernel_rfl) h

/-- (*pub-marram/spec.Mem).info · FORKS 1 -/
def F_spec_Mem_info (t0 t1 : Value) (w : World) (K : Value → World → Prop) : Prop :=
 st P (oAlloc T.impl_Info) w fun t4 w1 =>
 pu P (oNil t0) fun t8 =>
 pu P (oFldA T.spec_Mem t8 2) fun t9 =>
 st P (oLoad T.sl_spec_MemNode t9) w1 fun t10 w2 =>
 pu P (oIdxA T.sl_spec_MemNode t10 t1) fun t12 =>
 st P (oLoad T.spec_MemNode t12) w2 fun t13 w3 =>
 st P (oAlloc T.spec_MemNode) w3 fun t5 w4 =>
 st P (oStore T.spec_MemNode t5 t13) w4 fun _ w5 =>
 pu P (oFldA T.spec_MemNode t5 4) fun t14 =>
 rd P (oLoad T.string t14) w5.drew fun t15 =>
 pu P (oFldA T.spec_MemNode t5 1) fun t17 =>
 rd P (oLoad T.int t17) w5.drew fun t18 =>
 pu P (oFldA T.spec_MemNode t5 0) fun t19 =>
 rd P (oLoad T.bool t19) w5.drew fun t20 =>
 pu P (oFldA T.spec_MemNode t5 2) fun t21 =>
 rd P (oLoad T.sl_uint8 t21) w5.drew fun t22 =>
 pu P (oBuiltin .len #[T.sl_uint8] T.int #[false] #[t22]) fun t23 =>
 pu P (oFldA T.spec_MemNode t5 3) fun t24 =>
 rd P (oLoad T.int64 t24) w5.drew fun t25 =>
 (st P (oCall Fn.spec_MemBase #[t15]) w5.drew fun t16 w6 =>
 hold P (oLoad T.int64 t24) t25 w6 ∧ hold P (oLoad T.sl_uint8 t21) t22 w6 ∧ hold P (oLoad T.bool t19) t20 w6 ∧ hold P (oLoad T.int t17) t18 w6 ∧ pu P (oBuild T.impl_Info #[(0, t16), (2, t18), (3, t20), (1, t23), (4, t25)]) fun t26 =>
 st P (oAlloc T.impl_Info) w6 fun t6 w7 =>
 hold P (oLoad T.int64 t24) t25 w7 ∧ hold P (oLoad T.sl_uint8 t21) t22 w7 ∧ hold P (oLoad T.bool t19) t20 w7 ∧ hold P (oLoad T.int t17) t18 w7 ∧ st P (oStore T.impl_Info t6 t26) w7 fun _ w8 =>
 jn (fun s1 u1 w9 =>
 st P (oLoad T.impl_Info t6) w9 fun t30 w10 =>
 st P (oStore T.impl_Info t4 t30) w10 fun _ w11 =>
 rsl P T.impl_Info t4 w11 fun r1 =>
 K (tup [r1]) w11) fun k1 =>
 pu P (oFldA T.spec_MemNode t5 0) fun t27 =>
 st P (oLoad T.bool t27) w8 fun t28 w12 =>
 cd t28 (
 pu P (oFldA T.impl_Info t6 1) fun t29 =>
 st P (oStore T.int64 t29 (.int .i64 42)) w12 fun _ w13 =>
 k1 [] w13) (
 k1 [] w12)) ∧ (st P (oAlloc T.impl_Info) w5.drew fun t6_2 w14 =>
 hold P (oLoad T.int64 t24) t25 w14 ∧ hold P (oLoad T.sl_uint8 t21) t22 w14 ∧ hold P (oLoad T.bool t19) t20 w14 ∧ hold P (oLoad T.int t17) t18 w14 ∧ hold P (oLoad T.string t14) t15 w14 ∧ st P (oCall Fn.spec_MemBase #[t15]) w14 fun t16_2 w15 =>
 hold P (oLoad T.int64 t24) t25 w15 ∧ hold P (oLoad T.sl_uint8 t21) t22 w15 ∧ hold P (oLoad T.bool t19) t20 w15 ∧ hold P (oLoad T.int t17) t18 w15 ∧ pu P (oBuild T.impl_Info #[(0, t16_2), (2, t18), (3, t20), (1, t23), (4, t25)]) fun t26_2 =>
 st P (oStore T.impl_Info t6_2 t26_2) w15 fun _ w16 =>
 jn (fun s2 u2 w17 =>
 st P (oLoad T.impl_Info t6_2) w17 fun t30_2 w18 =>
 st P (oStore T.impl_Info t4 t30_2) w18 fun _ w19 =>
 rsl P T.impl_Info t4 w19 fun r2 =>
 K (tup [r2]) w19) fun k2 =>
 pu P (oFldA T.spec_MemNode t5 0) fun t27_2 =>
 st P (oLoad T.bool t27_2) w16 fun t28_2 w20 =>
 cd t28_2 (
 pu P (oFldA T.impl_Info t6_2 1) fun t29_2 =>
 st P (oStore T.int64 t29_2 (.int .i64 42)) w20 fun _ w21 =>
 k2 [] w21) (
 k2 [] w20))
def Tb_spec_Mem_info : Tab := { join := fun n => match n with | _ => [], loop := fun n => match n with | _ => [] }
theorem S_spec_Mem_info {t0 t1 : Value} {w : World} {K : Value → World → Prop} (h : F_spec_Mem_info t0 t1 w K) : Cl P Fn.spec_Mem_info #[t0, t1] w K :=
  cl_of_eq (T := Tb_spec_Mem_info) (args := [t0, t1]) Tryd.func81 rfl follows_mixed (by kernel_rfl) (Nat.le_of_ble_eq_true (by kernel_rfl)) (by kernel_rfl) h

/-- (*pub-marram/spec.Mem).list -/
def F_spec_Mem_list (t0 t1 t2 : Value) (w : World) (K : Value → World → Prop) : Prop :=
 st P (oBox T.impl_Step t2) w fun t5 w1 =>
 st P (oAlloc T.impl_Answer) w1 fun t6 w2 =>
 pu P (oNil t0) fun t16 =>
 pu P (oFldA T.spec_Mem t16 2) fun t17 =>
 rd P (oLoad T.sl_spec_MemNode t17) w2.drew fun t18 =>
 pu P (oNil t1) fun t20 =>
 pu P (oFldA T.spec_MemHandle t20 0) fun t21 =>
 rd P (oLoad T.int t21) w2.drew fun t22 =>
 pu P (oIdxA T.sl_spec_MemNode t18 t22) fun t23 =>
 rd P (oLoad T.spec_MemNode t23) w2.drew fun t24 =>
 st P (oAlloc T.spec_MemNode) w2.drew fun t7 w3 =>
 hold P (oLoad T.spec_MemNode t23) t24 w3 ∧ hold P (oLoad T.int t21) t22 w3 ∧ hold P (oLoad T.sl_spec_MemNode t17) t18 w3 ∧ st P (oStore T.spec_MemNode t7 t24) w3 fun _ w4 =>
 jn (fun s1 u1 w5 =>
 pu P (oFldA T.spec_MemNode t7 4) fun t30 =>
 st P (oLoad T.string t30) w5 fun t31 w6 =>
 st P (oCall Fn.spec_Mem_Children #[t0, t31]) w6 fun t32 w7 =>
 pu P (oNil t1) fun t35 =>
 pu P (oFldA T.spec_MemHandle t35 2) fun t36 =>
 st P (oLoad T.int t36) w7 fun t37 w8 =>
 pu P (oBuiltin .len #[T.sl_string] T.int #[false] #[t32]) fun t39 =>
 pu P (oBuiltin .min #[T.int, T.int] T.int #[false, false] #[t37, t39]) fun t40 =>
 pu P (oSlice T.sl_string t32 (some t40) none none) fun t41 =>
 jn (fun s2 u2 w9 =>
 pu P (oNil t1) fun t56 =>
 pu P (oFldA T.spec_MemHandle t56 2) fun t57 =>
 st P (oLoad T.int t57) w9 fun t58 w10 =>
 pu P (oBuiltin .len #[T.sl_string] T.int #[false] #[(gs s2 0)]) fun t60 =>
 pu P (oBin .add T.int false false t58 t60) fun t61 =>
 pu P (oNil t1) fun t62 =>
 pu P (oFldA T.spec_MemHandle t62 2) fun t63 =>
 st P (oStore T.int t63 t61) w10 fun _ w11 =>
 pu P (oBuild T.impl_Answer #[(0, (gs s2 1))]) fun t65 =>
 st P (oAlloc T.impl_Answer) w11 fun t10 w12 =>
 st P (oStore T.impl_Answer t10 t65) w12 fun _ w13 =>
 jn (fun s3 u3 w14 =>
 st P (oLoad T.impl_Answer t10) w14 fun t97 w15 =>
 st P (oStore T.impl_Answer t6 t97) w15 fun _ w16 =>
 rsl P T.impl_Answer t6 w16 fun r1 =>
 K (tup [r1]) w16) fun k3 =>
 pu P (oBuiltin .len #[T.sl_string] T.int #[false] #[(gs s2 0)]) fun t67 =>
 lp [(.int .i64 0)] w13 fun s4 u4 w17 C1 =>
 pu P (oBin .lss T.int false false (gs s4 0) t67) fun t69 =>
 jn (fun s5 u5 w18 =>
 jn (fun s6 u6 w19 =>
 pu P (oBin .add T.int false true (gs s4 0) (.int .i64 1)) fun t96 =>
 C1 [t96] w19) fun k5 =>
 pu P (oIdxA T.sl_string (gs s2 0) (gs s4 0)) fun t70 =>
 st P (oLoad T.string t70) w18 fun t71 w20 =>
 st P (oCall Fn.spec_Mem_Find #[t0, t71]) w20 fun t75 w21 =>
 pu P (oExtract t75 0) fun t76 =>
 pu P (oExtract t75 1) fun t77 =>
 pu P (oFldA T.impl_Step t5 0) fun t78 =>
 st P (oLoad T.int t78) w21 fun t79 w22 =>
 pu P (oBin .eql T.int false true t79 (.int .i64 20)) fun t80 =>
 cd t80 (
 pu P (oFldA T.impl_Answer t10 4) fun t81 =>
 rd P (oLoad T.sl_string t81) w22.drew fun t82 =>
 st P (oCall Fn.spec_MemBase #[t71]) w22.drew fun t84 w23 =>
 hold P (oLoad T.sl_string t81) t82 w23 ∧ st P (oBuildSlice T.sl_string 1 #[(0, t84)]) w23 fun t85 w24 =>
 hold P (oLoad T.sl_string t81) t82 w24 ∧ st P (oBuiltin .append #[T.sl_string, T.sl_string] T.sl_string #[false, false] #[t82, t85]) w24 fun t86 w25 =>
 pu P (oFldA T.impl_Answer t10 4) fun t87 =>
 st P (oStore T.sl_string t87 t86) w25 fun _ w26 =>
 k5 [] w26) (
 pu P (oFldA T.impl_Answer t10 5) fun t88 =>
 rd P (oLoad T.sl_impl_Info t88) w22.drew fun t89 =>
 st P (oCall Fn.spec_Mem_info #[t0, t76]) w22.drew fun t92 w27 =>
 hold P (oLoad T.sl_impl_Info t88) t89 w27 ∧ st P (oBuildSlice T.sl_impl_Info 1 #[(0, t92)]) w27 fun t93 w28 =>
 hold P (oLoad T.sl_impl_Info t88) t89 w28 ∧ st P (oBuiltin .append #[T.sl_impl_Info, T.sl_impl_Info] T.sl_impl_Info #[false, false] #[t89, t93]) w28 fun t94 w29 =>
 pu P (oFldA T.impl_Answer t10 5) fun t95 =>
 st P (oStore T.sl_impl_Info t95 t94) w29 fun _ w30 =>
 k5 [] w30)) fun k4 =>
 cd t69 (
 k4 [] w17) (
 k3 [] w17)) fun k2 =>
 pu P (oFldA T.impl_Step t5 9) fun t42 =>
 st P (oLoad T.int t42) w8 fun t43 w31 =>
 pu P (oBin .gtr T.int false true t43 (.int .i64 0)) fun t44 =>
 cd t44 (
 jn (fun s7 u7 w32 =>
 pu P (oFldA T.impl_Step t5 9) fun t49 =>
 st P (oLoad T.int t49) w32 fun t50 w33 =>
 pu P (oBuiltin .len #[T.sl_string] T.int #[false] #[t41]) fun t52 =>
 pu P (oBuiltin .min #[T.int, T.int] T.int #[false, false] #[t50, t52]) fun t53 =>
 pu P (oSlice T.sl_string t41 none (some t53) none) fun t54 =>
 k2 [t54, (gs s7 0)] w33) fun k6 =>
 pu P (oBuiltin .len #[T.sl_string] T.int #[false] #[t41]) fun t46 =>
 pu P (oBin .eql T.int false true t46 (.int .i64 0)) fun t47 =>
 cd t47 (
 k6 [(.int .i64 4)] w31) (
 k6 [(.int .i64 0)] w31)) (
 k2 [t41, (.int .i64 0)] w31)) fun k1 =>
 pu P (oFldA T.spec_MemNode t7 0) fun t25 =>
 st P (oLoad T.bool t25) w4 fun t26 w34 =>
 pu P (oUn .not t26) fun t27 =>
 cd t27 (
 pu P (oBuild T.impl_Answer #[(0, (.int .i64 8))]) fun t28 =>
 st P (oStore T.impl_Answer t6 t28) w34 fun _ w35 =>
 rsl P T.impl_Answer t6 w35 fun r2 =>
 K (tup [r2]) w35) (
 k1 [] w34)
def Tb_spec_Mem_list : Tab := { join := fun n => match n with | 9 => [9] | 10 => [8, 9] | _ => [], loop := fun n => match n with | 13 => [68] | _ => [] }
theorem S_spec_Mem_list {t0 t1 t2 : Value} {w : World} {K : Value → World → Prop} (h : F_spec_Mem_list t0 t1 t2 w K) : Cl P Fn.spec_Mem_list #[t0, t1, t2] w K :=
  cl_of_eq (T := Tb_spec_Mem_list) (args := [t0, t1, t2]) Tryd.func82 rfl follows_mixed (by kernel_rfl) (Nat.le_of_ble_eq_true (by kernel_rfl)) (by kernel_rfl) h

/-- pub-marram/spec.readFrom -/
def F_spec_readFrom (t0 t1 t2 : Value) (w : World) (K : Value → World → Prop) : Prop :=
 pu P (oBuiltin .max #[T.int, T.int] T.int #[false, true] #[t2, (.int .i64 0)]) fun t9 =>
 jn (fun s1 u1 w1 =>
 st P (oBuildSlice T.sl_uint8 0 #[]) w1 fun t27 w2 =>
 pu P (oBuiltin .len #[T.sl_uint8] T.int #[false] #[t0]) fun t31 =>
 pu P (oBin .add T.int64 false false t1 t9) fun t34 =>
 pu P (oBuiltin .min #[T.int64, T.int64] T.int64 #[false, false] #[t31, t34]) fun t35 =>
 pu P (oSlice T.sl_uint8 t0 (some t1) (some t35) none) fun t36 =>
 st P (oBuiltin .append #[T.sl_uint8, T.sl_uint8] T.sl_uint8 #[false, false] #[t27, t36]) w2 fun t37 w3 =>
 K (tup [t37, (.int .i64 0)]) w3) fun k1 =>
 pu P (oBin .lss T.int64 false true t1 (.int .i64 0)) fun t12 =>
 cd t12 (
 K (tup [(.slice none 0 0), (.int .i64 13)]) w) (
 pu P (oBin .gtr T.int false true t9 (.int .i64 0)) fun t15 =>
 gd t15 true w (fun K1 => K1 t1 w) fun t17 w4 =>
 gd t15 true w4 (fun K2 => K2 t0 w4) fun t18 w5 =>
 gd t15 true w5 (fun K3 => pu P (oBuiltin .len #[T.sl_uint8] T.int #[false] #[t18]) fun v => K3 v w5) fun t19 w6 =>
 gd t15 true w6 (fun K4 => pu P (oBin .eql T.int64 false false t17 t19) fun v => K4 v w6) fun t20 w7 =>
 pu P (oPick t15 t20 (.bool false)) fun t21 =>
 cd t21 (
 K (tup [(.slice none 0 0), (.int .i64 4)]) w7) (
 pu P (oBuiltin .len #[T.sl_uint8] T.int #[false] #[t0]) fun t25 =>
 pu P (oBin .gtr T.int64 false false t1 t25) fun t26 =>
 cd t26 (
 K (tup [(.slice none 0 0), (.int .i64 5)]) w7) (
 k1 [] w7)))
def Tb_spec_readFrom : Tab := { join := fun n => match n with | _ => [], loop := fun n => match n with | _ => [] }
theorem S_spec_readFrom {t0 t1 t2 : Value} {w : World} {K : Value → World → Prop} (h : F_spec_readFrom t0 t1 t2 w K) : Cl P Fn.spec_readFrom #[t0, t1, t2] w K :=
  cl_of_eq (T := Tb_spec_readFrom) (args := [t0, t1, t2]) Tryd.func83 rfl follows_mixed (by kernel_rfl) (Nat.le_of_ble_eq_true (by kernel_rfl)) (by kernel_rfl) h

/-- pub-marram/spec.grown -/
def F_spec_grown (t0 t1 : Value) (w : World) (K : Value → World → Prop) : Prop :=
 st P (oBuildSlice T.sl_uint8 0 #[]) w fun t6 w1 =>
 st P (oBuiltin .append #[T.sl_uint8, T.sl_uint8] T.sl_uint8 #[false, false] #[t6, t0]) w1 fun t8 w2 =>
 jn (fun s1 u1 w3 =>
 K (tup [(gs s1 0)]) w3) fun k1 =>
 lp [t8] w2 fun s2 u2 w4 C1 =>
 jn (fun s3 u3 w5 =>
 st P (oBuildSlice T.sl_uint8 1 #[(0, (.int .u8 0))]) w5 fun t14 w6 =>
 st P (oBuiltin .append #[T.sl_uint8, T.sl_uint8] T.sl_uint8 #[false, false] #[(gs s2 0), t14]) w6 fun t15 w7 =>
 C1 [t15] w7) fun k2 =>
 pu P (oBuiltin .len #[T.sl_uint8] T.int #[false] #[(gs s2 0)]) fun t10 =>
 pu P (oBin .lss T.int64 false false t10 t1) fun t12 =>
 cd t12 (
 k2 [] w4) (
 k1 [(gs s2 0)] w4)
def Tb_spec_grown : Tab := { join := fun n => match n with | 4 => [5] | _ => [], loop := fun n => match n with | 2 => [5] | _ => [] }
theorem S_spec_grown {t0 t1 : Value} {w : World} {K : Value → World → Prop} (h : F_spec_grown t0 t1 w K) : Cl P Fn.spec_grown #[t0, t1] w K :=
  cl_of_eq (T := Tb_spec_grown) (args := [t0, t1]) Tryd.func84 rfl follows_mixed (by kernel_rfl) (Nat.le_of_ble_eq_true (by kernel_rfl)) (by kernel_rfl) h

/-- pub-marram/spec.overwritten -/
def F_spec_overwritten (t0 t1 t2 : Value) (w : World) (K : Value → World → Prop) : Prop :=
 pu P (oBuiltin .len #[T.sl_uint8] T.int #[false] #[t2]) fun t11 =>
 pu P (oBin .add T.int64 false false t1 t11) fun t12 =>
 st P (oCall Fn.spec_grown #[t0, t12]) w fun t13 w1 =>
 pu P (oSlice T.sl_uint8 t13 (some t1) none none) fun t16 =>
 st P (oBuiltin .copy #[T.sl_uint8, T.sl_uint8] T.int #[false, false] #[t16, t2]) w1 fun t18 w2 =>
 K (tup [t13]) w2
def Tb_spec_overwritten : Tab := { join := fun n => match n with | _ => [], loop := fun n => match n with | _ => [] }
theorem S_spec_overwritten {t0 t1 t2 : Value} {w : World} {K : Value → World → Prop} (h : F_spec_overwritten t0 t1 t2 w K) : Cl P Fn.spec_overwritten #[t0, t1, t2] w K :=
  cl_of_eq (T := Tb_spec_overwritten) (args := [t0, t1, t2]) Tryd.func85 rfl follows_mixed (by kernel_rfl) (Nat.le_of_ble_eq_true (by kernel_rfl)) (by kernel_rfl) h

/-- errors.New -/
def F_errors_New (t0 : Value) (w : World) (K : Value → World → Prop) : Prop :=
 pu P (oBuild T.errors_errorString #[(0, t0)]) fun t4 =>
 st P (oBox T.errors_errorString t4) w fun t5 w1 =>
 pu P (oMkIface T.p_errors_errorString t5) fun t6 =>
 K (tup [t6]) w1
def Tb_errors_New : Tab := { join := fun n => match n with | _ => [], loop := fun n => match n with | _ => [] }
theorem S_errors_New {t0 : Value} {w : World} {K : Value → World → Prop} (h : F_errors_New t0 w K) : Cl P Fn.errors_New #[t0] w K :=
  cl_of_eq (T := Tb_errors_New) (args := [t0]) Tryd.func86 rfl follows_mixed (by kernel_rfl) (Nat.le_of_ble_eq_true (by kernel_rfl)) (by kernel_rfl) h

/-- pub-marram/pub/afero/mem.setModTime -/
def F_mem_setModTime (t0 t1 : Value) (w : World) (K : Value → World → Prop) : Prop :=
 pu P (oNil t0) fun t6 =>
 pu P (oFldA T.mem_FileData t6 5) fun t7 =>
 st P (oStore T.int64 t7 t1) w fun _ w1 =>
 K (tup []) w1
def Tb_mem_setModTime : Tab := { join := fun n => match n with | _ => [], loop := fun n => match n with | _ => [] }
theorem S_mem_setModTime {t0 t1 : Value} {w : World} {K : Value → World → Prop} (h : F_mem_setModTime t0 t1 w K) : Cl P Fn.mem_setModTime #[t0, t1] w K :=
  cl_of_eq (T := Tb_mem_setModTime) (args := [t0, t1]) Tryd.func87 rfl follows_mixed (by kernel_rfl) (Nat.le_of_ble_eq_true (by kernel_rfl)) (by kernel_rfl) h

/-- (pub-marram/pub/afero/mem.DirMap).Files -/
def F_mem_DirMap_Files (t0 : Value) (w : World) (K : Value → World → Prop) : Prop :=
 jn (fun s1 u1 w1 =>
 jn (fun s2 u2 w2 =>
 K (tup [(gs s1 0)]) w2) fun k2 =>
 lp [(.int .i64 1)] w1 fun s3 u3 w3 C1 =>
 jn (fun s4 u4 w4 =>
 jn (fun s5 u5 w5 =>
 pu P (oBin .add T.int false true (gs s3 0) (.int .i64 1)) fun t22 =>
 C1 [t22] w5) fun k4 =>
 lp [(gs s3 0)] w4 fun s6 u6 w6 C2 =>
 jn (fun s7 u7 w7 =>
 pu P (oBin .sub T.int false true (gs s6 0) (.int .i64 1)) fun t50 =>
 pu P (oBin .sub T.int false true (gs s6 0) (.int .i64 1)) fun t53 =>
 pu P (oIdxA T.sl_p_mem_FileData (gs s1 0) t53) fun t54 =>
 rd P (oLoad T.p_mem_FileData t54) w7.drew fun t55 =>
 pu P (oIdxA T.sl_p_mem_FileData (gs s1 0) (gs s6 0)) fun t58 =>
 rd P (oLoad T.p_mem_FileData t58) w7.drew fun t59 =>
 pu P (oIdxA T.sl_p_mem_FileData (gs s1 0) (gs s6 0)) fun t60 =>
 st P (oStore T.p_mem_FileData t60 t55) w7.drew fun _ w8 =>
 pu P (oIdxA T.sl_p_mem_FileData (gs s1 0) t50) fun t61 =>
 st P (oStore T.p_mem_FileData t61 t59) w8 fun _ w9 =>
 pu P (oBin .sub T.int false true (gs s6 0) (.int .i64 1)) fun t45 =>
 C2 [t45] w9) fun k5 =>
 pu P (oBin .gtr T.int false true (gs s6 0) (.int .i64 0)) fun t25 =>
 gd t25 true w6.drew (fun K1 => K1 (gs s1 0) w6.drew) fun t27 w10 =>
 gd t25 true w10 (fun K2 => K2 (gs s6 0) w10) fun t28 w11 =>
 gd t25 true w11 (fun K3 => pu P (oIdxA T.sl_p_mem_FileData t27 t28) fun v => K3 v w11) fun t29 w12 =>
 gd t25 true w12 (fun K4 => rd P (oLoad T.p_mem_FileData t29) w12 fun v => K4 v w12) fun t30 w13 =>
 gd t25 true w13 (fun K5 => pu P (oNil t30) fun v => K5 v w13) fun t31 w14 =>
 gd t25 true w14 (fun K6 => pu P (oFldA T.mem_FileData t31 0) fun v => K6 v w14) fun t32 w15 =>
 gd t25 true w15 (fun K7 => rd P (oLoad T.string t32) w15 fun v => K7 v w15) fun t33 w16 =>
 gd t25 true w16 (fun K8 => K8 (gs s1 0) w16) fun t34 w17 =>
 gd t25 true w17 (fun K9 => K9 (gs s6 0) w17) fun t35 w18 =>
 gd t25 true w18 (fun K10 => pu P (oBin .sub T.int false true t35 (.int .i64 1)) fun v => K10 v w18) fun t36 w19 =>
 gd t25 true w19 (fun K11 => pu P (oIdxA T.sl_p_mem_FileData t34 t36) fun v => K11 v w19) fun t37 w20 =>
 gd t25 true w20 (fun K12 => rd P (oLoad T.p_mem_FileData t37) w20 fun v => K12 v w20) fun t38 w21 =>
 gd t25 true w21 (fun K13 => pu P (oNil t38) fun v => K13 v w21) fun t39 w22 =>
 gd t25 true w22 (fun K14 => pu P (oFldA T.mem_FileData t39 0) fun v => K14 v w22) fun t40 w23 =>
 gd t25 true w23 (fun K15 => rd P (oLoad T.string t40) w23 fun v => K15 v w23) fun t41 w24 =>
 gd t25 true w24 (fun K16 => pu P (oBin .lss T.string false false t33 t41) fun v => K16 v w24) fun t42 w25 =>
 pu P (oPick t25 t42 (.bool false)) fun t43 =>
 cd t43 (
 k5 [] w25) (
 k4 [] w25)) fun k3 =>
 pu P (oBuiltin .len #[T.sl_p_mem_FileData] T.int #[false] #[(gs s1 0)]) fun t19 =>
 pu P (oBin .lss T.int false false (gs s3 0) t19) fun t20 =>
 cd t20 (
 k3 [] w3) (
 k2 [] w3)) fun k1 =>
 st P (oRange T.mem_DirMap t0) w fun t8 w26 =>
 lp [(.slice none 0 0)] w26 fun s8 u8 w27 C3 =>
 st P (oNext t8 false T.ty_2e38e77b) w27 fun t9 w28 =>
 pu P (oExtract t9 0) fun t10 =>
 jn (fun s9 u9 w29 =>
 st P (oEntry t8) w29 fun t11 w30 =>
 pu P (oExtract t11 1) fun t12 =>
 st P (oBuildSlice T.sl_p_mem_FileData 1 #[(0, t12)]) w30 fun t15 w31 =>
 st P (oBuiltin .append #[T.sl_p_mem_FileData, T.sl_p_mem_FileData] T.sl_p_mem_FileData #[false, false] #[(gs s8 0), t15]) w31 fun t16 w32 =>
 C3 [t16] w32) fun k6 =>
 cd t10 (
 k6 [] w28) (
 k1 [(gs s8 0)] w28)
def Tb_mem_DirMap_Files : Tab := { join := fun n => match n with | 5 => [2] | _ => [], loop := fun n => match n with | 2 => [2] | 6 => [5] | 9 => [6] | _ => [] }
theorem S_mem_DirMap_Files {t0 : Value} {w : World} {K : Value → World → Prop} (h : F_mem_DirMap_Files t0 w K) : Cl P Fn.mem_DirMap_Files #[t0] w K :=
  cl_of_eq (T := Tb_mem_DirMap_Files) (args := [t0]) Tryd.func88 rfl follows_mixed (by kernel_rfl) (Nat.le_of_ble_eq_true (by kernel_rfl)) (by kernel_rfl) h

/-- path.Split -/
def F_path_Split (t0 : Value) (w : World) (K : Value → World → Prop) : Prop :=
 st P (oCall Fn.bytealg_LastIndexByteString #[t0, (.int .u8 47)]) w fun t6 w1 =>
 pu P (oBin .add T.int false true t6 (.int .i64 1)) fun t9 =>
 pu P (oSlice T.string t0 none (some t9) none) fun t10 =>
 pu P (oBin .add T.int false true t6 (.int .i64 1)) fun t13 =>
 pu P (oSlice T.string t0 (some t13) none none) fun t14 =>
 K (tup [t10, t14]) w1.drew
def Tb_path_Split : Tab := { join := fun n => match n with | _ => [], loop := fun n => match n with | _ => [] }
theorem S_path_Split {t0 : Value} {w : World} {K : Value → World → Prop} (h : F_path_Split t0 w K) : Cl P Fn.path_Split #[t0] w K :=
  cl_of_eq (T := Tb_path_Split) (args := [t0]) Tryd.func89 rfl follows_mixed (by kernel_rfl) (Nat.le_of_ble_eq_true (by kernel_rfl)) (by kernel_rfl) h

/-- (*pub-marram/pub/afero/mem.FileInfo).Name -/
def F_mem_FileInfo_Name (t0 : Value) (w : World) (K : Value → World → Prop) : Prop :=
 pu P (oNil t0) fun t7 =>
 pu P (oFldA T.mem_FileInfo t7 0) fun t8 =>
 st P (oLoad T.p_mem_FileData t8) w fun t9 w1 =>
 pu P (oNil t9) fun t10 =>
 pu P (oFldA T.mem_FileData t10 0) fun t11 =>
 st P (oLoad T.string t11) w1 fun t12 w2 =>
 st P (oCall Fn.path_Split #[t12]) w2 fun t13 w3 =>
 pu P (oExtract t13 0) fun t14 =>
 pu P (oExtract t13 1) fun t15 =>
 K (tup [t15]) w3
def Tb_mem_FileInfo_Name : Tab := { join := fun n => match n with | _ => [], loop := fun n => match n with | _ => [] }
theorem S_mem_FileInfo_Name {t0 : Value} {w : World} {K : Value → World → Prop} (h : F_mem_FileInfo_Name t0 w K) : Cl P Fn.mem_FileInfo_Name #[t0] w K :=
  cl_of_eq (T := Tb_mem_FileInfo_Name) (args := [t0]) Tryd.func90 rfl follows_mixed (by kernel_rfl) (Nat.le_of_ble_eq_true (by kernel_rfl)) (by kernel_rfl) h

/-- (*pub-marram/pub/afero/mem.FileData).Name -/
def F_mem_FileData_Name (t0 : Value) (w : World) (K : Value → World → Prop) : Prop :=
 pu P (oNil t0) fun t4 =>
 pu P (oFldA T.mem_FileData t4 0) fun t5 =>
 st P (oLoad T.string t5) w fun t6 w1 =>
 K (tup [t6]) w1
def Tb_mem_FileData_Name : Tab := { join := fun n => match n with | _ => [], loop := fun n => match n with | _ => [] }
theorem S_mem_FileData_Name {t0 : Value} {w : World} {K : Value → World → Prop} (h : F_mem_FileData_Name t0 w K) : Cl P Fn.mem_FileData_Name #[t0] w K :=
  cl_of_eq (T := Tb_mem_FileData_Name) (args := [t0]) Tryd.func91 rfl follows_mixed (by kernel_rfl) (Nat.le_of_ble_eq_true (by kernel_rfl)) (by kernel_rfl) h

/-- (*pub-marram/spec.Mem).put -/
def F_spec_Mem_put (t0 t1 t2 : Value) (w : World) (K : Value → World → Prop) : Prop :=
 st P (oCall Fn.spec_Mem_place #[t0, t1]) w fun t11 w1 =>
 pu P (oExtract t11 0) fun t12 =>
 pu P (oExtract t11 1) fun t13 =>
 jn (fun s1 u1 w2 =>
 pu P (oNil t0) fun t24 =>
 pu P (oFldA T.spec_Mem t24 0) fun t25 =>
 rd P (oLoad T.sl_string t25) w2.drew fun t26 =>
 pu P (oSlice T.sl_string t26 none (some t12) none) fun t28 =>
 pu P (oNil t0) fun t32 =>
 pu P (oFldA T.spec_Mem t32 0) fun t33 =>
 rd P (oLoad T.sl_string t33) w2.drew fun t34 =>
 pu P (oSlice T.sl_string t34 (some t12) none none) fun t36 =>
 st P (oBuildSlice T.sl_string 1 #[(0, t1)]) w2.drew fun t30 w3 =>
 hold P (oLoad T.sl_string t33) t34 w3 ∧ hold P (oLoad T.sl_string t25) t26 w3 ∧ st P (oBuiltin .append #[T.sl_string, T.sl_string] T.sl_string #[false, false] #[t30, t36]) w3 fun t37 w4 =>
 hold P (oLoad T.sl_string t25) t26 w4 ∧ st P (oBuiltin .append #[T.sl_string, T.sl_string] T.sl_string #[false, false] #[t28, t37]) w4 fun t38 w5 =>
 pu P (oNil t0) fun t39 =>
 pu P (oFldA T.spec_Mem t39 0) fun t40 =>
 st P (oStore T.sl_string t40 t38) w5 fun _ w6 =>
 pu P (oNil t0) fun t43 =>
 pu P (oFldA T.spec_Mem t43 1) fun t44 =>
 rd P (oLoad T.sl_int t44) w6.drew fun t45 =>
 pu P (oSlice T.sl_int t45 none (some t12) none) fun t47 =>
 pu P (oNil t0) fun t51 =>
 pu P (oFldA T.spec_Mem t51 1) fun t52 =>
 rd P (oLoad T.sl_int t52) w6.drew fun t53 =>
 pu P (oSlice T.sl_int t53 (some t12) none none) fun t55 =>
 st P (oBuildSlice T.sl_int 1 #[(0, t2)]) w6.drew fun t49 w7 =>
 hold P (oLoad T.sl_int t52) t53 w7 ∧ hold P (oLoad T.sl_int t44) t45 w7 ∧ st P (oBuiltin .append #[T.sl_int, T.sl_int] T.sl_int #[false, false] #[t49, t55]) w7 fun t56 w8 =>
 hold P (oLoad T.sl_int t44) t45 w8 ∧ st P (oBuiltin .append #[T.sl_int, T.sl_int] T.sl_int #[false, false] #[t47, t56]) w8 fun t57 w9 =>
 pu P (oNil t0) fun t58 =>
 pu P (oFldA T.spec_Mem t58 1) fun t59 =>
 st P (oStore T.sl_int t59 t57) w9 fun _ w10 =>
 K (tup []) w10) fun k1 =>
 cd t13 (
 pu P (oNil t0) fun t16 =>
 pu P (oFldA T.spec_Mem t16 1) fun t17 =>
 st P (oLoad T.sl_int t17) w1 fun t18 w11 =>
 pu P (oIdxA T.sl_int t18 t12) fun t21 =>
 st P (oStore T.int t21 t2) w11 fun _ w12 =>
 K (tup []) w12) (
 k1 [] w1)
def Tb_spec_Mem_put : Tab := { join := fun n => match n with | _ => [], loop := fun n => match n with | _ => [] }
theorem S_spec_Mem_put {t0 t1 t2 : Value} {w : World} {K : Value → World → Prop} (h : F_spec_Mem_put t0 t1 t2 w K) : Cl P Fn.spec_Mem_put #[t0, t1, t2] w K :=
  cl_of_eq (T := Tb_spec_Mem_put) (args := [t0, t1, t2]) Tryd.func92 rfl follows_mixed (by kernel_rfl) (Nat.le_of_ble_eq_true (by kernel_rfl)) (by kernel_rfl) h

/-- (*pub-marram/spec.Pair).woven · FORKS 9 -/
def F_spec_Pair_woven (t0 t1 : Value) (w : World) (K : Value → World → Prop) : Prop :=
 st P (oBox T.impl_Step t1) w fun t3 w1 =>
 st P (oAlloc T.impl_Answer) w1 fun t4 w2 =>
 pu P (oNil t0) fun t17 =>
 pu P (oFldA T.spec_Pair t17 1) fun t18 =>
 rd P (oLoad T.p_spec_Mem t18) w2.drew fun t19 =>
 pu P (oFldA T.impl_Step t3 5) fun t20 =>
 rd P (oLoad T.int t20) w2.drew fun t21 =>
 rd P (oLoad T.impl_Step t3) w2.drew fun t22 =>
 pu P (oNil t0) fun t25 =>
 pu P (oFldA T.spec_Pair t25 0) fun t26 =>
 rd P (oLoad T.p_spec_Mem t26) w2.drew fun t27 =>
 pu P (oFldA T.impl_Step t3 5) fun t28 =>
 rd P (oLoad T.int t28) w2.drew fun t29 =>
 rd P (oLoad T.impl_Step t3) w2.drew fun t30 =>
 (st P (oCall Fn.spec_Mem_Do #[t19, t21, t22]) w2.drew fun t23 w3 =>
 hold P (oLoad T.impl_Step t3) t30 w3 ∧ hold P (oLoad T.int t28) t29 w3 ∧ hold P (oLoad T.p_spec_Mem t26) t27 w3 ∧ (st P (oCall Fn.spec_Mem_Do #[t27, t29, t30]) w3 fun t31 w4 =>
 (st P (oAlloc T.impl_Answer) w4 fun t5 w5 =>
 st P (oAlloc T.impl_Answer) w5 fun t6 w6 =>
 st P (oStore T.impl_Answer t5 t23) w6 fun _ w7 =>
 st P (oStore T.impl_Answer t6 t31) w7 fun _ w8 =>
 jn (fun s1 u1 w9 =>
 pu P (oBuild T.impl_Answer #[]) fun t36 =>
 st P (oAlloc T.impl_Answer) w9 fun t7 w10 =>
 st P (oStore T.impl_Answer t7 t36) w10 fun _ w11 =>
 jn (fun s2 u2 w12 =>
 jn (fun s3 u3 w13 =>
 jn (fun s4 u4 w14 =>
 jn (fun s5 u5 w15 =>
 st P (oLoad T.impl_Answer t7) w15 fun t89 w16 =>
 st P (oStore T.impl_Answer t4 t89) w16 fun _ w17 =>
 rsl P T.impl_Answer t4 w17 fun r1 =>
 K (tup [r1]) w17) fun k5 =>
 pu P (oFldA T.impl_Answer t5 5) fun t76 =>
 st P (oLoad T.sl_impl_Info t76) w14 fun t77 w18 =>
 pu P (oBuiltin .len #[T.sl_impl_Info] T.int #[false] #[t77]) fun t78 =>
 lp [(.int .i64 0)] w18 fun s6 u6 w19 C1 =>
 pu P (oBin .lss T.int false false (gs s6 0) t78) fun t80 =>
 jn (fun s7 u7 w20 =>
 pu P (oIdxA T.sl_impl_Info t77 (gs s6 0)) fun t81 =>
 st P (oLoad T.impl_Info t81) w20 fun t82 w21 =>
 st P (oAlloc T.impl_Info) w21 fun t15 w22 =>
 st P (oStore T.impl_Info t15 t82) w22 fun _ w23 =>
 pu P (oFldA T.impl_Answer t7 5) fun t83 =>
 st P (oLoad T.sl_impl_Info t83) w23 fun t84 w24 =>
 st P (oLoad T.impl_Info t15) w24 fun t85 w25 =>
 st P (oCall Fn.spec_told #[t84, t85]) w25 fun t86 w26 =>
 pu P (oFldA T.impl_Answer t7 5) fun t87 =>
 st P (oStore T.sl_impl_Info t87 t86) w26 fun _ w27 =>
 pu P (oBin .add T.int false true (gs s6 0) (.int .i64 1)) fun t88 =>
 C1 [t88] w27) fun k6 =>
 cd t80 (
 k6 [] w19) (
 k5 [] w19)) fun k4 =>
 pu P (oFldA T.impl_Answer t6 5) fun t63 =>
 st P (oLoad T.sl_impl_Info t63) w13 fun t64 w28 =>
 pu P (oBuiltin .len #[T.sl_impl_Info] T.int #[false] #[t64]) fun t65 =>
 lp [(.int .i64 0)] w28 fun s8 u8 w29 C2 =>
 pu P (oBin .lss T.int false false (gs s8 0) t65) fun t67 =>
 jn (fun s9 u9 w30 =>
 pu P (oIdxA T.sl_impl_Info t64 (gs s8 0)) fun t68 =>
 st P (oLoad T.impl_Info t68) w30 fun t69 w31 =>
 st P (oAlloc T.impl_Info) w31 fun t13 w32 =>
 st P (oStore T.impl_Info t13 t69) w32 fun _ w33 =>
 pu P (oFldA T.impl_Answer t7 5) fun t70 =>
 st P (oLoad T.sl_impl_Info t70) w33 fun t71 w34 =>
 st P (oLoad T.impl_Info t13) w34 fun t72 w35 =>
 st P (oCall Fn.spec_told #[t71, t72]) w35 fun t73 w36 =>
 pu P (oFldA T.impl_Answer t7 5) fun t74 =>
 st P (oStore T.sl_impl_Info t74 t73) w36 fun _ w37 =>
 pu P (oBin .add T.int false true (gs s8 0) (.int .i64 1)) fun t75 =>
 C2 [t75] w37) fun k7 =>
 cd t67 (
 k7 [] w29) (
 k4 [] w29)) fun k3 =>
 pu P (oFldA T.impl_Answer t6 4) fun t50 =>
 st P (oLoad T.sl_string t50) w12 fun t51 w38 =>
 pu P (oBuiltin .len #[T.sl_string] T.int #[false] #[t51]) fun t52 =>
 lp [(.int .i64 0)] w38 fun s10 u10 w39 C3 =>
 pu P (oBin .lss T.int false false (gs s10 0) t52) fun t54 =>
 jn (fun s11 u11 w40 =>
 pu P (oIdxA T.sl_string t51 (gs s10 0)) fun t55 =>
 st P (oLoad T.string t55) w40 fun t56 w41 =>
 pu P (oFldA T.impl_Answer t7 4) fun t57 =>
 st P (oLoad T.sl_string t57) w41 fun t58 w42 =>
 st P (oCall Fn.spec_with #[t58, t56]) w42 fun t60 w43 =>
 pu P (oFldA T.impl_Answer t7 4) fun t61 =>
 st P (oStore T.sl_string t61 t60) w43 fun _ w44 =>
 pu P (oBin .add T.int false true (gs s10 0) (.int .i64 1)) fun t62 =>
 C3 [t62] w44) fun k8 =>
 cd t54 (
 k8 [] w39) (
 k3 [] w39)) fun k2 =>
 pu P (oFldA T.impl_Answer t5 4) fun t37 =>
 st P (oLoad T.sl_string t37) w11 fun t38 w45 =>
 pu P (oBuiltin .len #[T.sl_string] T.int #[false] #[t38]) fun t39 =>
 lp [(.int .i64 0)] w45 fun s12 u12 w46 C4 =>
 pu P (oBin .lss T.int false false (gs s12 0) t39) fun t41 =>
 jn (fun s13 u13 w47 =>
 pu P (oIdxA T.sl_string t38 (gs s12 0)) fun t42 =>
 st P (oLoad T.string t42) w47 fun t43 w48 =>
 pu P (oFldA T.impl_Answer t7 4) fun t44 =>
 st P (oLoad T.sl_string t44) w48 fun t45 w49 =>
 st P (oCall Fn.spec_with #[t45, t43]) w49 fun t47 w50 =>
 pu P (oFldA T.impl_Answer t7 4) fun t48 =>
 st P (oStore T.sl_string t48 t47) w50 fun _ w51 =>
 pu P (oBin .add T.int false true (gs s12 0) (.int .i64 1)) fun t49 =>
 C4 [t49] w51) fun k9 =>
 cd t41 (
 k9 [] w46) (
 k2 [] w46)) fun k1 =>
 pu P (oFldA T.impl_Answer t5 0) fun t32 =>
 st P (oLoad T.int t32) w8 fun t33 w52 =>
 pu P (oBin .neq T.int false true t33 (.int .i64 0)) fun t34 =>
 cd t34 (
 st P (oLoad T.impl_Answer t5) w52 fun t35 w53 =>
 st P (oStore T.impl_Answer t4 t35) w53 fun _ w54 =>
 rsl P T.impl_Answer t4 w54 fun r2 =>
 K (tup [r2]) w54) (
 k1 [] w52)) ∧ (st P (oAlloc T.impl_Answer) w4 fun t6_2 w55 =>
 st P (oAlloc T.impl_Answer) w55 fun t5_2 w56 =>
 st P (oStore T.impl_Answer t5_2 t23) w56 fun _ w57 =>
 st P (oStore T.impl_Answer t6_2 t31) w57 fun _ w58 =>
 jn (fun s14 u14 w59 =>
 pu P (oBuild T.impl_Answer #[]) fun t36_2 =>
 st P (oAlloc T.impl_Answer) w59 fun t7_2 w60 =>
 st P (oStore T.impl_Answer t7_2 t36_2) w60 fun _ w61 =>
 jn (fun s15 u15 w62 =>
 jn (fun s16 u16 w63 =>
 jn (fun s17 u17 w64 =>
 jn (fun s18 u18 w65 =>
 st P (oLoad T.impl_Answer t7_2) w65 fun t89_2 w66 =>
 st P (oStore T.impl_Answer t4 t89_2) w66 fun _ w67 =>
 rsl P T.impl_Answer t4 w67 fun r3 =>
 K (tup [r3]) w67) fun k14 =>
 pu P (oFldA T.impl_Answer t5_2 5) fun t76_2 =>
 st P (oLoad T.sl_impl_Info t76_2) w64 fun t77_2 w68 =>
 pu P (oBuiltin .len #[T.sl_impl_Info] T.int #[false] #[t77_2]) fun t78_2 =>
 lp [(.int .i64 0)] w68 fun s19 u19 w69 C5 =>
 pu P (oBin .lss T.int false false (gs s19 0) t78_2) fun t80_2 =>
 jn (fun s20 u20 w70 =>
 pu P (oIdxA T.sl_impl_Info t77_2 (gs s19 0)) fun t81_2 =>
 st P (oLoad T.impl_Info t81_2) w70 fun t82_2 w71 =>
 st P (oAlloc T.impl_Info) w71 fun t15_2 w72 =>
 st P (oStore T.impl_Info t15_2 t82_2) w72 fun _ w73 =>
 pu P (oFldA T.impl_Answer t7_2 5) fun t83_2 =>
 st P (oLoad T.sl_impl_Info t83_2) w73 fun t84_2 w74 =>
 st P (oLoad T.impl_Info t15_2) w74 fun t85_2 w75 =>
 st P (oCall Fn.spec_told #[t84_2, t85_2]) w75 fun t86_2 w76 =>
 pu P (oFldA T.impl_Answer t7_2 5) fun t87_2 =>
 st P (oStore T.sl_impl_Info t87_2 t86_2) w76 fun _ w77 =>
 pu P (oBin .add T.int false true (gs s19 0) (.int .i64 1)) fun t88_2 =>
 C5 [t88_2] w77) fun k15 =>
 cd t80_2 (
 k15 [] w69) (
 k14 [] w69)) fun k13 =>
 pu P (oFldA T.impl_Answer t6_2 5) fun t63_2 =>
 st P (oLoad T.sl_impl_Info t63_2) w63 fun t64_2 w78 =>
 pu P (oBuiltin .len #[T.sl_impl_Info] T.int #[false] #[t64_2]) fun t65_2 =>
 lp [(.int .i64 0)] w78 fun s21 u21 w79 C6 =>
 pu P (oBin .lss T.int false false (gs s21 0) t65_2) fun t67_2 =>
 jn (fun s22 u22 w80 =>
 pu P (oIdxA T.sl_impl_Info t64_2 (gs s21 0)) fun t68_2 =>
 st P (oLoad T.impl_Info t68_2) w80 fun t69_2 w81 =>
 st P (oAlloc T.impl_Info) w81 fun t13_2 w82 =>
 st P (oStore T.impl_Info t13_2 t69_2) w82 fun _ w83 =>
 pu P (oFldA T.impl_Answer t7_2 5) fun t70_2 =>
 st P (oLoad T.sl_impl_Info t70_2) w83 fun t71_2 w84 =>
 st P (oLoad T.impl_Info t13_2) w84 fun t72_2 w85 =>
 st P (oCall Fn.spec_told #[t71_2, t72_2]) w85 fun t73_2 w86 =>
 pu P (oFldA T.impl_Answer t7_2 5) fun t74_2 =>
 st P (oStore T.sl_impl_Info t74_2 t73_2) w86 fun _ w87 =>
 pu P (oBin .add T.int false true (gs s21 0) (.int .i64 1)) fun t75_2 =>
 C6 [t75_2] w87) fun k16 =>
 cd t67_2 (
 k16 [] w79) (
 k13 [] w79)) fun k12 =>
 pu P (oFldA T.impl_Answer t6_2 4) fun t50_2 =>
 st P (oLoad T.sl_string t50_2) w62 fun t51_2 w88 =>
 pu P (oBuiltin .len #[T.sl_string] T.int #[false] #[t51_2]) fun t52_2 =>
 lp [(.int .i64 0)] w88 fun s23 u23 w89 C7 =>
 pu P (oBin .lss T.int false false (gs s23 0) t52_2) fun t54_2 =>
 jn (fun s24 u24 w90 =>
 pu P (oIdxA T.sl_string t51_2 (gs s23 0)) fun t55_2 =>
 st P (oLoad T.string t55_2) w90 fun t56_2 w91 =>
 pu P (oFldA T.impl_Answer t7_2 4) fun t57_2 =>
 st P (oLoad T.sl_string t57_2) w91 fun t58_2 w92 =>
 st P (oCall Fn.spec_with #[t58_2, t56_2]) w92 fun t60_2 w93 =>
 pu P (oFldA T.impl_Answer t7_2 4) fun t61_2 =>
 st P (oStore T.sl_string t61_2 t60_2) w93 fun _ w94 =>
 pu P (oBin .add T.int false true (gs s23 0) (.int .i64 1)) fun t62_2 =>
 C7 [t62_2] w94) fun k17 =>
 cd t54_2 (
 k17 [] w89) (
 k12 [] w89)) fun k11 =>
 pu P (oFldA T.impl_Answer t5_2 4) fun t37_2 =>
 st P (oLoad T.sl_string t37_2) w61 fun t38_2 w95 =>
 pu P (oBuiltin .len #[T.sl_string] T.int #[false] #[t38_2]) fun t39_2 =>
 lp [(.int .i64 0)] w95 fun s25 u25 w96 C8 =>
 pu P (oBin .lss T.int false false (gs s25 0) t39_2) fun t41_2 =>
 jn (fun s26 u26 w97 =>
 pu P (oIdxA T.sl_string t38_2 (gs s25 0)) fun t42_2 =>
 st P (oLoad T.string t42_2) w97 fun t43_2 w98 =>
 pu P (oFldA T.impl_Answer t7_2 4) fun t44_2 =>
 st P (oLoad T.sl_string t44_2) w98 fun t45_2 w99 =>
 st P (oCall Fn.spec_with #[t45_2, t43_2]) w99 fun t47_2 w100 =>
 pu P (oFldA T.impl_Answer t7_2 4) fun t48_2 =>
 st P (oStore T.sl_string t48_2 t47_2) w100 fun _ w101 =>
 pu P (oBin .add T.int false true (gs s25 0) (.int .i64 1)) fun t49_2 =>
 C8 [t49_2] w101) fun k18 =>
 cd t41_2 (
 k18 [] w96) (
 k11 [] w96)) fun k10 =>
 pu P (oFldA T.impl_Answer t5_2 0) fun t32_2 =>
 st P (oLoad T.int t32_2) w58 fun t33_2 w102 =>
 pu P (oBin .neq T.int false true t33_2 (.int .i64 0)) fun t34_2 =>
 cd t34_2 (
 st P (oLoad T.impl_Answer t5_2) w102 fun t35_2 w103 =>
 st P (oStore T.impl_Answer t4 t35_2) w103 fun _ w104 =>
 rsl P T.impl_Answer t4 w104 fun r4 =>
 K (tup [r4]) w104) (
 k10 [] w102))) ∧ (st P (oAlloc T.impl_Answer) w3 fun t5_3 w105 =>
 hold P (oLoad T.impl_Step t3) t30 w105 ∧ hold P (oLoad T.int t28) t29 w105 ∧ hold P (oLoad T.p_spec_Mem t26) t27 w105 ∧ (st P (oCall Fn.spec_Mem_Do #[t27, t29, t30]) w105 fun t31_2 w106 =>
 st P (oAlloc T.impl_Answer) w106 fun t6_3 w107 =>
 st P (oStore T.impl_Answer t5_3 t23) w107 fun _ w108 =>
 st P (oStore T.impl_Answer t6_3 t31_2) w108 fun _ w109 =>
 jn (fun s27 u27 w110 =>
 pu P (oBuild T.impl_Answer #[]) fun t36_3 =>
 st P (oAlloc T.impl_Answer) w110 fun t7_3 w111 =>
 st P (oStore T.impl_Answer t7_3 t36_3) w111 fun _ w112 =>
 jn (fun s28 u28 w113 =>
 jn (fun s29 u29 w114 =>
 jn (fun s30 u30 w115 =>
 jn (fun s31 u31 w116 =>
 st P (oLoad T.impl_Answer t7_3) w116 fun t89_3 w117 =>
 st P (oStore T.impl_Answer t4 t89_3) w117 fun _ w118 =>
 rsl P T.impl_Answer t4 w118 fun r5 =>
 K (tup [r5]) w118) fun k23 =>
 pu P (oFldA T.impl_Answer t5_3 5) fun t76_3 =>
 st P (oLoad T.sl_impl_Info t76_3) w115 fun t77_3 w119 =>
 pu P (oBuiltin .len #[T.sl_impl_Info] T.int #[false] #[t77_3]) fun t78_3 =>
 lp [(.int .i64 0)] w119 fun s32 u32 w120 C9 =>
 pu P (oBin .lss T.int false false (gs s32 0) t78_3) fun t80_3 =>
 jn (fun s33 u33 w121 =>
 pu P (oIdxA T.sl_impl_Info t77_3 (gs s32 0)) fun t81_3 =>
 st P (oLoad T.impl_Info t81_3) w121 fun t82_3 w122 =>
 st P (oAlloc T.impl_Info) w122 fun t15_3 w123 =>
 st P (oStore T.impl_Info t15_3 t82_3) w123 fun _ w124 =>
 pu P (oFldA T.impl_Answer t7_3 5) fun t83_3 =>
 st P (oLoad T.sl_impl_Info t83_3) w124 fun t84_3 w125 =>
 st P (oLoad T.impl_Info t15_3) w125 fun t85_3 w126 =>
 st P (oCall Fn.spec_told #[t84_3, t85_3]) w126 fun t86_3 w127 =>
 pu P (oFldA T.impl_Answer t7_3 5) fun t87_3 =>
 st P (oStore T.sl_impl_Info t87_3 t86_3) w127 fun _ w128 =>
 pu P (oBin .add T.int false true (gs s32 0) (.int .i64 1)) fun t88_3 =>
 C9 [t88_3] w128) fun k24 =>
 cd t80_3 (
 k24 [] w120) (
 k23 [] w120)) fun k22 =>
 pu P (oFldA T.impl_Answer t6_3 5) fun t63_3 =>
 st P (oLoad T.sl_impl_Info t63_3) w114 fun t64_3 w129 =>
 pu P (oBuiltin .len #[T.sl_impl_Info] T.int #[false] #[t64_3]) fun t65_3 =>
 lp [(.int .i64 0)] w129 fun s34 u34 w130 C10 =>
 pu P (oBin .lss T.int false false (gs s34 0) t65_3) fun t67_3 =>
 jn (fun s35 u35 w131 =>
 pu P (oIdxA T.sl_impl_Info t64_3 (gs s34 0)) fun t68_3 =>
 st P (oLoad T.impl_Info t68_3) w131 fun t69_3 w132 =>
 st P (oAlloc T.impl_Info) w132 fun t13_3 w133 =>
 st P (oStore T.impl_Info t13_3 t69_3) w133 fun _ w134 =>
 pu P (oFldA T.impl_Answer t7_3 5) fun t70_3 =>
 st P (oLoad T.sl_impl_Info t70_3) w134 fun t71_3 w135 =>
 st P (oLoad T.impl_Info t13_3) w135 fun t72_3 w136 =>
 st P (oCall Fn.spec_told #[t71_3, t72_3]) w136 fun t73_3 w137 =>
 pu P (oFldA T.impl_Answer t7_3 5) fun t74_3 =>
 st P (oStore T.sl_impl_Info t74_3 t73_3) w137 fun _ w138 =>
 pu P (oBin .add T.int false true (gs s34 0) (.int .i64 1)) fun t75_3 =>
 C10 [t75_3] w138) fun k25 =>
 cd t67_3 (
 k25 [] w130) (
 k22 [] w130)) fun k21 =>
 pu P (oFldA T.impl_Answer t6_3 4) fun t50_3 =>
 st P (oLoad T.sl_string t50_3) w113 fun t51_3 w139 =>
 pu P (oBuiltin .len #[T.sl_string] T.int #[false] #[t51_3]) fun t52_3 =>
 lp [(.int .i64 0)] w139 fun s36 u36 w140 C11 =>
 pu P (oBin .lss T.int false false (gs s36 0) t52_3) fun t54_3 =>
 jn (fun s37 u37 w141 =>
 pu P (oIdxA T.sl_string t51_3 (gs s36 0)) fun t55_3 =>
 st P (oLoad T.string t55_3) w141 fun t56_3 w142 =>
 pu P (oFldA T.impl_Answer t7_3 4) fun t57_3 =>
 st P (oLoad T.sl_string t57_3) w142 fun t58_3 w143 =>
 st P (oCall Fn.spec_with #[t58_3, t56_3]) w143 fun t60_3 w144 =>
 pu P (oFldA T.impl_Answer t7_3 4) fun t61_3 =>
 st P (oStore T.sl_string t61_3 t60_3) w144 fun _ w145 =>
 pu P (oBin .add T.int false true (gs s36 0) (.int .i64 1)) fun t62_3 =>
 C11 [t62_3] w145) fun k26 =>
 cd t54_3 (
 k26 [] w140) (
 k21 [] w140)) fun k20 =>
 pu P (oFldA T.impl_Answer t5_3 4) fun t37_3 =>
 st P (oLoad T.sl_string t37_3) w112 fun t38_3 w146 =>
 pu P (oBuiltin .len #[T.sl_string] T.int #[false] #[t38_3]) fun t39_3 =>
 lp [(.int .i64 0)] w146 fun s38 u38 w147 C12 =>
 pu P (oBin .lss T.int false false (gs s38 0) t39_3) fun t41_3 =>
 jn (fun s39 u39 w148 =>
 pu P (oIdxA T.sl_string t38_3 (gs s38 0)) fun t42_3 =>
 st P (oLoad T.string t42_3) w148 fun t43_3 w149 =>
 pu P (oFldA T.impl_Answer t7_3 4) fun t44_3 =>
 st P (oLoad T.sl_string t44_3) w149 fun t45_3 w150 =>
 st P (oCall Fn.spec_with #[t45_3, t43_3]) w150 fun t47_3 w151 =>
 pu P (oFldA T.impl_Answer t7_3 4) fun t48_3 =>
 st P (oStore T.sl_string t48_3 t47_3) w151 fun _ w152 =>
 pu P (oBin .add T.int false true (gs s38 0) (.int .i64 1)) fun t49_3 =>
 C12 [t49_3] w152) fun k27 =>
 cd t41_3 (
 k27 [] w147) (
 k20 [] w147)) fun k19 =>
 pu P (oFldA T.impl_Answer t5_3 0) fun t32_3 =>
 st P (oLoad T.int t32_3) w109 fun t33_3 w153 =>
 pu P (oBin .neq T.int false true t33_3 (.int .i64 0)) fun t34_3 =>
 cd t34_3 (
 st P (oLoad T.impl_Answer t5_3) w153 fun t35_3 w154 =>
 st P (oStore T.impl_Answer t4 t35_3) w154 fun _ w155 =>
 rsl P T.impl_Answer t4 w155 fun r6 =>
 K (tup [r6]) w155) (
 k19 [] w153)) ∧ (st P (oAlloc T.impl_Answer) w105 fun t6_4 w156 =>
 hold P (oLoad T.impl_Step t3) t30 w156 ∧ hold P (oLoad T.int t28) t29 w156 ∧ hold P (oLoad T.p_spec_Mem t26) t27 w156 ∧ st P (oCall Fn.spec_Mem_Do #[t27, t29, t30]) w156 fun t31_3 w157 =>
 st P (oStore T.impl_Answer t5_3 t23) w157 fun _ w158 =>
 st P (oStore T.impl_Answer t6_4 t31_3) w158 fun _ w159 =>
 jn (fun s40 u40 w160 =>
 pu P (oBuild T.impl_Answer #[]) fun t36_4 =>
 st P (oAlloc T.impl_Answer) w160 fun t7_4 w161 =>
 st P (oStore T.impl_Answer t7_4 t36_4) w161 fun _ w162 =>
 jn (fun s41 u41 w163 =>
 jn (fun s42 u42 w164 =>
 jn (fun s43 u43 w165 =>
 jn (fun s44 u44 w166 =>
 st P (oLoad T.impl_Answer t7_4) w166 fun t89_4 w167 =>
 st P (oStore T.impl_Answer t4 t89_4) w167 fun _ w168 =>
 rsl P T.impl_Answer t4 w168 fun r7 =>
 K (tup [r7]) w168) fun k32 =>
 pu P (oFldA T.impl_Answer t5_3 5) fun t76_4 =>
 st P (oLoad T.sl_impl_Info t76_4) w165 fun t77_4 w169 =>
 pu P (oBuiltin .len #[T.sl_impl_Info] T.int #[false] #[t77_4]) fun t78_4 =>
 lp [(.int .i64 0)] w169 fun s45 u45 w170 C13 =>
 pu P (oBin .lss T.int false false (gs s45 0) t78_4) fun t80_4 =>
 jn (fun s46 u46 w171 =>
 pu P (oIdxA T.sl_impl_Info t77_4 (gs s45 0)) fun t81_4 =>
 st P (oLoad T.impl_Info t81_4) w171 fun t82_4 w172 =>
 st P (oAlloc T.impl_Info) w172 fun t15_4 w173 =>
 st P (oStore T.impl_Info t15_4 t82_4) w173 fun _ w174 =>
 pu P (oFldA T.impl_Answer t7_4 5) fun t83_4 =>
 st P (oLoad T.sl_impl_Info t83_4) w174 fun t84_4 w175 =>
 st P (oLoad T.impl_Info t15_4) w175 fun t85_4 w176 =>
 st P (oCall Fn.spec_told #[t84_4, t85_4]) w176 fun t86_4 w177 =>
 pu P (oFldA T.impl_Answer t7_4 5) fun t87_4 =>
 st P (oStore T.sl_impl_Info t87_4 t86_4) w177 fun _ w178 =>
 pu P (oBin .add T.int false true (gs s45 0) (.int .i64 1)) fun t88_4 =>
 C13 [t88_4] w178) fun k33 =>
 cd t80_4 (
 k33 [] w170) (
 k32 [] w170)) fun k31 =>
 pu P (oFldA T.impl_Answer t6_4 5) fun t63_4 =>
 st P (oLoad T.sl_impl_Info t63_4) w164 fun t64_4 w179 =>
 pu P (oBuiltin .len #[T.sl_impl_Info] T.int #[false] #[t64_4]) fun t65_4 =>
 lp [(.int .i64 0)] w179 fun s47 u47 w180 C14 =>
 pu P (oBin .lss T.int false false (gs s47 0) t65_4) fun t67_4 =>
 jn (fun s48 u48 w181 =>
 pu P (oIdxA T.sl_impl_Info t64_4 (gs s47 0)) fun t68_4 =>
 st P (oLoad T.impl_Info t68_4) w181 fun t69_4 w182 =>
 st P (oAlloc T.impl_Info) w182 fun t13_4 w183 =>
 st P (oStore T.impl_Info t13_4 t69_4) w183 fun _ w184 =>
 pu P (oFldA T.impl_Answer t7_4 5) fun t70_4 =>
 st P (oLoad T.sl_impl_Info t70_4) w184 fun t71_4 w185 =>
 st P (oLoad T.impl_Info t13_4) w185 fun t72_4 w186 =>
 st P (oCall Fn.spec_told #[t71_4, t72_4]) w186 fun t73_4 w187 =>
 pu P (oFldA T.impl_Answer t7_4 5) fun t74_4 =>
 st P (oStore T.sl_impl_Info t74_4 t73_4) w187 fun _ w188 =>
 pu P (oBin .add T.int false true (gs s47 0) (.int .i64 1)) fun t75_4 =>
 C14 [t75_4] w188) fun k34 =>
 cd t67_4 (
 k34 [] w180) (
 k31 [] w180)) fun k30 =>
 pu P (oFldA T.impl_Answer t6_4 4) fun t50_4 =>
 st P (oLoad T.sl_string t50_4) w163 fun t51_4 w189 =>
 pu P (oBuiltin .len #[T.sl_string] T.int #[false] #[t51_4]) fun t52_4 =>
 lp [(.int .i64 0)] w189 fun s49 u49 w190 C15 =>
 pu P (oBin .lss T.int false false (gs s49 0) t52_4) fun t54_4 =>
 jn (fun s50 u50 w191 =>
 pu P (oIdxA T.sl_string t51_4 (gs s49 0)) fun t55_4 =>
 st P (oLoad T.string t55_4) w191 fun t56_4 w192 =>
 pu P (oFldA T.impl_Answer t7_4 4) fun t57_4 =>
 st P (oLoad T.sl_string t57_4) w192 fun t58_4 w193 =>
 st P (oCall Fn.spec_with #[t58_4, t56_4]) w193 fun t60_4 w194 =>
 pu P (oFldA T.impl_Answer t7_4 4) fun t61_4 =>
 st P (oStore T.sl_string t61_4 t60_4) w194 fun _ w195 =>
 pu P (oBin .add T.int false true (gs s49 0) (.int .i64 1)) fun t62_4 =>
 C15 [t62_4] w195) fun k35 =>
 cd t54_4 (
 k35 [] w190) (
 k30 [] w190)) fun k29 =>
 pu P (oFldA T.impl_Answer t5_3 4) fun t37_4 =>
 st P (oLoad T.sl_string t37_4) w162 fun t38_4 w196 =>
 pu P (oBuiltin .len #[T.sl_string] T.int #[false] #[t38_4]) fun t39_4 =>
 lp [(.int .i64 0)] w196 fun s51 u51 w197 C16 =>
 pu P (oBin .lss T.int false false (gs s51 0) t39_4) fun t41_4 =>
 jn (fun s52 u52 w198 =>
 pu P (oIdxA T.sl_string t38_4 (gs s51 0)) fun t42_4 =>
 st P (oLoad T.string t42_4) w198 fun t43_4 w199 =>
 pu P (oFldA T.impl_Answer t7_4 4) fun t44_4 =>
 st P (oLoad T.sl_string t44_4) w199 fun t45_4 w200 =>
 st P (oCall Fn.spec_with #[t45_4, t43_4]) w200 fun t47_4 w201 =>
 pu P (oFldA T.impl_Answer t7_4 4) fun t48_4 =>
 st P (oStore T.sl_string t48_4 t47_4) w201 fun _ w202 =>
 pu P (oBin .add T.int false true (gs s51 0) (.int .i64 1)) fun t49_4 =>
 C16 [t49_4] w202) fun k36 =>
 cd t41_4 (
 k36 [] w197) (
 k29 [] w197)) fun k28 =>
 pu P (oFldA T.impl_Answer t5_3 0) fun t32_4 =>
 st P (oLoad T.int t32_4) w159 fun t33_4 w203 =>
 pu P (oBin .neq T.int false true t33_4 (.int .i64 0)) fun t34_4 =>
 cd t34_4 (
 st P (oLoad T.impl_Answer t5_3) w203 fun t35_4 w204 =>
 st P (oStore T.impl_Answer t4 t35_4) w204 fun _ w205 =>
 rsl P T.impl_Answer t4 w205 fun r8 =>
 K (tup [r8]) w205) (
 k28 [] w203))) ∧ (st P (oAlloc T.impl_Answer) w3 fun t6_5 w206 =>
 hold P (oLoad T.impl_Step t3) t30 w206 ∧ hold P (oLoad T.int t28) t29 w206 ∧ hold P (oLoad T.p_spec_Mem t26) t27 w206 ∧ (st P (oCall Fn.spec_Mem_Do #[t27, t29, t30]) w206 fun t31_4 w207 =>
 st P (oAlloc T.impl_Answer) w207 fun t5_4 w208 =>
 st P (oStore T.impl_Answer t5_4 t23) w208 fun _ w209 =>
 st P (oStore T.impl_Answer t6_5 t31_4) w209 fun _ w210 =>
 jn (fun s53 u53 w211 =>
 pu P (oBuild T.impl_Answer #[]) fun t36_5 =>
 st P (oAlloc T.impl_Answer) w211 fun t7_5 w212 =>
 st P (oStore T.impl_Answer t7_5 t36_5) w212 fun _ w213 =>
 jn (fun s54 u54 w214 =>
 jn (fun s55 u55 w215 =>
 jn (fun s56 u56 w216 =>
 jn (fun s57 u57 w217 =>
 st P (oLoad T.impl_Answer t7_5) w217 fun t89_5 w218 =>
 st P (oStore T.impl_Answer t4 t89_5) w218 fun _ w219 =>
 rsl P T.impl_Answer t4 w219 fun r9 =>
 K (tup [r9]) w219) fun k41 =>
 pu P (oFldA T.impl_Answer t5_4 5) fun t76_5 =>
 st P (oLoad T.sl_impl_Info t76_5) w216 fun t77_5 w220 =>
 pu P (oBuiltin .len #[T.sl_impl_Info] T.int #[false] #[t77_5]) fun t78_5 =>
 lp [(.int .i64 0)] w220 fun s58 u58 w221 C17 =>
 pu P (oBin .lss T.int false false (gs s58 0) t78_5) fun t80_5 =>
 jn (fun s59 u59 w222 =>
 pu P (oIdxA T.sl_impl_Info t77_5 (gs s58 0)) fun t81_5 =>
 st P (oLoad T.impl_Info t81_5) w222 fun t82_5 w223 =>
 st P (oAlloc T.impl_Info) w223 fun t15_5 w224 =>
 st P (oStore T.impl_Info t15_5 t82_5) w224 fun _ w225 =>
 pu P (oFldA T.impl_Answer t7_5 5) fun t83_5 =>
 st P (oLoad T.sl_impl_Info t83_5) w225 fun t84_5 w226 =>
 st P (oLoad T.impl_Info t15_5) w226 fun t85_5 w227 =>
 st P (oCall Fn.spec_told #[t84_5, t85_5]) w227 fun t86_5 w228 =>
 pu P (oFldA T.impl_Answer t7_5 5) fun t87_5 =>
 st P (oStore T.sl_impl_Info t87_5 t86_5) w228 fun _ w229 =>
 pu P (oBin .add T.int false true (gs s58 0) (.int .i64 1)) fun t88_5 =>
 C17 [t88_5] w229) fun k42 =>
 cd t80_5 (
 k42 [] w221) (
 k41 [] w221)) fun k40 =>
 pu P (oFldA T.impl_Answer t6_5 5) fun t63_5 =>
 st P (oLoad T.sl_impl_Info t63_5) w215 fun t64_5 w230 =>
 pu P (oBuiltin .len #[T.sl_impl_Info] T.int #[false] #[t64_5]) fun t65_5 =>
 lp [(.int .i64 0)] w230 fun s60 u60 w231 C18 =>
 pu P (oBin .lss T.int false false (gs s60 0) t65_5) fun t67_5 =>
 jn (fun s61 u61 w232 =>
 pu P (oIdxA T.sl_impl_Info t64_5 (gs s60 0)) fun t68_5 =>
 st P (oLoad T.impl_Info t68_5) w232 fun t69_5 w233 =>
 st P (oAlloc T.impl_Info) w233 fun t13_5 w234 =>
 st P (oStore T.impl_Info t13_5 t69_5) w234 fun _ w235 =>
 pu P (oFldA T.impl_Answer t7_5 5) fun t70_5 =>
 st P (oLoad T.sl_impl_Info t70_5) w235 fun t71_5 w236 =>
 st P (oLoad T.impl_Info t13_5) w236 fun t72_5 w237 =>
 st P (oCall Fn.spec_told #[t71_5, t72_5]) w237 fun t73_5 w238 =>
 pu P (oFldA T.impl_Answer t7_5 5) fun t74_5 =>
 st P (oStore T.sl_impl_Info t74_5 t73_5) w238 fun _ w239 =>
 pu P (oBin .add T.int false true (gs s60 0) (.int .i64 1)) fun t75_5 =>
 C18 [t75_5] w239) fun k43 =>
 cd t67_5 (
 k43 [] w231) (
 k40 [] w231)) fun k39 =>
 pu P (oFldA T.impl_Answer t6_5 4) fun t50_5 =>
 st P (oLoad T.sl_string t50_5) w214 fun t51_5 w240 =>
 pu P (oBuiltin .len #[T.sl_string] T.int #[false] #[t51_5]) fun t52_5 =>
 lp [(.int .i64 0)] w240 fun s62 u62 w241 C19 =>
 pu P (oBin .lss T.int false false (gs s62 0) t52_5) fun t54_5 =>
 jn (fun s63 u63 w242 =>
 pu P (oIdxA T.sl_string t51_5 (gs s62 0)) fun t55_5 =>
 st P (oLoad T.string t55_5) w242 fun t56_5 w243 =>
 pu P (oFldA T.impl_Answer t7_5 4) fun t57_5 =>
 st P (oLoad T.sl_string t57_5) w243 fun t58_5 w244 =>
 st P (oCall Fn.spec_with #[t58_5, t56_5]) w244 fun t60_5 w245 =>
 pu P (oFldA T.impl_Answer t7_5 4) fun t61_5 =>
 st P (oStore T.sl_string t61_5 t60_5) w245 fun _ w246 =>
 pu P (oBin .add T.int false true (gs s62 0) (.int .i64 1)) fun t62_5 =>
 C19 [t62_5] w246) fun k44 =>
 cd t54_5 (
 k44 [] w241) (
 k39 [] w241)) fun k38 =>
 pu P (oFldA T.impl_Answer t5_4 4) fun t37_5 =>
 st P (oLoad T.sl_string t37_5) w213 fun t38_5 w247 =>
 pu P (oBuiltin .len #[T.sl_string] T.int #[false] #[t38_5]) fun t39_5 =>
 lp [(.int .i64 0)] w247 fun s64 u64 w248 C20 =>
 pu P (oBin .lss T.int false false (gs s64 0) t39_5) fun t41_5 =>
 jn (fun s65 u65 w249 =>
 pu P (oIdxA T.sl_string t38_5 (gs s64 0)) fun t42_5 =>
 st P (oLoad T.string t42_5) w249 fun t43_5 w250 =>
 pu P (oFldA T.impl_Answer t7_5 4) fun t44_5 =>
 st P (oLoad T.sl_string t44_5) w250 fun t45_5 w251 =>
 st P (oCall Fn.spec_with #[t45_5, t43_5]) w251 fun t47_5 w252 =>
 pu P (oFldA T.impl_Answer t7_5 4) fun t48_5 =>
 st P (oStore T.sl_string t48_5 t47_5) w252 fun _ w253 =>
 pu P (oBin .add T.int false true (gs s64 0) (.int .i64 1)) fun t49_5 =>
 C20 [t49_5] w253) fun k45 =>
 cd t41_5 (
 k45 [] w248) (
 k38 [] w248)) fun k37 =>
 pu P (oFldA T.impl_Answer t5_4 0) fun t32_5 =>
 st P (oLoad T.int t32_5) w210 fun t33_5 w254 =>
 pu P (oBin .neq T.int false true t33_5 (.int .i64 0)) fun t34_5 =>
 cd t34_5 (
 st P (oLoad T.impl_Answer t5_4) w254 fun t35_5 w255 =>
 st P (oStore T.impl_Answer t4 t35_5) w255 fun _ w256 =>
 rsl P T.impl_Answer t4 w256 fun r10 =>
 K (tup [r10]) w256) (
 k37 [] w254)) ∧ (st P (oAlloc T.impl_Answer) w206 fun t5_5 w257 =>
 hold P (oLoad T.impl_Step t3) t30 w257 ∧ hold P (oLoad T.int t28) t29 w257 ∧ hold P (oLoad T.p_spec_Mem t26) t27 w257 ∧ st P (oCall Fn.spec_Mem_Do #[t27, t29, t30]) w257 fun t31_5 w258 =>
 st P (oStore T.impl_Answer t5_5 t23) w258 fun _ w259 =>
 st P (oStore T.impl_Answer t6_5 t31_5) w259 fun _ w260 =>
 jn (fun s66 u66 w261 =>
 pu P (oBuild T.impl_Answer #[]) fun t36_6 =>
 st P (oAlloc T.impl_Answer) w261 fun t7_6 w262 =>
 st P (oStore T.impl_Answer t7_6 t36_6) w262 fun _ w263 =>
 jn (fun s67 u67 w264 =>
 jn (fun s68 u68 w265 =>
 jn (fun s69 u69 w266 =>
 jn (fun s70 u70 w267 =>
 st P (oLoad T.impl_Answer t7_6) w267 fun t89_6 w268 =>
 st P (oStore T.impl_Answer t4 t89_6) w268 fun _ w269 =>
 rsl P T.impl_Answer t4 w269 fun r11 =>
 K (tup [r11]) w269) fun k50 =>
 pu P (oFldA T.impl_Answer t5_5 5) fun t76_6 =>
 st P (oLoad T.sl_impl_Info t76_6) w266 fun t77_6 w270 =>
 pu P (oBuiltin .len #[T.sl_impl_Info] T.int #[false] #[t77_6]) fun t78_6 =>
 lp [(.int .i64 0)] w270 fun s71 u71 w271 C21 =>
 pu P (oBin .lss T.int false false (gs s71 0) t78_6) fun t80_6 =>
 jn (fun s72 u72 w272 =>
 pu P (oIdxA T.sl_impl_Info t77_6 (gs s71 0)) fun t81_6 =>
 st P (oLoad T.impl_Info t81_6) w272 fun t82_6 w273 =>
 st P (oAlloc T.impl_Info) w273 fun t15_6 w274 =>
 st P (oStore T.impl_Info t15_6 t82_6) w274 fun _ w275 =>
 pu P (oFldA T.impl_Answer t7_6 5) fun t83_6 =>
 st P (oLoad T.sl_impl_Info t83_6) w275 fun t84_6 w276 =>
 st P (oLoad T.impl_Info t15_6) w276 fun t85_6 w277 =>
 st P (oCall Fn.spec_told #[t84_6, t85_6]) w277 fun t86_6 w278 =>
 pu P (oFldA T.impl_Answer t7_6 5) fun t87_6 =>
 st P (oStore T.sl_impl_Info t87_6 t86_6) w278 fun _ w279 =>
 pu P (oBin .add T.int false true (gs s71 0) (.int .i64 1)) fun t88_6 =>
 C21 [t88_6] w279) fun k51 =>
 cd t80_6 (
 k51 [] w271) (
 k50 [] w271)) fun k49 =>
 pu P (oFldA T.impl_Answer t6_5 5) fun t63_6 =>
 st P (oLoad T.sl_impl_Info t63_6) w265 fun t64_6 w280 =>
 pu P (oBuiltin .len #[T.sl_impl_Info] T.int #[false] #[t64_6]) fun t65_6 =>
 lp [(.int .i64 0)] w280 fun s73 u73 w281 C22 =>
 pu P (oBin .lss T.int false false (gs s73 0) t65_6) fun t67_6 =>
 jn (fun s74 u74 w282 =>
 pu P (oIdxA T.sl_impl_Info t64_6 (gs s73 0)) fun t68_6 =>
 st P (oLoad T.impl_Info t68_6) w282 fun t69_6 w283 =>
 st P (oAlloc T.impl_Info) w283 fun t13_6 w284 =>
 st P (oStore T.impl_Info t13_6 t69_6) w284 fun _ w285 =>
 pu P (oFldA T.impl_Answer t7_6 5) fun t70_6 =>
 st P (oLoad T.sl_impl_Info t70_6) w285 fun t71_6 w286 =>
 st P (oLoad T.impl_Info t13_6) w286 fun t72_6 w287 =>
 st P (oCall Fn.spec_told #[t71_6, t72_6]) w287 fun t73_6 w288 =>
 pu P (oFldA T.impl_Answer t7_6 5) fun t74_6 =>
 st P (oStore T.sl_impl_Info t74_6 t73_6) w288 fun _ w289 =>
 pu P (oBin .add T.int false true (gs s73 0) (.int .i64 1)) fun t75_6 =>
 C22 [t75_6] w289) fun k52 =>
 cd t67_6 (
 k52 [] w281) (
 k49 [] w281)) fun k48 =>
 pu P (oFldA T.impl_Answer t6_5 4) fun t50_6 =>
 st P (oLoad T.sl_string t50_6) w264 fun t51_6 w290 =>
 pu P (oBuiltin .len #[T.sl_string] T.int #[false] #[t51_6]) fun t52_6 =>
 lp [(.int .i64 0)] w290 fun s75 u75 w291 C23 =>
 pu P (oBin .lss T.int false false (gs s75 0) t52_6) fun t54_6 =>
 jn (fun s76 u76 w292 =>
 pu P (oIdxA T.sl_string t51_6 (gs s75 0)) fun t55_6 =>
 st P (oLoad T.string t55_6) w292 fun t56_6 w293 =>
 pu P (oFldA T.impl_Answer t7_6 4) fun t57_6 =>
 st P (oLoad T.sl_string t57_6) w293 fun t58_6 w294 =>
 st P (oCall Fn.spec_with #[t58_6, t56_6]) w294 fun t60_6 w295 =>
 pu P (oFldA T.impl_Answer t7_6 4) fun t61_6 =>
 st P (oStore T.sl_string t61_6 t60_6) w295 fun _ w296 =>
 pu P (oBin .add T.int false true (gs s75 0) (.int .i64 1)) fun t62_6 =>
 C23 [t62_6] w296) fun k53 =>
 cd t54_6 (
 k53 [] w291) (
 k48 [] w291)) fun k47 =>
 pu P (oFldA T.impl_Answer t5_5 4) fun t37_6 =>
 st P (oLoad T.sl_string t37_6) w263 fun t38_6 w297 =>
 pu P (oBuiltin .len #[T.sl_string] T.int #[false] #[t38_6]) fun t39_6 =>
 lp [(.int .i64 0)] w297 fun s77 u77 w298 C24 =>
 pu P (oBin .lss T.int false false (gs s77 0) t39_6) fun t41_6 =>
 jn (fun s78 u78 w299 =>
 pu P (oIdxA T.sl_string t38_6 (gs s77 0)) fun t42_6 =>
 st P (oLoad T.string t42_6) w299 fun t43_6 w300 =>
 pu P (oFldA T.impl_Answer t7_6 4) fun t44_6 =>
 st P (oLoad T.sl_string t44_6) w300 fun t45_6 w301 =>
 st P (oCall Fn.spec_with #[t45_6, t43_6]) w301 fun t47_6 w302 =>
 pu P (oFldA T.impl_Answer t7_6 4) fun t48_6 =>
 st P (oStore T.sl_string t48_6 t47_6) w302 fun _ w303 =>
 pu P (oBin .add T.int false true (gs s77 0) (.int .i64 1)) fun t49_6 =>
 C24 [t49_6] w303) fun k54 =>
 cd t41_6 (
 k54 [] w298) (
 k47 [] w298)) fun k46 =>
 pu P (oFldA T.impl_Answer t5_5 0) fun t32_6 =>
 st P (oLoad T.int t32_6) w260 fun t33_6 w304 =>
 pu P (oBin .neq T.int false true t33_6 (.int .i64 0)) fun t34_6 =>
 cd t34_6 (
 st P (oLoad T.impl_Answer t5_5) w304 fun t35_6 w305 =>
 st P (oStore T.impl_Answer t4 t35_6) w305 fun _ w306 =>
 rsl P T.impl_Answer t4 w306 fun r12 =>
 K (tup [r12]) w306) (
 k46 [] w304)))) ∧ (st P (oAlloc T.impl_Answer) w2.drew fun t5_6 w307 =>
 hold P (oLoad T.impl_Step t3) t30 w307 ∧ hold P (oLoad T.int t28) t29 w307 ∧ hold P (oLoad T.p_spec_Mem t26) t27 w307 ∧ hold P (oLoad T.impl_Step t3) t22 w307 ∧ hold P (oLoad T.int t20) t21 w307 ∧ hold P (oLoad T.p_spec_Mem t18) t19 w307 ∧ (st P (oCall Fn.spec_Mem_Do #[t19, t21, t22]) w307 fun t23_2 w308 =>
 hold P (oLoad T.impl_Step t3) t30 w308 ∧ hold P (oLoad T.int t28) t29 w308 ∧ hold P (oLoad T.p_spec_Mem t26) t27 w308 ∧ (st P (oCall Fn.spec_Mem_Do #[t27, t29, t30]) w308 fun t31_6 w309 =>
 st P (oAlloc T.impl_Answer) w309 fun t6_6 w310 =>
 st P (oStore T.impl_Answer t5_6 t23_2) w310 fun _ w311 =>
 st P (oStore T.impl_Answer t6_6 t31_6) w311 fun _ w312 =>
 jn (fun s79 u79 w313 =>
 pu P (oBuild T.impl_Answer #[]) fun t36_7 =>
 st P (oAlloc T.impl_Answer) w313 fun t7_7 w314 =>
 st P (oStore T.impl_Answer t7_7 t36_7) w314 fun _ w315 =>
 jn (fun s80 u80 w316 =>
 jn (fun s81 u81 w317 =>
 jn (fun s82 u82 w318 =>
 jn (fun s83 u83 w319 =>
 st P (oLoad T.impl_Answer t7_7) w319 fun t89_7 w320 =>
 st P (oStore T.impl_Answer t4 t89_7) w320 fun _ w321 =>
 rsl P T.impl_Answer t4 w321 fun r13 =>
 K (tup [r13]) w321) fun k59 =>
 pu P (oFldA T.impl_Answer t5_6 5) fun t76_7 =>
 st P (oLoad T.sl_impl_Info t76_7) w318 fun t77_7 w322 =>
 pu P (oBuiltin .len #[T.sl_impl_Info] T.int #[false] #[t77_7]) fun t78_7 =>
 lp [(.int .i64 0)] w322 fun s84 u84 w323 C25 =>
 pu P (oBin .lss T.int false false (gs s84 0) t78_7) fun t80_7 =>
 jn (fun s85 u85 w324 =>
 pu P (oIdxA T.sl_impl_Info t77_7 (gs s84 0)) fun t81_7 =>
 st P (oLoad T.impl_Info t81_7) w324 fun t82_7 w325 =>
 st P (oAlloc T.impl_Info) w325 fun t15_7 w326 =>
 st P (oStore T.impl_Info t15_7 t82_7) w326 fun _ w327 =>
 pu P (oFldA T.impl_Answer t7_7 5) fun t83_7 =>
 st P (oLoad T.sl_impl_Info t83_7) w327 fun t84_7 w328 =>
 st P (oLoad T.impl_Info t15_7) w328 fun t85_7 w329 =>
 st P (oCall Fn.spec_told #[t84_7, t85_7]) w329 fun t86_7 w330 =>
 pu P (oFldA T.impl_Answer t7_7 5) fun t87_7 =>
 st P (oStore T.sl_impl_Info t87_7 t86_7) w330 fun _ w331 =>
 pu P (oBin .add T.int false true (gs s84 0) (.int .i64 1)) fun t88_7 =>
 C25 [t88_7] w331) fun k60 =>
 cd t80_7 (
 k60 [] w323) (
 k59 [] w323)) fun k58 =>
 pu P (oFldA T.impl_Answer t6_6 5) fun t63_7 =>
 st P (oLoad T.sl_impl_Info t63_7) w317 fun t64_7 w332 =>
 pu P (oBuiltin .len #[T.sl_impl_Info] T.int #[false] #[t64_7]) fun t65_7 =>
 lp [(.int .i64 0)] w332 fun s86 u86 w333 C26 =>
 pu P (oBin .lss T.int false false (gs s86 0) t65_7) fun t67_7 =>
 jn (fun s87 u87 w334 =>
 pu P (oIdxA T.sl_impl_Info t64_7 (gs s86 0)) fun t68_7 =>
 st P (oLoad T.impl_Info t68_7) w334 fun t69_7 w335 =>
 st P (oAlloc T.impl_Info) w335 fun t13_7 w336 =>
 st P (oStore T.impl_Info t13_7 t69_7) w336 fun _ w337 =>
 pu P (oFldA T.impl_Answer t7_7 5) fun t70_7 =>
 st P (oLoad T.sl_impl_Info t70_7) w337 fun t71_7 w338 =>
 st P (oLoad T.impl_Info t13_7) w338 fun t72_7 w339 =>
 st P (oCall Fn.spec_told #[t71_7, t72_7]) w339 fun t73_7 w340 =>
 pu P (oFldA T.impl_Answer t7_7 5) fun t74_7 =>
 st P (oStore T.sl_impl_Info t74_7 t73_7) w340 fun _ w341 =>
 pu P (oBin .add T.int false true (gs s86 0) (.int .i64 1)) fun t75_7 =>
 C26 [t75_7] w341) fun k61 =>
 cd t67_7 (
 k61 [] w333) (
 k58 [] w333)) fun k57 =>
 pu P (oFldA T.impl_Answer t6_6 4) fun t50_7 =>
 st P (oLoad T.sl_string t50_7) w316 fun t51_7 w342 =>
 pu P (oBuiltin .len #[T.sl_string] T.int #[false] #[t51_7]) fun t52_7 =>
 lp [(.int .i64 0)] w342 fun s88 u88 w343 C27 =>
 pu P (oBin .lss T.int false false (gs s88 0) t52_7) fun t54_7 =>
 jn (fun s89 u89 w344 =>
 pu P (oIdxA T.sl_string t51_7 (gs s88 0)) fun t55_7 =>
 st P (oLoad T.string t55_7) w344 fun t56_7 w345 =>
 pu P (oFldA T.impl_Answer t7_7 4) fun t57_7 =>
 st P (oLoad T.sl_string t57_7) w345 fun t58_7 w346 =>
 st P (oCall Fn.spec_with #[t58_7, t56_7]) w346 fun t60_7 w347 =>
 pu P (oFldA T.impl_Answer t7_7 4) fun t61_7 =>
 st P (oStore T.sl_string t61_7 t60_7) w347 fun _ w348 =>
 pu P (oBin .add T.int false true (gs s88 0) (.int .i64 1)) fun t62_7 =>
 C27 [t62_7] w348) fun k62 =>
 cd t54_7 (
 k62 [] w343) (
 k57 [] w343)) fun k56 =>
 pu P (oFldA T.impl_Answer t5_6 4) fun t37_7 =>
 st P (oLoad T.sl_string t37_7) w315 fun t38_7 w349 =>
 pu P (oBuiltin .len #[T.sl_string] T.int #[false] #[t38_7]) fun t39_7 =>
 lp [(.int .i64 0)] w349 fun s90 u90 w350 C28 =>
 pu P (oBin .lss T.int false false (gs s90 0) t39_7) fun t41_7 =>
 jn (fun s91 u91 w351 =>
 pu P (oIdxA T.sl_string t38_7 (gs s90 0)) fun t42_7 =>
 st P (oLoad T.string t42_7) w351 fun t43_7 w352 =>
 pu P (oFldA T.impl_Answer t7_7 4) fun t44_7 =>
 st P (oLoad T.sl_string t44_7) w352 fun t45_7 w353 =>
 st P (oCall Fn.spec_with #[t45_7, t43_7]) w353 fun t47_7 w354 =>
 pu P (oFldA T.impl_Answer t7_7 4) fun t48_7 =>
 st P (oStore T.sl_string t48_7 t47_7) w354 fun _ w355 =>
 pu P (oBin .add T.int false true (gs s90 0) (.int .i64 1)) fun t49_7 =>
 C28 [t49_7] w355) fun k63 =>
 cd t41_7 (
 k63 [] w350) (
 k56 [] w350)) fun k55 =>
 pu P (oFldA T.impl_Answer t5_6 0) fun t32_7 =>
 st P (oLoad T.int t32_7) w312 fun t33_7 w356 =>
 pu P (oBin .neq T.int false true t33_7 (.int .i64 0)) fun t34_7 =>
 cd t34_7 (
 st P (oLoad T.impl_Answer t5_6) w356 fun t35_7 w357 =>
 st P (oStore T.impl_Answer t4 t35_7) w357 fun _ w358 =>
 rsl P T.impl_Answer t4 w358 fun r14 =>
 K (tup [r14]) w358) (
 k55 [] w356)) ∧ (st P (oAlloc T.impl_Answer) w308 fun t6_7 w359 =>
 hold P (oLoad T.impl_Step t3) t30 w359 ∧ hold P (oLoad T.int t28) t29 w359 ∧ hold P (oLoad T.p_spec_Mem t26) t27 w359 ∧ st P (oCall Fn.spec_Mem_Do #[t27, t29, t30]) w359 fun t31_7 w360 =>
 st P (oStore T.impl_Answer t5_6 t23_2) w360 fun _ w361 =>
 st P (oStore T.impl_Answer t6_7 t31_7) w361 fun _ w362 =>
 jn (fun s92 u92 w363 =>
 pu P (oBuild T.impl_Answer #[]) fun t36_8 =>
 st P (oAlloc T.impl_Answer) w363 fun t7_8 w364 =>
 st P (oStore T.impl_Answer t7_8 t36_8) w364 fun _ w365 =>
 jn (fun s93 u93 w366 =>
 jn (fun s94 u94 w367 =>
 jn (fun s95 u95 w368 =>
 jn (fun s96 u96 w369 =>
 st P (oLoad T.impl_Answer t7_8) w369 fun t89_8 w370 =>
 st P (oStore T.impl_Answer t4 t89_8) w370 fun _ w371 =>
 rsl P T.impl_Answer t4 w371 fun r15 =>
 K (tup [r15]) w371) fun k68 =>
 pu P (oFldA T.impl_Answer t5_6 5) fun t76_8 =>
 st P (oLoad T.sl_impl_Info t76_8) w368 fun t77_8 w372 =>
 pu P (oBuiltin .len #[T.sl_impl_Info] T.int #[false] #[t77_8]) fun t78_8 =>
 lp [(.int .i64 0)] w372 fun s97 u97 w373 C29 =>
 pu P (oBin .lss T.int false false (gs s97 0) t78_8) fun t80_8 =>
 jn (fun s98 u98 w374 =>
 pu P (oIdxA T.sl_impl_Info t77_8 (gs s97 0)) fun t81_8 =>
 st P (oLoad T.impl_Info t81_8) w374 fun t82_8 w375 =>
 st P (oAlloc T.impl_Info) w375 fun t15_8 w376 =>
 st P (oStore T.impl_Info t15_8 t82_8) w376 fun _ w377 =>
 pu P (oFldA T.impl_Answer t7_8 5) fun t83_8 =>
 st P (oLoad T.sl_impl_Info t83_8) w377 fun t84_8 w378 =>
 st P (oLoad T.impl_Info t15_8) w378 fun t85_8 w379 =>
 st P (oCall Fn.spec_told #[t84_8, t85_8]) w379 fun t86_8 w380 =>
 pu P (oFldA T.impl_Answer t7_8 5) fun t87_8 =>
 st P (oStore T.sl_impl_Info t87_8 t86_8) w380 fun _ w381 =>
 pu P (oBin .add T.int false true (gs s97 0) (.int .i64 1)) fun t88_8 =>
 C29 [t88_8] w381) fun k69 =>
 cd t80_8 (
 k69 [] w373) (
 k68 [] w373)) fun k67 =>
 pu P (oFldA T.impl_Answer t6_7 5) fun t63_8 =>
 st P (oLoad T.sl_impl_Info t63_8) w367 fun t64_8 w382 =>
 pu P (oBuiltin .len #[T.sl_impl_Info] T.int #[false] #[t64_8]) fun t65_8 =>
 lp [(.int .i64 0)] w382 fun s99 u99 w383 C30 =>
 pu P (oBin .lss T.int false false (gs s99 0) t65_8) fun t67_8 =>
 jn (fun s100 u100 w384 =>
 pu P (oIdxA T.sl_impl_Info t64_8 (gs s99 0)) fun t68_8 =>
 st P (oLoad T.impl_Info t68_8) w384 fun t69_8 w385 =>
 st P (oAlloc T.impl_Info) w385 fun t13_8 w386 =>
 st P (oStore T.impl_Info t13_8 t69_8) w386 fun _ w387 =>
 pu P (oFldA T.impl_Answer t7_8 5) fun t70_8 =>
 st P (oLoad T.sl_impl_Info t70_8) w387 fun t71_8 w388 =>
 st P (oLoad T.impl_Info t13_8) w388 fun t72_8 w389 =>
 st P (oCall Fn.spec_told #[t71_8, t72_8]) w389 fun t73_8 w390 =>
 pu P (oFldA T.impl_Answer t7_8 5) fun t74_8 =>
 st P (oStore T.sl_impl_Info t74_8 t73_8) w390 fun _ w391 =>
 pu P (oBin .add T.int false true (gs s99 0) (.int .i64 1)) fun t75_8 =>
 C30 [t75_8] w391) fun k70 =>
 cd t67_8 (
 k70 [] w383) (
 k67 [] w383)) fun k66 =>
 pu P (oFldA T.impl_Answer t6_7 4) fun t50_8 =>
 st P (oLoad T.sl_string t50_8) w366 fun t51_8 w392 =>
 pu P (oBuiltin .len #[T.sl_string] T.int #[false] #[t51_8]) fun t52_8 =>
 lp [(.int .i64 0)] w392 fun s101 u101 w393 C31 =>
 pu P (oBin .lss T.int false false (gs s101 0) t52_8) fun t54_8 =>
 jn (fun s102 u102 w394 =>
 pu P (oIdxA T.sl_string t51_8 (gs s101 0)) fun t55_8 =>
 st P (oLoad T.string t55_8) w394 fun t56_8 w395 =>
 pu P (oFldA T.impl_Answer t7_8 4) fun t57_8 =>
 st P (oLoad T.sl_string t57_8) w395 fun t58_8 w396 =>
 st P (oCall Fn.spec_with #[t58_8, t56_8]) w396 fun t60_8 w397 =>
 pu P (oFldA T.impl_Answer t7_8 4) fun t61_8 =>
 st P (oStore T.sl_string t61_8 t60_8) w397 fun _ w398 =>
 pu P (oBin .add T.int false true (gs s101 0) (.int .i64 1)) fun t62_8 =>
 C31 [t62_8] w398) fun k71 =>
 cd t54_8 (
 k71 [] w393) (
 k66 [] w393)) fun k65 =>
 pu P (oFldA T.impl_Answer t5_6 4) fun t37_8 =>
 st P (oLoad T.sl_string t37_8) w365 fun t38_8 w399 =>
 pu P (oBuiltin .len #[T.sl_string] T.int #[false] #[t38_8]) fun t39_8 =>
 lp [(.int .i64 0)] w399 fun s103 u103 w400 C32 =>
 pu P (oBin .lss T.int false false (gs s103 0) t39_8) fun t41_8 =>
 jn (fun s104 u104 w401 =>
 pu P (oIdxA T.sl_string t38_8 (gs s103 0)) fun t42_8 =>
 st P (oLoad T.string t42_8) w401 fun t43_8 w402 =>
 pu P (oFldA T.impl_Answer t7_8 4) fun t44_8 =>
 st P (oLoad T.sl_string t44_8) w402 fun t45_8 w403 =>
 st P (oCall Fn.spec_with #[t45_8, t43_8]) w403 fun t47_8 w404 =>
 pu P (oFldA T.impl_Answer t7_8 4) fun t48_8 =>
 st P (oStore T.sl_string t48_8 t47_8) w404 fun _ w405 =>
 pu P (oBin .add T.int false true (gs s103 0) (.int .i64 1)) fun t49_8 =>
 C32 [t49_8] w405) fun k72 =>
 cd t41_8 (
 k72 [] w400) (
 k65 [] w400)) fun k64 =>
 pu P (oFldA T.impl_Answer t5_6 0) fun t32_8 =>
 st P (oLoad T.int t32_8) w362 fun t33_8 w406 =>
 pu P (oBin .neq T.int false true t33_8 (.int .i64 0)) fun t34_8 =>
 cd t34_8 (
 st P (oLoad T.impl_Answer t5_6) w406 fun t35_8 w407 =>
 st P (oStore T.impl_Answer t4 t35_8) w407 fun _ w408 =>
 rsl P T.impl_Answer t4 w408 fun r16 =>
 K (tup [r16]) w408) (
 k64 [] w406))) ∧ (st P (oAlloc T.impl_Answer) w307 fun t6_8 w409 =>
 hold P (oLoad T.impl_Step t3) t30 w409 ∧ hold P (oLoad T.int t28) t29 w409 ∧ hold P (oLoad T.p_spec_Mem t26) t27 w409 ∧ hold P (oLoad T.impl_Step t3) t22 w409 ∧ hold P (oLoad T.int t20) t21 w409 ∧ hold P (oLoad T.p_spec_Mem t18) t19 w409 ∧ st P (oCall Fn.spec_Mem_Do #[t19, t21, t22]) w409 fun t23_3 w410 =>
 hold P (oLoad T.impl_Step t3) t30 w410 ∧ hold P (oLoad T.int t28) t29 w410 ∧ hold P (oLoad T.p_spec_Mem t26) t27 w410 ∧ st P (oCall Fn.spec_Mem_Do #[t27, t29, t30]) w410 fun t31_8 w411 =>
 st P (oStore T.impl_Answer t5_6 t23_3) w411 fun _ w412 =>
 st P (oStore T.impl_Answer t6_8 t31_8) w412 fun _ w413 =>
 jn (fun s105 u105 w414 =>
 pu P (oBuild T.impl_Answer #[]) fun t36_9 =>
 st P (oAlloc T.impl_Answer) w414 fun t7_9 w415 =>
 st P (oStore T.impl_Answer t7_9 t36_9) w415 fun _ w416 =>
 jn (fun s106 u106 w417 =>
 jn (fun s107 u107 w418 =>
 jn (fun s108 u108 w419 =>
 jn (fun s109 u109 w420 =>
 st P (oLoad T.impl_Answer t7_9) w420 fun t89_9 w421 =>
 st P (oStore T.impl_Answer t4 t89_9) w421 fun _ w422 =>
 rsl P T.impl_Answer t4 w422 fun r17 =>
 K (tup [r17]) w422) fun k77 =>
 pu P (oFldA T.impl_Answer t5_6 5) fun t76_9 =>
 st P (oLoad T.sl_impl_Info t76_9) w419 fun t77_9 w423 =>
 pu P (oBuiltin .len #[T.sl_impl_Info] T.int #[false] #[t77_9]) fun t78_9 =>
 lp [(.int .i64 0)] w423 fun s110 u110 w424 C33 =>
 pu P (oBin .lss T.int false false (gs s110 0) t78_9) fun t80_9 =>
 jn (fun s111 u111 w425 =>
 pu P (oIdxA T.sl_impl_Info t77_9 (gs s110 0)) fun t81_9 =>
 st P (oLoad T.impl_Info t81_9) w425 fun t82_9 w426 =>
 st P (oAlloc T.impl_Info) w426 fun t15_9 w427 =>
 st P (oStore T.impl_Info t15_9 t82_9) w427 fun _ w428 =>
 pu P (oFldA T.impl_Answer t7_9 5) fun t83_9 =>
 st P (oLoad T.sl_impl_Info t83_9) w428 fun t84_9 w429 =>
 st P (oLoad T.impl_Info t15_9) w429 fun t85_9 w430 =>
 st P (oCall Fn.spec_told #[t84_9, t85_9]) w430 fun t86_9 w431 =>
 pu P (oFldA T.impl_Answer t7_9 5) fun t87_9 =>
 st P (oStore T.sl_impl_Info t87_9 t86_9) w431 fun _ w432 =>
 pu P (oBin .add T.int false true (gs s110 0) (.int .i64 1)) fun t88_9 =>
 C33 [t88_9] w432) fun k78 =>
 cd t80_9 (
 k78 [] w424) (
 k77 [] w424)) fun k76 =>
 pu P (oFldA T.impl_Answer t6_8 5) fun t63_9 =>
 st P (oLoad T.sl_impl_Info t63_9) w418 fun t64_9 w433 =>
 pu P (oBuiltin .len #[T.sl_impl_Info] T.int #[false] #[t64_9]) fun t65_9 =>
 lp [(.int .i64 0)] w433 fun s112 u112 w434 C34 =>
 pu P (oBin .lss T.int false false (gs s112 0) t65_9) fun t67_9 =>
 jn (fun s113 u113 w435 =>
 pu P (oIdxA T.sl_impl_Info t64_9 (gs s112 0)) fun t68_9 =>
 st P (oLoad T.impl_Info t68_9) w435 fun t69_9 w436 =>
 st P (oAlloc T.impl_Info) w436 fun t13_9 w437 =>
 st P (oStore T.impl_Info t13_9 t69_9) w437 fun _ w438 =>
 pu P (oFldA T.impl_Answer t7_9 5) fun t70_9 =>
 st P (oLoad T.sl_impl_Info t70_9) w438 fun t71_9 w439 =>
 st P (oLoad T.impl_Info t13_9) w439 fun t72_9 w440 =>
 st P (oCall Fn.spec_told #[t71_9, t72_9]) w440 fun t73_9 w441 =>
 pu P (oFldA T.impl_Answer t7_9 5) fun t74_9 =>
 st P (oStore T.sl_impl_Info t74_9 t73_9) w441 fun _ w442 =>
 pu P (oBin .add T.int false true (gs s112 0) (.int .i64 1)) fun t75_9 =>
 C34 [t75_9] w442) fun k79 =>
 cd t67_9 (
 k79 [] w434) (
 k76 [] w434)) fun k75 =>
 pu P (oFldA T.impl_Answer t6_8 4) fun t50_9 =>
 st P (oLoad T.sl_string t50_9) w417 fun t51_9 w443 =>
 pu P (oBuiltin .len #[T.sl_string] T.int #[false] #[t51_9]) fun t52_9 =>
 lp [(.int .i64 0)] w443 fun s114 u114 w444 C35 =>
 pu P (oBin .lss T.int false false (gs s114 0) t52_9) fun t54_9 =>
 jn (fun s115 u115 w445 =>
 pu P (oIdxA T.sl_string t51_9 (gs s114 0)) fun t55_9 =>
 st P (oLoad T.string t55_9) w445 fun t56_9 w446 =>
 pu P (oFldA T.impl_Answer t7_9 4) fun t57_9 =>
 st P (oLoad T.sl_string t57_9) w446 fun t58_9 w447 =>
 st P (oCall Fn.spec_with #[t58_9, t56_9]) w447 fun t60_9 w448 =>
 pu P (oFldA T.impl_Answer t7_9 4) fun t61_9 =>
 st P (oStore T.sl_string t61_9 t60_9) w448 fun _ w449 =>
 pu P (oBin .add T.int false true (gs s114 0) (.int .i64 1)) fun t62_9 =>
 C35 [t62_9] w449) fun k80 =>
 cd t54_9 (
 k80 [] w444) (
 k75 [] w444)) fun k74 =>
 pu P (oFldA T.impl_Answer t5_6 4) fun t37_9 =>
 st P (oLoad T.sl_string t37_9) w416 fun t38_9 w450 =>
 pu P (oBuiltin .len #[T.sl_string] T.int #[false] #[t38_9]) fun t39_9 =>
 lp [(.int .i64 0)] w450 fun s116 u116 w451 C36 =>
 pu P (oBin .lss T.int false false (gs s116 0) t39_9) fun t41_9 =>
 jn (fun s117 u117 w452 =>
 pu P (oIdxA T.sl_string t38_9 (gs s116 0)) fun t42_9 =>
 st P (oLoad T.string t42_9) w452 fun t43_9 w453 =>
 pu P (oFldA T.impl_Answer t7_9 4) fun t44_9 =>
 st P (oLoad T.sl_string t44_9) w453 fun t45_9 w454 =>
 st P (oCall Fn.spec_with #[t45_9, t43_9]) w454 fun t47_9 w455 =>
 pu P (oFldA T.impl_Answer t7_9 4) fun t48_9 =>
 st P (oStore T.sl_string t48_9 t47_9) w455 fun _ w456 =>
 pu P (oBin .add T.int false true (gs s116 0) (.int .i64 1)) fun t49_9 =>
 C36 [t49_9] w456) fun k81 =>
 cd t41_9 (
 k81 [] w451) (
 k74 [] w451)) fun k73 =>
 pu P (oFldA T.impl_Answer t5_6 0) fun t32_9 =>
 st P (oLoad T.int t32_9) w413 fun t33_9 w457 =>
 pu P (oBin .neq T.int false true t33_9 (.int .i64 0)) fun t34_9 =>
 cd t34_9 (
 st P (oLoad T.impl_Answer t5_6) w457 fun t35_9 w458 =>
 st P (oStore T.impl_Answer t4 t35_9) w458 fun _ w459 =>
 rsl P T.impl_Answer t4 w459 fun r18 =>
 K (tup [r18]) w459) (
 k73 [] w457))) ∧ (st P (oAlloc T.impl_Answer) w2.drew fun t6_9 w460 =>
 hold P (oLoad T.impl_Step t3) t30 w460 ∧ hold P (oLoad T.int t28) t29 w460 ∧ hold P (oLoad T.p_spec_Mem t26) t27 w460 ∧ hold P (oLoad T.impl_Step t3) t22 w460 ∧ hold P (oLoad T.int t20) t21 w460 ∧ hold P (oLoad T.p_spec_Mem t18) t19 w460 ∧ (st P (oCall Fn.spec_Mem_Do #[t19, t21, t22]) w460 fun t23_4 w461 =>
 hold P (oLoad T.impl_Step t3) t30 w461 ∧ hold P (oLoad T.int t28) t29 w461 ∧ hold P (oLoad T.p_spec_Mem t26) t27 w461 ∧ (st P (oCall Fn.spec_Mem_Do #[t27, t29, t30]) w461 fun t31_9 w462 =>
 st P (oAlloc T.impl_Answer) w462 fun t5_7 w463 =>
 st P (oStore T.impl_Answer t5_7 t23_4) w463 fun _ w464 =>
 st P (oStore T.impl_Answer t6_9 t31_9) w464 fun _ w465 =>
 jn (fun s118 u118 w466 =>
 pu P (oBuild T.impl_Answer #[]) fun t36_10 =>
 st P (oAlloc T.impl_Answer) w466 fun t7_10 w467 =>
 st P (oStore T.impl_Answer t7_10 t36_10) w467 fun _ w468 =>
 jn (fun s119 u119 w469 =>
 jn (fun s120 u120 w470 =>
 jn (fun s121 u121 w471 =>
 jn (fun s122 u122 w472 =>
 st P (oLoad T.impl_Answer t7_10) w472 fun t89_10 w473 =>
 st P (oStore T.impl_Answer t4 t89_10) w473 fun _ w474 =>
 rsl P T.impl_Answer t4 w474 fun r19 =>
 K (tup [r19]) w474) fun k86 =>
 pu P (oFldA T.impl_Answer t5_7 5) fun t76_10 =>
 st P (oLoad T.sl_impl_Info t76_10) w471 fun t77_10 w475 =>
 pu P (oBuiltin .len #[T.sl_impl_Info] T.int #[false] #[t77_10]) fun t78_10 =>
 lp [(.int .i64 0)] w475 fun s123 u123 w476 C37 =>
 pu P (oBin .lss T.int false false (gs s123 0) t78_10) fun t80_10 =>
 jn (fun s124 u124 w477 =>
 pu P (oIdxA T.sl_impl_Info t77_10 (gs s123 0)) fun t81_10 =>
 st P (oLoad T.impl_Info t81_10) w477 fun t82_10 w478 =>
 st P (oAlloc T.impl_Info) w478 fun t15_10 w479 =>
 st P (oStore T.impl_Info t15_10 t82_10) w479 fun _ w480 =>
 pu P (oFldA T.impl_Answer t7_10 5) fun t83_10 =>
 st P (oLoad T.sl_impl_Info t83_10) w480 fun t84_10 w481 =>
 st P (oLoad T.impl_Info t15_10) w481 fun t85_10 w482 =>
 st P (oCall Fn.spec_told #[t84_10, t85_10]) w482 fun t86_10 w483 =>
 pu P (oFldA T.impl_Answer t7_10 5) fun t87_10 =>
 st P (oStore T.sl_impl_Info t87_10 t86_10) w483 fun _ w484 =>
 pu P (oBin .add T.int false true (gs s123 0) (.int .i64 1)) fun t88_10 =>
 C37 [t88_10] w484) fun k87 =>
 cd t80_10 (
 k87 [] w476) (
 k86 [] w476)) fun k85 =>
 pu P (oFldA T.impl_Answer t6_9 5) fun t63_10 =>
 st P (oLoad T.sl_impl_Info t63_10) w470 fun t64_10 w485 =>
 pu P (oBuiltin .len #[T.sl_impl_Info] T.int #[false] #[t64_10]) fun t65_10 =>
 lp [(.int .i64 0)] w485 fun s125 u125 w486 C38 =>
 pu P (oBin .lss T.int false false (gs s125 0) t65_10) fun t67_10 =>
 jn (fun s126 u126 w487 =>
 pu P (oIdxA T.sl_impl_Info t64_10 (gs s125 0)) fun t68_10 =>
 st P (oLoad T.impl_Info t68_10) w487 fun t69_10 w488 =>
 st P (oAlloc T.impl_Info) w488 fun t13_10 w489 =>
 st P (oStore T.impl_Info t13_10 t69_10) w489 fun _ w490 =>
 pu P (oFldA T.impl_Answer t7_10 5) fun t70_10 =>
 st P (oLoad T.sl_impl_Info t70_10) w490 fun t71_10 w491 =>
 st P (oLoad T.impl_Info t13_10) w491 fun t72_10 w492 =>
 st P (oCall Fn.spec_told #[t71_10, t72_10]) w492 fun t73_10 w493 =>
 pu P (oFldA T.impl_Answer t7_10 5) fun t74_10 =>
 st P (oStore T.sl_impl_Info t74_10 t73_10) w493 fun _ w494 =>
 pu P (oBin .add T.int false true (gs s125 0) (.int .i64 1)) fun t75_10 =>
 C38 [t75_10] w494) fun k88 =>
 cd t67_10 (
 k88 [] w486) (
 k85 [] w486)) fun k84 =>
 pu P (oFldA T.impl_Answer t6_9 4) fun t50_10 =>
 st P (oLoad T.sl_string t50_10) w469 fun t51_10 w495 =>
 pu P (oBuiltin .len #[T.sl_string] T.int #[false] #[t51_10]) fun t52_10 =>
 lp [(.int .i64 0)] w495 fun s127 u127 w496 C39 =>
 pu P (oBin .lss T.int false false (gs s127 0) t52_10) fun t54_10 =>
 jn (fun s128 u128 w497 =>
 pu P (oIdxA T.sl_string t51_10 (gs s127 0)) fun t55_10 =>
 st P (oLoad T.string t55_10) w497 fun t56_10 w498 =>
 pu P (oFldA T.impl_Answer t7_10 4) fun t57_10 =>
 st P (oLoad T.sl_string t57_10) w498 fun t58_10 w499 =>
 st P (oCall Fn.spec_with #[t58_10, t56_10]) w499 fun t60_10 w500 =>
 pu P (oFldA T.impl_Answer t7_10 4) fun t61_10 =>
 st P (oStore T.sl_string t61_10 t60_10) w500 fun _ w501 =>
 pu P (oBin .add T.int false true (gs s127 0) (.int .i64 1)) fun t62_10 =>
 C39 [t62_10] w501) fun k89 =>
 cd t54_10 (
 k89 [] w496) (
 k84 [] w496)) fun k83 =>
 pu P (oFldA T.impl_Answer t5_7 4) fun t37_10 =>
 st P (oLoad T.sl_string t37_10) w468 fun t38_10 w502 =>
 pu P (oBuiltin .len #[T.sl_string] T.int #[false] #[t38_10]) fun t39_10 =>
 lp [(.int .i64 0)] w502 fun s129 u129 w503 C40 =>
 pu P (oBin .lss T.int false false (gs s129 0) t39_10) fun t41_10 =>
 jn (fun s130 u130 w504 =>
 pu P (oIdxA T.sl_string t38_10 (gs s129 0)) fun t42_10 =>
 st P (oLoad T.string t42_10) w504 fun t43_10 w505 =>
 pu P (oFldA T.impl_Answer t7_10 4) fun t44_10 =>
 st P (oLoad T.sl_string t44_10) w505 fun t45_10 w506 =>
 st P (oCall Fn.spec_with #[t45_10, t43_10]) w506 fun t47_10 w507 =>
 pu P (oFldA T.impl_Answer t7_10 4) fun t48_10 =>
 st P (oStore T.sl_string t48_10 t47_10) w507 fun _ w508 =>
 pu P (oBin .add T.int false true (gs s129 0) (.int .i64 1)) fun t49_10 =>
 C40 [t49_10] w508) fun k90 =>
 cd t41_10 (
 k90 [] w503) (
 k83 [] w503)) fun k82 =>
 pu P (oFldA T.impl_Answer t5_7 0) fun t32_10 =>
 st P (oLoad T.int t32_10) w465 fun t33_10 w509 =>
 pu P (oBin .neq T.int false true t33_10 (.int .i64 0)) fun t34_10 =>
 cd t34_10 (
 st P (oLoad T.impl_Answer t5_7) w509 fun t35_10 w510 =>
 st P (oStore T.impl_Answer t4 t35_10) w510 fun _ w511 =>
 rsl P T.impl_Answer t4 w511 fun r20 =>
 K (tup [r20]) w511) (
 k82 [] w509)) ∧ (st P (oAlloc T.impl_Answer) w461 fun t5_8 w512 =>
 hold P (oLoad T.impl_Step t3) t30 w512 ∧ hold P (oLoad T.int t28) t29 w512 ∧ hold P (oLoad T.p_spec_Mem t26) t27 w512 ∧ st P (oCall Fn.spec_Mem_Do #[t27, t29, t30]) w512 fun t31_10 w513 =>
 st P (oStore T.impl_Answer t5_8 t23_4) w513 fun _ w514 =>
 st P (oStore T.impl_Answer t6_9 t31_10) w514 fun _ w515 =>
 jn (fun s131 u131 w516 =>
 pu P (oBuild T.impl_Answer #[]) fun t36_11 =>
 st P (oAlloc T.impl_Answer) w516 fun t7_11 w517 =>
 st P (oStore T.impl_Answer t7_11 t36_11) w517 fun _ w518 =>
 jn (fun s132 u132 w519 =>
 jn (fun s133 u133 w520 =>
 jn (fun s134 u134 w521 =>
 jn (fun s135 u135 w522 =>
 st P (oLoad T.impl_Answer t7_11) w522 fun t89_11 w523 =>
 st P (oStore T.impl_Answer t4 t89_11) w523 fun _ w524 =>
 rsl P T.impl_Answer t4 w524 fun r21 =>
 K (tup [r21]) w524) fun k95 =>
 pu P (oFldA T.impl_Answer t5_8 5) fun t76_11 =>
 st P (oLoad T.sl_impl_Info t76_11) w521 fun t77_11 w525 =>
 pu P (oBuiltin .len #[T.sl_impl_Info] T.int #[false] #[t77_11]) fun t78_11 =>
 lp [(.int .i64 0)] w525 fun s136 u136 w526 C41 =>
 pu P (oBin .lss T.int false false (gs s136 0) t78_11) fun t80_11 =>
 jn (fun s137 u137 w527 =>
 pu P (oIdxA T.sl_impl_Info t77_11 (gs s136 0)) fun t81_11 =>
 st P (oLoad T.impl_Info t81_11) w527 fun t82_11 w528 =>
 st P (oAlloc T.impl_Info) w528 fun t15_11 w529 =>
 st P (oStore T.impl_Info t15_11 t82_11) w529 fun _ w530 =>
 pu P (oFldA T.impl_Answer t7_11 5) fun t83_11 =>
 st P (oLoad T.sl_impl_Info t83_11) w530 fun t84_11 w531 =>
 st P (oLoad T.impl_Info t15_11) w531 fun t85_11 w532 =>
 st P (oCall Fn.spec_told #[t84_11, t85_11]) w532 fun t86_11 w533 =>
 pu P (oFldA T.impl_Answer t7_11 5) fun t87_11 =>
 st P (oStore T.sl_impl_Info t87_11 t86_11) w533 fun _ w534 =>
 pu P (oBin .add T.int false true (gs s136 0) (.int .i64 1)) fun t88_11 =>
 C41 [t88_11] w534) fun k96 =>
 cd t80_11 (
 k96 [] w526) (
 k95 [] w526)) fun k94 =>
 pu P (oFldA T.impl_Answer t6_9 5) fun t63_11 =>
 st P (oLoad T.sl_impl_Info t63_11) w520 fun t64_11 w535 =>
 pu P (oBuiltin .len #[T.sl_impl_Info] T.int #[false] #[t64_11]) fun t65_11 =>
 lp [(.int .i64 0)] w535 fun s138 u138 w536 C42 =>
 pu P (oBin .lss T.int false false (gs s138 0) t65_11) fun t67_11 =>
 jn (fun s139 u139 w537 =>
 pu P (oIdxA T.sl_impl_Info t64_11 (gs s138 0)) fun t68_11 =>
 st P (oLoad T.impl_Info t68_11) w537 fun t69_11 w538 =>
 st P (oAlloc T.impl_Info) w538 fun t13_11 w539 =>
 st P (oStore T.impl_Info t13_11 t69_11) w539 fun _ w540 =>
 pu P (oFldA T.impl_Answer t7_11 5) fun t70_11 =>
 st P (oLoad T.sl_impl_Info t70_11) w540 fun t71_11 w541 =>
 st P (oLoad T.impl_Info t13_11) w541 fun t72_11 w542 =>
 st P (oCall Fn.spec_told #[t71_11, t72_11]) w542 fun t73_11 w543 =>
 pu P (oFldA T.impl_Answer t7_11 5) fun t74_11 =>
 st P (oStore T.sl_impl_Info t74_11 t73_11) w543 fun _ w544 =>
 pu P (oBin .add T.int false true (gs s138 0) (.int .i64 1)) fun t75_11 =>
 C42 [t75_11] w544) fun k97 =>
 cd t67_11 (
 k97 [] w536) (
 k94 [] w536)) fun k93 =>
 pu P (oFldA T.impl_Answer t6_9 4) fun t50_11 =>
 st P (oLoad T.sl_string t50_11) w519 fun t51_11 w545 =>
 pu P (oBuiltin .len #[T.sl_string] T.int #[false] #[t51_11]) fun t52_11 =>
 lp [(.int .i64 0)] w545 fun s140 u140 w546 C43 =>
 pu P (oBin .lss T.int false false (gs s140 0) t52_11) fun t54_11 =>
 jn (fun s141 u141 w547 =>
 pu P (oIdxA T.sl_string t51_11 (gs s140 0)) fun t55_11 =>
 st P (oLoad T.string t55_11) w547 fun t56_11 w548 =>
 pu P (oFldA T.impl_Answer t7_11 4) fun t57_11 =>
 st P (oLoad T.sl_string t57_11) w548 fun t58_11 w549 =>
 st P (oCall Fn.spec_with #[t58_11, t56_11]) w549 fun t60_11 w550 =>
 pu P (oFldA T.impl_Answer t7_11 4) fun t61_11 =>
 st P (oStore T.sl_string t61_11 t60_11) w550 fun _ w551 =>
 pu P (oBin .add T.int false true (gs s140 0) (.int .i64 1)) fun t62_11 =>
 C43 [t62_11] w551) fun k98 =>
 cd t54_11 (
 k98 [] w546) (
 k93 [] w546)) fun k92 =>
 pu P (oFldA T.impl_Answer t5_8 4) fun t37_11 =>
 st P (oLoad T.sl_string t37_11) w518 fun t38_11 w552 =>
 pu P (oBuiltin .len #[T.sl_string] T.int #[false] #[t38_11]) fun t39_11 =>
 lp [(.int .i64 0)] w552 fun s142 u142 w553 C44 =>
 pu P (oBin .lss T.int false false (gs s142 0) t39_11) fun t41_11 =>
 jn (fun s143 u143 w554 =>
 pu P (oIdxA T.sl_string t38_11 (gs s142 0)) fun t42_11 =>
 st P (oLoad T.string t42_11) w554 fun t43_11 w555 =>
 pu P (oFldA T.impl_Answer t7_11 4) fun t44_11 =>
 st P (oLoad T.sl_string t44_11) w555 fun t45_11 w556 =>
 st P (oCall Fn.spec_with #[t45_11, t43_11]) w556 fun t47_11 w557 =>
 pu P (oFldA T.impl_Answer t7_11 4) fun t48_11 =>
 st P (oStore T.sl_string t48_11 t47_11) w557 fun _ w558 =>
 pu P (oBin .add T.int false true (gs s142 0) (.int .i64 1)) fun t49_11 =>
 C44 [t49_11] w558) fun k99 =>
 cd t41_11 (
 k99 [] w553) (
 k92 [] w553)) fun k91 =>
 pu P (oFldA T.impl_Answer t5_8 0) fun t32_11 =>
 st P (oLoad T.int t32_11) w515 fun t33_11 w559 =>
 pu P (oBin .neq T.int false true t33_11 (.int .i64 0)) fun t34_11 =>
 cd t34_11 (
 st P (oLoad T.impl_Answer t5_8) w559 fun t35_11 w560 =>
 st P (oStore T.impl_Answer t4 t35_11) w560 fun _ w561 =>
 rsl P T.impl_Answer t4 w561 fun r22 =>
 K (tup [r22]) w561) (
 k91 [] w559))) ∧ (st P (oAlloc T.impl_Answer) w460 fun t5_9 w562 =>
 hold P (oLoad T.impl_Step t3) t30 w562 ∧ hold P (oLoad T.int t28) t29 w562 ∧ hold P (oLoad T.p_spec_Mem t26) t27 w562 ∧ hold P (oLoad T.impl_Step t3) t22 w562 ∧ hold P (oLoad T.int t20) t21 w562 ∧ hold P (oLoad T.p_spec_Mem t18) t19 w562 ∧ st P (oCall Fn.spec_Mem_Do #[t19, t21, t22]) w562 fun t23_5 w563 =>
 hold P (oLoad T.impl_Step t3) t30 w563 ∧ hold P (oLoad T.int t28) t29 w563 ∧ hold P (oLoad T.p_spec_Mem t26) t27 w563 ∧ st P (oCall Fn.spec_Mem_Do #[t27, t29, t30]) w563 fun t31_11 w564 =>
 st P (oStore T.impl_Answer t5_9 t23_5) w564 fun _ w565 =>
 st P (oStore T.impl_Answer t6_9 t31_11) w565 fun _ w566 =>
 jn (fun s144 u144 w567 =>
 pu P (oBuild T.impl_Answer #[]) fun t36_12 =>
 st P (oAlloc T.impl_Answer) w567 fun t7_12 w568 =>
 st P (oStore T.impl_Answer t7_12 t36_12) w568 fun _ w569 =>
 jn (fun s145 u145 w570 =>
 jn (fun s146 u146 w571 =>
 jn (fun s147 u147 w572 =>
 jn (fun s148 u148 w573 =>
 st P (oLoad T.impl_Answer t7_12) w573 fun t89_12 w574 =>
 st P (oStore T.impl_Answer t4 t89_12) w574 fun _ w575 =>
 rsl P T.impl_Answer t4 w575 fun r23 =>
 K (tup [r23]) w575) fun k104 =>
 pu P (oFldA T.impl_Answer t5_9 5) fun t76_12 =>
 st P (oLoad T.sl_impl_Info t76_12) w572 fun t77_12 w576 =>
 pu P (oBuiltin .len #[T.sl_impl_Info] T.int #[false] #[t77_12]) fun t78_12 =>
 lp [(.int .i64 0)] w576 fun s149 u149 w577 C45 =>
 pu P (oBin .lss T.int false false (gs s149 0) t78_12) fun t80_12 =>
 jn (fun s150 u150 w578 =>
 pu P (oIdxA T.sl_impl_Info t77_12 (gs s149 0)) fun t81_12 =>
 st P (oLoad T.impl_Info t81_12) w578 fun t82_12 w579 =>
 st P (oAlloc T.impl_Info) w579 fun t15_12 w580 =>
 st P (oStore T.impl_Info t15_12 t82_12) w580 fun _ w581 =>
 pu P (oFldA T.impl_Answer t7_12 5) fun t83_12 =>
 st P (oLoad T.sl_impl_Info t83_12) w581 fun t84_12 w582 =>
 st P (oLoad T.impl_Info t15_12) w582 fun t85_12 w583 =>
 st P (oCall Fn.spec_told #[t84_12, t85_12]) w583 fun t86_12 w584 =>
 pu P (oFldA T.impl_Answer t7_12 5) fun t87_12 =>
 st P (oStore T.sl_impl_Info t87_12 t86_12) w584 fun _ w585 =>
 pu P (oBin .add T.int false true (gs s149 0) (.int .i64 1)) fun t88_12 =>
 C45 [t88_12] w585) fun k105 =>
 cd t80_12 (
 k105 [] w577) (
 k104 [] w577)) fun k103 =>
 pu P (oFldA T.impl_Answer t6_9 5) fun t63_12 =>
 st P (oLoad T.sl_impl_Info t63_12) w571 fun t64_12 w586 =>
 pu P (oBuiltin .len #[T.sl_impl_Info] T.int #[false] #[t64_12]) fun t65_12 =>
 lp [(.int .i64 0)] w586 fun s151 u151 w587 C46 =>
 pu P (oBin .lss T.int false false (gs s151 0) t65_12) fun t67_12 =>
 jn (fun s152 u152 w588 =>
 pu P (oIdxA T.sl_impl_Info t64_12 (gs s151 0)) fun t68_12 =>
 st P (oLoad T.impl_Info t68_12) w588 fun t69_12 w589 =>
 st P (oAlloc T.impl_Info) w589 fun t13_12 w590 =>
 st P (oStore T.impl_Info t13_12 t69_12) w590 fun _ w591 =>
 pu P (oFldA T.impl_Answer t7_12 5) fun t70_12 =>
 st P (oLoad T.sl_impl_Info t70_12) w591 fun t71_12 w592 =>
 st P (oLoad T.impl_Info t13_12) w592 fun t72_12 w593 =>
 st P (oCall Fn.spec_told #[t71_12, t72_12]) w593 fun t73_12 w594 =>
 pu P (oFldA T.impl_Answer t7_12 5) fun t74_12 =>
 st P (oStore T.sl_impl_Info t74_12 t73_12) w594 fun _ w595 =>
 pu P (oBin .add T.int false true (gs s151 0) (.int .i64 1)) fun t75_12 =>
 C46 [t75_12] w595) fun k106 =>
 cd t67_12 (
 k106 [] w587) (
 k103 [] w587)) fun k102 =>
 pu P (oFldA T.impl_Answer t6_9 4) fun t50_12 =>
 st P (oLoad T.sl_string t50_12) w570 fun t51_12 w596 =>
 pu P (oBuiltin .len #[T.sl_string] T.int #[false] #[t51_12]) fun t52_12 =>
 lp [(.int .i64 0)] w596 fun s153 u153 w597 C47 =>
 pu P (oBin .lss T.int false false (gs s153 0) t52_12) fun t54_12 =>
 jn (fun s154 u154 w598 =>
 pu P (oIdxA T.sl_string t51_12 (gs s153 0)) fun t55_12 =>
 st P (oLoad T.string t55_12) w598 fun t56_12 w599 =>
 pu P (oFldA T.impl_Answer t7_12 4) fun t57_12 =>
 st P (oLoad T.sl_string t57_12) w599 fun t58_12 w600 =>
 st P (oCall Fn.spec_with #[t58_12, t56_12]) w600 fun t60_12 w601 =>
 pu P (oFldA T.impl_Answer t7_12 4) fun t61_12 =>
 st P (oStore T.sl_string t61_12 t60_12) w601 fun _ w602 =>
 pu P (oBin .add T.int false true (gs s153 0) (.int .i64 1)) fun t62_12 =>
 C47 [t62_12] w602) fun k107 =>
 cd t54_12 (
 k107 [] w597) (
 k102 [] w597)) fun k101 =>
 pu P (oFldA T.impl_Answer t5_9 4) fun t37_12 =>
 st P (oLoad T.sl_string t37_12) w569 fun t38_12 w603 =>
 pu P (oBuiltin .len #[T.sl_string] T.int #[false] #[t38_12]) fun t39_12 =>
 lp [(.int .i64 0)] w603 fun s155 u155 w604 C48 =>
 pu P (oBin .lss T.int false false (gs s155 0) t39_12) fun t41_12 =>
 jn (fun s156 u156 w605 =>
 pu P (oIdxA T.sl_string t38_12 (gs s155 0)) fun t42_12 =>
 st P (oLoad T.string t42_12) w605 fun t43_12 w606 =>
 pu P (oFldA T.impl_Answer t7_12 4) fun t44_12 =>
 st P (oLoad T.sl_string t44_12) w606 fun t45_12 w607 =>
 st P (oCall Fn.spec_with #[t45_12, t43_12]) w607 fun t47_12 w608 =>
 pu P (oFldA T.impl_Answer t7_12 4) fun t48_12 =>
 st P (oStore T.sl_string t48_12 t47_12) w608 fun _ w609 =>
 pu P (oBin .add T.int false true (gs s155 0) (.int .i64 1)) fun t49_12 =>
 C48 [t49_12] w609) fun k108 =>
 cd t41_12 (
 k108 [] w604) (
 k101 [] w604)) fun k100 =>
 pu P (oFldA T.impl_Answer t5_9 0) fun t32_12 =>
 st P (oLoad T.int t32_12) w566 fun t33_12 w610 =>
 pu P (oBin .neq T.int false true t33_12 (.int .i64 0)) fun t34_12 =>
 cd t34_12 (
 st P (oLoad T.impl_Answer t5_9) w610 fun t35_12 w611 =>
 st P (oStore T.impl_Answer t4 t35_12) w611 fun _ w612 =>
 rsl P T.impl_Answer t4 w612 fun r24 =>
 K (tup [r24]) w612) (
 k100 [] w610)))
def Tb_spec_Pair_woven : Tab := { join := fun n => match n with | _ => [], loop := fun n => match n with | 6 => [40] | 11 => [53] | 16 => [66] | 21 => [79] | _ => [] }
theorem S_spec_Pair_woven {t0 t1 : Value} {w : World} {K : Value → World → Prop} (h : F_spec_Pair_woven t0 t1 w K) : Cl P Fn.spec_Pair_woven #[t0, t1] w K :=
  cl_of_eq (T := Tb_spec_Pair_woven) (args := [t0, t1]) Tryd.func93 rfl follows_mixed (by kernel_rfl) (Nat.le_of_ble_eq_true (by kernel_rfl)) (by kernel_rfl) h

/-- pub-marram/spec.failed -/
def F_spec_failed (t0 : Value) (w : World) (K : Value → World → Prop) : Prop :=
 st P (oAlloc T.impl_Answer) w fun t2 w1 =>
 pu P (oBuild T.impl_Answer #[(0, t0)]) fun t4 =>
 st P (oStore T.impl_Answer t2 t4) w1 fun _ w2 =>
 rsl P T.impl_Answer t2 w2 fun r1 =>
 K (tup [r1]) w2
def Tb_spec_failed : Tab := { join := fun n => match n with | _ => [], loop := fun n => match n with | _ => [] }
theorem S_spec_failed {t0 : Value} {w : World} {K : Value → World → Prop} (h : F_spec_failed t0 w K) : Cl P Fn.spec_failed #[t0] w K :=
  cl_of_eq (T := Tb_spec_failed) (args := [t0]) Tryd.func94 rfl follows_mixed (by kernel_rfl) (Nat.le_of_ble_eq_true (by kernel_rfl)) (by kernel_rfl) h

end Go.Proofs.YteblpejgenehfaaDoor.X
