/- The functions' own texts over values, each held against the loaded code by the kernel. Laid by a program of this session. No condition. -/
import Derived.Test.YtdilealdddbhnaaXN
set_option linter.unusedVariables false
set_option maxRecDepth 100000
namespace Go.Proofs.Ytdilealdddbhnaa.X
open Go Go.X Go.Proofs

/-- pub-marram/laws.FnSplitFirst -/
def F_laws_FnSplitFirst (t0 : Value) (w : World) (K : Value → World → Prop) : Prop :=
 jn (fun s1 u1 w1 =>
 jn (fun s2 u2 w2 =>
 st P (oCall Fn.impl_SplitFirst #[t0]) w2 fun t23 w3 =>
 pu P (oExtract t23 0) fun t24 =>
 pu P (oExtract t23 1) fun t25 =>
 jn (fun s3 u3 w4 =>
 pu P (oSlice T.string t0 none (some (gs s2 0)) none) fun t40 =>
 pu P (oBin .eql T.string false false t24 t40) fun t41 =>
 gd t41 true w4 (fun K1 => K1 t25 w4) fun t43 w5 =>
 gd t41 true w5 (fun K2 => K2 t0 w5) fun t44 w6 =>
 gd t41 true w6 (fun K3 => K3 (gs s2 0) w6) fun t45 w7 =>
 gd t41 true w7 (fun K4 => pu P (oBin .add T.int false true t45 (.int .i64 1)) fun v => K4 v w7) fun t46 w8 =>
 gd t41 true w8 (fun K5 => pu P (oSlice T.string t44 (some t46) none none) fun v => K5 v w8) fun t47 w9 =>
 gd t41 true w9 (fun K6 => pu P (oBin .eql T.string false false t43 t47) fun v => K6 v w9) fun t48 w10 =>
 pu P (oPick t41 t48 (.bool false)) fun t49 =>
 K (tup [t49]) w10) fun k3 =>
 pu P (oBuiltin .len #[T.string] T.int #[false] #[t0]) fun t28 =>
 pu P (oBin .eql T.int false false (gs s2 0) t28) fun t29 =>
 cd t29 (
 pu P (oBin .eql T.string false false t24 t0) fun t32 =>
 gd t32 true w3 (fun K7 => K7 t25 w3) fun t34 w11 =>
 gd t32 true w11 (fun K8 => pu P (oBin .eql T.string false true t34 (S [])) fun v => K8 v w11) fun t35 w12 =>
 pu P (oPick t32 t35 (.bool false)) fun t36 =>
 K (tup [t36]) w12) (
 k3 [] w3)) fun k2 =>
 lp [(.int .i64 0)] w1 fun s4 u4 w13 C1 =>
 jn (fun s5 u5 w14 =>
 pu P (oBin .add T.int false true (gs s4 0) (.int .i64 1)) fun t20 =>
 C1 [t20] w14) fun k4 =>
 pu P (oBuiltin .len #[T.string] T.int #[false] #[t0]) fun t11 =>
 pu P (oBin .lss T.int false false (gs s4 0) t11) fun t12 =>
 gd t12 true w13 (fun K9 => K9 t0 w13) fun t14 w15 =>
 gd t12 true w15 (fun K10 => K10 (gs s4 0) w15) fun t15 w16 =>
 gd t12 true w16 (fun K11 => pu P (oIdx T.string t14 t15) fun v => K11 v w16) fun t16 w17 =>
 gd t12 true w17 (fun K12 => pu P (oBin .neq T.uint8 false true t16 (.int .u8 47)) fun v => K12 v w17) fun t17 w18 =>
 pu P (oPick t12 t17 (.bool false)) fun t18 =>
 cd t18 (
 k4 [] w18) (
 k2 [(gs s4 0)] w18)) fun k1 =>
 pu P (oBuiltin .len #[T.string] T.int #[false] #[t0]) fun t7 =>
 pu P (oBin .gtr T.int false true t7 (.int .i64 2147483647)) fun t8 =>
 cd t8 (
 K (tup [(.bool true)]) w) (
 k1 [] w)
def Tb_laws_FnSplitFirst : Tab := { join := fun n => match n with | 6 => [3] | _ => [], loop := fun n => match n with | 4 => [3] | _ => [] }
theorem S_laws_FnSplitFirst {t0 : Value} {w : World} {K : Value → World → Prop} (h : F_laws_FnSplitFirst t0 w K) : Cl P Fn.laws_FnSplitFirst #[t0] w K :=
  cl_of_eq (T := Tb_laws_FnSplitFirst) (args := [t0]) Try.func3 rfl follows_mixed (by kernel_rfl) (Nat.le_of_ble_eq_true (by kernel_rfl)) (by kernel_rfl) h

/-- pub-marram/laws.FnMetaJoined -/
def F_laws_FnMetaJoined (t0 t1 : Value) (w : World) (K : Value → World → Prop) : Prop :=
 jn (fun s1 u1 w1 =>
 jn (fun s2 u2 w2 =>
 st P (oCall Fn.impl_HasMeta #[t0]) w2 fun t31 w3 =>
 gd t31 false w3 (fun K1 => K1 t1 w3) fun t33 w4 =>
 gd t31 false w4 (fun K2 => st P (oCall Fn.impl_HasMeta #[t33]) w4 K2) fun t34 w5 =>
 pu P (oPick t31 (.bool true) t34) fun t35 =>
 pu P (oBin .add T.string false false t0 t1) fun t38 =>
 st P (oCall Fn.impl_HasMeta #[t38]) w5 fun t39 w6 =>
 pu P (oBin .eql T.bool false false t39 t35) fun t41 =>
 gd t41 true w6 (fun K3 => K3 t1 w6) fun t43 w7 =>
 gd t41 true w7 (fun K4 => K4 t0 w7) fun t44 w8 =>
 gd t41 true w8 (fun K5 => pu P (oBin .add T.string false false t43 t44) fun v => K5 v w8) fun t45 w9 =>
 gd t41 true w9 (fun K6 => st P (oCall Fn.impl_HasMeta #[t45]) w9 K6) fun t46 w10 =>
 gd t41 true w10 (fun K7 => K7 t35 w10) fun t47 w11 =>
 gd t41 true w11 (fun K8 => pu P (oBin .eql T.bool false false t46 t47) fun v => K8 v w11) fun t48 w12 =>
 pu P (oPick t41 t48 (.bool false)) fun t49 =>
 gd t49 true w12 (fun K9 => K9 t0 w12) fun t51 w13 =>
 gd t49 true w13 (fun K10 => pu P (oBin .add T.string false true t51 (S [42])) fun v => K10 v w13) fun t52 w14 =>
 gd t49 true w14 (fun K11 => K11 t1 w14) fun t53 w15 =>
 gd t49 true w15 (fun K12 => pu P (oBin .add T.string false false t52 t53) fun v => K12 v w15) fun t54 w16 =>
 gd t49 true w16 (fun K13 => st P (oCall Fn.impl_HasMeta #[t54]) w16 K13) fun t55 w17 =>
 pu P (oPick t49 t55 (.bool false)) fun t56 =>
 gd t56 true w17 (fun K14 => K14 t0 w17) fun t58 w18 =>
 gd t56 true w18 (fun K15 => pu P (oBin .add T.string true false (S [63]) t58) fun v => K15 v w18) fun t59 w19 =>
 gd t56 true w19 (fun K16 => st P (oCall Fn.impl_HasMeta #[t59]) w19 K16) fun t60 w20 =>
 pu P (oPick t56 t60 (.bool false)) fun t61 =>
 gd t61 true w20 (fun K17 => K17 t1 w20) fun t63 w21 =>
 gd t61 true w21 (fun K18 => pu P (oBin .add T.string false true t63 (S [91])) fun v => K18 v w21) fun t64 w22 =>
 gd t61 true w22 (fun K19 => st P (oCall Fn.impl_HasMeta #[t64]) w22 K19) fun t65 w23 =>
 pu P (oPick t61 t65 (.bool false)) fun t66 =>
 K (tup [t66]) w23) fun k2 =>
 pu P (oBuiltin .len #[T.string] T.int #[false] #[t0]) fun t15 =>
 pu P (oBin .gtr T.int false true t15 (.int .i64 200)) fun t16 =>
 gd t16 false w1 (fun K20 => K20 t1 w1) fun t18 w24 =>
 gd t16 false w24 (fun K21 => pu P (oBuiltin .len #[T.string] T.int #[false] #[t18]) fun v => K21 v w24) fun t19 w25 =>
 gd t16 false w25 (fun K22 => pu P (oBin .gtr T.int false true t19 (.int .i64 200)) fun v => K22 v w25) fun t20 w26 =>
 pu P (oPick t16 (.bool true) t20) fun t21 =>
 gd t21 false w26 (fun K23 => K23 t0 w26) fun t23 w27 =>
 gd t21 false w27 (fun K24 => st P (oCall Fn.laws_slashed #[t23]) w27 K24) fun t24 w28 =>
 pu P (oPick t21 (.bool true) t24) fun t25 =>
 gd t25 false w28 (fun K25 => K25 t1 w28) fun t27 w29 =>
 gd t25 false w29 (fun K26 => st P (oCall Fn.laws_slashed #[t27]) w29 K26) fun t28 w30 =>
 pu P (oPick t25 (.bool true) t28) fun t29 =>
 cd t29 (
 K (tup [(.bool true)]) w30) (
 k2 [] w30)) fun k1 =>
 pu P (oBuiltin .len #[T.string] T.int #[false] #[t0]) fun t7 =>
 pu P (oBin .gtr T.int false true t7 (.int .i64 2147483647)) fun t8 =>
 gd t8 false w (fun K27 => K27 t1 w) fun t10 w31 =>
 gd t8 false w31 (fun K28 => pu P (oBuiltin .len #[T.string] T.int #[false] #[t10]) fun v => K28 v w31) fun t11 w32 =>
 gd t8 false w32 (fun K29 => pu P (oBin .gtr T.int false true t11 (.int .i64 2147483647)) fun v => K29 v w32) fun t12 w33 =>
 pu P (oPick t8 (.bool true) t12) fun t13 =>
 cd t13 (
 K (tup [(.bool true)]) w33) (
 k1 [] w33)
def Tb_laws_FnMetaJoined : Tab := { join := fun n => match n with | _ => [], loop := fun n => match n with | _ => [] }
theorem S_laws_FnMetaJoined {t0 t1 : Value} {w : World} {K : Value → World → Prop} (h : F_laws_FnMetaJoined t0 t1 w K) : Cl P Fn.laws_FnMetaJoined #[t0, t1] w K :=
  cl_of_eq (T := Tb_laws_FnMetaJoined) (args := [t0, t1]) Try.func4 rfl follows_mixed (by kernel_rfl) (Nat.le_of_ble_eq_true (by kernel_rfl)) (by kernel_rfl) h

/-- pub-marram/laws.FnGroups -/
def F_laws_FnGroups (t0 t1 t2 : Value) (w : World) (K : Value → World → Prop) : Prop :=
 jn (fun s1 u1 w1 =>
 st P (oCall Fn.impl_GroupCount #[t0, t1, t2]) w1 fun t37 w2 =>
 pu P (oConv T.uint32 T.uint64 t37) fun t38 =>
 pu P (oConv T.uint32 T.uint64 t0) fun t40 =>
 pu P (oConv T.uint32 T.uint64 t1) fun t42 =>
 pu P (oConv T.uint32 T.uint64 t2) fun t44 =>
 st P (oCall Fn.spec_Groups #[t40, t42, t44]) w2 fun t45 w3 =>
 pu P (oBin .eql T.uint64 false false t38 t45) fun t46 =>
 K (tup [t46]) w3) fun k1 =>
 pu P (oBin .lss T.uint32 false true t0 (.int .u32 1)) fun t8 =>
 gd t8 false w (fun K1 => K1 t0 w) fun t10 w4 =>
 gd t8 false w4 (fun K2 => pu P (oBin .gtr T.uint32 false true t10 (.int .u32 2147483648)) fun v => K2 v w4) fun t11 w5 =>
 pu P (oPick t8 (.bool true) t11) fun t12 =>
 gd t12 false w5 (fun K3 => K3 t1 w5) fun t14 w6 =>
 gd t12 false w6 (fun K4 => pu P (oBin .lss T.uint32 false true t14 (.int .u32 1)) fun v => K4 v w6) fun t15 w7 =>
 pu P (oPick t12 (.bool true) t15) fun t16 =>
 gd t16 false w7 (fun K5 => K5 t1 w7) fun t18 w8 =>
 gd t16 false w8 (fun K6 => pu P (oBin .gtr T.uint32 false true t18 (.int .u32 1048576)) fun v => K6 v w8) fun t19 w9 =>
 pu P (oPick t16 (.bool true) t19) fun t20 =>
 gd t20 false w9 (fun K7 => K7 t2 w9) fun t22 w10 =>
 gd t20 false w10 (fun K8 => pu P (oBin .lss T.uint32 false true t22 (.int .u32 16)) fun v => K8 v w10) fun t23 w11 =>
 pu P (oPick t20 (.bool true) t23) fun t24 =>
 gd t24 false w11 (fun K9 => K9 t2 w11) fun t26 w12 =>
 gd t24 false w12 (fun K10 => pu P (oBin .gtr T.uint32 false true t26 (.int .u32 32768)) fun v => K10 v w12) fun t27 w13 =>
 pu P (oPick t24 (.bool true) t27) fun t28 =>
 gd t28 false w13 (fun K11 => K11 t2 w13) fun t30 w14 =>
 gd t28 false w14 (fun K12 => pu P (oBin .rem T.uint32 false true t30 (.int .u32 16)) fun v => K12 v w14) fun t31 w15 =>
 gd t28 false w15 (fun K13 => pu P (oBin .neq T.uint32 false true t31 (.int .u32 0)) fun v => K13 v w15) fun t32 w16 =>
 pu P (oPick t28 (.bool true) t32) fun t33 =>
 cd t33 (
 K (tup [(.bool true)]) w16) (
 k1 [] w16)
def Tb_laws_FnGroups : Tab := { join := fun n => match n with | _ => [], loop := fun n => match n with | _ => [] }
theorem S_laws_FnGroups {t0 t1 t2 : Value} {w : World} {K : Value → World → Prop} (h : F_laws_FnGroups t0 t1 t2 w K) : Cl P Fn.laws_FnGroups #[t0, t1, t2] w K :=
  cl_of_eq (T := Tb_laws_FnGroups) (args := [t0, t1, t2]) Try.func5 rfl follows_mixed (by kernel_rfl) (Nat.le_of_ble_eq_true (by kernel_rfl)) (by kernel_rfl) h

/-- pub-marram/laws.FnAttributeHash -/
def F_laws_FnAttributeHash (t0 t1 : Value) (w : World) (K : Value → World → Prop) : Prop :=
 jn (fun s1 u1 w1 =>
 st P (oCall Fn.laws_dup #[t1]) w1 fun t15 w2 =>
 st P (oCall Fn.impl_HashXattr #[t0, t15]) w2 fun t16 w3 =>
 st P (oCall Fn.spec_HashOf #[t0, t1]) w3 fun t19 w4 =>
 pu P (oBin .eql T.uint32 false false t16 t19) fun t20 =>
 K (tup [t20]) w4) fun k1 =>
 pu P (oBuiltin .len #[T.string] T.int #[false] #[t0]) fun t6 =>
 pu P (oBin .gtr T.int false true t6 (.int .i64 2147483647)) fun t7 =>
 gd t7 false w (fun K1 => K1 t1 w) fun t9 w5 =>
 gd t7 false w5 (fun K2 => pu P (oBuiltin .len #[T.sl_uint8] T.int #[false] #[t9]) fun v => K2 v w5) fun t10 w6 =>
 gd t7 false w6 (fun K3 => pu P (oBin .gtr T.int false true t10 (.int .i64 2147483647)) fun v => K3 v w6) fun t11 w7 =>
 pu P (oPick t7 (.bool true) t11) fun t12 =>
 cd t12 (
 K (tup [(.bool true)]) w7) (
 k1 [] w7)
def Tb_laws_FnAttributeHash : Tab := { join := fun n => match n with | _ => [], loop := fun n => match n with | _ => [] }
theorem S_laws_FnAttributeHash {t0 t1 : Value} {w : World} {K : Value → World → Prop} (h : F_laws_FnAttributeHash t0 t1 w K) : Cl P Fn.laws_FnAttributeHash #[t0, t1] w K :=
  cl_of_eq (T := Tb_laws_FnAttributeHash) (args := [t0, t1]) Try.func6 rfl follows_mixed (by kernel_rfl) (Nat.le_of_ble_eq_true (by kernel_rfl)) (by kernel_rfl) h

/-- pub-marram/laws.FnTimeBack -/
def F_laws_FnTimeBack (t0 : Value) (w : World) (K : Value → World → Prop) : Prop :=
 st P (oBox T.impl_Time t0) w fun t1 w1 =>
 jn (fun s1 u1 w2 =>
 jn (fun s2 u2 w3 =>
 rd P (oLoad T.impl_Time t1) w3.drew fun t40 =>
 rd P (oLoad T.impl_Time t1) w3.drew fun t43 =>
 st P (oCall Fn.impl_TimeToFs #[t40]) w3.drew fun t41 w4 =>
 hold P (oLoad T.impl_Time t1) t43 w4 ∧ st P (oCall Fn.impl_FsToTime #[t41]) w4 fun t42 w5 =>
 hold P (oLoad T.impl_Time t1) t43 w5 ∧ st P (oCall Fn.spec_Laid #[t43]) w5 fun t44 w6 =>
 st P (oCall Fn.spec_Back #[t44]) w6 fun t45 w7 =>
 pu P (oBin .eql T.impl_Time false false t42 t45) fun t46 =>
 gd t46 true w7 (fun K1 => rd P (oLoad T.impl_Time t1) w7 fun v => K1 v w7) fun t48 w8 =>
 gd t46 true w8 (fun K2 => pu P (oFldA T.impl_Time t1 1) fun v => K2 v w8) fun t51 w9 =>
 gd t46 true w9 (fun K3 => rd P (oLoad T.int64 t51) w9 fun v => K3 v w9) fun t52 w10 =>
 gd t46 true w10 (fun K4 => pu P (oBin .neq T.int64 false true t52 (.int .i64 0)) fun v => K4 v w10) fun t53 w11 =>
 gd t46 true w11 (fun K5 => st P (oCall Fn.impl_TimeToFs #[t48]) w11 K5) fun t49 w12 =>
 (isb t46 true = true → hold P (oLoad T.int64 t51) t52 w12) ∧ gd t46 true w12 (fun K6 => pu P (oBin .neq T.uint64 false true t49 (.int .u64 0)) fun v => K6 v w12) fun t50 w13 =>
 gd t46 true w13 (fun K7 => K7 t53 w13) fun t54 w14 =>
 gd t54 false w14 (fun K8 => pu P (oFldA T.impl_Time t1 2) fun v => K8 v w14) fun t55 w15 =>
 gd t54 false w15 (fun K9 => rd P (oLoad T.int t55) w15 fun v => K9 v w15) fun t56 w16 =>
 gd t54 false w16 (fun K10 => pu P (oBin .neq T.int false true t56 (.int .i64 0)) fun v => K10 v w16) fun t57 w17 =>
 gd t46 true w17 (fun K11 => pu P (oPick t54 (.bool true) t57) fun v => K11 v w17) fun t58 w18 =>
 gd t46 true w18 (fun K12 => pu P (oBin .eql T.bool false false t50 t58) fun v => K12 v w18) fun t59 w19 =>
 pu P (oPick t46 t59 (.bool false)) fun t60 =>
 K (tup [t60]) w19) fun k2 =>
 pu P (oFldA T.impl_Time t1 1) fun t16 =>
 st P (oLoad T.int64 t16) w2 fun t17 w20 =>
 pu P (oBin .lss T.int64 false true t17 (.int .i64 0)) fun t18 =>
 gd t18 false w20 (fun K13 => pu P (oFldA T.impl_Time t1 1) fun v => K13 v w20) fun t20 w21 =>
 gd t18 false w21 (fun K14 => st P (oLoad T.int64 t20) w21 K14) fun t21 w22 =>
 gd t18 false w22 (fun K15 => pu P (oBin .gtr T.int64 false true t21 (.int .i64 15032385535)) fun v => K15 v w22) fun t22 w23 =>
 pu P (oPick t18 (.bool true) t22) fun t23 =>
 gd t23 false w23 (fun K16 => pu P (oFldA T.impl_Time t1 1) fun v => K16 v w23) fun t25 w24 =>
 gd t23 false w24 (fun K17 => st P (oLoad T.int64 t25) w24 K17) fun t26 w25 =>
 gd t23 false w25 (fun K18 => pu P (oBin .and T.int64 false true t26 (.int .i64 2147483648)) fun v => K18 v w25) fun t27 w26 =>
 gd t23 false w26 (fun K19 => pu P (oBin .neq T.int64 false true t27 (.int .i64 0)) fun v => K19 v w26) fun t28 w27 =>
 pu P (oPick t23 (.bool true) t28) fun t29 =>
 gd t29 false w27 (fun K20 => pu P (oFldA T.impl_Time t1 2) fun v => K20 v w27) fun t31 w28 =>
 gd t29 false w28 (fun K21 => st P (oLoad T.int t31) w28 K21) fun t32 w29 =>
 gd t29 false w29 (fun K22 => pu P (oBin .lss T.int false true t32 (.int .i64 0)) fun v => K22 v w29) fun t33 w30 =>
 pu P (oPick t29 (.bool true) t33) fun t34 =>
 gd t34 false w30 (fun K23 => pu P (oFldA T.impl_Time t1 2) fun v => K23 v w30) fun t36 w31 =>
 gd t34 false w31 (fun K24 => st P (oLoad T.int t36) w31 K24) fun t37 w32 =>
 gd t34 false w32 (fun K25 => pu P (oBin .geq T.int false true t37 (.int .i64 1000000000)) fun v => K25 v w32) fun t38 w33 =>
 pu P (oPick t34 (.bool true) t38) fun t39 =>
 cd t39 (
 K (tup [(.bool true)]) w33) (
 k2 [] w33)) fun k1 =>
 pu P (oFldA T.impl_Time t1 0) fun t3 =>
 st P (oLoad T.bool t3) w1 fun t4 w34 =>
 pu P (oUn .not t4) fun t5 =>
 cd t5 (
 st P (oLoad T.impl_Time t1) w34 fun t6 w35 =>
 st P (oCall Fn.impl_TimeToFs #[t6]) w35 fun t7 w36 =>
 st P (oCall Fn.impl_FsToTime #[t7]) w36 fun t8 w37 =>
 pu P (oBuild T.impl_Time #[]) fun t9 =>
 pu P (oBin .eql T.impl_Time false false t8 t9) fun t10 =>
 gd t10 true w37 (fun K26 => pu P (oBuild T.impl_Time #[(0, (.bool true)), (1, (.int .i64 1))]) fun v => K26 v w37) fun t12 w38 =>
 gd t10 true w38 (fun K27 => st P (oCall Fn.impl_TimeToFs #[t12]) w38 K27) fun t13 w39 =>
 gd t10 true w39 (fun K28 => pu P (oBin .eql T.uint64 false true t13 (.int .u64 1)) fun v => K28 v w39) fun t14 w40 =>
 pu P (oPick t10 t14 (.bool false)) fun t15 =>
 K (tup [t15]) w40) (
 k1 [] w34)
def Tb_laws_FnTimeBack : Tab := { join := fun n => match n with | _ => [], loop := fun n => match n with | _ => [] }
theorem S_laws_FnTimeBack {t0 : Value} {w : World} {K : Value → World → Prop} (h : F_laws_FnTimeBack t0 w K) : Cl P Fn.laws_FnTimeBack #[t0] w K :=
  cl_of_eq (T := Tb_laws_FnTimeBack) (args := [t0]) Try.func7 rfl follows_mixed (by kernel_rfl) (Nat.le_of_ble_eq_true (by kernel_rfl)) (by kernel_rfl) h

/-- pub-marram/laws.FnExtents -/
def F_laws_FnExtents (t0 t1 t2 t3 : Value) (w : World) (K : Value → World → Prop) : Prop :=
 jn (fun s1 u1 w1 =>
 st P (oCall Fn.impl_FillExtents #[t0, t1, t2, t3]) w1 fun t31 w2 =>
 st P (oCall Fn.spec_Extents #[t1, t2, t3]) w2 fun t35 w3 =>
 jn (fun s2 u2 w4 =>
 jn (fun s3 u3 w5 =>
 jn (fun s4 u4 w6 =>
 pu P (oBin .gtr T.int false true t0 (.int .i64 0)) fun t72 =>
 gd t72 false w6 (fun K1 => st P (oCall Fn.impl_FillExtents #[(.int .i64 1), (.int .u32 0), (.int .u32 0), (.int .u32 1)]) w6 K1) fun t74 w7 =>
 gd t72 false w7 (fun K2 => pu P (oBuiltin .len #[T.sl_impl_Extent] T.int #[false] #[t74]) fun v => K2 v w7) fun t75 w8 =>
 gd t72 false w8 (fun K3 => pu P (oBin .eql T.int false true t75 (.int .i64 1)) fun v => K3 v w8) fun t76 w9 =>
 pu P (oPick t72 (.bool true) t76) fun t77 =>
 K (tup [t77]) w9) fun k4 =>
 pu P (oBuiltin .len #[T.sl_impl_Extent] T.int #[false] #[t31]) fun t57 =>
 lp [(.int .i64 0)] w5 fun s5 u5 w10 C1 =>
 pu P (oBin .lss T.int false false (gs s5 0) t57) fun t59 =>
 jn (fun s6 u6 w11 =>
 jn (fun s7 u7 w12 =>
 pu P (oBin .add T.int false true (gs s5 0) (.int .i64 1)) fun t70 =>
 C1 [t70] w12) fun k6 =>
 pu P (oIdxA T.sl_impl_Extent t31 (gs s5 0)) fun t63 =>
 rd P (oLoad T.impl_Extent t63) w11.drew fun t64 =>
 pu P (oIdxA T.sl_impl_Extent t35 (gs s5 0)) fun t67 =>
 rd P (oLoad T.impl_Extent t67) w11.drew fun t68 =>
 pu P (oBin .neq T.impl_Extent false false t64 t68) fun t69 =>
 cd t69 (
 K (tup [(.bool false)]) w11.drew) (
 k6 [] w11.drew)) fun k5 =>
 cd t59 (
 k5 [] w10) (
 k4 [] w10)) fun k3 =>
 pu P (oBuiltin .len #[T.sl_impl_Extent] T.int #[false] #[t31]) fun t53 =>
 pu P (oBin .neq T.int false false t53 t0) fun t55 =>
 cd t55 (
 K (tup [(.bool false)]) w4) (
 k3 [] w4)) fun k2 =>
 pu P (oBuiltin .len #[T.sl_impl_Extent] T.int #[false] #[t35]) fun t38 =>
 pu P (oBin .neq T.int false false t0 t38) fun t39 =>
 gd t39 false w3 (fun K4 => K4 t0 w3) fun t41 w13 =>
 gd t39 false w13 (fun K5 => pu P (oBin .gtr T.int false true t41 (.int .i64 340)) fun v => K5 v w13) fun t42 w14 =>
 pu P (oPick t39 (.bool true) t42) fun t43 =>
 cd t43 (
 pu P (oBuiltin .len #[T.sl_impl_Extent] T.int #[false] #[t31]) fun t45 =>
 pu P (oBin .eql T.int false true t45 (.int .i64 0)) fun t46 =>
 gd t46 true w14 (fun K6 => st P (oCall Fn.impl_FillExtents #[(.int .i64 1), (.int .u32 0), (.int .u32 0), (.int .u32 1)]) w14 K6) fun t48 w15 =>
 gd t46 true w15 (fun K7 => pu P (oBuiltin .len #[T.sl_impl_Extent] T.int #[false] #[t48]) fun v => K7 v w15) fun t49 w16 =>
 gd t46 true w16 (fun K8 => pu P (oBin .eql T.int false true t49 (.int .i64 1)) fun v => K8 v w16) fun t50 w17 =>
 pu P (oPick t46 t50 (.bool false)) fun t51 =>
 K (tup [t51]) w17) (
 k2 [] w14)) fun k1 =>
 pu P (oBin .gtr T.uint32 false false t2 t3) fun t14 =>
 gd t14 false w (fun K9 => K9 t1 w) fun t16 w18 =>
 gd t14 false w18 (fun K10 => pu P (oConv T.uint32 T.uint64 t16) fun v => K10 v w18) fun t17 w19 =>
 gd t14 false w19 (fun K11 => K11 t3 w19) fun t18 w20 =>
 gd t14 false w20 (fun K12 => pu P (oConv T.uint32 T.uint64 t18) fun v => K12 v w20) fun t19 w21 =>
 gd t14 false w21 (fun K13 => pu P (oBin .add T.uint64 false false t17 t19) fun v => K13 v w21) fun t20 w22 =>
 gd t14 false w22 (fun K14 => pu P (oBin .gtr T.uint64 false true t20 (.int .u64 4294967295)) fun v => K14 v w22) fun t21 w23 =>
 pu P (oPick t14 (.bool true) t21) fun t22 =>
 gd t22 false w23 (fun K15 => K15 t3 w23) fun t24 w24 =>
 gd t22 false w24 (fun K16 => pu P (oBin .gtr T.uint32 false true t24 (.int .u32 2147483648)) fun v => K16 v w24) fun t25 w25 =>
 pu P (oPick t22 (.bool true) t25) fun t26 =>
 cd t26 (
 K (tup [(.bool true)]) w25) (
 k1 [] w25)
def Tb_laws_FnExtents : Tab := { join := fun n => match n with | _ => [], loop := fun n => match n with | 9 => [58] | _ => [] }
theorem S_laws_FnExtents {t0 t1 t2 t3 : Value} {w : World} {K : Value → World → Prop} (h : F_laws_FnExtents t0 t1 t2 t3 w K) : Cl P Fn.laws_FnExtents #[t0, t1, t2, t3] w K :=
  cl_of_eq (T := Tb_laws_FnExtents) (args := [t0, t1, t2, t3]) Try.func8 rfl follows_mixed (by kernel_rfl) (Nat.le_of_ble_eq_true (by kernel_rfl)) (by kernel_rfl) h

/-- pub-marram/laws.FnGroupsGrow -/
def F_laws_FnGroupsGrow (t0 t1 t2 t3 t4 : Value) (w : World) (K : Value → World → Prop) : Prop :=
 jn (fun s1 u1 w1 =>
 st P (oCall Fn.impl_GroupCount #[t0, t1, t4]) w1 fun t55 w2 =>
 pu P (oBin .add T.uint32 false false t0 t2) fun t58 =>
 pu P (oBin .add T.uint32 false false t1 t3) fun t61 =>
 st P (oCall Fn.impl_GroupCount #[t58, t61, t4]) w2 fun t63 w3 =>
 st P (oCall Fn.impl_BestGroupCount #[t0, t1]) w3 fun t67 w4 =>
 pu P (oExtract t67 0) fun t68 =>
 pu P (oExtract t67 1) fun t69 =>
 pu P (oBin .add T.uint32 false false t0 t2) fun t73 =>
 pu P (oBin .add T.uint32 false false t1 t3) fun t76 =>
 st P (oCall Fn.impl_BestGroupCount #[t73, t76]) w4 fun t77 w5 =>
 pu P (oExtract t77 0) fun t78 =>
 pu P (oExtract t77 1) fun t79 =>
 pu P (oBin .geq T.uint32 false true t55 (.int .u32 1)) fun t81 =>
 gd t81 true w5 (fun K1 => K1 t63 w5) fun t83 w6 =>
 gd t81 true w6 (fun K2 => K2 t55 w6) fun t84 w7 =>
 gd t81 true w7 (fun K3 => pu P (oBin .geq T.uint32 false false t83 t84) fun v => K3 v w7) fun t85 w8 =>
 pu P (oPick t81 t85 (.bool false)) fun t86 =>
 gd t86 true w8 (fun K4 => K4 t68 w8) fun t88 w9 =>
 gd t86 true w9 (fun K5 => pu P (oBin .geq T.uint32 false true t88 (.int .u32 1)) fun v => K5 v w9) fun t89 w10 =>
 pu P (oPick t86 t89 (.bool false)) fun t90 =>
 gd t90 true w10 (fun K6 => K6 t78 w10) fun t92 w11 =>
 gd t90 true w11 (fun K7 => K7 t68 w11) fun t93 w12 =>
 gd t90 true w12 (fun K8 => pu P (oBin .geq T.uint32 false false t92 t93) fun v => K8 v w12) fun t94 w13 =>
 pu P (oPick t90 t94 (.bool false)) fun t95 =>
 gd t95 true w13 (fun K9 => K9 t68 w13) fun t97 w14 =>
 gd t95 true w14 (fun K10 => K10 t55 w14) fun t98 w15 =>
 gd t95 true w15 (fun K11 => pu P (oBin .leq T.uint32 false false t97 t98) fun v => K11 v w15) fun t99 w16 =>
 pu P (oPick t95 t99 (.bool false)) fun t100 =>
 gd t100 true w16 (fun K12 => K12 t78 w16) fun t102 w17 =>
 gd t100 true w17 (fun K13 => K13 t63 w17) fun t103 w18 =>
 gd t100 true w18 (fun K14 => pu P (oBin .leq T.uint32 false false t102 t103) fun v => K14 v w18) fun t104 w19 =>
 pu P (oPick t100 t104 (.bool false)) fun t105 =>
 K (tup [t105]) w19) fun k1 =>
 pu P (oBin .lss T.uint32 false true t0 (.int .u32 1)) fun t18 =>
 gd t18 false w (fun K15 => K15 t0 w) fun t20 w20 =>
 gd t18 false w20 (fun K16 => pu P (oConv T.uint32 T.uint64 t20) fun v => K16 v w20) fun t21 w21 =>
 gd t18 false w21 (fun K17 => K17 t2 w21) fun t22 w22 =>
 gd t18 false w22 (fun K18 => pu P (oConv T.uint32 T.uint64 t22) fun v => K18 v w22) fun t23 w23 =>
 gd t18 false w23 (fun K19 => pu P (oBin .add T.uint64 false false t21 t23) fun v => K19 v w23) fun t24 w24 =>
 gd t18 false w24 (fun K20 => pu P (oBin .gtr T.uint64 false true t24 (.int .u64 2147483648)) fun v => K20 v w24) fun t25 w25 =>
 pu P (oPick t18 (.bool true) t25) fun t26 =>
 gd t26 false w25 (fun K21 => K21 t1 w25) fun t28 w26 =>
 gd t26 false w26 (fun K22 => pu P (oBin .lss T.uint32 false true t28 (.int .u32 1)) fun v => K22 v w26) fun t29 w27 =>
 pu P (oPick t26 (.bool true) t29) fun t30 =>
 gd t30 false w27 (fun K23 => K23 t1 w27) fun t32 w28 =>
 gd t30 false w28 (fun K24 => pu P (oConv T.uint32 T.uint64 t32) fun v => K24 v w28) fun t33 w29 =>
 gd t30 false w29 (fun K25 => K25 t3 w29) fun t34 w30 =>
 gd t30 false w30 (fun K26 => pu P (oConv T.uint32 T.uint64 t34) fun v => K26 v w30) fun t35 w31 =>
 gd t30 false w31 (fun K27 => pu P (oBin .add T.uint64 false false t33 t35) fun v => K27 v w31) fun t36 w32 =>
 gd t30 false w32 (fun K28 => pu P (oBin .gtr T.uint64 false true t36 (.int .u64 1048576)) fun v => K28 v w32) fun t37 w33 =>
 pu P (oPick t30 (.bool true) t37) fun t38 =>
 gd t38 false w33 (fun K29 => K29 t4 w33) fun t40 w34 =>
 gd t38 false w34 (fun K30 => pu P (oBin .lss T.uint32 false true t40 (.int .u32 16)) fun v => K30 v w34) fun t41 w35 =>
 pu P (oPick t38 (.bool true) t41) fun t42 =>
 gd t42 false w35 (fun K31 => K31 t4 w35) fun t44 w36 =>
 gd t42 false w36 (fun K32 => pu P (oBin .gtr T.uint32 false true t44 (.int .u32 32768)) fun v => K32 v w36) fun t45 w37 =>
 pu P (oPick t42 (.bool true) t45) fun t46 =>
 gd t46 false w37 (fun K33 => K33 t4 w37) fun t48 w38 =>
 gd t46 false w38 (fun K34 => pu P (oBin .rem T.uint32 false true t48 (.int .u32 16)) fun v => K34 v w38) fun t49 w39 =>
 gd t46 false w39 (fun K35 => pu P (oBin .neq T.uint32 false true t49 (.int .u32 0)) fun v => K35 v w39) fun t50 w40 =>
 pu P (oPick t46 (.bool true) t50) fun t51 =>
 cd t51 (
 K (tup [(.bool true)]) w40) (
 k1 [] w40)
def Tb_laws_FnGroupsGrow : Tab := { join := fun n => match n with | _ => [], loop := fun n => match n with | _ => [] }
theorem S_laws_FnGroupsGrow {t0 t1 t2 t3 t4 : Value} {w : World} {K : Value → World → Prop} (h : F_laws_FnGroupsGrow t0 t1 t2 t3 t4 w K) : Cl P Fn.laws_FnGroupsGrow #[t0, t1, t2, t3, t4] w K :=
  cl_of_eq (T := Tb_laws_FnGroupsGrow) (args := [t0, t1, t2, t3, t4]) Try.func9 rfl follows_mixed (by kernel_rfl) (Nat.le_of_ble_eq_true (by kernel_rfl)) (by kernel_rfl) h

/-- pub-marram/laws.FnMergeNothing -/
def F_laws_FnMergeNothing (t0 : Value) (w : World) (K : Value → World → Prop) : Prop :=
 jn (fun s1 u1 w1 =>
 jn (fun s2 u2 w2 =>
 st P (oCall Fn.impl_MergeDirs #[t0, (.slice none 0 0)]) w2 fun t28 w3 =>
 st P (oCall Fn.impl_MergeDirs #[(.slice none 0 0), t0]) w3 fun t30 w4 =>
 st P (oCall Fn.impl_MergeDirs #[t0, t0]) w4 fun t33 w5 =>
 jn (fun s3 u3 w6 =>
 pu P (oBuiltin .len #[T.sl_impl_Info] T.int #[false] #[t28]) fun t56 =>
 pu P (oBuiltin .len #[T.sl_impl_Entry] T.int #[false] #[t0]) fun t58 =>
 pu P (oBin .eql T.int false false t56 t58) fun t59 =>
 gd t59 true w6 (fun K1 => K1 t28 w6) fun t61 w7 =>
 gd t59 true w7 (fun K2 => K2 t30 w7) fun t62 w8 =>
 gd t59 true w8 (fun K3 => st P (oCall Fn.laws_sameInfos #[t61, t62]) w8 K3) fun t63 w9 =>
 pu P (oPick t59 t63 (.bool false)) fun t64 =>
 gd t64 true w9 (fun K4 => K4 t28 w9) fun t66 w10 =>
 gd t64 true w10 (fun K5 => K5 t33 w10) fun t67 w11 =>
 gd t64 true w11 (fun K6 => st P (oCall Fn.laws_sameInfos #[t66, t67]) w11 K6) fun t68 w12 =>
 pu P (oPick t64 t68 (.bool false)) fun t69 =>
 K (tup [t69]) w12) fun k3 =>
 pu P (oBuiltin .len #[T.sl_impl_Info] T.int #[false] #[t28]) fun t35 =>
 lp [(.int .i64 0)] w5 fun s4 u4 w13 C1 =>
 pu P (oBin .lss T.int false false (gs s4 0) t35) fun t37 =>
 jn (fun s5 u5 w14 =>
 jn (fun s6 u6 w15 =>
 pu P (oBin .add T.int false true (gs s4 0) (.int .i64 1)) fun t54 =>
 C1 [t54] w15) fun k5 =>
 pu P (oIdxA T.sl_impl_Info t28 (gs s4 0)) fun t39 =>
 st P (oLoad T.impl_Info t39) w14 fun t40 w16 =>
 st P (oAlloc T.impl_Info) w16 fun t7 w17 =>
 st P (oStore T.impl_Info t7 t40) w17 fun _ w18 =>
 pu P (oBin .gtr T.int false true (gs s4 0) (.int .i64 0)) fun t42 =>
 gd t42 true w18.drew (fun K7 => K7 t28 w18.drew) fun t44 w19 =>
 gd t42 true w19 (fun K8 => K8 (gs s4 0) w19) fun t45 w20 =>
 gd t42 true w20 (fun K9 => pu P (oBin .sub T.int false true t45 (.int .i64 1)) fun v => K9 v w20) fun t46 w21 =>
 gd t42 true w21 (fun K10 => pu P (oIdxA T.sl_impl_Info t44 t46) fun v => K10 v w21) fun t47 w22 =>
 gd t42 true w22 (fun K11 => pu P (oFldA T.impl_Info t47 0) fun v => K11 v w22) fun t48 w23 =>
 gd t42 true w23 (fun K12 => rd P (oLoad T.string t48) w23 fun v => K12 v w23) fun t49 w24 =>
 gd t42 true w24 (fun K13 => pu P (oFldA T.impl_Info t7 0) fun v => K13 v w24) fun t50 w25 =>
 gd t42 true w25 (fun K14 => rd P (oLoad T.string t50) w25 fun v => K14 v w25) fun t51 w26 =>
 gd t42 true w26 (fun K15 => pu P (oBin .geq T.string false false t49 t51) fun v => K15 v w26) fun t52 w27 =>
 pu P (oPick t42 t52 (.bool false)) fun t53 =>
 cd t53 (
 K (tup [(.bool false)]) w27) (
 k5 [] w27)) fun k4 =>
 cd t37 (
 k4 [] w13) (
 k3 [] w13)) fun k2 =>
 st P (oCall Fn.laws_listed #[t0]) w1 fun t12 w28 =>
 pu P (oUn .not t12) fun t13 =>
 gd t13 false w28 (fun K16 => K16 t0 w28) fun t15 w29 =>
 gd t13 false w29 (fun K17 => st P (oCall Fn.laws_lastNames #[t15]) w29 K17) fun t16 w30 =>
 gd t13 false w30 (fun K18 => pu P (oBuiltin .len #[T.sl_string] T.int #[false] #[t16]) fun v => K18 v w30) fun t17 w31 =>
 gd t13 false w31 (fun K19 => K19 t0 w31) fun t18 w32 =>
 gd t13 false w32 (fun K20 => pu P (oBuiltin .len #[T.sl_impl_Entry] T.int #[false] #[t18]) fun v => K20 v w32) fun t19 w33 =>
 gd t13 false w33 (fun K21 => pu P (oBin .neq T.int false false t17 t19) fun v => K21 v w33) fun t20 w34 =>
 pu P (oPick t13 (.bool true) t20) fun t21 =>
 gd t21 false w34 (fun K22 => K22 t0 w34) fun t23 w35 =>
 gd t21 false w35 (fun K23 => pu P (oBuiltin .len #[T.sl_impl_Entry] T.int #[false] #[t23]) fun v => K23 v w35) fun t24 w36 =>
 gd t21 false w36 (fun K24 => pu P (oBin .eql T.int false true t24 (.int .i64 0)) fun v => K24 v w36) fun t25 w37 =>
 pu P (oPick t21 (.bool true) t25) fun t26 =>
 cd t26 (
 K (tup [(.bool true)]) w37) (
 k2 [] w37)) fun k1 =>
 st P (oCall Fn.laws_zzFits15 #[t0]) w fun t9 w38 =>
 pu P (oUn .not t9) fun t10 =>
 cd t10 (
 K (tup [(.bool true)]) w38) (
 k1 [] w38)
def Tb_laws_FnMergeNothing : Tab := { join := fun n => match n with | _ => [], loop := fun n => match n with | 7 => [36] | _ => [] }
theorem S_laws_FnMergeNothing {t0 : Value} {w : World} {K : Value → World → Prop} (h : F_laws_FnMergeNothing t0 w K) : Cl P Fn.laws_FnMergeNothing #[t0] w K :=
  cl_of_eq (T := Tb_laws_FnMergeNothing) (args := [t0]) Try.func10 rfl follows_mixed (by kernel_rfl) (Nat.le_of_ble_eq_true (by kernel_rfl)) (by kernel_rfl) h

/-- pub-marram/laws.FnNormalize -/
def F_laws_FnNormalize (t0 : Value) (w : World) (K : Value → World → Prop) : Prop :=
 jn (fun s1 u1 w1 =>
 jn (fun s2 u2 w2 =>
 st P (oCall Fn.impl_Normalize #[t0]) w2 fun t11 w3 =>
 st P (oCall Fn.spec_MemName #[t0]) w3 fun t14 w4 =>
 pu P (oBin .eql T.string false false t11 t14) fun t15 =>
 gd t15 true w4 (fun K1 => K1 t11 w4) fun t17 w5 =>
 gd t15 true w5 (fun K2 => st P (oCall Fn.impl_Normalize #[t17]) w5 K2) fun t18 w6 =>
 gd t15 true w6 (fun K3 => K3 t11 w6) fun t19 w7 =>
 gd t15 true w7 (fun K4 => pu P (oBin .eql T.string false false t18 t19) fun v => K4 v w7) fun t20 w8 =>
 pu P (oPick t15 t20 (.bool false)) fun t21 =>
 K (tup [t21]) w8) fun k2 =>
 pu P (oBuiltin .len #[T.string] T.int #[false] #[t0]) fun t8 =>
 pu P (oBin .gtr T.int false true t8 (.int .i64 400)) fun t9 =>
 cd t9 (
 K (tup [(.bool true)]) w1) (
 k2 [] w1)) fun k1 =>
 pu P (oBuiltin .len #[T.string] T.int #[false] #[t0]) fun t5 =>
 pu P (oBin .gtr T.int false true t5 (.int .i64 2147483647)) fun t6 =>
 cd t6 (
 K (tup [(.bool true)]) w) (
 k1 [] w)
def Tb_laws_FnNormalize : Tab := { join := fun n => match n with | _ => [], loop := fun n => match n with | _ => [] }
theorem S_laws_FnNormalize {t0 : Value} {w : World} {K : Value → World → Prop} (h : F_laws_FnNormalize t0 w K) : Cl P Fn.laws_FnNormalize #[t0] w K :=
  cl_of_eq (T := Tb_laws_FnNormalize) (args := [t0]) Try.func11 rfl follows_mixed (by kernel_rfl) (Nat.le_of_ble_eq_true (by kernel_rfl)) (by kernel_rfl) h

/-- pub-marram/impl.SplitFirst -/
def F_impl_SplitFirst (t0 : Value) (w : World) (K : Value → World → Prop) : Prop :=
 st P (oCall Fn.compactext4_DoorSplit #[t0]) w fun t5 w1 =>
 pu P (oExtract t5 0) fun t6 =>
 pu P (oExtract t5 1) fun t7 =>
 K (tup [t6, t7]) w1
def Tb_impl_SplitFirst : Tab := { join := fun n => match n with | _ => [], loop := fun n => match n with | _ => [] }
theorem S_impl_SplitFirst {t0 : Value} {w : World} {K : Value → World → Prop} (h : F_impl_SplitFirst t0 w K) : Cl P Fn.impl_SplitFirst #[t0] w K :=
  cl_of_eq (T := Tb_impl_SplitFirst) (args := [t0]) Try.func12 rfl follows_mixed (by kernel_rfl) (Nat.le_of_ble_eq_true (by kernel_rfl)) (by kernel_rfl) h

/-- pub-marram/laws.slashed -/
def F_laws_slashed (t0 : Value) (w : World) (K : Value → World → Prop) : Prop :=
 st P (oConv T.string T.sl_uint8 t0) w fun t4 w1 =>
 st P (oBuildSlice T.sl_uint8 1 #[(0, (.int .u8 92))]) w1 fun t5 w2 =>
 st P (oCall Fn.spec_Holds #[t4, t5]) w2 fun t6 w3 =>
 K (tup [t6]) w3
def Tb_laws_slashed : Tab := { join := fun n => match n with | _ => [], loop := fun n => match n with | _ => [] }
theorem S_laws_slashed {t0 : Value} {w : World} {K : Value → World → Prop} (h : F_laws_slashed t0 w K) : Cl P Fn.laws_slashed #[t0] w K :=
  cl_of_eq (T := Tb_laws_slashed) (args := [t0]) Try.func13 rfl follows_mixed (by kernel_rfl) (Nat.le_of_ble_eq_true (by kernel_rfl)) (by kernel_rfl) h

/-- pub-marram/impl.HasMeta -/
def F_impl_HasMeta (t0 : Value) (w : World) (K : Value → World → Prop) : Prop :=
 st P (oCall Fn.afero_DoorHasMeta #[t0]) w fun t4 w1 =>
 K (tup [t4]) w1
def Tb_impl_HasMeta : Tab := { join := fun n => match n with | _ => [], loop := fun n => match n with | _ => [] }
theorem S_impl_HasMeta {t0 : Value} {w : World} {K : Value → World → Prop} (h : F_impl_HasMeta t0 w K) : Cl P Fn.impl_HasMeta #[t0] w K :=
  cl_of_eq (T := Tb_impl_HasMeta) (args := [t0]) Try.func14 rfl follows_mixed (by kernel_rfl) (Nat.le_of_ble_eq_true (by kernel_rfl)) (by kernel_rfl) h

/-- pub-marram/impl.GroupCount -/
def F_impl_GroupCount (t0 t1 t2 : Value) (w : World) (K : Value → World → Prop) : Prop :=
 jn (fun s1 u1 w1 =>
 st P (oCall Fn.compactext4_DoorGroups #[t0, t1, t2]) w1 fun t37 w2 =>
 K (tup [t37]) w2) fun k1 =>
 pu P (oBin .lss T.uint32 false true t0 (.int .u32 1)) fun t8 =>
 gd t8 false w (fun K1 => K1 t0 w) fun t10 w3 =>
 gd t8 false w3 (fun K2 => pu P (oBin .gtr T.uint32 false true t10 (.int .u32 2147483648)) fun v => K2 v w3) fun t11 w4 =>
 pu P (oPick t8 (.bool true) t11) fun t12 =>
 gd t12 false w4 (fun K3 => K3 t1 w4) fun t14 w5 =>
 gd t12 false w5 (fun K4 => pu P (oBin .lss T.uint32 false true t14 (.int .u32 1)) fun v => K4 v w5) fun t15 w6 =>
 pu P (oPick t12 (.bool true) t15) fun t16 =>
 gd t16 false w6 (fun K5 => K5 t1 w6) fun t18 w7 =>
 gd t16 false w7 (fun K6 => pu P (oBin .gtr T.uint32 false true t18 (.int .u32 16777216)) fun v => K6 v w7) fun t19 w8 =>
 pu P (oPick t16 (.bool true) t19) fun t20 =>
 gd t20 false w8 (fun K7 => K7 t2 w8) fun t22 w9 =>
 gd t20 false w9 (fun K8 => pu P (oBin .lss T.uint32 false true t22 (.int .u32 16)) fun v => K8 v w9) fun t23 w10 =>
 pu P (oPick t20 (.bool true) t23) fun t24 =>
 gd t24 false w10 (fun K9 => K9 t2 w10) fun t26 w11 =>
 gd t24 false w11 (fun K10 => pu P (oBin .gtr T.uint32 false true t26 (.int .u32 32768)) fun v => K10 v w11) fun t27 w12 =>
 pu P (oPick t24 (.bool true) t27) fun t28 =>
 gd t28 false w12 (fun K11 => K11 t2 w12) fun t30 w13 =>
 gd t28 false w13 (fun K12 => pu P (oBin .rem T.uint32 false true t30 (.int .u32 16)) fun v => K12 v w13) fun t31 w14 =>
 gd t28 false w14 (fun K13 => pu P (oBin .neq T.uint32 false true t31 (.int .u32 0)) fun v => K13 v w14) fun t32 w15 =>
 pu P (oPick t28 (.bool true) t32) fun t33 =>
 cd t33 (
 K (tup [(.int .u32 0)]) w15) (
 k1 [] w15)
def Tb_impl_GroupCount : Tab := { join := fun n => match n with | _ => [], loop := fun n => match n with | _ => [] }
theorem S_impl_GroupCount {t0 t1 t2 : Value} {w : World} {K : Value → World → Prop} (h : F_impl_GroupCount t0 t1 t2 w K) : Cl P Fn.impl_GroupCount #[t0, t1, t2] w K :=
  cl_of_eq (T := Tb_impl_GroupCount) (args := [t0, t1, t2]) Try.func15 rfl follows_mixed (by kernel_rfl) (Nat.le_of_ble_eq_true (by kernel_rfl)) (by kernel_rfl) h

/-- pub-marram/spec.Groups -/
def F_spec_Groups (t0 t1 t2 : Value) (w : World) (K : Value → World → Prop) : Prop :=
 pu P (oBin .quo T.uint64 false true t2 (.int .u64 16)) fun t9 =>
 pu P (oBin .sub T.uint64 true false (.int .u64 32768) t9) fun t10 =>
 pu P (oBin .sub T.uint64 false true t10 (.int .u64 2)) fun t11 =>
 pu P (oBin .sub T.uint64 false true t1 (.int .u64 1)) fun t14 =>
 pu P (oBin .quo T.uint64 false false t14 t2) fun t16 =>
 pu P (oBin .mul T.uint64 false false t16 t11) fun t18 =>
 pu P (oBin .add T.uint64 false true t18 (.int .u64 1)) fun t19 =>
 pu P (oBuiltin .max #[T.uint64, T.uint64] T.uint64 #[false, false] #[t0, t19]) fun t20 =>
 pu P (oBin .add T.uint64 false false t20 t11) fun t23 =>
 pu P (oBin .sub T.uint64 false true t23 (.int .u64 1)) fun t24 =>
 pu P (oBin .quo T.uint64 false false t24 t11) fun t26 =>
 K (tup [t26]) w
def Tb_spec_Groups : Tab := { join := fun n => match n with | _ => [], loop := fun n => match n with | _ => [] }
theorem S_spec_Groups {t0 t1 t2 : Value} {w : World} {K : Value → World → Prop} (h : F_spec_Groups t0 t1 t2 w K) : Cl P Fn.spec_Groups #[t0, t1, t2] w K :=
  cl_of_eq (T := Tb_spec_Groups) (args := [t0, t1, t2]) Try.func16 rfl follows_mixed (by kernel_rfl) (Nat.le_of_ble_eq_true (by kernel_rfl)) (by kernel_rfl) h

/-- pub-marram/impl.HashXattr -/
def F_impl_HashXattr (t0 t1 : Value) (w : World) (K : Value → World → Prop) : Prop :=
 st P (oBuiltin .append #[T.sl_uint8, T.sl_uint8] T.sl_uint8 #[true, false] #[(.slice none 0 0), t1]) w fun t7 w1 =>
 st P (oCall Fn.compactext4_DoorHash #[t0, t7]) w1 fun t8 w2 =>
 K (tup [t8]) w2
def Tb_impl_HashXattr : Tab := { join := fun n => match n with | _ => [], loop := fun n => match n with | _ => [] }
theorem S_impl_HashXattr {t0 t1 : Value} {w : World} {K : Value → World → Prop} (h : F_impl_HashXattr t0 t1 w K) : Cl P Fn.impl_HashXattr #[t0, t1] w K :=
  cl_of_eq (T := Tb_impl_HashXattr) (args := [t0, t1]) Try.func17 rfl follows_mixed (by kernel_rfl) (Nat.le_of_ble_eq_true (by kernel_rfl)) (by kernel_rfl) h

/-- pub-marram/laws.dup -/
def F_laws_dup (t0 : Value) (w : World) (K : Value → World → Prop) : Prop :=
 st P (oBuildSlice T.sl_uint8 0 #[]) w fun t3 w1 =>
 st P (oBuiltin .append #[T.sl_uint8, T.sl_uint8] T.sl_uint8 #[false, false] #[t3, t0]) w1 fun t5 w2 =>
 K (tup [t5]) w2
def Tb_laws_dup : Tab := { join := fun n => match n with | _ => [], loop := fun n => match n with | _ => [] }
theorem S_laws_dup {t0 : Value} {w : World} {K : Value → World → Prop} (h : F_laws_dup t0 w K) : Cl P Fn.laws_dup #[t0] w K :=
  cl_of_eq (T := Tb_laws_dup) (args := [t0]) Try.func18 rfl follows_mixed (by kernel_rfl) (Nat.le_of_ble_eq_true (by kernel_rfl)) (by kernel_rfl) h

/-- pub-marram/spec.HashOf -/
def F_spec_HashOf (t0 t1 : Value) (w : World) (K : Value → World → Prop) : Prop :=
 st P (oConv T.string T.sl_uint8 t0) w fun t6 w1 =>
 st P (oCall Fn.spec_attributeHash #[t6, t1]) w1 fun t8 w2 =>
 K (tup [t8]) w2
def Tb_spec_HashOf : Tab := { join := fun n => match n with | _ => [], loop := fun n => match n with | _ => [] }
theorem S_spec_HashOf {t0 t1 : Value} {w : World} {K : Value → World → Prop} (h : F_spec_HashOf t0 t1 w K) : Cl P Fn.spec_HashOf #[t0, t1] w K :=
  cl_of_eq (T := Tb_spec_HashOf) (args := [t0, t1]) Try.func19 rfl follows_mixed (by kernel_rfl) (Nat.le_of_ble_eq_true (by kernel_rfl)) (by kernel_rfl) h

/-- pub-marram/impl.FsToTime -/
def F_impl_FsToTime (t0 : Value) (w : World) (K : Value → World → Prop) : Prop :=
 st P (oAlloc T.impl_Time) w fun t2 w1 =>
 st P (oCall Fn.compactext4_DoorFsToTime #[t0]) w1 fun t4 w2 =>
 st P (oCall Fn.impl_fromTime #[t4]) w2 fun t5 w3 =>
 st P (oStore T.impl_Time t2 t5) w3 fun _ w4 =>
 rsl P T.impl_Time t2 w4 fun r1 =>
 K (tup [r1]) w4
def Tb_impl_FsToTime : Tab := { join := fun n => match n with | _ => [], loop := fun n => match n with | _ => [] }
theorem S_impl_FsToTime {t0 : Value} {w : World} {K : Value → World → Prop} (h : F_impl_FsToTime t0 w K) : Cl P Fn.impl_FsToTime #[t0] w K :=
  cl_of_eq (T := Tb_impl_FsToTime) (args := [t0]) Try.func20 rfl follows_mixed (by kernel_rfl) (Nat.le_of_ble_eq_true (by kernel_rfl)) (by kernel_rfl) h

/-- pub-marram/impl.TimeToFs -/
def F_impl_TimeToFs (t0 : Value) (w : World) (K : Value → World → Prop) : Prop :=
 st P (oBox T.impl_Time t0) w fun t1 w1 =>
 st P (oLoad T.impl_Time t1) w1 fun t3 w2 =>
 st P (oCall Fn.impl_toTime #[t3]) w2 fun t4 w3 =>
 st P (oCall Fn.compactext4_DoorTimeToFs #[t4]) w3 fun t5 w4 =>
 K (tup [t5]) w4
def Tb_impl_TimeToFs : Tab := { join := fun n => match n with | _ => [], loop := fun n => match n with | _ => [] }
theorem S_impl_TimeToFs {t0 : Value} {w : World} {K : Value → World → Prop} (h : F_impl_TimeToFs t0 w K) : Cl P Fn.impl_TimeToFs #[t0] w K :=
  cl_of_eq (T := Tb_impl_TimeToFs) (args := [t0]) Try.func21 rfl follows_mixed (by kernel_rfl) (Nat.le_of_ble_eq_true (by kernel_rfl)) (by kernel_rfl) h

/-- pub-marram/spec.Back -/
def F_spec_Back (t0 : Value) (w : World) (K : Value → World → Prop) : Prop :=
 st P (oBox T.spec_Stamp t0) w fun t1 w1 =>
 st P (oAlloc T.impl_Time) w1 fun t2 w2 =>
 rd P (oLoad T.spec_Stamp t1) w2.drew fun t3 =>
 pu P (oBuild T.spec_Stamp #[]) fun t4 =>
 pu P (oBin .neq T.spec_Stamp false false t3 t4) fun t5 =>
 pu P (oFldA T.spec_Stamp t1 0) fun t6 =>
 rd P (oLoad T.int64 t6) w2.drew fun t7 =>
 pu P (oFldA T.spec_Stamp t1 1) fun t8 =>
 rd P (oLoad T.int64 t8) w2.drew fun t9 =>
 pu P (oBuild T.impl_Time #[(0, t5), (1, t7), (2, t9)]) fun t10 =>
 st P (oStore T.impl_Time t2 t10) w2.drew fun _ w3 =>
 rsl P T.impl_Time t2 w3 fun r1 =>
 K (tup [r1]) w3
def Tb_spec_Back : Tab := { join := fun n => match n with | _ => [], loop := fun n => match n with | _ => [] }
theorem S_spec_Back {t0 : Value} {w : World} {K : Value → World → Prop} (h : F_spec_Back t0 w K) : Cl P Fn.spec_Back #[t0] w K :=
  cl_of_eq (T := Tb_spec_Back) (args := [t0]) Try.func22 rfl follows_mixed (by kernel_rfl) (Nat.le_of_ble_eq_true (by kernel_rfl)) (by kernel_rfl) h

/-- pub-marram/spec.Laid -/
def F_spec_Laid (t0 : Value) (w : World) (K : Value → World → Prop) : Prop :=
 st P (oBox T.impl_Time t0) w fun t1 w1 =>
 st P (oAlloc T.spec_Stamp) w1 fun t2 w2 =>
 jn (fun s1 u1 w3 =>
 pu P (oFldA T.impl_Time t1 1) fun t13 =>
 st P (oLoad T.int64 t13) w3 fun t14 w4 =>
 pu P (oFldA T.impl_Time t1 2) fun t15 =>
 st P (oLoad T.int t15) w4 fun t16 w5 =>
 pu P (oBuild T.spec_Stamp #[(0, t14), (1, t16)]) fun t17 =>
 st P (oStore T.spec_Stamp t2 t17) w5 fun _ w6 =>
 rsl P T.spec_Stamp t2 w6 fun r1 =>
 K (tup [r1]) w6) fun k1 =>
 pu P (oFldA T.impl_Time t1 0) fun t4 =>
 st P (oLoad T.bool t4) w2 fun t5 w7 =>
 pu P (oUn .not t5) fun t6 =>
 cd t6 (
 pu P (oBuild T.spec_Stamp #[]) fun t7 =>
 st P (oStore T.spec_Stamp t2 t7) w7 fun _ w8 =>
 rsl P T.spec_Stamp t2 w8 fun r2 =>
 K (tup [r2]) w8) (
 pu P (oFldA T.impl_Time t1 1) fun t9 =>
 st P (oLoad T.int64 t9) w7 fun t10 w9 =>
 pu P (oBin .gtr T.int64 false true t10 (.int .i64 15032385535)) fun t11 =>
 cd t11 (
 pu P (oBuild T.spec_Stamp #[(0, (.int .i64 15032385535)), (1, (.int .i64 0))]) fun t12 =>
 st P (oStore T.spec_Stamp t2 t12) w9 fun _ w10 =>
 rsl P T.spec_Stamp t2 w10 fun r3 =>
 K (tup [r3]) w10) (
 k1 [] w9))
def Tb_spec_Laid : Tab := { join := fun n => match n with | _ => [], loop := fun n => match n with | _ => [] }
theorem S_spec_Laid {t0 : Value} {w : World} {K : Value → World → Prop} (h : F_spec_Laid t0 w K) : Cl P Fn.spec_Laid #[t0] w K :=
  cl_of_eq (T := Tb_spec_Laid) (args := [t0]) Try.func23 rfl follows_mixed (by kernel_rfl) (Nat.le_of_ble_eq_true (by kernel_rfl)) (by kernel_rfl) h

/-- pub-marram/impl.FillExtents -/
def F_impl_FillExtents (t0 t1 t2 t3 : Value) (w : World) (K : Value → World → Prop) : Prop :=
 jn (fun s1 u1 w1 =>
 jn (fun s2 u2 w2 =>
 K (tup [(gs s2 0)]) w2) fun k2 =>
 st P (oCall Fn.compactext4_DoorExtents #[t0, t1, t2, t3]) w1 fun t43 w3 =>
 pu P (oBuiltin .len #[T.sl_format_ExtentLeafNode] T.int #[false] #[t43]) fun t44 =>
 lp [(.slice none 0 0), (.int .i64 0)] w3 fun s3 u3 w4 C1 =>
 pu P (oBin .lss T.int false false (gs s3 1) t44) fun t46 =>
 jn (fun s4 u4 w5 =>
 pu P (oIdxA T.sl_format_ExtentLeafNode t43 (gs s3 1)) fun t47 =>
 st P (oLoad T.format_ExtentLeafNode t47) w5 fun t48 w6 =>
 st P (oAlloc T.format_ExtentLeafNode) w6 fun t11 w7 =>
 st P (oStore T.format_ExtentLeafNode t11 t48) w7 fun _ w8 =>
 pu P (oFldA T.format_ExtentLeafNode t11 0) fun t50 =>
 st P (oLoad T.uint32 t50) w8 fun t51 w9 =>
 pu P (oFldA T.format_ExtentLeafNode t11 1) fun t52 =>
 st P (oLoad T.uint16 t52) w9 fun t53 w10 =>
 pu P (oFldA T.format_ExtentLeafNode t11 3) fun t54 =>
 st P (oLoad T.uint32 t54) w10 fun t55 w11 =>
 pu P (oBuild T.impl_Extent #[(0, t51), (1, t53), (2, t55)]) fun t56 =>
 st P (oBuildSlice T.sl_impl_Extent 1 #[(0, t56)]) w11 fun t57 w12 =>
 st P (oBuiltin .append #[T.sl_impl_Extent, T.sl_impl_Extent] T.sl_impl_Extent #[false, false] #[(gs s3 0), t57]) w12 fun t58 w13 =>
 pu P (oBin .add T.int false true (gs s3 1) (.int .i64 1)) fun t59 =>
 C1 [t58, t59] w13) fun k3 =>
 cd t46 (
 k3 [] w4) (
 k2 [(gs s3 0)] w4)) fun k1 =>
 pu P (oBin .lss T.int false true t0 (.int .i64 1)) fun t13 =>
 gd t13 false w (fun K1 => K1 t0 w) fun t15 w14 =>
 gd t13 false w14 (fun K2 => pu P (oBin .gtr T.int false true t15 (.int .i64 340)) fun v => K2 v w14) fun t16 w15 =>
 pu P (oPick t13 (.bool true) t16) fun t17 =>
 gd t17 false w15 (fun K3 => K3 t2 w15) fun t19 w16 =>
 gd t17 false w16 (fun K4 => K4 t3 w16) fun t20 w17 =>
 gd t17 false w17 (fun K5 => pu P (oBin .geq T.uint32 false false t19 t20) fun v => K5 v w17) fun t21 w18 =>
 pu P (oPick t17 (.bool true) t21) fun t22 =>
 gd t22 false w18 (fun K6 => K6 t3 w18) fun t24 w19 =>
 gd t22 false w19 (fun K7 => pu P (oBin .gtr T.uint32 false true t24 (.int .u32 2147483648)) fun v => K7 v w19) fun t25 w20 =>
 pu P (oPick t22 (.bool true) t25) fun t26 =>
 gd t26 false w20 (fun K8 => K8 t0 w20) fun t28 w21 =>
 gd t26 false w21 (fun K9 => pu P (oConv T.int T.uint64 t28) fun v => K9 v w21) fun t29 w22 =>
 gd t26 false w22 (fun K10 => K10 t3 w22) fun t30 w23 =>
 gd t26 false w23 (fun K11 => pu P (oConv T.uint32 T.uint64 t30) fun v => K11 v w23) fun t31 w24 =>
 gd t26 false w24 (fun K12 => K12 t2 w24) fun t32 w25 =>
 gd t26 false w25 (fun K13 => pu P (oConv T.uint32 T.uint64 t32) fun v => K13 v w25) fun t33 w26 =>
 gd t26 false w26 (fun K14 => pu P (oBin .sub T.uint64 false false t31 t33) fun v => K14 v w26) fun t34 w27 =>
 gd t26 false w27 (fun K15 => pu P (oBin .add T.uint64 false true t34 (.int .u64 32767)) fun v => K15 v w27) fun t35 w28 =>
 gd t26 false w28 (fun K16 => pu P (oBin .quo T.uint64 false true t35 (.int .u64 32768)) fun v => K16 v w28) fun t36 w29 =>
 gd t26 false w29 (fun K17 => pu P (oBin .neq T.uint64 false false t29 t36) fun v => K17 v w29) fun t37 w30 =>
 pu P (oPick t26 (.bool true) t37) fun t38 =>
 cd t38 (
 K (tup [(.slice none 0 0)]) w30) (
 k1 [] w30)
def Tb_impl_FillExtents : Tab := { join := fun n => match n with | 9 => [9] | _ => [], loop := fun n => match n with | 5 => [9, 45] | _ => [] }
theorem S_impl_FillExtents {t0 t1 t2 t3 : Value} {w : World} {K : Value → World → Prop} (h : F_impl_FillExtents t0 t1 t2 t3 w K) : Cl P Fn.impl_FillExtents #[t0, t1, t2, t3] w K :=
  cl_of_eq (T := Tb_impl_FillExtents) (args := [t0, t1, t2, t3]) Try.func24 rfl follows_mixed (by kernel_rfl) (Nat.le_of_ble_eq_true (by kernel_rfl)) (by kernel_rfl) h

/-- pub-marram/spec.Extents -/
def F_spec_Extents (t0 t1 t2 : Value) (w : World) (K : Value → World → Prop) : Prop :=
 jn (fun s1 u1 w1 =>
 K (tup [(gs s1 0)]) w1) fun k1 =>
 pu P (oConv T.uint32 T.uint64 t1) fun t10 =>
 lp [(.slice none 0 0), t10] w fun s2 u2 w2 C1 =>
 jn (fun s3 u3 w3 =>
 pu P (oConv T.uint64 T.uint32 (gs s2 1)) fun t19 =>
 pu P (oConv T.uint32 T.uint64 t2) fun t21 =>
 pu P (oBin .sub T.uint64 false false t21 (gs s2 1)) fun t23 =>
 pu P (oBuiltin .min #[T.uint64, T.uint64] T.uint64 #[true, false] #[(.int .u64 32768), t23]) fun t24 =>
 pu P (oConv T.uint64 T.uint16 t24) fun t25 =>
 pu P (oConv T.uint64 T.uint32 (gs s2 1)) fun t28 =>
 pu P (oBin .add T.uint32 false false t0 t28) fun t29 =>
 pu P (oBuild T.impl_Extent #[(0, t19), (1, t25), (2, t29)]) fun t30 =>
 st P (oBuildSlice T.sl_impl_Extent 1 #[(0, t30)]) w3 fun t31 w4 =>
 st P (oBuiltin .append #[T.sl_impl_Extent, T.sl_impl_Extent] T.sl_impl_Extent #[false, false] #[(gs s2 0), t31]) w4 fun t32 w5 =>
 pu P (oBin .add T.uint64 false true (gs s2 1) (.int .u64 32768)) fun t16 =>
 C1 [t32, t16] w5) fun k2 =>
 pu P (oConv T.uint32 T.uint64 t2) fun t13 =>
 pu P (oBin .lss T.uint64 false false (gs s2 1) t13) fun t14 =>
 cd t14 (
 k2 [] w2) (
 k1 [(gs s2 0)] w2)
def Tb_spec_Extents : Tab := { join := fun n => match n with | 6 => [7] | _ => [], loop := fun n => match n with | 3 => [7, 8] | _ => [] }
theorem S_spec_Extents {t0 t1 t2 : Value} {w : World} {K : Value → World → Prop} (h : F_spec_Extents t0 t1 t2 w K) : Cl P Fn.spec_Extents #[t0, t1, t2] w K :=
  cl_of_eq (T := Tb_spec_Extents) (args := [t0, t1, t2]) Try.func25 rfl follows_mixed (by kernel_rfl) (Nat.le_of_ble_eq_true (by kernel_rfl)) (by kernel_rfl) h

/-- pub-marram/impl.BestGroupCount -/
def F_impl_BestGroupCount (t0 t1 : Value) (w : World) (K : Value → World → Prop) : Prop :=
 jn (fun s1 u1 w1 =>
 st P (oCall Fn.compactext4_DoorBest #[t0, t1]) w1 fun t22 w2 =>
 pu P (oExtract t22 0) fun t23 =>
 pu P (oExtract t22 1) fun t24 =>
 K (tup [t23, t24]) w2) fun k1 =>
 pu P (oBin .lss T.uint32 false true t0 (.int .u32 1)) fun t7 =>
 gd t7 false w (fun K1 => K1 t0 w) fun t9 w3 =>
 gd t7 false w3 (fun K2 => pu P (oBin .gtr T.uint32 false true t9 (.int .u32 2147483648)) fun v => K2 v w3) fun t10 w4 =>
 pu P (oPick t7 (.bool true) t10) fun t11 =>
 gd t11 false w4 (fun K3 => K3 t1 w4) fun t13 w5 =>
 gd t11 false w5 (fun K4 => pu P (oBin .lss T.uint32 false true t13 (.int .u32 1)) fun v => K4 v w5) fun t14 w6 =>
 pu P (oPick t11 (.bool true) t14) fun t15 =>
 gd t15 false w6 (fun K5 => K5 t1 w6) fun t17 w7 =>
 gd t15 false w7 (fun K6 => pu P (oBin .gtr T.uint32 false true t17 (.int .u32 16777216)) fun v => K6 v w7) fun t18 w8 =>
 pu P (oPick t15 (.bool true) t18) fun t19 =>
 cd t19 (
 K (tup [(.int .u32 0), (.int .u32 0)]) w8) (
 k1 [] w8)
def Tb_impl_BestGroupCount : Tab := { join := fun n => match n with | _ => [], loop := fun n => match n with | _ => [] }
theorem S_impl_BestGroupCount {t0 t1 : Value} {w : World} {K : Value → World → Prop} (h : F_impl_BestGroupCount t0 t1 w K) : Cl P Fn.impl_BestGroupCount #[t0, t1] w K :=
  cl_of_eq (T := Tb_impl_BestGroupCount) (args := [t0, t1]) Try.func26 rfl follows_mixed (by kernel_rfl) (Nat.le_of_ble_eq_true (by kernel_rfl)) (by kernel_rfl) h

/-- pub-marram/laws.zzFits15 -/
def F_laws_zzFits15 (t0 : Value) (w : World) (K : Value → World → Prop) : Prop :=
 jn (fun s1 u1 w1 =>
 jn (fun s2 u2 w2 =>
 K (tup [(.bool true)]) w2) fun k2 =>
 pu P (oBuiltin .len #[T.sl_impl_Entry] T.int #[false] #[t0]) fun t9 =>
 lp [(.int .i64 0)] w1 fun s3 u3 w3 C1 =>
 pu P (oBin .lss T.int false false (gs s3 0) t9) fun t11 =>
 jn (fun s4 u4 w4 =>
 jn (fun s5 u5 w5 =>
 pu P (oBin .add T.int false true (gs s3 0) (.int .i64 1)) fun t17 =>
 C1 [t17] w5) fun k4 =>
 pu P (oIdxA T.sl_impl_Entry t0 (gs s3 0)) fun t12 =>
 st P (oLoad T.impl_Entry t12) w4 fun t13 w6 =>
 st P (oAlloc T.impl_Entry) w6 fun t4 w7 =>
 st P (oStore T.impl_Entry t4 t13) w7 fun _ w8 =>
 st P (oLoad T.impl_Entry t4) w8 fun t14 w9 =>
 st P (oCall Fn.laws_zzFits16 #[t14]) w9 fun t15 w10 =>
 pu P (oUn .not t15) fun t16 =>
 cd t16 (
 K (tup [(.bool false)]) w10) (
 k4 [] w10)) fun k3 =>
 cd t11 (
 k3 [] w3) (
 k2 [] w3)) fun k1 =>
 pu P (oBuiltin .len #[T.sl_impl_Entry] T.int #[false] #[t0]) fun t6 =>
 pu P (oBin .gtr T.int false true t6 (.int .i64 2147483647)) fun t7 =>
 cd t7 (
 K (tup [(.bool false)]) w) (
 k1 [] w)
def Tb_laws_zzFits15 : Tab := { join := fun n => match n with | _ => [], loop := fun n => match n with | 4 => [10] | _ => [] }
theorem S_laws_zzFits15 {t0 : Value} {w : World} {K : Value → World → Prop} (h : F_laws_zzFits15 t0 w K) : Cl P Fn.laws_zzFits15 #[t0] w K :=
  cl_of_eq (T := Tb_laws_zzFits15) (args := [t0]) Try.func27 rfl follows_mixed (by kernel_rfl) (Nat.le_of_ble_eq_true (by kernel_rfl)) (by kernel_rfl) h

/-- pub-marram/laws.listed -/
def F_laws_listed (t0 : Value) (w : World) (K : Value → World → Prop) : Prop :=
 jn (fun s1 u1 w1 =>
 jn (fun s2 u2 w2 =>
 K (tup [(.bool true)]) w2) fun k2 =>
 pu P (oBuiltin .len #[T.sl_impl_Entry] T.int #[false] #[t0]) fun t9 =>
 lp [(.int .i64 0)] w1 fun s3 u3 w3 C1 =>
 pu P (oBin .lss T.int false false (gs s3 0) t9) fun t11 =>
 jn (fun s4 u4 w4 =>
 jn (fun s5 u5 w5 =>
 pu P (oBin .add T.int false true (gs s3 0) (.int .i64 1)) fun t72 =>
 C1 [t72] w5) fun k4 =>
 pu P (oIdxA T.sl_impl_Entry t0 (gs s3 0)) fun t12 =>
 st P (oLoad T.impl_Entry t12) w4 fun t13 w6 =>
 st P (oAlloc T.impl_Entry) w6 fun t4 w7 =>
 st P (oStore T.impl_Entry t4 t13) w7 fun _ w8 =>
 pu P (oFldA T.impl_Entry t4 0) fun t14 =>
 rd P (oLoad T.string t14) w8.drew fun t15 =>
 st P (oCall Fn.spec_Rooted #[t15]) w8.drew fun t16 w9 =>
 pu P (oUn .not t16) fun t17 =>
 gd t17 false w9 (fun K1 => pu P (oFldA T.impl_Entry t4 0) fun v => K1 v w9) fun t19 w10 =>
 gd t17 false w10 (fun K2 => rd P (oLoad T.string t19) w10 fun v => K2 v w10) fun t20 w11 =>
 gd t17 false w11 (fun K3 => pu P (oFldA T.impl_Entry t4 0) fun v => K3 v w11) fun t22 w12 =>
 gd t17 false w12 (fun K4 => rd P (oLoad T.string t22) w12 fun v => K4 v w12) fun t23 w13 =>
 gd t17 false w13 (fun K5 => st P (oCall Fn.spec_MemName #[t20]) w13 K5) fun t21 w14 =>
 (isb t17 false = true → hold P (oLoad T.string t22) t23 w14) ∧ gd t17 false w14 (fun K6 => pu P (oBin .neq T.string false false t21 t23) fun v => K6 v w14) fun t24 w15 =>
 pu P (oPick t17 (.bool true) t24) fun t25 =>
 gd t25 false w15 (fun K7 => pu P (oFldA T.impl_Entry t4 0) fun v => K7 v w15) fun t27 w16 =>
 gd t25 false w16 (fun K8 => rd P (oLoad T.string t27) w16 fun v => K8 v w16) fun t28 w17 =>
 gd t25 false w17 (fun K9 => pu P (oBin .eql T.string false true t28 (S [47])) fun v => K9 v w17) fun t29 w18 =>
 pu P (oPick t25 (.bool true) t29) fun t30 =>
 gd t30 false w18 (fun K10 => pu P (oFldA T.impl_Entry t4 0) fun v => K10 v w18) fun t32 w19 =>
 gd t30 false w19 (fun K11 => rd P (oLoad T.string t32) w19 fun v => K11 v w19) fun t33 w20 =>
 gd t30 false w20 (fun K12 => pu P (oBuiltin .len #[T.string] T.int #[false] #[t33]) fun v => K12 v w20) fun t34 w21 =>
 gd t30 false w21 (fun K13 => pu P (oBin .gtr T.int false true t34 (.int .i64 200)) fun v => K13 v w21) fun t35 w22 =>
 pu P (oPick t30 (.bool true) t35) fun t36 =>
 gd t36 false w22 (fun K14 => pu P (oFldA T.impl_Entry t4 2) fun v => K14 v w22) fun t38 w23 =>
 gd t36 false w23 (fun K15 => rd P (oLoad T.bool t38) w23 fun v => K15 v w23) fun t39 w24 =>
 gd t36 false w24 (fun K16 => pu P (oFldA T.impl_Entry t4 1) fun v => K16 v w24) fun t40 w25 =>
 gd t36 false w25 (fun K17 => rd P (oLoad T.int t40) w25 fun v => K17 v w25) fun t41 w26 =>
 gd t36 false w26 (fun K18 => pu P (oBin .and T.int false true t41 (.int .i64 2147483648)) fun v => K18 v w26) fun t42 w27 =>
 gd t36 false w27 (fun K19 => pu P (oBin .neq T.int false true t42 (.int .i64 0)) fun v => K19 v w27) fun t43 w28 =>
 gd t36 false w28 (fun K20 => pu P (oBin .neq T.bool false false t39 t43) fun v => K20 v w28) fun t44 w29 =>
 pu P (oPick t36 (.bool true) t44) fun t45 =>
 gd t45 false w29 (fun K21 => pu P (oFldA T.impl_Entry t4 1) fun v => K21 v w29) fun t47 w30 =>
 gd t45 false w30 (fun K22 => rd P (oLoad T.int t47) w30 fun v => K22 v w30) fun t48 w31 =>
 gd t45 false w31 (fun K23 => pu P (oBin .andNot T.int false true t48 (.int .i64 2161115647)) fun v => K23 v w31) fun t49 w32 =>
 gd t45 false w32 (fun K24 => pu P (oBin .neq T.int false true t49 (.int .i64 0)) fun v => K24 v w32) fun t50 w33 =>
 pu P (oPick t45 (.bool true) t50) fun t51 =>
 gd t51 false w33 (fun K25 => pu P (oFldA T.impl_Entry t4 4) fun v => K25 v w33) fun t53 w34 =>
 gd t51 false w34 (fun K26 => rd P (oLoad T.int64 t53) w34 fun v => K26 v w34) fun t54 w35 =>
 gd t51 false w35 (fun K27 => pu P (oBin .lss T.int64 false true t54 (.int .i64 0)) fun v => K27 v w35) fun t55 w36 =>
 pu P (oPick t51 (.bool true) t55) fun t56 =>
 gd t56 false w36 (fun K28 => pu P (oFldA T.impl_Entry t4 4) fun v => K28 v w36) fun t58 w37 =>
 gd t56 false w37 (fun K29 => rd P (oLoad T.int64 t58) w37 fun v => K29 v w37) fun t59 w38 =>
 gd t56 false w38 (fun K30 => pu P (oBin .gtr T.int64 false true t59 (.int .i64 8589934592)) fun v => K30 v w38) fun t60 w39 =>
 pu P (oPick t56 (.bool true) t60) fun t61 =>
 gd t61 false w39 (fun K31 => pu P (oFldA T.impl_Entry t4 2) fun v => K31 v w39) fun t63 w40 =>
 gd t61 false w40 (fun K32 => rd P (oLoad T.bool t63) w40 fun v => K32 v w40) fun t64 w41 =>
 gd t61 false w41 (fun K33 => K33 t64 w41) fun t65 w42 =>
 gd t65 true w42 (fun K34 => pu P (oFldA T.impl_Entry t4 3) fun v => K34 v w42) fun t66 w43 =>
 gd t65 true w43 (fun K35 => rd P (oLoad T.sl_uint8 t66) w43 fun v => K35 v w43) fun t67 w44 =>
 gd t65 true w44 (fun K36 => pu P (oBuiltin .len #[T.sl_uint8] T.int #[false] #[t67]) fun v => K36 v w44) fun t68 w45 =>
 gd t65 true w45 (fun K37 => pu P (oBin .gtr T.int false true t68 (.int .i64 0)) fun v => K37 v w45) fun t69 w46 =>
 gd t61 false w46 (fun K38 => pu P (oPick t65 t69 (.bool false)) fun v => K38 v w46) fun t70 w47 =>
 pu P (oPick t61 (.bool true) t70) fun t71 =>
 cd t71 (
 K (tup [(.bool false)]) w47) (
 k4 [] w47)) fun k3 =>
 cd t11 (
 k3 [] w3) (
 k2 [] w3)) fun k1 =>
 pu P (oBuiltin .len #[T.sl_impl_Entry] T.int #[false] #[t0]) fun t6 =>
 pu P (oBin .gtr T.int false true t6 (.int .i64 60)) fun t7 =>
 cd t7 (
 K (tup [(.bool false)]) w) (
 k1 [] w)
def Tb_laws_listed : Tab := { join := fun n => match n with | _ => [], loop := fun n => match n with | 4 => [10] | _ => [] }
theorem S_laws_listed {t0 : Value} {w : World} {K : Value → World → Prop} (h : F_laws_listed t0 w K) : Cl P Fn.laws_listed #[t0] w K :=
  cl_of_eq (T := Tb_laws_listed) (args := [t0]) Try.func28 rfl follows_mixed (by kernel_rfl) (Nat.le_of_ble_eq_true (by kernel_rfl)) (by kernel_rfl) h

/-- pub-marram/laws.lastNames -/
def F_laws_lastNames (t0 : Value) (w : World) (K : Value → World → Prop) : Prop :=
 st P (oBuildSlice T.sl_string 0 #[]) w fun t7 w1 =>
 jn (fun s1 u1 w2 =>
 K (tup [(gs s1 0)]) w2) fun k1 =>
 pu P (oBuiltin .len #[T.sl_impl_Entry] T.int #[false] #[t0]) fun t9 =>
 lp [t7, (.int .i64 0)] w1 fun s2 u2 w3 C1 =>
 pu P (oBin .lss T.int false false (gs s2 1) t9) fun t11 =>
 jn (fun s3 u3 w4 =>
 jn (fun s4 u4 w5 =>
 pu P (oBin .add T.int false true (gs s2 1) (.int .i64 1)) fun t25 =>
 C1 [(gs s4 0), t25] w5) fun k3 =>
 pu P (oIdxA T.sl_impl_Entry t0 (gs s2 1)) fun t12 =>
 st P (oLoad T.impl_Entry t12) w4 fun t13 w6 =>
 st P (oAlloc T.impl_Entry) w6 fun t5 w7 =>
 st P (oStore T.impl_Entry t5 t13) w7 fun _ w8 =>
 pu P (oFldA T.impl_Entry t5 0) fun t14 =>
 st P (oLoad T.string t14) w8 fun t15 w9 =>
 st P (oCall Fn.spec_MemBase #[t15]) w9 fun t16 w10 =>
 st P (oCall Fn.laws_hasName #[(gs s2 0), t16]) w10 fun t19 w11 =>
 pu P (oUn .not t19) fun t20 =>
 cd t20 (
 st P (oBuildSlice T.sl_string 1 #[(0, t16)]) w11 fun t23 w12 =>
 st P (oBuiltin .append #[T.sl_string, T.sl_string] T.sl_string #[false, false] #[(gs s2 0), t23]) w12 fun t24 w13 =>
 k3 [t24] w13) (
 k3 [(gs s2 0)] w11)) fun k2 =>
 cd t11 (
 k2 [] w3) (
 k1 [(gs s2 0)] w3)
def Tb_laws_lastNames : Tab := { join := fun n => match n with | 8 => [3] | 9 => [3] | _ => [], loop := fun n => match n with | 3 => [3, 10] | _ => [] }
theorem S_laws_lastNames {t0 : Value} {w : World} {K : Value → World → Prop} (h : F_laws_lastNames t0 w K) : Cl P Fn.laws_lastNames #[t0] w K :=
  cl_of_eq (T := Tb_laws_lastNames) (args := [t0]) Try.func29 rfl follows_mixed (by kernel_rfl) (Nat.le_of_ble_eq_true (by kernel_rfl)) (by kernel_rfl) h

/-- pub-marram/impl.MergeDirs -/
def F_impl_MergeDirs (t0 t1 : Value) (w : World) (K : Value → World → Prop) : Prop :=
 st P (oCall Fn.impl_infos #[t0]) w fun t9 w1 =>
 st P (oCall Fn.impl_infos #[t1]) w1 fun t11 w2 =>
 st P (oCall Fn.afero_DoorMerge #[t9, t11]) w2 fun t12 w3 =>
 pu P (oExtract t12 0) fun t13 =>
 pu P (oExtract t12 1) fun t14 =>
 jn (fun s1 u1 w4 =>
 st P (oCall Fn.impl_fromInfos #[t13]) w4 fun t18 w5 =>
 K (tup [t18]) w5) fun k1 =>
 pu P (oBin .neq T.error false true t14 .nilIface) fun t16 =>
 cd t16 (
 K (tup [(.slice none 0 0)]) w3) (
 k1 [] w3)
def Tb_impl_MergeDirs : Tab := { join := fun n => match n with | _ => [], loop := fun n => match n with | _ => [] }
theorem S_impl_MergeDirs {t0 t1 : Value} {w : World} {K : Value → World → Prop} (h : F_impl_MergeDirs t0 t1 w K) : Cl P Fn.impl_MergeDirs #[t0, t1] w K :=
  cl_of_eq (T := Tb_impl_MergeDirs) (args := [t0, t1]) Try.func30 rfl follows_mixed (by kernel_rfl) (Nat.le_of_ble_eq_true (by kernel_rfl)) (by kernel_rfl) h

/-- pub-marram/laws.sameInfos -/
def F_laws_sameInfos (t0 t1 : Value) (w : World) (K : Value → World → Prop) : Prop :=
 jn (fun s1 u1 w1 =>
 jn (fun s2 u2 w2 =>
 K (tup [(.bool true)]) w2) fun k2 =>
 pu P (oBuiltin .len #[T.sl_impl_Info] T.int #[false] #[t0]) fun t12 =>
 lp [(.int .i64 0)] w1 fun s3 u3 w3 C1 =>
 pu P (oBin .lss T.int false false (gs s3 0) t12) fun t14 =>
 jn (fun s4 u4 w4 =>
 jn (fun s5 u5 w5 =>
 pu P (oBin .add T.int false true (gs s3 0) (.int .i64 1)) fun t25 =>
 C1 [t25] w5) fun k4 =>
 pu P (oIdxA T.sl_impl_Info t0 (gs s3 0)) fun t18 =>
 rd P (oLoad T.impl_Info t18) w4.drew fun t19 =>
 pu P (oIdxA T.sl_impl_Info t1 (gs s3 0)) fun t22 =>
 rd P (oLoad T.impl_Info t22) w4.drew fun t23 =>
 pu P (oBin .neq T.impl_Info false false t19 t23) fun t24 =>
 cd t24 (
 K (tup [(.bool false)]) w4.drew) (
 k4 [] w4.drew)) fun k3 =>
 cd t14 (
 k3 [] w3) (
 k2 [] w3)) fun k1 =>
 pu P (oBuiltin .len #[T.sl_impl_Info] T.int #[false] #[t0]) fun t7 =>
 pu P (oBuiltin .len #[T.sl_impl_Info] T.int #[false] #[t1]) fun t9 =>
 pu P (oBin .neq T.int false false t7 t9) fun t10 =>
 cd t10 (
 K (tup [(.bool false)]) w) (
 k1 [] w)
def Tb_laws_sameInfos : Tab := { join := fun n => match n with | _ => [], loop := fun n => match n with | 4 => [13] | _ => [] }
theorem S_laws_sameInfos {t0 t1 : Value} {w : World} {K : Value → World → Prop} (h : F_laws_sameInfos t0 t1 w K) : Cl P Fn.laws_sameInfos #[t0, t1] w K :=
  cl_of_eq (T := Tb_laws_sameInfos) (args := [t0, t1]) Try.func31 rfl follows_mixed (by kernel_rfl) (Nat.le_of_ble_eq_true (by kernel_rfl)) (by kernel_rfl) h

/-- pub-marram/impl.Normalize -/
def F_impl_Normalize (t0 : Value) (w : World) (K : Value → World → Prop) : Prop :=
 st P (oCall Fn.afero_DoorNormalize #[t0]) w fun t4 w1 =>
 K (tup [t4]) w1
def Tb_impl_Normalize : Tab := { join := fun n => match n with | _ => [], loop := fun n => match n with | _ => [] }
theorem S_impl_Normalize {t0 : Value} {w : World} {K : Value → World → Prop} (h : F_impl_Normalize t0 w K) : Cl P Fn.impl_Normalize #[t0] w K :=
  cl_of_eq (T := Tb_impl_Normalize) (args := [t0]) Try.func32 rfl follows_mixed (by kernel_rfl) (Nat.le_of_ble_eq_true (by kernel_rfl)) (by kernel_rfl) h

/-- pub-marram/spec.MemName -/
def F_spec_MemName (t0 : Value) (w : World) (K : Value → World → Prop) : Prop :=
 pu P (oBuiltin .len #[T.string] T.int #[false] #[t0]) fun t13 =>
 pu P (oBin .gtr T.int false true t13 (.int .i64 0)) fun t14 =>
 gd t14 true w.drew (fun K1 => K1 t0 w.drew) fun t16 w1 =>
 gd t14 true w1 (fun K2 => pu P (oIdx T.string t16 (.int .i64 0)) fun v => K2 v w1) fun t17 w2 =>
 gd t14 true w2 (fun K3 => pu P (oBin .eql T.uint8 false true t17 (.int .u8 47)) fun v => K3 v w2) fun t18 w3 =>
 pu P (oPick t14 t18 (.bool false)) fun t19 =>
 st P (oBuildSlice T.sl_string 0 #[]) w3 fun t11 w4 =>
 jn (fun s1 u1 w5 =>
 jn (fun s2 u2 w6 =>
 jn (fun s3 u3 w7 =>
 K (tup [(gs s2 0)]) w7) fun k3 =>
 pu P (oBin .eql T.string false true (gs s2 0) (S [])) fun t101 =>
 gd t101 false w6 (fun K4 => K4 (gs s2 0) w6) fun t103 w8 =>
 gd t101 false w8 (fun K5 => pu P (oBin .eql T.string false true t103 (S [46, 46])) fun v => K5 v w8) fun t104 w9 =>
 pu P (oPick t101 (.bool true) t104) fun t105 =>
 cd t105 (
 K (tup [(S [47])]) w9) (
 k3 [] w9)) fun k2 =>
 pu P (oBuiltin .len #[T.sl_string] T.int #[false] #[(gs s1 0)]) fun t83 =>
 lp [(S []), (.int .i64 0)] w5 fun s4 u4 w10 C1 =>
 pu P (oBin .lss T.int false false (gs s4 1) t83) fun t85 =>
 jn (fun s5 u5 w11 =>
 jn (fun s6 u6 w12 =>
 pu P (oBin .add T.int false true (gs s4 1) (.int .i64 1)) fun t99 =>
 C1 [(gs s6 0), t99] w12) fun k5 =>
 pu P (oIdxA T.sl_string (gs s1 0) (gs s4 1)) fun t87 =>
 st P (oLoad T.string t87) w11 fun t88 w13 =>
 jn (fun s7 u7 w14 =>
 pu P (oBin .add T.string false false (gs s7 0) t88) fun t98 =>
 k5 [t98] w14) fun k6 =>
 pu P (oBin .gtr T.int false true (gs s4 1) (.int .i64 0)) fun t90 =>
 gd t90 false w13 (fun K6 => K6 t19 w13) fun t92 w15 =>
 pu P (oPick t90 (.bool true) t92) fun t93 =>
 cd t93 (
 pu P (oBin .add T.string false true (gs s4 0) (S [47])) fun t95 =>
 k6 [t95] w15) (
 k6 [(gs s4 0)] w15)) fun k4 =>
 cd t85 (
 k4 [] w10) (
 k2 [(gs s4 0)] w10)) fun k1 =>
 lp [t11, (.int .i64 0)] w4 fun s8 u8 w16 C2 =>
 jn (fun s9 u9 w17 =>
 jn (fun s10 u10 w18 =>
 jn (fun s11 u11 w19 =>
 pu P (oBin .add T.int false true (gs s10 0) (.int .i64 1)) fun t81 =>
 C2 [(gs s11 0), t81] w19) fun k9 =>
 pu P (oSlice T.string t0 (some (gs s8 1)) (some (gs s10 0)) none) fun t40 =>
 pu P (oBin .eql T.string false true t40 (S [])) fun t43 =>
 gd t43 false w18 (fun K7 => K7 t40 w18) fun t45 w20 =>
 gd t43 false w20 (fun K8 => pu P (oBin .eql T.string false true t45 (S [46])) fun v => K8 v w20) fun t46 w21 =>
 pu P (oPick t43 (.bool true) t46) fun t47 =>
 cd t47 (
 k9 [(gs s8 0)] w21) (
 pu P (oBin .neq T.string false true t40 (S [46, 46])) fun t50 =>
 cd t50 (
 st P (oBuildSlice T.sl_string 1 #[(0, t40)]) w21 fun t53 w22 =>
 st P (oBuiltin .append #[T.sl_string, T.sl_string] T.sl_string #[false, false] #[(gs s8 0), t53]) w22 fun t54 w23 =>
 k9 [t54] w23) (
 pu P (oBuiltin .len #[T.sl_string] T.int #[false] #[(gs s8 0)]) fun t57 =>
 pu P (oBin .gtr T.int false true t57 (.int .i64 0)) fun t58 =>
 gd t58 true w21 (fun K9 => K9 (gs s8 0) w21) fun t60 w24 =>
 gd t58 true w24 (fun K10 => K10 (gs s8 0) w24) fun t61 w25 =>
 gd t58 true w25 (fun K11 => pu P (oBuiltin .len #[T.sl_string] T.int #[false] #[t61]) fun v => K11 v w25) fun t62 w26 =>
 gd t58 true w26 (fun K12 => pu P (oBin .sub T.int false true t62 (.int .i64 1)) fun v => K12 v w26) fun t63 w27 =>
 gd t58 true w27 (fun K13 => pu P (oIdxA T.sl_string t60 t63) fun v => K13 v w27) fun t64 w28 =>
 gd t58 true w28 (fun K14 => st P (oLoad T.string t64) w28 K14) fun t65 w29 =>
 gd t58 true w29 (fun K15 => pu P (oBin .neq T.string false true t65 (S [46, 46])) fun v => K15 v w29) fun t66 w30 =>
 pu P (oPick t58 t66 (.bool false)) fun t67 =>
 cd t67 (
 pu P (oBuiltin .len #[T.sl_string] T.int #[false] #[(gs s8 0)]) fun t70 =>
 pu P (oBin .sub T.int false true t70 (.int .i64 1)) fun t71 =>
 pu P (oSlice T.sl_string (gs s8 0) none (some t71) none) fun t72 =>
 k9 [t72] w30) (
 pu P (oUn .not t19) fun t75 =>
 cd t75 (
 st P (oBuildSlice T.sl_string 1 #[(0, t40)]) w30 fun t78 w31 =>
 st P (oBuiltin .append #[T.sl_string, T.sl_string] T.sl_string #[false, false] #[(gs s8 0), t78]) w31 fun t79 w32 =>
 k9 [t79] w32) (
 k9 [(gs s8 0)] w30))))) fun k8 =>
 lp [(gs s8 1)] w17 fun s12 u12 w33 C3 =>
 jn (fun s13 u13 w34 =>
 pu P (oBin .add T.int false true (gs s12 0) (.int .i64 1)) fun t36 =>
 C3 [t36] w34) fun k10 =>
 pu P (oBuiltin .len #[T.string] T.int #[false] #[t0]) fun t27 =>
 pu P (oBin .lss T.int false false (gs s12 0) t27) fun t28 =>
 gd t28 true w33 (fun K16 => K16 t0 w33) fun t30 w35 =>
 gd t28 true w35 (fun K17 => K17 (gs s12 0) w35) fun t31 w36 =>
 gd t28 true w36 (fun K18 => pu P (oIdx T.string t30 t31) fun v => K18 v w36) fun t32 w37 =>
 gd t28 true w37 (fun K19 => pu P (oBin .neq T.uint8 false true t32 (.int .u8 47)) fun v => K19 v w37) fun t33 w38 =>
 pu P (oPick t28 t33 (.bool false)) fun t34 =>
 cd t34 (
 k10 [] w38) (
 k8 [(gs s12 0)] w38)) fun k7 =>
 pu P (oBuiltin .len #[T.string] T.int #[false] #[t0]) fun t22 =>
 pu P (oBin .lss T.int false false (gs s8 1) t22) fun t23 =>
 cd t23 (
 k7 [] w16) (
 k1 [(gs s8 0)] w16)
def Tb_spec_MemName : Tab := { join := fun n => match n with | 7 => [6] | 15 => [3] | 16 => [3] | 22 => [8] | 23 => [8] | 24 => [8] | _ => [], loop := fun n => match n with | 3 => [3, 5] | 5 => [6] | 18 => [8, 84] | _ => [] }
theorem S_spec_MemName {t0 : Value} {w : World} {K : Value → World → Prop} (h : F_spec_MemName t0 w K) : Cl P Fn.spec_MemName #[t0] w K :=
  cl_of_eq (T := Tb_spec_MemName) (args := [t0]) Try.func33 rfl follows_mixed (by kernel_rfl) (Nat.le_of_ble_eq_true (by kernel_rfl)) (by kernel_rfl) h

/-- pub-marram/pub/hcsshim/ext4/inner/compactext4.DoorSplit -/
def F_compactext4_DoorSplit (t0 : Value) (w : World) (K : Value → World → Prop) : Prop :=
 st P (oCall Fn.compactext4_splitFirst #[t0]) w fun t5 w1 =>
 pu P (oExtract t5 0) fun t6 =>
 pu P (oExtract t5 1) fun t7 =>
 K (tup [t6, t7]) w1
def Tb_compactext4_DoorSplit : Tab := { join := fun n => match n with | _ => [], loop := fun n => match n with | _ => [] }
theorem S_compactext4_DoorSplit {t0 : Value} {w : World} {K : Value → World → Prop} (h : F_compactext4_DoorSplit t0 w K) : Cl P Fn.compactext4_DoorSplit #[t0] w K :=
  cl_of_eq (T := Tb_compactext4_DoorSplit) (args := [t0]) Try.func34 rfl follows_mixed (by kernel_rfl) (Nat.le_of_ble_eq_true (by kernel_rfl)) (by kernel_rfl) h

/-- pub-marram/spec.Holds -/
def F_spec_Holds (t0 t1 : Value) (w : World) (K : Value → World → Prop) : Prop :=
 jn (fun s1 u1 w1 =>
 K (tup [(.bool false)]) w1) fun k1 =>
 lp [(.int .i64 0)] w fun s2 u2 w2 C1 =>
 jn (fun s3 u3 w3 =>
 jn (fun s4 u4 w4 =>
 pu P (oBin .add T.int false true (gs s2 0) (.int .i64 1)) fun t14 =>
 C1 [t14] w4) fun k3 =>
 pu P (oBuiltin .len #[T.sl_uint8] T.int #[false] #[t1]) fun t19 =>
 pu P (oBin .add T.int false false (gs s2 0) t19) fun t20 =>
 pu P (oSlice T.sl_uint8 t0 (some (gs s2 0)) (some t20) none) fun t21 =>
 rd P (oConv T.sl_uint8 T.string t21) w3.drew fun t22 =>
 rd P (oConv T.sl_uint8 T.string t1) w3.drew fun t24 =>
 pu P (oBin .eql T.string false false t22 t24) fun t25 =>
 cd t25 (
 K (tup [(.bool true)]) w3.drew) (
 k3 [] w3.drew)) fun k2 =>
 pu P (oBuiltin .len #[T.sl_uint8] T.int #[false] #[t1]) fun t8 =>
 pu P (oBin .add T.int false false (gs s2 0) t8) fun t9 =>
 pu P (oBuiltin .len #[T.sl_uint8] T.int #[false] #[t0]) fun t11 =>
 pu P (oBin .leq T.int false false t9 t11) fun t12 =>
 cd t12 (
 k2 [] w2) (
 k1 [] w2)
def Tb_spec_Holds : Tab := { join := fun n => match n with | _ => [], loop := fun n => match n with | 2 => [5] | _ => [] }
theorem S_spec_Holds {t0 t1 : Value} {w : World} {K : Value → World → Prop} (h : F_spec_Holds t0 t1 w K) : Cl P Fn.spec_Holds #[t0, t1] w K :=
  cl_of_eq (T := Tb_spec_Holds) (args := [t0, t1]) Try.func35 rfl follows_mixed (by kernel_rfl) (Nat.le_of_ble_eq_true (by kernel_rfl)) (by kernel_rfl) h

/-- pub-marram/pub/afero.DoorHasMeta -/
def F_afero_DoorHasMeta (t0 : Value) (w : World) (K : Value → World → Prop) : Prop :=
 st P (oCall Fn.afero_hasMeta #[t0]) w fun t4 w1 =>
 K (tup [t4]) w1
def Tb_afero_DoorHasMeta : Tab := { join := fun n => match n with | _ => [], loop := fun n => match n with | _ => [] }
theorem S_afero_DoorHasMeta {t0 : Value} {w : World} {K : Value → World → Prop} (h : F_afero_DoorHasMeta t0 w K) : Cl P Fn.afero_DoorHasMeta #[t0] w K :=
  cl_of_eq (T := Tb_afero_DoorHasMeta) (args := [t0]) Try.func36 rfl follows_mixed (by kernel_rfl) (Nat.le_of_ble_eq_true (by kernel_rfl)) (by kernel_rfl) h

/-- pub-marram/pub/hcsshim/ext4/inner/compactext4.DoorGroups -/
def F_compactext4_DoorGroups (t0 t1 t2 : Value) (w : World) (K : Value → World → Prop) : Prop :=
 st P (oCall Fn.compactext4_groupCount #[t0, t1, t2]) w fun t10 w1 =>
 K (tup [t10]) w1
def Tb_compactext4_DoorGroups : Tab := { join := fun n => match n with | _ => [], loop := fun n => match n with | _ => [] }
theorem S_compactext4_DoorGroups {t0 t1 t2 : Value} {w : World} {K : Value → World → Prop} (h : F_compactext4_DoorGroups t0 t1 t2 w K) : Cl P Fn.compactext4_DoorGroups #[t0, t1, t2] w K :=
  cl_of_eq (T := Tb_compactext4_DoorGroups) (args := [t0, t1, t2]) Try.func37 rfl follows_mixed (by kernel_rfl) (Nat.le_of_ble_eq_true (by kernel_rfl)) (by kernel_rfl) h

/-- pub-marram/pub/hcsshim/ext4/inner/compactext4.DoorHash -/
def F_compactext4_DoorHash (t0 t1 : Value) (w : World) (K : Value → World → Prop) : Prop :=
 st P (oCall Fn.compactext4_hashXattrEntry #[t0, t1]) w fun t7 w1 =>
 K (tup [t7]) w1
def Tb_compactext4_DoorHash : Tab := { join := fun n => match n with | _ => [], loop := fun n => match n with | _ => [] }
theorem S_compactext4_DoorHash {t0 t1 : Value} {w : World} {K : Value → World → Prop} (h : F_compactext4_DoorHash t0 t1 w K) : Cl P Fn.compactext4_DoorHash #[t0, t1] w K :=
  cl_of_eq (T := Tb_compactext4_DoorHash) (args := [t0, t1]) Try.func38 rfl follows_mixed (by kernel_rfl) (Nat.le_of_ble_eq_true (by kernel_rfl)) (by kernel_rfl) h

/-- pub-marram/spec.attributeHash -/
def F_spec_attributeHash (t0 t1 : Value) (w : World) (K : Value → World → Prop) : Prop :=
 jn (fun s1 u1 w1 =>
 jn (fun s2 u2 w2 =>
 K (tup [(gs s2 0)]) w2) fun k2 =>
 lp [(gs s1 0), (.int .i64 0)] w1 fun s3 u3 w3 C1 =>
 jn (fun s4 u4 w4 =>
 pu P (oBin .shl T.uint32 false true (gs s3 0) (.int .u64 16)) fun t31 =>
 pu P (oBin .shr T.uint32 false true (gs s3 0) (.int .u64 16)) fun t33 =>
 pu P (oBin .xor T.uint32 false false t31 t33) fun t34 =>
 pu P (oConv T.int T.uint64 (gs s3 1)) fun t37 =>
 st P (oCall Fn.spec_le #[t1, t37, (.int .u64 4)]) w4 fun t38 w5 =>
 pu P (oConv T.uint64 T.uint32 t38) fun t39 =>
 pu P (oBin .xor T.uint32 false false t34 t39) fun t40 =>
 pu P (oBin .add T.int false true (gs s3 1) (.int .i64 4)) fun t29 =>
 C1 [t40, t29] w5) fun k3 =>
 pu P (oBuiltin .len #[T.sl_uint8] T.int #[false] #[t1]) fun t26 =>
 pu P (oBin .lss T.int false false (gs s3 1) t26) fun t27 =>
 cd t27 (
 k3 [] w3) (
 k2 [(gs s3 0)] w3)) fun k1 =>
 pu P (oBuiltin .len #[T.sl_uint8] T.int #[false] #[t0]) fun t10 =>
 lp [(.int .u32 0), (.int .i64 0)] w fun s5 u5 w6 C2 =>
 pu P (oBin .lss T.int false false (gs s5 1) t10) fun t12 =>
 jn (fun s6 u6 w7 =>
 pu P (oIdxA T.sl_uint8 t0 (gs s5 1)) fun t13 =>
 st P (oLoad T.uint8 t13) w7 fun t14 w8 =>
 pu P (oBin .shl T.uint32 false true (gs s5 0) (.int .u64 5)) fun t16 =>
 pu P (oBin .shr T.uint32 false true (gs s5 0) (.int .u64 27)) fun t18 =>
 pu P (oBin .xor T.uint32 false false t16 t18) fun t19 =>
 pu P (oConv T.uint8 T.uint32 t14) fun t21 =>
 pu P (oBin .xor T.uint32 false false t19 t21) fun t22 =>
 pu P (oBin .add T.int false true (gs s5 1) (.int .i64 1)) fun t23 =>
 C2 [t22, t23] w8) fun k4 =>
 cd t12 (
 k4 [] w6) (
 k1 [(gs s5 0)] w6)
def Tb_spec_attributeHash : Tab := { join := fun n => match n with | 7 => [5] | 11 => [5] | _ => [], loop := fun n => match n with | 3 => [5, 11] | 8 => [5, 8] | _ => [] }
theorem S_spec_attributeHash {t0 t1 : Value} {w : World} {K : Value → World → Prop} (h : F_spec_attributeHash t0 t1 w K) : Cl P Fn.spec_attributeHash #[t0, t1] w K :=
  cl_of_eq (T := Tb_spec_attributeHash) (args := [t0, t1]) Try.func39 rfl follows_mixed (by kernel_rfl) (Nat.le_of_ble_eq_true (by kernel_rfl)) (by kernel_rfl) h

/-- pub-marram/impl.fromTime -/
def F_impl_fromTime (t0 : Value) (w : World) (K : Value → World → Prop) : Prop :=
 st P (oBox T.compactext4_Time t0) w fun t1 w1 =>
 st P (oAlloc T.impl_Time) w1 fun t2 w2 =>
 pu P (oFldA T.compactext4_Time t1 0) fun t3 =>
 st P (oLoad T.bool t3) w2 fun t4 w3 =>
 pu P (oFldA T.compactext4_Time t1 1) fun t5 =>
 st P (oLoad T.int64 t5) w3 fun t6 w4 =>
 pu P (oFldA T.compactext4_Time t1 2) fun t7 =>
 st P (oLoad T.int t7) w4 fun t8 w5 =>
 pu P (oBuild T.impl_Time #[(0, t4), (1, t6), (2, t8)]) fun t9 =>
 st P (oStore T.impl_Time t2 t9) w5 fun _ w6 =>
 rsl P T.impl_Time t2 w6 fun r1 =>
 K (tup [r1]) w6
def Tb_impl_fromTime : Tab := { join := fun n => match n with | _ => [], loop := fun n => match n with | _ => [] }
theorem S_impl_fromTime {t0 : Value} {w : World} {K : Value → World → Prop} (h : F_impl_fromTime t0 w K) : Cl P Fn.impl_fromTime #[t0] w K :=
  cl_of_eq (T := Tb_impl_fromTime) (args := [t0]) Try.func40 rfl follows_mixed (by kernel_rfl) (Nat.le_of_ble_eq_true (by kernel_rfl)) (by kernel_rfl) h

/-- pub-marram/pub/hcsshim/ext4/inner/compactext4.DoorFsToTime -/
def F_compactext4_DoorFsToTime (t0 : Value) (w : World) (K : Value → World → Prop) : Prop :=
 st P (oAlloc T.compactext4_Time) w fun t2 w1 =>
 st P (oCall Fn.compactext4_fsTimeToTime #[t0]) w1 fun t4 w2 =>
 st P (oStore T.compactext4_Time t2 t4) w2 fun _ w3 =>
 rsl P T.compactext4_Time t2 w3 fun r1 =>
 K (tup [r1]) w3
def Tb_compactext4_DoorFsToTime : Tab := { join := fun n => match n with | _ => [], loop := fun n => match n with | _ => [] }
theorem S_compactext4_DoorFsToTime {t0 : Value} {w : World} {K : Value → World → Prop} (h : F_compactext4_DoorFsToTime t0 w K) : Cl P Fn.compactext4_DoorFsToTime #[t0] w K :=
  cl_of_eq (T := Tb_compactext4_DoorFsToTime) (args := [t0]) Try.func41 rfl follows_mixed (by kernel_rfl) (Nat.le_of_ble_eq_true (by kernel_rfl)) (by kernel_rfl) h

/-- pub-marram/pub/hcsshim/ext4/inner/compactext4.DoorTimeToFs -/
def F_compactext4_DoorTimeToFs (t0 : Value) (w : World) (K : Value → World → Prop) : Prop :=
 st P (oBox T.compactext4_Time t0) w fun t1 w1 =>
 st P (oLoad T.compactext4_Time t1) w1 fun t3 w2 =>
 st P (oCall Fn.compactext4_timeToFsTime #[t3]) w2 fun t4 w3 =>
 K (tup [t4]) w3
def Tb_compactext4_DoorTimeToFs : Tab := { join := fun n => match n with | _ => [], loop := fun n => match n with | _ => [] }
theorem S_compactext4_DoorTimeToFs {t0 : Value} {w : World} {K : Value → World → Prop} (h : F_compactext4_DoorTimeToFs t0 w K) : Cl P Fn.compactext4_DoorTimeToFs #[t0] w K :=
  cl_of_eq (T := Tb_compactext4_DoorTimeToFs) (args := [t0]) Try.func42 rfl follows_mixed (by kernel_rfl) (Nat.le_of_ble_eq_true (by kernel_rfl)) (by kernel_rfl) h

/-- pub-marram/impl.toTime -/
def F_impl_toTime (t0 : Value) (w : World) (K : Value → World → Prop) : Prop :=
 st P (oBox T.impl_Time t0) w fun t1 w1 =>
 st P (oAlloc T.compactext4_Time) w1 fun t2 w2 =>
 pu P (oFldA T.impl_Time t1 0) fun t3 =>
 st P (oLoad T.bool t3) w2 fun t4 w3 =>
 pu P (oFldA T.impl_Time t1 1) fun t5 =>
 st P (oLoad T.int64 t5) w3 fun t6 w4 =>
 pu P (oFldA T.impl_Time t1 2) fun t7 =>
 st P (oLoad T.int t7) w4 fun t8 w5 =>
 pu P (oBuild T.compactext4_Time #[(0, t4), (1, t6), (2, t8)]) fun t9 =>
 st P (oStore T.compactext4_Time t2 t9) w5 fun _ w6 =>
 rsl P T.compactext4_Time t2 w6 fun r1 =>
 K (tup [r1]) w6
def Tb_impl_toTime : Tab := { join := fun n => match n with | _ => [], loop := fun n => match n with | _ => [] }
theorem S_impl_toTime {t0 : Value} {w : World} {K : Value → World → Prop} (h : F_impl_toTime t0 w K) : Cl P Fn.impl_toTime #[t0] w K :=
  cl_of_eq (T := Tb_impl_toTime) (args := [t0]) Try.func43 rfl follows_mixed (by kernel_rfl) (Nat.le_of_ble_eq_true (by kernel_rfl)) (by kernel_rfl) h

/-- pub-marram/pub/hcsshim/ext4/inner/compactext4.DoorExtents -/
def F_compactext4_DoorExtents (t0 t1 t2 t3 : Value) (w : World) (K : Value → World → Prop) : Prop :=
 st P (oAlloc T.format_ExtentHeader) w fun t9 w1 =>
 st P (oMkSlice T.sl_format_ExtentLeafNode t0 t0) w1 fun t12 w2 =>
 st P (oCall Fn.compactext4_fillExtents #[t9, t12, t1, t2, t3]) w2 fun t17 w3 =>
 K (tup [t12]) w3
def Tb_compactext4_DoorExtents : Tab := { join := fun n => match n with | _ => [], loop := fun n => match n with | _ => [] }
theorem S_compactext4_DoorExtents {t0 t1 t2 t3 : Value} {w : World} {K : Value → World → Prop} (h : F_compactext4_DoorExtents t0 t1 t2 t3 w K) : Cl P Fn.compactext4_DoorExtents #[t0, t1, t2, t3] w K :=
  cl_of_eq (T := Tb_compactext4_DoorExtents) (args := [t0, t1, t2, t3]) Try.func44 rfl follows_mixed (by kernel_rfl) (Nat.le_of_ble_eq_true (by kernel_rfl)) (by kernel_rfl) h

/-- pub-marram/pub/hcsshim/ext4/inner/compactext4.DoorBest -/
def F_compactext4_DoorBest (t0 t1 : Value) (w : World) (K : Value → World → Prop) : Prop :=
 st P (oCall Fn.compactext4_bestGroupCount #[t0, t1]) w fun t8 w1 =>
 pu P (oExtract t8 0) fun t9 =>
 pu P (oExtract t8 1) fun t10 =>
 K (tup [t9, t10]) w1
def Tb_compactext4_DoorBest : Tab := { join := fun n => match n with | _ => [], loop := fun n => match n with | _ => [] }
theorem S_compactext4_DoorBest {t0 t1 : Value} {w : World} {K : Value → World → Prop} (h : F_compactext4_DoorBest t0 t1 w K) : Cl P Fn.compactext4_DoorBest #[t0, t1] w K :=
  cl_of_eq (T := Tb_compactext4_DoorBest) (args := [t0, t1]) Try.func45 rfl follows_mixed (by kernel_rfl) (Nat.le_of_ble_eq_true (by kernel_rfl)) (by kernel_rfl) h

/-- pub-marram/laws.zzFits16 -/
def F_laws_zzFits16 (t0 : Value) (w : World) (K : Value → World → Prop) : Prop :=
 st P (oBox T.impl_Entry t0) w fun t1 w1 =>
 jn (fun s1 u1 w2 =>
 jn (fun s2 u2 w3 =>
 K (tup [(.bool true)]) w3) fun k2 =>
 pu P (oFldA T.impl_Entry t1 3) fun t7 =>
 st P (oLoad T.sl_uint8 t7) w2 fun t8 w4 =>
 pu P (oBuiltin .len #[T.sl_uint8] T.int #[false] #[t8]) fun t9 =>
 pu P (oBin .gtr T.int false true t9 (.int .i64 2147483647)) fun t10 =>
 cd t10 (
 K (tup [(.bool false)]) w4) (
 k2 [] w4)) fun k1 =>
 pu P (oFldA T.impl_Entry t1 0) fun t3 =>
 st P (oLoad T.string t3) w1 fun t4 w5 =>
 pu P (oBuiltin .len #[T.string] T.int #[false] #[t4]) fun t5 =>
 pu P (oBin .gtr T.int false true t5 (.int .i64 2147483647)) fun t6 =>
 cd t6 (
 K (tup [(.bool false)]) w5) (
 k1 [] w5)
def Tb_laws_zzFits16 : Tab := { join := fun n => match n with | _ => [], loop := fun n => match n with | _ => [] }
theorem S_laws_zzFits16 {t0 : Value} {w : World} {K : Value → World → Prop} (h : F_laws_zzFits16 t0 w K) : Cl P Fn.laws_zzFits16 #[t0] w K :=
  cl_of_eq (T := Tb_laws_zzFits16) (args := [t0]) Try.func46 rfl follows_mixed (by kernel_rfl) (Nat.le_of_ble_eq_true (by kernel_rfl)) (by kernel_rfl) h

/-- pub-marram/spec.Rooted -/
def F_spec_Rooted (t0 : Value) (w : World) (K : Value → World → Prop) : Prop :=
 pu P (oBin .neq T.string false true t0 (S [])) fun t4 =>
 gd t4 true w (fun K1 => K1 t0 w) fun t6 w1 =>
 gd t4 true w1 (fun K2 => pu P (oIdx T.string t6 (.int .i64 0)) fun v => K2 v w1) fun t7 w2 =>
 gd t4 true w2 (fun K3 => pu P (oBin .eql T.uint8 false true t7 (.int .u8 47)) fun v => K3 v w2) fun t8 w3 =>
 pu P (oPick t4 t8 (.bool false)) fun t9 =>
 K (tup [t9]) w3
def Tb_spec_Rooted : Tab := { join := fun n => match n with | _ => [], loop := fun n => match n with | _ => [] }
theorem S_spec_Rooted {t0 : Value} {w : World} {K : Value → World → Prop} (h : F_spec_Rooted t0 w K) : Cl P Fn.spec_Rooted #[t0] w K :=
  cl_of_eq (T := Tb_spec_Rooted) (args := [t0]) Try.func47 rfl follows_mixed (by kernel_rfl) (Nat.le_of_ble_eq_true (by kernel_rfl)) (by kernel_rfl) h

/-- pub-marram/spec.MemBase -/
def F_spec_MemBase (t0 : Value) (w : World) (K : Value → World → Prop) : Prop :=
 jn (fun s1 u1 w1 =>
 K (tup [t0]) w1) fun k1 =>
 pu P (oBuiltin .len #[T.string] T.int #[false] #[t0]) fun t5 =>
 pu P (oBin .sub T.int false true t5 (.int .i64 1)) fun t6 =>
 lp [t6] w fun s2 u2 w2 C1 =>
 jn (fun s3 u3 w3 =>
 jn (fun s4 u4 w4 =>
 pu P (oBin .sub T.int false true (gs s2 0) (.int .i64 1)) fun t10 =>
 C1 [t10] w4) fun k3 =>
 pu P (oIdx T.string t0 (gs s2 0)) fun t13 =>
 pu P (oBin .eql T.uint8 false true t13 (.int .u8 47)) fun t14 =>
 cd t14 (
 pu P (oBin .add T.int false true (gs s2 0) (.int .i64 1)) fun t17 =>
 pu P (oSlice T.string t0 (some t17) none none) fun t18 =>
 K (tup [t18]) w3) (
 k3 [] w3)) fun k2 =>
 pu P (oBin .geq T.int false true (gs s2 0) (.int .i64 0)) fun t8 =>
 cd t8 (
 k2 [] w2) (
 k1 [] w2)
def Tb_spec_MemBase : Tab := { join := fun n => match n with | _ => [], loop := fun n => match n with | 2 => [3] | _ => [] }
theorem S_spec_MemBase {t0 : Value} {w : World} {K : Value → World → Prop} (h : F_spec_MemBase t0 w K) : Cl P Fn.spec_MemBase #[t0] w K :=
  cl_of_eq (T := Tb_spec_MemBase) (args := [t0]) Try.func48 rfl follows_mixed (by kernel_rfl) (Nat.le_of_ble_eq_true (by kernel_rfl)) (by kernel_rfl) h

/-- pub-marram/laws.hasName -/
def F_laws_hasName (t0 t1 : Value) (w : World) (K : Value → World → Prop) : Prop :=
 jn (fun s1 u1 w1 =>
 K (tup [(.bool false)]) w1) fun k1 =>
 pu P (oBuiltin .len #[T.sl_string] T.int #[false] #[t0]) fun t8 =>
 lp [(.int .i64 0)] w fun s2 u2 w2 C1 =>
 pu P (oBin .lss T.int false false (gs s2 0) t8) fun t10 =>
 jn (fun s3 u3 w3 =>
 jn (fun s4 u4 w4 =>
 pu P (oBin .add T.int false true (gs s2 0) (.int .i64 1)) fun t16 =>
 C1 [t16] w4) fun k3 =>
 pu P (oIdxA T.sl_string t0 (gs s2 0)) fun t11 =>
 st P (oLoad T.string t11) w3 fun t12 w5 =>
 pu P (oBin .eql T.string false false t12 t1) fun t15 =>
 cd t15 (
 K (tup [(.bool true)]) w5) (
 k3 [] w5)) fun k2 =>
 cd t10 (
 k2 [] w2) (
 k1 [] w2)
def Tb_laws_hasName : Tab := { join := fun n => match n with | _ => [], loop := fun n => match n with | 2 => [9] | _ => [] }
theorem S_laws_hasName {t0 t1 : Value} {w : World} {K : Value → World → Prop} (h : F_laws_hasName t0 t1 w K) : Cl P Fn.laws_hasName #[t0, t1] w K :=
  cl_of_eq (T := Tb_laws_hasName) (args := [t0, t1]) Try.func49 rfl follows_mixed (by kernel_rfl) (Nat.le_of_ble_eq_true (by kernel_rfl)) (by kernel_rfl) h

/-- pub-marram/pub/afero.DoorMerge -/
def F_afero_DoorMerge (t0 t1 : Value) (w : World) (K : Value → World → Prop) : Prop :=
 st P (oCall Fn.afero_defaultUnionMergeDirsFn #[t0, t1]) w fun t8 w1 =>
 pu P (oExtract t8 0) fun t9 =>
 pu P (oExtract t8 1) fun t10 =>
 K (tup [t9, t10]) w1
def Tb_afero_DoorMerge : Tab := { join := fun n => match n with | _ => [], loop := fun n => match n with | _ => [] }
theorem S_afero_DoorMerge {t0 t1 : Value} {w : World} {K : Value → World → Prop} (h : F_afero_DoorMerge t0 t1 w K) : Cl P Fn.afero_DoorMerge #[t0, t1] w K :=
  cl_of_eq (T := Tb_afero_DoorMerge) (args := [t0, t1]) Try.func50 rfl follows_mixed (by kernel_rfl) (Nat.le_of_ble_eq_true (by kernel_rfl)) (by kernel_rfl) h

/-- pub-marram/impl.infos -/
def F_impl_infos (t0 : Value) (w : World) (K : Value → World → Prop) : Prop :=
 jn (fun s1 u1 w1 =>
 K (tup [(gs s1 0)]) w1) fun k1 =>
 pu P (oBuiltin .len #[T.sl_impl_Entry] T.int #[false] #[t0]) fun t7 =>
 lp [(.slice none 0 0), (.int .i64 0)] w fun s2 u2 w2 C1 =>
 pu P (oBin .lss T.int false false (gs s2 1) t7) fun t9 =>
 jn (fun s3 u3 w3 =>
 pu P (oIdxA T.sl_impl_Entry t0 (gs s2 1)) fun t10 =>
 st P (oLoad T.impl_Entry t10) w3 fun t11 w4 =>
 st P (oAlloc T.impl_Entry) w4 fun t5 w5 =>
 st P (oStore T.impl_Entry t5 t11) w5 fun _ w6 =>
 pu P (oFldA T.impl_Entry t5 0) fun t13 =>
 rd P (oLoad T.string t13) w6.drew fun t14 =>
 pu P (oFldA T.impl_Entry t5 1) fun t15 =>
 rd P (oLoad T.int t15) w6.drew fun t16 =>
 pu P (oConv T.int T.uint32 t16) fun t17 =>
 pu P (oFldA T.impl_Entry t5 2) fun t18 =>
 rd P (oLoad T.bool t18) w6.drew fun t19 =>
 pu P (oFldA T.impl_Entry t5 3) fun t20 =>
 rd P (oLoad T.sl_uint8 t20) w6.drew fun t21 =>
 pu P (oFldA T.impl_Entry t5 4) fun t23 =>
 rd P (oLoad T.int64 t23) w6.drew fun t24 =>
 st P (oBuiltin .append #[T.sl_uint8, T.sl_uint8] T.sl_uint8 #[true, false] #[(.slice none 0 0), t21]) w6.drew fun t22 w7 =>
 hold P (oLoad T.int64 t23) t24 w7 ∧ hold P (oLoad T.bool t18) t19 w7 ∧ hold P (oLoad T.int t15) t16 w7 ∧ hold P (oLoad T.string t13) t14 w7 ∧ st P (oCall Fn.mem_DoorInfo #[t14, t17, t19, t22, t24]) w7 fun t25 w8 =>
 st P (oBuildSlice T.sl_p_mem_FileInfo 1 #[(0, t25)]) w8 fun t26 w9 =>
 st P (oBuiltin .append #[T.sl_p_mem_FileInfo, T.sl_p_mem_FileInfo] T.sl_p_mem_FileInfo #[false, false] #[(gs s2 0), t26]) w9 fun t27 w10 =>
 pu P (oBin .add T.int false true (gs s2 1) (.int .i64 1)) fun t28 =>
 C1 [t27, t28] w10) fun k2 =>
 cd t9 (
 k2 [] w2) (
 k1 [(gs s2 0)] w2)
def Tb_impl_infos : Tab := { join := fun n => match n with | 7 => [3] | _ => [], loop := fun n => match n with | 3 => [3, 8] | _ => [] }
theorem S_impl_infos {t0 : Value} {w : World} {K : Value → World → Prop} (h : F_impl_infos t0 w K) : Cl P Fn.impl_infos #[t0] w K :=
  cl_of_eq (T := Tb_impl_infos) (args := [t0]) Try.func51 rfl follows_mixed (by kernel_rfl) (Nat.le_of_ble_eq_true (by kernel_rfl)) (by kernel_rfl) h

/-- pub-marram/impl.fromInfos -/
def F_impl_fromInfos (t0 : Value) (w : World) (K : Value → World → Prop) : Prop :=
 jn (fun s1 u1 w1 =>
 K (tup [(gs s1 0)]) w1) fun k1 =>
 pu P (oBuiltin .len #[T.sl_p_mem_FileInfo] T.int #[false] #[t0]) fun t7 =>
 lp [(.slice none 0 0), (.int .i64 0)] w fun s2 u2 w2 C1 =>
 pu P (oBin .lss T.int false false (gs s2 1) t7) fun t9 =>
 jn (fun s3 u3 w3 =>
 pu P (oIdxA T.sl_p_mem_FileInfo t0 (gs s2 1)) fun t10 =>
 st P (oLoad T.p_mem_FileInfo t10) w3 fun t11 w4 =>
 st P (oCall Fn.impl_fromInfo #[t11]) w4 fun t14 w5 =>
 st P (oBuildSlice T.sl_impl_Info 1 #[(0, t14)]) w5 fun t15 w6 =>
 st P (oBuiltin .append #[T.sl_impl_Info, T.sl_impl_Info] T.sl_impl_Info #[false, false] #[(gs s2 0), t15]) w6 fun t16 w7 =>
 pu P (oBin .add T.int false true (gs s2 1) (.int .i64 1)) fun t17 =>
 C1 [t16, t17] w7) fun k2 =>
 cd t9 (
 k2 [] w2) (
 k1 [(gs s2 0)] w2)
def Tb_impl_fromInfos : Tab := { join := fun n => match n with | 7 => [3] | _ => [], loop := fun n => match n with | 3 => [3, 8] | _ => [] }
theorem S_impl_fromInfos {t0 : Value} {w : World} {K : Value → World → Prop} (h : F_impl_fromInfos t0 w K) : Cl P Fn.impl_fromInfos #[t0] w K :=
  cl_of_eq (T := Tb_impl_fromInfos) (args := [t0]) Try.func52 rfl follows_mixed (by kernel_rfl) (Nat.le_of_ble_eq_true (by kernel_rfl)) (by kernel_rfl) h

/-- pub-marram/pub/afero.DoorNormalize -/
def F_afero_DoorNormalize (t0 : Value) (w : World) (K : Value → World → Prop) : Prop :=
 st P (oCall Fn.afero_normalizePath #[t0]) w fun t4 w1 =>
 K (tup [t4]) w1
def Tb_afero_DoorNormalize : Tab := { join := fun n => match n with | _ => [], loop := fun n => match n with | _ => [] }
theorem S_afero_DoorNormalize {t0 : Value} {w : World} {K : Value → World → Prop} (h : F_afero_DoorNormalize t0 w K) : Cl P Fn.afero_DoorNormalize #[t0] w K :=
  cl_of_eq (T := Tb_afero_DoorNormalize) (args := [t0]) Try.func53 rfl follows_mixed (by kernel_rfl) (Nat.le_of_ble_eq_true (by kernel_rfl)) (by kernel_rfl) h

/-- pub-marram/pub/hcsshim/ext4/inner/compactext4.splitFirst -/
def F_compactext4_splitFirst (t0 : Value) (w : World) (K : Value → World → Prop) : Prop :=
 st P (oCall Fn.strings_IndexByte #[t0, (.int .u8 47)]) w fun t6 w1 =>
 jn (fun s1 u1 w2 =>
 K (tup [t0, (S [])]) w2) fun k1 =>
 pu P (oBin .geq T.int false true t6 (.int .i64 0)) fun t8 =>
 cd t8 (
 pu P (oSlice T.string t0 none (some t6) none) fun t11 =>
 pu P (oBin .add T.int false true t6 (.int .i64 1)) fun t14 =>
 pu P (oSlice T.string t0 (some t14) none none) fun t15 =>
 K (tup [t11, t15]) w1.drew) (
 k1 [] w1)
def Tb_compactext4_splitFirst : Tab := { join := fun n => match n with | _ => [], loop := fun n => match n with | _ => [] }
theorem S_compactext4_splitFirst {t0 : Value} {w : World} {K : Value → World → Prop} (h : F_compactext4_splitFirst t0 w K) : Cl P Fn.compactext4_splitFirst #[t0] w K :=
  cl_of_eq (T := Tb_compactext4_splitFirst) (args := [t0]) Try.func54 rfl follows_mixed (by kernel_rfl) (Nat.le_of_ble_eq_true (by kernel_rfl)) (by kernel_rfl) h

/-- pub-marram/pub/afero.hasMeta -/
def F_afero_hasMeta (t0 : Value) (w : World) (K : Value → World → Prop) : Prop :=
 st P (oCall Fn.afero_zzContainsAny #[t0, (S [42, 63, 91])]) w fun t4 w1 =>
 K (tup [t4]) w1
def Tb_afero_hasMeta : Tab := { join := fun n => match n with | _ => [], loop := fun n => match n with | _ => [] }
theorem S_afero_hasMeta {t0 : Value} {w : World} {K : Value → World → Prop} (h : F_afero_hasMeta t0 w K) : Cl P Fn.afero_hasMeta #[t0] w K :=
  cl_of_eq (T := Tb_afero_hasMeta) (args := [t0]) Try.func55 rfl follows_mixed (by kernel_rfl) (Nat.le_of_ble_eq_true (by kernel_rfl)) (by kernel_rfl) h

/-- pub-marram/pub/hcsshim/ext4/inner/compactext4.groupCount -/
def F_compactext4_groupCount (t0 t1 t2 : Value) (w : World) (K : Value → World → Prop) : Prop :=
 pu P (oBin .mul T.uint32 false true t2 (.int .u32 256)) fun t11 =>
 pu P (oBin .quo T.uint32 false true t11 (.int .u32 4096)) fun t12 =>
 pu P (oBin .sub T.uint32 true false (.int .u32 32768) t12) fun t14 =>
 pu P (oBin .sub T.uint32 false true t14 (.int .u32 2)) fun t15 =>
 pu P (oBin .sub T.uint32 false true t1 (.int .u32 1)) fun t17 =>
 pu P (oBin .quo T.uint32 false false t17 t2) fun t19 =>
 pu P (oBin .mul T.uint32 false false t19 t15) fun t21 =>
 pu P (oBin .add T.uint32 false true t21 (.int .u32 1)) fun t22 =>
 jn (fun s1 u1 w1 =>
 pu P (oBin .add T.uint32 false false (gs s1 0) t15) fun t29 =>
 pu P (oBin .sub T.uint32 false true t29 (.int .u32 1)) fun t30 =>
 pu P (oBin .quo T.uint32 false false t30 t15) fun t32 =>
 K (tup [t32]) w1) fun k1 =>
 pu P (oBin .lss T.uint32 false false t0 t22) fun t25 =>
 cd t25 (
 k1 [t22] w) (
 k1 [t0] w)
def Tb_compactext4_groupCount : Tab := { join := fun n => match n with | 6 => [0] | _ => [], loop := fun n => match n with | _ => [] }
theorem S_compactext4_groupCount {t0 t1 t2 : Value} {w : World} {K : Value → World → Prop} (h : F_compactext4_groupCount t0 t1 t2 w K) : Cl P Fn.compactext4_groupCount #[t0, t1, t2] w K :=
  cl_of_eq (T := Tb_compactext4_groupCount) (args := [t0, t1, t2]) Try.func56 rfl follows_mixed (by kernel_rfl) (Nat.le_of_ble_eq_true (by kernel_rfl)) (by kernel_rfl) h

/-- pub-marram/pub/hcsshim/ext4/inner/compactext4.hashXattrEntry -/
def F_compactext4_hashXattrEntry (t0 t1 : Value) (w : World) (K : Value → World → Prop) : Prop :=
 jn (fun s1 u1 w1 =>
 jn (fun s2 u2 w2 =>
 jn (fun s3 u3 w3 =>
 K (tup [(gs s3 0)]) w3) fun k3 =>
 pu P (oBuiltin .len #[T.sl_uint8] T.int #[false] #[t1]) fun t45 =>
 pu P (oBin .rem T.int false true t45 (.int .i64 4)) fun t46 =>
 pu P (oBin .neq T.int false true t46 (.int .i64 0)) fun t47 =>
 cd t47 (
 st P (oAlloc T.arr4_uint8) w2 fun t8 w4 =>
 pu P (oSlice T.arr4_uint8 t8 none none none) fun t48 =>
 pu P (oBuiltin .len #[T.sl_uint8] T.int #[false] #[t1]) fun t51 =>
 pu P (oBin .andNot T.int false true t51 (.int .i64 3)) fun t52 =>
 pu P (oSlice T.sl_uint8 t1 (some t52) none none) fun t53 =>
 st P (oBuiltin .copy #[T.sl_uint8, T.sl_uint8] T.int #[false, false] #[t48, t53]) w4.drew fun t54 w5 =>
 pu P (oBin .shl T.uint32 false true (gs s2 0) (.int .u64 16)) fun t56 =>
 pu P (oBin .shr T.uint32 false true (gs s2 0) (.int .u64 16)) fun t58 =>
 pu P (oBin .xor T.uint32 false false t56 t58) fun t59 =>
 pu P (oSlice T.arr4_uint8 t8 none none none) fun t60 =>
 st P (oCall Fn.compactext4_get32 #[t60]) w5 fun t61 w6 =>
 pu P (oBin .xor T.uint32 false false t59 t61) fun t62 =>
 k3 [t62] w6) (
 k3 [(gs s2 0)] w2)) fun k2 =>
 lp [(gs s1 0), (.int .i64 0)] w1 fun s4 u4 w7 C1 =>
 jn (fun s5 u5 w8 =>
 pu P (oBin .shl T.uint32 false true (gs s4 0) (.int .u64 16)) fun t33 =>
 pu P (oBin .shr T.uint32 false true (gs s4 0) (.int .u64 16)) fun t35 =>
 pu P (oBin .xor T.uint32 false false t33 t35) fun t36 =>
 pu P (oBin .add T.int false true (gs s4 1) (.int .i64 4)) fun t40 =>
 pu P (oSlice T.sl_uint8 t1 (some (gs s4 1)) (some t40) none) fun t41 =>
 st P (oCall Fn.compactext4_get32 #[t41]) w8 fun t42 w9 =>
 pu P (oBin .xor T.uint32 false false t36 t42) fun t43 =>
 pu P (oBin .add T.int false true (gs s4 1) (.int .i64 4)) fun t31 =>
 C1 [t43, t31] w9) fun k4 =>
 pu P (oBin .add T.int false true (gs s4 1) (.int .i64 3)) fun t26 =>
 pu P (oBuiltin .len #[T.sl_uint8] T.int #[false] #[t1]) fun t28 =>
 pu P (oBin .lss T.int false false t26 t28) fun t29 =>
 cd t29 (
 k4 [] w7) (
 k2 [(gs s4 0)] w7)) fun k1 =>
 lp [(.int .u32 0), (.int .i64 0)] w fun s6 u6 w10 C2 =>
 jn (fun s7 u7 w11 =>
 pu P (oBin .shl T.uint32 false true (gs s6 0) (.int .u64 5)) fun t16 =>
 pu P (oBin .shr T.uint32 false true (gs s6 0) (.int .u64 27)) fun t18 =>
 pu P (oBin .xor T.uint32 false false t16 t18) fun t19 =>
 pu P (oIdx T.string t0 (gs s6 1)) fun t22 =>
 pu P (oConv T.uint8 T.uint32 t22) fun t23 =>
 pu P (oBin .xor T.uint32 false false t19 t23) fun t24 =>
 pu P (oBin .add T.int false true (gs s6 1) (.int .i64 1)) fun t14 =>
 C2 [t24, t14] w11) fun k5 =>
 pu P (oBuiltin .len #[T.string] T.int #[false] #[t0]) fun t11 =>
 pu P (oBin .lss T.int false false (gs s6 1) t11) fun t12 =>
 cd t12 (
 k5 [] w10) (
 k1 [(gs s6 0)] w10)
def Tb_compactext4_hashXattrEntry : Tab := { join := fun n => match n with | 6 => [5] | 10 => [5] | 14 => [5] | _ => [], loop := fun n => match n with | 3 => [5, 6] | 7 => [5, 7] | _ => [] }
theorem S_compactext4_hashXattrEntry {t0 t1 : Value} {w : World} {K : Value → World → Prop} (h : F_compactext4_hashXattrEntry t0 t1 w K) : Cl P Fn.compactext4_hashXattrEntry #[t0, t1] w K :=
  cl_of_eq (T := Tb_compactext4_hashXattrEntry) (args := [t0, t1]) Try.func57 rfl follows_mixed (by kernel_rfl) (Nat.le_of_ble_eq_true (by kernel_rfl)) (by kernel_rfl) h

/-- pub-marram/spec.le -/
def F_spec_le (t0 t1 t2 : Value) (w : World) (K : Value → World → Prop) : Prop :=
 jn (fun s1 u1 w1 =>
 K (tup [(gs s1 0)]) w1) fun k1 =>
 lp [(.int .u64 0), t2] w fun s2 u2 w2 C1 =>
 jn (fun s3 u3 w3 =>
 jn (fun s4 u4 w4 =>
 pu P (oBin .sub T.uint64 false true (gs s2 1) (.int .u64 1)) fun t14 =>
 C1 [(gs s4 0), t14] w4) fun k3 =>
 pu P (oBin .shl T.uint64 false true (gs s2 0) (.int .u64 8)) fun t16 =>
 pu P (oBin .add T.uint64 false false t1 (gs s2 1)) fun t19 =>
 pu P (oBin .sub T.uint64 false true t19 (.int .u64 1)) fun t20 =>
 pu P (oBin .geq T.uint64 false false t20 t1) fun t23 =>
 gd t23 true w3 (fun K1 => K1 t20 w3) fun t25 w5 =>
 gd t23 true w5 (fun K2 => K2 t0 w5) fun t26 w6 =>
 gd t23 true w6 (fun K3 => pu P (oBuiltin .len #[T.sl_uint8] T.int #[false] #[t26]) fun v => K3 v w6) fun t27 w7 =>
 gd t23 true w7 (fun K4 => pu P (oConv T.int T.uint64 t27) fun v => K4 v w7) fun t28 w8 =>
 gd t23 true w8 (fun K5 => pu P (oBin .lss T.uint64 false false t25 t28) fun v => K5 v w8) fun t29 w9 =>
 pu P (oPick t23 t29 (.bool false)) fun t30 =>
 cd t30 (
 pu P (oIdxA T.sl_uint8 t0 t20) fun t34 =>
 st P (oLoad T.uint8 t34) w9 fun t35 w10 =>
 pu P (oConv T.uint8 T.uint64 t35) fun t36 =>
 pu P (oBin .or T.uint64 false false t16 t36) fun t37 =>
 k3 [t37] w10) (
 k3 [t16] w9)) fun k2 =>
 pu P (oBin .gtr T.uint64 false true (gs s2 1) (.int .u64 0)) fun t12 =>
 cd t12 (
 k2 [] w2) (
 k1 [(gs s2 0)] w2)
def Tb_spec_le : Tab := { join := fun n => match n with | 4 => [7] | 9 => [7] | _ => [], loop := fun n => match n with | 3 => [7, 8] | _ => [] }
theorem S_spec_le {t0 t1 t2 : Value} {w : World} {K : Value → World → Prop} (h : F_spec_le t0 t1 t2 w K) : Cl P Fn.spec_le #[t0, t1, t2] w K :=
  cl_of_eq (T := Tb_spec_le) (args := [t0, t1, t2]) Try.func58 rfl follows_mixed (by kernel_rfl) (Nat.le_of_ble_eq_true (by kernel_rfl)) (by kernel_rfl) h

/-- pub-marram/pub/hcsshim/ext4/inner/compactext4.fsTimeToTime -/
def F_compactext4_fsTimeToTime (t0 : Value) (w : World) (K : Value → World → Prop) : Prop :=
 st P (oAlloc T.compactext4_Time) w fun t2 w1 =>
 jn (fun s1 u1 w2 =>
 pu P (oBin .and T.uint64 false true t0 (.int .u64 17179869183)) fun t8 =>
 pu P (oConv T.uint64 T.int64 t8) fun t9 =>
 jn (fun s2 u2 w3 =>
 pu P (oBin .shr T.uint64 false true t0 (.int .u64 34)) fun t22 =>
 pu P (oConv T.uint64 T.int t22) fun t23 =>
 pu P (oBuild T.compactext4_Time #[(0, (.bool true)), (1, (gs s2 0)), (2, t23)]) fun t24 =>
 st P (oStore T.compactext4_Time t2 t24) w3 fun _ w4 =>
 rsl P T.compactext4_Time t2 w4 fun r1 =>
 K (tup [r1]) w4) fun k2 =>
 pu P (oBin .gtr T.int64 false true t9 (.int .i64 2147483647)) fun t11 =>
 gd t11 true w2 (fun K1 => K1 t9 w2) fun t13 w5 =>
 gd t11 true w5 (fun K2 => pu P (oBin .lss T.int64 false true t13 (.int .i64 4294967296)) fun v => K2 v w5) fun t14 w6 =>
 pu P (oPick t11 t14 (.bool false)) fun t15 =>
 cd t15 (
 pu P (oConv T.int64 T.uint32 t9) fun t17 =>
 pu P (oConv T.uint32 T.int32 t17) fun t18 =>
 pu P (oConv T.int32 T.int64 t18) fun t19 =>
 k2 [t19] w6) (
 k2 [t9] w6)) fun k1 =>
 pu P (oBin .eql T.uint64 false true t0 (.int .u64 0)) fun t5 =>
 cd t5 (
 pu P (oBuild T.compactext4_Time #[]) fun t6 =>
 st P (oStore T.compactext4_Time t2 t6) w1 fun _ w7 =>
 rsl P T.compactext4_Time t2 w7 fun r2 =>
 K (tup [r2]) w7) (
 k1 [] w1)
def Tb_compactext4_fsTimeToTime : Tab := { join := fun n => match n with | 6 => [3] | _ => [], loop := fun n => match n with | _ => [] }
theorem S_compactext4_fsTimeToTime {t0 : Value} {w : World} {K : Value → World → Prop} (h : F_compactext4_fsTimeToTime t0 w K) : Cl P Fn.compactext4_fsTimeToTime #[t0] w K :=
  cl_of_eq (T := Tb_compactext4_fsTimeToTime) (args := [t0]) Try.func59 rfl follows_mixed (by kernel_rfl) (Nat.le_of_ble_eq_true (by kernel_rfl)) (by kernel_rfl) h

/-- pub-marram/pub/hcsshim/ext4/inner/compactext4.timeToFsTime -/
def F_compactext4_timeToFsTime (t0 : Value) (w : World) (K : Value → World → Prop) : Prop :=
 st P (oBox T.compactext4_Time t0) w fun t1 w1 =>
 jn (fun s1 u1 w2 =>
 pu P (oFldA T.compactext4_Time t1 1) fun t7 =>
 st P (oLoad T.int64 t7) w2 fun t8 w3 =>
 jn (fun s2 u2 w4 =>
 jn (fun s3 u3 w5 =>
 pu P (oConv T.int64 T.uint64 t8) fun t14 =>
 pu P (oFldA T.compactext4_Time t1 2) fun t15 =>
 st P (oLoad T.int t15) w5 fun t16 w6 =>
 pu P (oConv T.int T.uint64 t16) fun t17 =>
 pu P (oBin .shl T.uint64 false true t17 (.int .u64 34)) fun t18 =>
 pu P (oBin .or T.uint64 false false t14 t18) fun t19 =>
 K (tup [t19]) w6) fun k3 =>
 pu P (oBin .gtr T.int64 false true t8 (.int .i64 15032385535)) fun t12 =>
 cd t12 (
 K (tup [(.int .u64 15032385535)]) w4) (
 k3 [] w4)) fun k2 =>
 pu P (oBin .lss T.int64 false true t8 (.int .i64 (-2147483648))) fun t10 =>
 cd t10 (
 K (tup [(.int .u64 2147483648)]) w3) (
 k2 [] w3)) fun k1 =>
 pu P (oFldA T.compactext4_Time t1 0) fun t4 =>
 st P (oLoad T.bool t4) w1 fun t5 w7 =>
 pu P (oUn .not t5) fun t6 =>
 cd t6 (
 K (tup [(.int .u64 0)]) w7) (
 k1 [] w7)
def Tb_compactext4_timeToFsTime : Tab := { join := fun n => match n with | _ => [], loop := fun n => match n with | _ => [] }
theorem S_compactext4_timeToFsTime {t0 : Value} {w : World} {K : Value → World → Prop} (h : F_compactext4_timeToFsTime t0 w K) : Cl P Fn.compactext4_timeToFsTime #[t0] w K :=
  cl_of_eq (T := Tb_compactext4_timeToFsTime) (args := [t0]) Try.func60 rfl follows_mixed (by kernel_rfl) (Nat.le_of_ble_eq_true (by kernel_rfl)) (by kernel_rfl) h

/-- pub-marram/pub/hcsshim/ext4/inner/compactext4.fillExtents -/
def F_compactext4_fillExtents (t0 t1 t2 t3 t4 : Value) (w : World) (K : Value → World → Prop) : Prop :=
 pu P (oBuiltin .len #[T.sl_format_ExtentLeafNode] T.int #[false] #[t1]) fun t16 =>
 pu P (oConv T.int T.uint16 t16) fun t17 =>
 pu P (oBuiltin .cap #[T.sl_format_ExtentLeafNode] T.int #[false] #[t1]) fun t19 =>
 pu P (oConv T.int T.uint16 t19) fun t20 =>
 pu P (oBuild T.format_ExtentHeader #[(0, (.int .u16 62218)), (1, t17), (2, t20), (3, (.int .u16 0))]) fun t21 =>
 pu P (oNil t0) fun t22 =>
 st P (oStore T.format_ExtentHeader t22 t21) w fun _ w1 =>
 pu P (oBuiltin .len #[T.sl_format_ExtentLeafNode] T.int #[false] #[t1]) fun t24 =>
 lp [(.int .i64 0)] w1 fun s1 u1 w2 C1 =>
 pu P (oBin .lss T.int false false (gs s1 0) t24) fun t26 =>
 jn (fun s2 u2 w3 =>
 jn (fun s3 u3 w4 =>
 pu P (oBin .add T.int false true (gs s1 0) (.int .i64 1)) fun t49 =>
 C1 [t49] w4) fun k2 =>
 pu P (oConv T.int T.uint32 (gs s1 0)) fun t30 =>
 pu P (oBin .mul T.uint32 false true t30 (.int .u32 32768)) fun t31 =>
 pu P (oBin .add T.uint32 false false t3 t31) fun t32 =>
 pu P (oBin .sub T.uint32 false false t4 t32) fun t35 =>
 jn (fun s4 u4 w5 =>
 pu P (oBin .add T.uint32 false false t2 t32) fun t40 =>
 pu P (oConv T.uint32 T.uint16 (gs s4 0)) fun t45 =>
 pu P (oBuild T.format_ExtentLeafNode #[(0, t32), (1, t45), (3, t40)]) fun t47 =>
 pu P (oIdxA T.sl_format_ExtentLeafNode t1 (gs s1 0)) fun t48 =>
 st P (oStore T.format_ExtentLeafNode t48 t47) w5 fun _ w6 =>
 k2 [] w6) fun k3 =>
 pu P (oBin .gtr T.uint32 false true t35 (.int .u32 32768)) fun t37 =>
 cd t37 (
 k3 [(.int .u32 32768)] w3) (
 k3 [t35] w3)) fun k1 =>
 cd t26 (
 k1 [] w2) (
 K (tup []) w2)
def Tb_compactext4_fillExtents : Tab := { join := fun n => match n with | 8 => [12] | _ => [], loop := fun n => match n with | 2 => [25] | _ => [] }
theorem S_compactext4_fillExtents {t0 t1 t2 t3 t4 : Value} {w : World} {K : Value → World → Prop} (h : F_compactext4_fillExtents t0 t1 t2 t3 t4 w K) : Cl P Fn.compactext4_fillExtents #[t0, t1, t2, t3, t4] w K :=
  cl_of_eq (T := Tb_compactext4_fillExtents) (args := [t0, t1, t2, t3, t4]) Try.func61 rfl follows_mixed (by kernel_rfl) (Nat.le_of_ble_eq_true (by kernel_rfl)) (by kernel_rfl) h

/-- pub-marram/pub/hcsshim/ext4/inner/compactext4.bestGroupCount -/
def F_compactext4_bestGroupCount (t0 t1 : Value) (w : World) (K : Value → World → Prop) : Prop :=
 jn (fun s1 u1 w1 =>
 K (tup [(gs s1 0), (gs s1 1)]) w1) fun k1 =>
 lp [(.int .u32 4294967295), (.int .u32 0), (.int .u32 16)] w fun s2 u2 w2 C1 =>
 jn (fun s3 u3 w3 =>
 jn (fun s4 u4 w4 =>
 pu P (oBin .add T.uint32 false true (gs s2 2) (.int .u32 16)) fun t11 =>
 C1 [(gs s4 0), (gs s4 1), t11] w4) fun k3 =>
 st P (oCall Fn.compactext4_groupCount #[t0, t1, (gs s2 2)]) w3 fun t15 w5 =>
 pu P (oBin .lss T.uint32 false false t15 (gs s2 0)) fun t18 =>
 cd t18 (
 k3 [t15, (gs s2 2)] w5) (
 k3 [(gs s2 0), (gs s2 1)] w5)) fun k2 =>
 pu P (oBin .leq T.uint32 false true (gs s2 2) (.int .u32 32768)) fun t9 =>
 cd t9 (
 k2 [] w2) (
 k1 [(gs s2 0), (gs s2 1)] w2)
def Tb_compactext4_bestGroupCount : Tab := { join := fun n => match n with | 4 => [4, 5] | 1000000 => [4, 5] | _ => [], loop := fun n => match n with | 3 => [4, 5, 6] | _ => [] }
theorem S_compactext4_bestGroupCount {t0 t1 : Value} {w : World} {K : Value → World → Prop} (h : F_compactext4_bestGroupCount t0 t1 w K) : Cl P Fn.compactext4_bestGroupCount #[t0, t1] w K :=
  cl_of_eq (T := Tb_compactext4_bestGroupCount) (args := [t0, t1]) Try.func62 rfl follows_mixed (by kernel_rfl) (Nat.le_of_ble_eq_true (by kernel_rfl)) (by kernel_rfl) h

/-- pub-marram/pub/afero.defaultUnionMergeDirsFn -/
def F_afero_defaultUnionMergeDirsFn (t0 t1 : Value) (w : World) (K : Value → World → Prop) : Prop :=
 st P (oMkMap T.map_string_p_mem_FileInfo none) w fun t18 w1 =>
 jn (fun s1 u1 w2 =>
 jn (fun s2 u2 w3 =>
 jn (fun s3 u3 w4 =>
 st P (oCall Fn.afero_zzSort #[(gs s3 0)]) w4 fun t61 w5 =>
 st P (oBuiltin .len #[T.map_string_p_mem_FileInfo] T.int #[false] #[t18]) w5 fun t63 w6 =>
 st P (oMkSlice T.sl_p_mem_FileInfo t63 t63) w6 fun t64 w7 =>
 jn (fun s4 u4 w8 =>
 K (tup [t64, .nilIface]) w8) fun k4 =>
 pu P (oBuiltin .len #[T.sl_string] T.int #[false] #[(gs s3 0)]) fun t66 =>
 lp [(.int .i64 0)] w7 fun s5 u5 w9 C1 =>
 pu P (oBin .lss T.int false false (gs s5 0) t66) fun t68 =>
 jn (fun s6 u6 w10 =>
 pu P (oIdxA T.sl_string (gs s3 0) (gs s5 0)) fun t70 =>
 st P (oLoad T.string t70) w10 fun t71 w11 =>
 st P (oLookup T.map_string_p_mem_FileInfo t18 t71 false) w11 fun t76 w12 =>
 pu P (oIdxA T.sl_p_mem_FileInfo t64 (gs s5 0)) fun t77 =>
 st P (oStore T.p_mem_FileInfo t77 t76) w12 fun _ w13 =>
 pu P (oBin .add T.int false true (gs s5 0) (.int .i64 1)) fun t78 =>
 C1 [t78] w13) fun k5 =>
 cd t68 (
 k5 [] w9) (
 k4 [] w9)) fun k3 =>
 st P (oRange T.map_string_p_mem_FileInfo t18) w3 fun t51 w14 =>
 lp [(.slice none 0 0)] w14 fun s7 u7 w15 C2 =>
 st P (oNext t51 false T.ty_2e38e77b) w15 fun t52 w16 =>
 pu P (oExtract t52 0) fun t53 =>
 jn (fun s8 u8 w17 =>
 st P (oEntry t51) w17 fun t54 w18 =>
 pu P (oExtract t54 0) fun t55 =>
 st P (oBuildSlice T.sl_string 1 #[(0, t55)]) w18 fun t58 w19 =>
 st P (oBuiltin .append #[T.sl_string, T.sl_string] T.sl_string #[false, false] #[(gs s7 0), t58]) w19 fun t59 w20 =>
 C2 [t59] w20) fun k6 =>
 cd t53 (
 k6 [] w16) (
 k3 [(gs s7 0)] w16)) fun k2 =>
 pu P (oBuiltin .len #[T.sl_p_mem_FileInfo] T.int #[false] #[t1]) fun t31 =>
 lp [(.int .i64 0)] w2 fun s9 u9 w21 C3 =>
 pu P (oBin .lss T.int false false (gs s9 0) t31) fun t33 =>
 jn (fun s10 u10 w22 =>
 jn (fun s11 u11 w23 =>
 pu P (oBin .add T.int false true (gs s9 0) (.int .i64 1)) fun t49 =>
 C3 [t49] w23) fun k8 =>
 pu P (oIdxA T.sl_p_mem_FileInfo t1 (gs s9 0)) fun t34 =>
 st P (oLoad T.p_mem_FileInfo t34) w22 fun t35 w24 =>
 st P (oCall Fn.mem_FileInfo_Name #[t35]) w24 fun t39 w25 =>
 st P (oLookup T.map_string_p_mem_FileInfo t18 t39 true) w25 fun t40 w26 =>
 pu P (oExtract t40 0) fun t41 =>
 pu P (oExtract t40 1) fun t42 =>
 pu P (oUn .not t42) fun t44 =>
 cd t44 (
 st P (oCall Fn.mem_FileInfo_Name #[t35]) w26 fun t47 w27 =>
 st P (oMapUp T.map_string_p_mem_FileInfo t18 t47 t35) w27 fun _ w28 =>
 k8 [] w28) (
 k8 [] w26)) fun k7 =>
 cd t33 (
 k7 [] w21) (
 k2 [] w21)) fun k1 =>
 pu P (oBuiltin .len #[T.sl_p_mem_FileInfo] T.int #[false] #[t0]) fun t20 =>
 lp [(.int .i64 0)] w1 fun s12 u12 w29 C4 =>
 pu P (oBin .lss T.int false false (gs s12 0) t20) fun t22 =>
 jn (fun s13 u13 w30 =>
 pu P (oIdxA T.sl_p_mem_FileInfo t0 (gs s12 0)) fun t23 =>
 st P (oLoad T.p_mem_FileInfo t23) w30 fun t24 w31 =>
 st P (oCall Fn.mem_FileInfo_Name #[t24]) w31 fun t27 w32 =>
 st P (oMapUp T.map_string_p_mem_FileInfo t18 t27 t24) w32 fun _ w33 =>
 pu P (oBin .add T.int false true (gs s12 0) (.int .i64 1)) fun t29 =>
 C4 [t29] w33) fun k9 =>
 cd t22 (
 k9 [] w29) (
 k1 [] w29)
def Tb_afero_defaultUnionMergeDirsFn : Tab := { join := fun n => match n with | 19 => [13] | _ => [], loop := fun n => match n with | 3 => [21] | 8 => [32] | 16 => [13] | 22 => [67] | _ => [] }
theorem S_afero_defaultUnionMergeDirsFn {t0 t1 : Value} {w : World} {K : Value → World → Prop} (h : F_afero_defaultUnionMergeDirsFn t0 t1 w K) : Cl P Fn.afero_defaultUnionMergeDirsFn #[t0, t1] w K :=
  cl_of_eq (T := Tb_afero_defaultUnionMergeDirsFn) (args := [t0, t1]) Try.func63 rfl follows_mixed (by kernel_rfl) (Nat.le_of_ble_eq_true (by kernel_rfl)) (by kernel_rfl) h

/-- pub-marram/pub/afero/mem.DoorInfo -/
def F_mem_DoorInfo (t0 t1 t2 t3 t4 : Value) (w : World) (K : Value → World → Prop) : Prop :=
 pu P (oBuild T.mem_FileData #[(0, t0), (4, t1), (3, t2), (1, t3), (5, t4)]) fun t16 =>
 st P (oBox T.mem_FileData t16) w fun t17 w1 =>
 pu P (oBuild T.mem_FileInfo #[(0, t17)]) fun t18 =>
 st P (oBox T.mem_FileInfo t18) w1 fun t19 w2 =>
 K (tup [t19]) w2
def Tb_mem_DoorInfo : Tab := { join := fun n => match n with | _ => [], loop := fun n => match n with | _ => [] }
theorem S_mem_DoorInfo {t0 t1 t2 t3 t4 : Value} {w : World} {K : Value → World → Prop} (h : F_mem_DoorInfo t0 t1 t2 t3 t4 w K) : Cl P Fn.mem_DoorInfo #[t0, t1, t2, t3, t4] w K :=
  cl_of_eq (T := Tb_mem_DoorInfo) (args := [t0, t1, t2, t3, t4]) Try.func64 rfl follows_mixed (by kernel_rfl) (Nat.le_of_ble_eq_true (by kernel_rfl)) (by kernel_rfl) h

/-- pub-marram/impl.fromInfo -/
def F_impl_fromInfo (t0 : Value) (w : World) (K : Value → World → Prop) : Prop :=
 st P (oAlloc T.impl_Info) w fun t2 w1 =>
 st P (oCall Fn.mem_FileInfo_Name #[t0]) w1 fun t4 w2 =>
 st P (oCall Fn.mem_FileInfo_Size #[t0]) w2 fun t6 w3 =>
 st P (oCall Fn.mem_FileInfo_Mode #[t0]) w3 fun t8 w4 =>
 pu P (oConv T.os_FileMode T.int t8) fun t9 =>
 st P (oCall Fn.mem_FileInfo_IsDir #[t0]) w4 fun t11 w5 =>
 st P (oCall Fn.mem_FileInfo_ModTime #[t0]) w5 fun t13 w6 =>
 pu P (oBuild T.impl_Info #[(0, t4), (1, t6), (2, t9), (3, t11), (4, t13)]) fun t14 =>
 st P (oStore T.impl_Info t2 t14) w6 fun _ w7 =>
 rsl P T.impl_Info t2 w7 fun r1 =>
 K (tup [r1]) w7
def Tb_impl_fromInfo : Tab := { join := fun n => match n with | _ => [], loop := fun n => match n with | _ => [] }
theorem S_impl_fromInfo {t0 : Value} {w : World} {K : Value → World → Prop} (h : F_impl_fromInfo t0 w K) : Cl P Fn.impl_fromInfo #[t0] w K :=
  cl_of_eq (T := Tb_impl_fromInfo) (args := [t0]) Try.func65 rfl follows_mixed (by kernel_rfl) (Nat.le_of_ble_eq_true (by kernel_rfl)) (by kernel_rfl) h

/-- pub-marram/pub/afero.normalizePath -/
def F_afero_normalizePath (t0 : Value) (w : World) (K : Value → World → Prop) : Prop :=
 st P (oCall Fn.path_Clean #[t0]) w fun t4 w1 =>
 pu P (oBin .eql T.string false true t4 (S [46])) fun t8 =>
 cd t8 (
 K (tup [(S [47])]) w1) (
 pu P (oBin .eql T.string false true t4 (S [46, 46])) fun t10 =>
 cd t10 (
 K (tup [(S [47])]) w1) (
 K (tup [t4]) w1))
def Tb_afero_normalizePath : Tab := { join := fun n => match n with | _ => [], loop := fun n => match n with | _ => [] }
theorem S_afero_normalizePath {t0 : Value} {w : World} {K : Value → World → Prop} (h : F_afero_normalizePath t0 w K) : Cl P Fn.afero_normalizePath #[t0] w K :=
  cl_of_eq (T := Tb_afero_normalizePath) (args := [t0]) Try.func66 rfl follows_mixed (by kernel_rfl) (Nat.le_of_ble_eq_true (by kernel_rfl)) (by kernel_rfl) h

/-- strings.IndexByte -/
def F_strings_IndexByte (t0 t1 : Value) (w : World) (K : Value → World → Prop) : Prop :=
 st P (oCall Fn.stringslite_IndexByte #[t0, t1]) w fun t7 w1 =>
 K (tup [t7]) w1
def Tb_strings_IndexByte : Tab := { join := fun n => match n with | _ => [], loop := fun n => match n with | _ => [] }
theorem S_strings_IndexByte {t0 t1 : Value} {w : World} {K : Value → World → Prop} (h : F_strings_IndexByte t0 t1 w K) : Cl P Fn.strings_IndexByte #[t0, t1] w K :=
  cl_of_eq (T := Tb_strings_IndexByte) (args := [t0, t1]) Try.func67 rfl follows_mixed (by kernel_rfl) (Nat.le_of_ble_eq_true (by kernel_rfl)) (by kernel_rfl) h

/-- pub-marram/pub/afero.zzContainsAny -/
def F_afero_zzContainsAny (t0 t1 : Value) (w : World) (K : Value → World → Prop) : Prop :=
 st P (oCall Fn.afero_zzIndexAny #[t0, t1]) w fun t7 w1 =>
 pu P (oBin .geq T.int false true t7 (.int .i64 0)) fun t8 =>
 K (tup [t8]) w1
def Tb_afero_zzContainsAny : Tab := { join := fun n => match n with | _ => [], loop := fun n => match n with | _ => [] }
theorem S_afero_zzContainsAny {t0 t1 : Value} {w : World} {K : Value → World → Prop} (h : F_afero_zzContainsAny t0 t1 w K) : Cl P Fn.afero_zzContainsAny #[t0, t1] w K :=
  cl_of_eq (T := Tb_afero_zzContainsAny) (args := [t0, t1]) Try.func68 rfl follows_mixed (by kernel_rfl) (Nat.le_of_ble_eq_true (by kernel_rfl)) (by kernel_rfl) h

/-- pub-marram/pub/hcsshim/ext4/inner/compactext4.get32 -/
def F_compactext4_get32 (t0 : Value) (w : World) (K : Value → World → Prop) : Prop :=
 pu P (oIdxA T.sl_uint8 t0 (.int .i64 0)) fun t4 =>
 rd P (oLoad T.uint8 t4) w.drew fun t5 =>
 pu P (oConv T.uint8 T.uint32 t5) fun t6 =>
 pu P (oIdxA T.sl_uint8 t0 (.int .i64 1)) fun t8 =>
 rd P (oLoad T.uint8 t8) w.drew fun t9 =>
 pu P (oConv T.uint8 T.uint32 t9) fun t10 =>
 pu P (oBin .shl T.uint32 false true t10 (.int .u64 8)) fun t11 =>
 pu P (oBin .or T.uint32 false false t6 t11) fun t12 =>
 pu P (oIdxA T.sl_uint8 t0 (.int .i64 2)) fun t14 =>
 rd P (oLoad T.uint8 t14) w.drew fun t15 =>
 pu P (oConv T.uint8 T.uint32 t15) fun t16 =>
 pu P (oBin .shl T.uint32 false true t16 (.int .u64 16)) fun t17 =>
 pu P (oBin .or T.uint32 false false t12 t17) fun t18 =>
 pu P (oIdxA T.sl_uint8 t0 (.int .i64 3)) fun t20 =>
 rd P (oLoad T.uint8 t20) w.drew fun t21 =>
 pu P (oConv T.uint8 T.uint32 t21) fun t22 =>
 pu P (oBin .shl T.uint32 false true t22 (.int .u64 24)) fun t23 =>
 pu P (oBin .or T.uint32 false false t18 t23) fun t24 =>
 K (tup [t24]) w.drew
def Tb_compactext4_get32 : Tab := { join := fun n => match n with | _ => [], loop := fun n => match n with | _ => [] }
theorem S_compactext4_get32 {t0 : Value} {w : World} {K : Value → World → Prop} (h : F_compactext4_get32 t0 w K) : Cl P Fn.compactext4_get32 #[t0] w K :=
  cl_of_eq (T := Tb_compactext4_get32) (args := [t0]) Try.func69 rfl follows_mixed (by kernel_rfl) (Nat.le_of_ble_eq_true (by kernel_rfl)) (by kernel_rfl) h

/-- (*pub-marram/pub/afero/mem.FileInfo).Name -/
def F_mem_FileInfo_Name (t0 : Value) (w : World) (K : Value → World → Prop) : Prop :=
 pu P (oNil t0) fun t7 =>
 pu P (oFldA T.mem_FileInfo t7 0) fun t8 =>
 st P (oLoad T.p_mem_FileData t8) w fun t9 w1 =>
 pu P (oNil t9) fun t10 =>
 pu P (oFldA T.mem_FileData t10 0) fun t11 =>
 st P (oLoad T.string t11) w1 fun t12 w2 =>
 st P (oCall Fn.path_Split #[t12]) w2 fun t13 w3 =>
 pu P (oExtract t13 0) fun t14 =>
 pu P (oExtract t13 1) fun t15 =>
 K (tup [t15]) w3
def Tb_mem_FileInfo_Name : Tab := { join := fun n => match n with | _ => [], loop := fun n => match n with | _ => [] }
theorem S_mem_FileInfo_Name {t0 : Value} {w : World} {K : Value → World → Prop} (h : F_mem_FileInfo_Name t0 w K) : Cl P Fn.mem_FileInfo_Name #[t0] w K :=
  cl_of_eq (T := Tb_mem_FileInfo_Name) (args := [t0]) Try.func70 rfl follows_mixed (by kernel_rfl) (Nat.le_of_ble_eq_true (by kernel_rfl)) (by kernel_rfl) h

/-- pub-marram/pub/afero.zzSort -/
def F_afero_zzSort (t0 : Value) (w : World) (K : Value → World → Prop) : Prop :=
 lp [(.int .i64 1)] w fun s1 u1 w1 C1 =>
 jn (fun s2 u2 w2 =>
 jn (fun s3 u3 w3 =>
 pu P (oBin .add T.int false true (gs s1 0) (.int .i64 1)) fun t9 =>
 C1 [t9] w3) fun k2 =>
 lp [(gs s1 0)] w2 fun s4 u4 w4 C2 =>
 jn (fun s5 u5 w5 =>
 pu P (oBin .sub T.int false true (gs s4 0) (.int .i64 1)) fun t31 =>
 pu P (oBin .sub T.int false true (gs s4 0) (.int .i64 1)) fun t34 =>
 pu P (oIdxA T.sl_string t0 t34) fun t35 =>
 rd P (oLoad T.string t35) w5.drew fun t36 =>
 pu P (oIdxA T.sl_string t0 (gs s4 0)) fun t39 =>
 rd P (oLoad T.string t39) w5.drew fun t40 =>
 pu P (oIdxA T.sl_string t0 (gs s4 0)) fun t41 =>
 st P (oStore T.string t41 t36) w5.drew fun _ w6 =>
 pu P (oIdxA T.sl_string t0 t31) fun t42 =>
 st P (oStore T.string t42 t40) w6 fun _ w7 =>
 pu P (oBin .sub T.int false true (gs s4 0) (.int .i64 1)) fun t26 =>
 C2 [t26] w7) fun k3 =>
 pu P (oBin .gtr T.int false true (gs s4 0) (.int .i64 0)) fun t12 =>
 gd t12 true w4.drew (fun K1 => K1 t0 w4.drew) fun t14 w8 =>
 gd t12 true w8 (fun K2 => K2 (gs s4 0) w8) fun t15 w9 =>
 gd t12 true w9 (fun K3 => pu P (oIdxA T.sl_string t14 t15) fun v => K3 v w9) fun t16 w10 =>
 gd t12 true w10 (fun K4 => rd P (oLoad T.string t16) w10 fun v => K4 v w10) fun t17 w11 =>
 gd t12 true w11 (fun K5 => K5 t0 w11) fun t18 w12 =>
 gd t12 true w12 (fun K6 => K6 (gs s4 0) w12) fun t19 w13 =>
 gd t12 true w13 (fun K7 => pu P (oBin .sub T.int false true t19 (.int .i64 1)) fun v => K7 v w13) fun t20 w14 =>
 gd t12 true w14 (fun K8 => pu P (oIdxA T.sl_string t18 t20) fun v => K8 v w14) fun t21 w15 =>
 gd t12 true w15 (fun K9 => rd P (oLoad T.string t21) w15 fun v => K9 v w15) fun t22 w16 =>
 gd t12 true w16 (fun K10 => pu P (oBin .lss T.string false false t17 t22) fun v => K10 v w16) fun t23 w17 =>
 pu P (oPick t12 t23 (.bool false)) fun t24 =>
 cd t24 (
 k3 [] w17) (
 k2 [] w17)) fun k1 =>
 pu P (oBuiltin .len #[T.sl_string] T.int #[false] #[t0]) fun t6 =>
 pu P (oBin .lss T.int false false (gs s1 0) t6) fun t7 =>
 cd t7 (
 k1 [] w1) (
 K (tup []) w1)
def Tb_afero_zzSort : Tab := { join := fun n => match n with | _ => [], loop := fun n => match n with | 1 => [2] | 4 => [3] | _ => [] }
theorem S_afero_zzSort {t0 : Value} {w : World} {K : Value → World → Prop} (h : F_afero_zzSort t0 w K) : Cl P Fn.afero_zzSort #[t0] w K :=
  cl_of_eq (T := Tb_afero_zzSort) (args := [t0]) Try.func71 rfl follows_mixed (by kernel_rfl) (Nat.le_of_ble_eq_true (by kernel_rfl)) (by kernel_rfl) h

/-- (*pub-marram/pub/afero/mem.FileInfo).Size -/
def F_mem_FileInfo_Size (t0 : Value) (w : World) (K : Value → World → Prop) : Prop :=
 jn (fun s1 u1 w1 =>
 pu P (oNil t0) fun t6 =>
 pu P (oFldA T.mem_FileInfo t6 0) fun t7 =>
 st P (oLoad T.p_mem_FileData t7) w1 fun t8 w2 =>
 pu P (oNil t8) fun t9 =>
 pu P (oFldA T.mem_FileData t9 1) fun t10 =>
 st P (oLoad T.sl_uint8 t10) w2 fun t11 w3 =>
 pu P (oBuiltin .len #[T.sl_uint8] T.int #[false] #[t11]) fun t12 =>
 K (tup [t12]) w3) fun k1 =>
 st P (oCall Fn.mem_FileInfo_IsDir #[t0]) w fun t4 w4 =>
 cd t4 (
 K (tup [(.int .i64 42)]) w4) (
 k1 [] w4)
def Tb_mem_FileInfo_Size : Tab := { join := fun n => match n with | _ => [], loop := fun n => match n with | _ => [] }
theorem S_mem_FileInfo_Size {t0 : Value} {w : World} {K : Value → World → Prop} (h : F_mem_FileInfo_Size t0 w K) : Cl P Fn.mem_FileInfo_Size #[t0] w K :=
  cl_of_eq (T := Tb_mem_FileInfo_Size) (args := [t0]) Try.func72 rfl follows_mixed (by kernel_rfl) (Nat.le_of_ble_eq_true (by kernel_rfl)) (by kernel_rfl) h

/-- (*pub-marram/pub/afero/mem.FileInfo).Mode -/
def F_mem_FileInfo_Mode (t0 : Value) (w : World) (K : Value → World → Prop) : Prop :=
 pu P (oNil t0) fun t4 =>
 pu P (oFldA T.mem_FileInfo t4 0) fun t5 =>
 st P (oLoad T.p_mem_FileData t5) w fun t6 w1 =>
 pu P (oNil t6) fun t7 =>
 pu P (oFldA T.mem_FileData t7 4) fun t8 =>
 st P (oLoad T.os_FileMode t8) w1 fun t9 w2 =>
 K (tup [t9]) w2
def Tb_mem_FileInfo_Mode : Tab := { join := fun n => match n with | _ => [], loop := fun n => match n with | _ => [] }
theorem S_mem_FileInfo_Mode {t0 : Value} {w : World} {K : Value → World → Prop} (h : F_mem_FileInfo_Mode t0 w K) : Cl P Fn.mem_FileInfo_Mode #[t0] w K :=
  cl_of_eq (T := Tb_mem_FileInfo_Mode) (args := [t0]) Try.func73 rfl follows_mixed (by kernel_rfl) (Nat.le_of_ble_eq_true (by kernel_rfl)) (by kernel_rfl) h

end Go.Proofs.Ytdilealdddbhnaa.X
