/- The functions' own texts over values, each held against the loaded code by the kernel. Laid by a program of this session. No condition. -/
import Derived.Test.YtfiepdikejoeeaaDoorXN
set_option linter.unusedVariables false
set_option maxRecDepth 100000
namespace Go.Proofs.YtfiepdikejoeeaaDoor.X
open Go Go.X Go.Proofs

def J_laws_FnFitAll_1 (K : Value → World → Prop) (s5 : List Value) (u5 : Env) (w6 : World) : Prop :=
 pu P (oBuiltin .len #[T.sl_impl_Xattr] T.int #[false] #[(gs s5 0)]) fun t114 =>
 pu P (oBin .eql T.int false true t114 (.int .i64 0)) fun t115 =>
 gd t115 true w6 (fun K1 => K1 (gs s5 1) w6) fun t117 w7 =>
 gd t115 true w7 (fun K2 => pu P (oBuiltin .len #[T.sl_impl_Xattr] T.int #[false] #[t117]) fun v => K2 v w7) fun t118 w8 =>
 gd t115 true w8 (fun K3 => pu P (oBin .eql T.int false true t118 (.int .i64 0)) fun v => K3 v w8) fun t119 w9 =>
 pu P (oPick t115 t119 (.bool false)) fun t120 =>
 K (tup [t120]) w9
def J_laws_FnFitAll_2 (s6 : List Value) (C1 : List Value → World → Prop) (s8 : List Value) (u8 : Env) (w12 : World) : Prop :=
 pu P (oBin .add T.int false true (gs s6 3) (.int .i64 1)) fun t112 =>
 C1 [(gs s8 0), (gs s8 1), (gs s8 2), t112] w12
def J_laws_FnFitAll_3 (s6 : List Value) (w35 : World) (t8 : Value) (t51 : Value) (k7 : List Value → World → Prop) (K : Value → World → Prop) : Prop :=
 pu P (oBuiltin .len #[T.sl_impl_Xattr] T.int #[false] #[(gs s6 1)]) fun t83 =>
 pu P (oBin .gtr T.int false true t83 (.int .i64 0)) fun t84 =>
 gd t84 true w35.drew (fun K20 => K20 (gs s6 1) w35.drew) fun t86 w36 =>
 gd t84 true w36 (fun K21 => pu P (oIdxA T.sl_impl_Xattr t86 (.int .i64 0)) fun v => K21 v w36) fun t87 w37 =>
 gd t84 true w37 (fun K22 => pu P (oFldA T.impl_Xattr t87 0) fun v => K22 v w37) fun t88 w38 =>
 gd t84 true w38 (fun K23 => rd P (oLoad T.string t88) w38 fun v => K23 v w38) fun t89 w39 =>
 gd t84 true w39 (fun K24 => pu P (oFldA T.impl_Xattr t8 0) fun v => K24 v w39) fun t90 w40 =>
 gd t84 true w40 (fun K25 => rd P (oLoad T.string t90) w40 fun v => K25 v w40) fun t91 w41 =>
 gd t84 true w41 (fun K26 => pu P (oBin .eql T.string false false t89 t91) fun v => K26 v w41) fun t92 w42 =>
 pu P (oPick t84 t92 (.bool false)) fun t93 =>
 gd t93 true w42 (fun K27 => K27 (gs s6 1) w42) fun t95 w43 =>
 gd t93 true w43 (fun K28 => pu P (oIdxA T.sl_impl_Xattr t95 (.int .i64 0)) fun v => K28 v w43) fun t96 w44 =>
 gd t93 true w44 (fun K29 => pu P (oFldA T.impl_Xattr t96 1) fun v => K29 v w44) fun t97 w45 =>
 gd t93 true w45 (fun K30 => rd P (oLoad T.sl_uint8 t97) w45 fun v => K30 v w45) fun t98 w46 =>
 gd t93 true w46 (fun K31 => rd P (oConv T.sl_uint8 T.string t98) w46 fun v => K31 v w46) fun t99 w47 =>
 gd t93 true w47 (fun K32 => pu P (oFldA T.impl_Xattr t8 1) fun v => K32 v w47) fun t100 w48 =>
 gd t93 true w48 (fun K33 => rd P (oLoad T.sl_uint8 t100) w48 fun v => K33 v w48) fun t101 w49 =>
 gd t93 true w49 (fun K34 => rd P (oConv T.sl_uint8 T.string t101) w49 fun v => K34 v w49) fun t102 w50 =>
 gd t93 true w50 (fun K35 => pu P (oBin .eql T.string false false t99 t102) fun v => K35 v w50) fun t103 w51 =>
 pu P (oPick t93 t103 (.bool false)) fun t104 =>
 gd t104 true w51 (fun K36 => K36 t51 w51) fun t106 w52 =>
 gd t104 true w52 (fun K37 => K37 (gs s6 2) w52) fun t107 w53 =>
 gd t104 true w53 (fun K38 => pu P (oBin .gtr T.int false false t106 t107) fun v => K38 v w53) fun t108 w54 =>
 pu P (oPick t104 t108 (.bool false)) fun t109 =>
 cd t109 (
 pu P (oSlice T.sl_impl_Xattr (gs s6 1) (some (.int .i64 1)) none none) fun t111 =>
 k7 [(gs s6 0), t111, (gs s6 2)] w54) (
 K (tup [(.bool false)]) w54)
def J_laws_FnFitAll_4 (s6 : List Value) (C1 : List Value → World → Prop) (t0 : Value) (K : Value → World → Prop) (s7 : List Value) (u7 : Env) (w11 : World) : Prop :=
 jn (J_laws_FnFitAll_2 s6 C1) fun k7 =>
 pu P (oIdxA T.sl_impl_Xattr t0 (gs s6 3)) fun t46 =>
 st P (oLoad T.impl_Xattr t46) w11 fun t47 w13 =>
 st P (oAlloc T.impl_Xattr) w13 fun t8 w14 =>
 st P (oStore T.impl_Xattr t8 t47) w14 fun _ w15 =>
 st P (oLoad T.impl_Xattr t8) w15 fun t48 w16 =>
 st P (oBuildSlice T.sl_impl_Xattr 1 #[(0, t48)]) w16 fun t49 w17 =>
 st P (oCall Fn.laws_attributes #[t49]) w17 fun t50 w18 =>
 st P (oCall Fn.spec_Rooms #[t50]) w18 fun t51 w19 =>
 pu P (oBuiltin .len #[T.sl_impl_Xattr] T.int #[false] #[(gs s6 0)]) fun t54 =>
 pu P (oBin .gtr T.int false true t54 (.int .i64 0)) fun t55 =>
 gd t55 true w19.drew (fun K4 => K4 (gs s6 0) w19.drew) fun t57 w20 =>
 gd t55 true w20 (fun K5 => pu P (oIdxA T.sl_impl_Xattr t57 (.int .i64 0)) fun v => K5 v w20) fun t58 w21 =>
 gd t55 true w21 (fun K6 => pu P (oFldA T.impl_Xattr t58 0) fun v => K6 v w21) fun t59 w22 =>
 gd t55 true w22 (fun K7 => rd P (oLoad T.string t59) w22 fun v => K7 v w22) fun t60 w23 =>
 gd t55 true w23 (fun K8 => pu P (oFldA T.impl_Xattr t8 0) fun v => K8 v w23) fun t61 w24 =>
 gd t55 true w24 (fun K9 => rd P (oLoad T.string t61) w24 fun v => K9 v w24) fun t62 w25 =>
 gd t55 true w25 (fun K10 => pu P (oBin .eql T.string false false t60 t62) fun v => K10 v w25) fun t63 w26 =>
 pu P (oPick t55 t63 (.bool false)) fun t64 =>
 gd t64 true w26 (fun K11 => K11 (gs s6 0) w26) fun t66 w27 =>
 gd t64 true w27 (fun K12 => pu P (oIdxA T.sl_impl_Xattr t66 (.int .i64 0)) fun v => K12 v w27) fun t67 w28 =>
 gd t64 true w28 (fun K13 => pu P (oFldA T.impl_Xattr t67 1) fun v => K13 v w28) fun t68 w29 =>
 gd t64 true w29 (fun K14 => rd P (oLoad T.sl_uint8 t68) w29 fun v => K14 v w29) fun t69 w30 =>
 gd t64 true w30 (fun K15 => rd P (oConv T.sl_uint8 T.string t69) w30 fun v => K15 v w30) fun t70 w31 =>
 gd t64 true w31 (fun K16 => pu P (oFldA T.impl_Xattr t8 1) fun v => K16 v w31) fun t71 w32 =>
 gd t64 true w32 (fun K17 => rd P (oLoad T.sl_uint8 t71) w32 fun v => K17 v w32) fun t72 w33 =>
 gd t64 true w33 (fun K18 => rd P (oConv T.sl_uint8 T.string t72) w33 fun v => K18 v w33) fun t73 w34 =>
 gd t64 true w34 (fun K19 => pu P (oBin .eql T.string false false t70 t73) fun v => K19 v w34) fun t74 w35 =>
 pu P (oPick t64 t74 (.bool false)) fun t75 =>
 cd t75 (
 pu P (oSlice T.sl_impl_Xattr (gs s6 0) (some (.int .i64 1)) none none) fun t77 =>
 pu P (oBin .sub T.int false false (gs s6 2) t51) fun t80 =>
 k7 [t77, (gs s6 1), t80] w35) (J_laws_FnFitAll_3 s6 w35 t8 t51 k7 K)
def J_laws_FnFitAll_5 (K : Value → World → Prop) (t0 : Value) (t19 : Value) (t20 : Value) (s4 : List Value) (u4 : Env) (w5 : World) : Prop :=
 jn (J_laws_FnFitAll_1 K) fun k5 =>
 pu P (oBuiltin .len #[T.sl_impl_Xattr] T.int #[false] #[t0]) fun t43 =>
 lp [t19, t20, (.int .i64 96), (.int .i64 0)] w5 fun s6 u6 w10 C1 =>
 pu P (oBin .lss T.int false false (gs s6 3) t43) fun t45 =>
 jn (J_laws_FnFitAll_4 s6 C1 t0 K) fun k6 =>
 cd t45 (
 k6 [] w10) (
 k5 [(gs s6 0), (gs s6 1)] w10)
def J_laws_FnFitAll_6 (K : Value → World → Prop) (t0 : Value) (t19 : Value) (t20 : Value) (s3 : List Value) (u3 : Env) (w4 : World) : Prop :=
 jn (J_laws_FnFitAll_5 K t0 t19 t20) fun k4 =>
 st P (oCall Fn.laws_attributes #[t19]) w4 fun t33 w55 =>
 st P (oCall Fn.spec_Rooms #[t33]) w55 fun t34 w56 =>
 pu P (oBin .gtr T.int false true t34 (.int .i64 96)) fun t35 =>
 gd t35 false w56 (fun K39 => K39 t20 w56) fun t37 w57 =>
 gd t35 false w57 (fun K40 => st P (oCall Fn.laws_attributes #[t37]) w57 K40) fun t38 w58 =>
 gd t35 false w58 (fun K41 => st P (oCall Fn.spec_Rooms #[t38]) w58 K41) fun t39 w59 =>
 gd t35 false w59 (fun K42 => pu P (oBin .gtr T.int false true t39 (.int .i64 4060)) fun v => K42 v w59) fun t40 w60 =>
 pu P (oPick t35 (.bool true) t40) fun t41 =>
 cd t41 (
 K (tup [(.bool false)]) w60) (
 k4 [] w60)
def J_laws_FnFitAll_7 (t19 : Value) (t20 : Value) (t0 : Value) (K : Value → World → Prop) (w3 : World) : Prop :=
 pu P (oBuiltin .len #[T.sl_impl_Xattr] T.int #[false] #[t19]) fun t25 =>
 pu P (oBuiltin .len #[T.sl_impl_Xattr] T.int #[false] #[t20]) fun t27 =>
 pu P (oBin .add T.int false false t25 t27) fun t28 =>
 pu P (oBuiltin .len #[T.sl_impl_Xattr] T.int #[false] #[t0]) fun t30 =>
 pu P (oBin .lss T.int false false t28 t30) fun t31 =>
 K (tup [t31]) w3
def J_laws_FnFitAll_8 (t0 : Value) (K : Value → World → Prop) (s2 : List Value) (u2 : Env) (w2 : World) : Prop :=
 st P (oCall Fn.impl_FitXattrs #[t0]) w2 fun t18 w3 =>
 pu P (oExtract t18 0) fun t19 =>
 pu P (oExtract t18 1) fun t20 =>
 pu P (oExtract t18 2) fun t21 =>
 jn (J_laws_FnFitAll_6 K t0 t19 t20) fun k3 =>
 pu P (oUn .not t21) fun t23 =>
 cd t23 (J_laws_FnFitAll_7 t19 t20 t0 K w3) (
 k3 [] w3)
def J_laws_FnFitAll_9 (t0 : Value) (K : Value → World → Prop) (s1 : List Value) (u1 : Env) (w1 : World) : Prop :=
 jn (J_laws_FnFitAll_8 t0 K) fun k2 =>
 st P (oCall Fn.laws_attributesFair #[t0]) w1 fun t14 w61 =>
 pu P (oUn .not t14) fun t15 =>
 cd t15 (
 K (tup [(.bool true)]) w61) (
 k2 [] w61)
/-- pub-marram/laws.FnFitAll -/
def F_laws_FnFitAll (t0 : Value) (w : World) (K : Value → World → Prop) : Prop :=
 jn (J_laws_FnFitAll_9 t0 K) fun k1 =>
 st P (oCall Fn.laws_zzFits7 #[t0]) w fun t11 w62 =>
 pu P (oUn .not t11) fun t12 =>
 cd t12 (
 K (tup [(.bool true)]) w62) (
 k1 [] w62)
def Tb_laws_FnFitAll : Tab := { join := fun n => match n with | 20 => [3, 4, 6] | 21 => [3, 4] | _ => [], loop := fun n => match n with | 12 => [3, 4, 6, 44] | _ => [] }
theorem S_laws_FnFitAll {t0 : Value} {w : World} {K : Value → World → Prop} (h : F_laws_FnFitAll t0 w K) : Cl P Fn.laws_FnFitAll #[t0] w K :=
  cl_of_eq (T := Tb_laws_FnFitAll) (args := [t0]) Tryd.func3 rfl follows_mixed (by kernel_rfl) (Nat.le_of_ble_eq_true (by kernel_rfl)) (by kernel_rfl) h

/-- pub-marram/laws.zzFits7 -/
def F_laws_zzFits7 (t0 : Value) (w : World) (K : Value → World → Prop) : Prop :=
 jn (fun s1 u1 w1 =>
 jn (fun s2 u2 w2 =>
 K (tup [(.bool true)]) w2) fun k2 =>
 pu P (oBuiltin .len #[T.sl_impl_Xattr] T.int #[false] #[t0]) fun t9 =>
 lp [(.int .i64 0)] w1 fun s3 u3 w3 C1 =>
 pu P (oBin .lss T.int false false (gs s3 0) t9) fun t11 =>
 jn (fun s4 u4 w4 =>
 jn (fun s5 u5 w5 =>
 pu P (oBin .add T.int false true (gs s3 0) (.int .i64 1)) fun t17 =>
 C1 [t17] w5) fun k4 =>
 pu P (oIdxA T.sl_impl_Xattr t0 (gs s3 0)) fun t12 =>
 st P (oLoad T.impl_Xattr t12) w4 fun t13 w6 =>
 st P (oAlloc T.impl_Xattr) w6 fun t4 w7 =>
 st P (oStore T.impl_Xattr t4 t13) w7 fun _ w8 =>
 st P (oLoad T.impl_Xattr t4) w8 fun t14 w9 =>
 st P (oCall Fn.laws_zzFits8 #[t14]) w9 fun t15 w10 =>
 pu P (oUn .not t15) fun t16 =>
 cd t16 (
 K (tup [(.bool false)]) w10) (
 k4 [] w10)) fun k3 =>
 cd t11 (
 k3 [] w3) (
 k2 [] w3)) fun k1 =>
 pu P (oBuiltin .len #[T.sl_impl_Xattr] T.int #[false] #[t0]) fun t6 =>
 pu P (oBin .gtr T.int false true t6 (.int .i64 2147483647)) fun t7 =>
 cd t7 (
 K (tup [(.bool false)]) w) (
 k1 [] w)
def Tb_laws_zzFits7 : Tab := { join := fun n => match n with | _ => [], loop := fun n => match n with | 4 => [10] | _ => [] }
theorem S_laws_zzFits7 {t0 : Value} {w : World} {K : Value → World → Prop} (h : F_laws_zzFits7 t0 w K) : Cl P Fn.laws_zzFits7 #[t0] w K :=
  cl_of_eq (T := Tb_laws_zzFits7) (args := [t0]) Tryd.func4 rfl follows_mixed (by kernel_rfl) (Nat.le_of_ble_eq_true (by kernel_rfl)) (by kernel_rfl) h

/-- pub-marram/laws.attributesFair -/
def F_laws_attributesFair (t0 : Value) (w : World) (K : Value → World → Prop) : Prop :=
 jn (fun s1 u1 w1 =>
 jn (fun s2 u2 w2 =>
 K (tup [(.bool true)]) w2) fun k2 =>
 pu P (oBuiltin .len #[T.sl_impl_Xattr] T.int #[false] #[t0]) fun t13 =>
 lp [(.int .i64 0)] w1 fun s3 u3 w3 C1 =>
 pu P (oBin .lss T.int false false (gs s3 0) t13) fun t15 =>
 jn (fun s4 u4 w4 =>
 jn (fun s5 u5 w5 =>
 pu P (oBin .add T.int false true (gs s3 0) (.int .i64 1)) fun t52 =>
 C1 [t52] w5) fun k4 =>
 pu P (oIdxA T.sl_impl_Xattr t0 (gs s3 0)) fun t17 =>
 st P (oLoad T.impl_Xattr t17) w4 fun t18 w6 =>
 st P (oAlloc T.impl_Xattr) w6 fun t4 w7 =>
 st P (oStore T.impl_Xattr t4 t18) w7 fun _ w8 =>
 pu P (oFldA T.impl_Xattr t4 0) fun t20 =>
 st P (oLoad T.string t20) w8 fun t21 w9 =>
 st P (oCall Fn.spec_Prefixed #[t21]) w9 fun t22 w10 =>
 pu P (oExtract t22 0) fun t23 =>
 pu P (oExtract t22 1) fun t24 =>
 jn (fun s6 u6 w11 =>
 pu P (oSlice T.sl_impl_Xattr t0 none (some (gs s3 0)) none) fun t40 =>
 pu P (oBuiltin .len #[T.sl_impl_Xattr] T.int #[false] #[t40]) fun t41 =>
 lp [(.int .i64 0)] w11 fun s7 u7 w12 C2 =>
 pu P (oBin .lss T.int false false (gs s7 0) t41) fun t43 =>
 jn (fun s8 u8 w13 =>
 jn (fun s9 u9 w14 =>
 pu P (oBin .add T.int false true (gs s7 0) (.int .i64 1)) fun t51 =>
 C2 [t51] w14) fun k7 =>
 pu P (oIdxA T.sl_impl_Xattr t40 (gs s7 0)) fun t44 =>
 st P (oLoad T.impl_Xattr t44) w13 fun t45 w15 =>
 st P (oAlloc T.impl_Xattr) w15 fun t8 w16 =>
 st P (oStore T.impl_Xattr t8 t45) w16 fun _ w17 =>
 pu P (oFldA T.impl_Xattr t4 0) fun t46 =>
 st P (oLoad T.string t46) w17 fun t47 w18 =>
 pu P (oFldA T.impl_Xattr t8 0) fun t48 =>
 st P (oLoad T.string t48) w18 fun t49 w19 =>
 pu P (oBin .eql T.string false false t47 t49) fun t50 =>
 cd t50 (
 K (tup [(.bool false)]) w19) (
 k7 [] w19)) fun k6 =>
 cd t43 (
 k6 [] w12) (
 k4 [] w12)) fun k5 =>
 pu P (oBin .eql T.string false true t24 (S [])) fun t26 =>
 gd t26 false w10 (fun K1 => K1 t24 w10) fun t28 w20 =>
 gd t26 false w20 (fun K2 => pu P (oBuiltin .len #[T.string] T.int #[false] #[t28]) fun v => K2 v w20) fun t29 w21 =>
 gd t26 false w21 (fun K3 => pu P (oBin .gtr T.int false true t29 (.int .i64 255)) fun v => K3 v w21) fun t30 w22 =>
 pu P (oPick t26 (.bool true) t30) fun t31 =>
 gd t31 false w22 (fun K4 => pu P (oFldA T.impl_Xattr t4 1) fun v => K4 v w22) fun t33 w23 =>
 gd t31 false w23 (fun K5 => st P (oLoad T.sl_uint8 t33) w23 K5) fun t34 w24 =>
 gd t31 false w24 (fun K6 => pu P (oBuiltin .len #[T.sl_uint8] T.int #[false] #[t34]) fun v => K6 v w24) fun t35 w25 =>
 gd t31 false w25 (fun K7 => pu P (oBin .gtr T.int false true t35 (.int .i64 4096)) fun v => K7 v w25) fun t36 w26 =>
 pu P (oPick t31 (.bool true) t36) fun t37 =>
 cd t37 (
 K (tup [(.bool false)]) w26) (
 k5 [] w26)) fun k3 =>
 cd t15 (
 k3 [] w3) (
 k2 [] w3)) fun k1 =>
 pu P (oBuiltin .len #[T.sl_impl_Xattr] T.int #[false] #[t0]) fun t10 =>
 pu P (oBin .gtr T.int false true t10 (.int .i64 40)) fun t11 =>
 cd t11 (
 K (tup [(.bool false)]) w) (
 k1 [] w)
def Tb_laws_attributesFair : Tab := { join := fun n => match n with | _ => [], loop := fun n => match n with | 4 => [14] | 10 => [42] | _ => [] }
theorem S_laws_attributesFair {t0 : Value} {w : World} {K : Value → World → Prop} (h : F_laws_attributesFair t0 w K) : Cl P Fn.laws_attributesFair #[t0] w K :=
  cl_of_eq (T := Tb_laws_attributesFair) (args := [t0]) Tryd.func5 rfl follows_mixed (by kernel_rfl) (Nat.le_of_ble_eq_true (by kernel_rfl)) (by kernel_rfl) h

/-- pub-marram/impl.FitXattrs -/
def F_impl_FitXattrs (t0 : Value) (w : World) (K : Value → World → Prop) : Prop :=
 st P (oCall Fn.impl_split #[t0]) w fun t16 w1 =>
 pu P (oExtract t16 0) fun t17 =>
 pu P (oExtract t16 1) fun t18 =>
 st P (oCall Fn.compactext4_DoorFit #[t17, t18]) w1 fun t22 w2 =>
 pu P (oExtract t22 0) fun t23 =>
 pu P (oExtract t22 1) fun t24 =>
 pu P (oExtract t22 2) fun t25 =>
 jn (fun s1 u1 w3 =>
 jn (fun s2 u2 w4 =>
 K (tup [(gs s1 0), (gs s2 0), t25]) w4) fun k2 =>
 pu P (oBuiltin .len #[T.sl_int] T.int #[false] #[t24]) fun t41 =>
 lp [(.slice none 0 0), (.int .i64 0)] w3 fun s3 u3 w5 C1 =>
 pu P (oBin .lss T.int false false (gs s3 1) t41) fun t43 =>
 jn (fun s4 u4 w6 =>
 pu P (oIdxA T.sl_int t24 (gs s3 1)) fun t44 =>
 st P (oLoad T.int t44) w6 fun t45 w7 =>
 pu P (oIdxA T.sl_impl_Xattr t0 t45) fun t49 =>
 st P (oLoad T.impl_Xattr t49) w7 fun t50 w8 =>
 st P (oBuildSlice T.sl_impl_Xattr 1 #[(0, t50)]) w8 fun t51 w9 =>
 st P (oBuiltin .append #[T.sl_impl_Xattr, T.sl_impl_Xattr] T.sl_impl_Xattr #[false, false] #[(gs s3 0), t51]) w9 fun t52 w10 =>
 pu P (oBin .add T.int false true (gs s3 1) (.int .i64 1)) fun t53 =>
 C1 [t52, t53] w10) fun k3 =>
 cd t43 (
 k3 [] w5) (
 k2 [(gs s3 0)] w5)) fun k1 =>
 pu P (oBuiltin .len #[T.sl_int] T.int #[false] #[t23]) fun t27 =>
 lp [(.slice none 0 0), (.int .i64 0)] w2 fun s5 u5 w11 C2 =>
 pu P (oBin .lss T.int false false (gs s5 1) t27) fun t29 =>
 jn (fun s6 u6 w12 =>
 pu P (oIdxA T.sl_int t23 (gs s5 1)) fun t30 =>
 st P (oLoad T.int t30) w12 fun t31 w13 =>
 pu P (oIdxA T.sl_impl_Xattr t0 t31) fun t35 =>
 st P (oLoad T.impl_Xattr t35) w13 fun t36 w14 =>
 st P (oBuildSlice T.sl_impl_Xattr 1 #[(0, t36)]) w14 fun t37 w15 =>
 st P (oBuiltin .append #[T.sl_impl_Xattr, T.sl_impl_Xattr] T.sl_impl_Xattr #[false, false] #[(gs s5 0), t37]) w15 fun t38 w16 =>
 pu P (oBin .add T.int false true (gs s5 1) (.int .i64 1)) fun t39 =>
 C2 [t38, t39] w16) fun k4 =>
 cd t29 (
 k4 [] w11) (
 k1 [(gs s5 0)] w11)
def Tb_impl_FitXattrs : Tab := { join := fun n => match n with | 8 => [2] | 13 => [3] | _ => [], loop := fun n => match n with | 4 => [2, 28] | 9 => [3, 42] | _ => [] }
theorem S_impl_FitXattrs {t0 : Value} {w : World} {K : Value → World → Prop} (h : F_impl_FitXattrs t0 w K) : Cl P Fn.impl_FitXattrs #[t0] w K :=
  cl_of_eq (T := Tb_impl_FitXattrs) (args := [t0]) Tryd.func6 rfl follows_mixed (by kernel_rfl) (Nat.le_of_ble_eq_true (by kernel_rfl)) (by kernel_rfl) h

/-- pub-marram/spec.Rooms -/
def F_spec_Rooms (t0 : Value) (w : World) (K : Value → World → Prop) : Prop :=
 jn (fun s1 u1 w1 =>
 K (tup [(gs s1 0)]) w1) fun k1 =>
 pu P (oBuiltin .len #[T.sl_spec_Xattr] T.int #[false] #[t0]) fun t7 =>
 lp [(.int .i64 0), (.int .i64 0)] w fun s2 u2 w2 C1 =>
 pu P (oBin .lss T.int false false (gs s2 1) t7) fun t9 =>
 jn (fun s3 u3 w3 =>
 pu P (oIdxA T.sl_spec_Xattr t0 (gs s2 1)) fun t10 =>
 st P (oLoad T.spec_Xattr t10) w3 fun t11 w4 =>
 st P (oAlloc T.spec_Xattr) w4 fun t5 w5 =>
 st P (oStore T.spec_Xattr t5 t11) w5 fun _ w6 =>
 st P (oLoad T.spec_Xattr t5) w6 fun t13 w7 =>
 st P (oCall Fn.spec_room #[t13]) w7 fun t14 w8 =>
 pu P (oBin .add T.int false false (gs s2 0) t14) fun t15 =>
 pu P (oBin .add T.int false true (gs s2 1) (.int .i64 1)) fun t16 =>
 C1 [t15, t16] w8) fun k2 =>
 cd t9 (
 k2 [] w2) (
 k1 [(gs s2 0)] w2)
def Tb_spec_Rooms : Tab := { join := fun n => match n with | 7 => [3] | _ => [], loop := fun n => match n with | 3 => [3, 8] | _ => [] }
theorem S_spec_Rooms {t0 : Value} {w : World} {K : Value → World → Prop} (h : F_spec_Rooms t0 w K) : Cl P Fn.spec_Rooms #[t0] w K :=
  cl_of_eq (T := Tb_spec_Rooms) (args := [t0]) Tryd.func7 rfl follows_mixed (by kernel_rfl) (Nat.le_of_ble_eq_true (by kernel_rfl)) (by kernel_rfl) h

/-- pub-marram/laws.attributes -/
def F_laws_attributes (t0 : Value) (w : World) (K : Value → World → Prop) : Prop :=
 jn (fun s1 u1 w1 =>
 K (tup [(gs s1 0)]) w1) fun k1 =>
 pu P (oBuiltin .len #[T.sl_impl_Xattr] T.int #[false] #[t0]) fun t7 =>
 lp [(.slice none 0 0), (.int .i64 0)] w fun s2 u2 w2 C1 =>
 pu P (oBin .lss T.int false false (gs s2 1) t7) fun t9 =>
 jn (fun s3 u3 w3 =>
 pu P (oIdxA T.sl_impl_Xattr t0 (gs s2 1)) fun t10 =>
 st P (oLoad T.impl_Xattr t10) w3 fun t11 w4 =>
 st P (oAlloc T.impl_Xattr) w4 fun t5 w5 =>
 st P (oStore T.impl_Xattr t5 t11) w5 fun _ w6 =>
 pu P (oFldA T.impl_Xattr t5 0) fun t13 =>
 st P (oLoad T.string t13) w6 fun t14 w7 =>
 pu P (oFldA T.impl_Xattr t5 1) fun t15 =>
 st P (oLoad T.sl_uint8 t15) w7 fun t16 w8 =>
 pu P (oBuild T.spec_Xattr #[(0, t14), (1, t16)]) fun t17 =>
 st P (oBuildSlice T.sl_spec_Xattr 1 #[(0, t17)]) w8 fun t18 w9 =>
 st P (oBuiltin .append #[T.sl_spec_Xattr, T.sl_spec_Xattr] T.sl_spec_Xattr #[false, false] #[(gs s2 0), t18]) w9 fun t19 w10 =>
 pu P (oBin .add T.int false true (gs s2 1) (.int .i64 1)) fun t20 =>
 C1 [t19, t20] w10) fun k2 =>
 cd t9 (
 k2 [] w2) (
 k1 [(gs s2 0)] w2)
def Tb_laws_attributes : Tab := { join := fun n => match n with | 7 => [3] | _ => [], loop := fun n => match n with | 3 => [3, 8] | _ => [] }
theorem S_laws_attributes {t0 : Value} {w : World} {K : Value → World → Prop} (h : F_laws_attributes t0 w K) : Cl P Fn.laws_attributes #[t0] w K :=
  cl_of_eq (T := Tb_laws_attributes) (args := [t0]) Tryd.func8 rfl follows_mixed (by kernel_rfl) (Nat.le_of_ble_eq_true (by kernel_rfl)) (by kernel_rfl) h

/-- pub-marram/laws.zzFits8 -/
def F_laws_zzFits8 (t0 : Value) (w : World) (K : Value → World → Prop) : Prop :=
 st P (oBox T.impl_Xattr t0) w fun t1 w1 =>
 jn (fun s1 u1 w2 =>
 jn (fun s2 u2 w3 =>
 K (tup [(.bool true)]) w3) fun k2 =>
 pu P (oFldA T.impl_Xattr t1 1) fun t7 =>
 st P (oLoad T.sl_uint8 t7) w2 fun t8 w4 =>
 pu P (oBuiltin .len #[T.sl_uint8] T.int #[false] #[t8]) fun t9 =>
 pu P (oBin .gtr T.int false true t9 (.int .i64 2147483647)) fun t10 =>
 cd t10 (
 K (tup [(.bool false)]) w4) (
 k2 [] w4)) fun k1 =>
 pu P (oFldA T.impl_Xattr t1 0) fun t3 =>
 st P (oLoad T.string t3) w1 fun t4 w5 =>
 pu P (oBuiltin .len #[T.string] T.int #[false] #[t4]) fun t5 =>
 pu P (oBin .gtr T.int false true t5 (.int .i64 2147483647)) fun t6 =>
 cd t6 (
 K (tup [(.bool false)]) w5) (
 k1 [] w5)
def Tb_laws_zzFits8 : Tab := { join := fun n => match n with | _ => [], loop := fun n => match n with | _ => [] }
theorem S_laws_zzFits8 {t0 : Value} {w : World} {K : Value → World → Prop} (h : F_laws_zzFits8 t0 w K) : Cl P Fn.laws_zzFits8 #[t0] w K :=
  cl_of_eq (T := Tb_laws_zzFits8) (args := [t0]) Tryd.func9 rfl follows_mixed (by kernel_rfl) (Nat.le_of_ble_eq_true (by kernel_rfl)) (by kernel_rfl) h

/-- pub-marram/spec.Prefixed -/
def F_spec_Prefixed (t0 : Value) (w : World) (K : Value → World → Prop) : Prop :=
 jn (fun s1 u1 w1 =>
 K (tup [(.int .u64 0), t0]) w1) fun k1 =>
 st P (oBuildSlice T.sl_uint64 7 #[(0, (.int .u64 2)), (1, (.int .u64 3)), (2, (.int .u64 8)), (3, (.int .u64 7)), (4, (.int .u64 1)), (5, (.int .u64 4)), (6, (.int .u64 6))]) w fun t8 w2 =>
 pu P (oBuiltin .len #[T.sl_uint64] T.int #[false] #[t8]) fun t9 =>
 lp [(.int .i64 0)] w2 fun s2 u2 w3 C1 =>
 pu P (oBin .lss T.int false false (gs s2 0) t9) fun t11 =>
 jn (fun s3 u3 w4 =>
 jn (fun s4 u4 w5 =>
 pu P (oBin .add T.int false true (gs s2 0) (.int .i64 1)) fun t27 =>
 C1 [t27] w5) fun k3 =>
 pu P (oIdxA T.sl_uint64 t8 (gs s2 0)) fun t12 =>
 st P (oLoad T.uint64 t12) w4 fun t13 w6 =>
 st P (oCall Fn.spec_prefix #[t13]) w6 fun t16 w7 =>
 pu P (oExtract t16 0) fun t17 =>
 pu P (oExtract t16 1) fun t18 =>
 st P (oCall Fn.spec_Begins #[t0, t17]) w7 fun t21 w8 =>
 cd t21 (
 pu P (oBuiltin .len #[T.string] T.int #[false] #[t17]) fun t25 =>
 pu P (oSlice T.string t0 (some t25) none none) fun t26 =>
 K (tup [t13, t26]) w8.drew) (
 k3 [] w8)) fun k2 =>
 cd t11 (
 k2 [] w3) (
 k1 [] w3)
def Tb_spec_Prefixed : Tab := { join := fun n => match n with | _ => [], loop := fun n => match n with | 2 => [10] | _ => [] }
theorem S_spec_Prefixed {t0 : Value} {w : World} {K : Value → World → Prop} (h : F_spec_Prefixed t0 w K) : Cl P Fn.spec_Prefixed #[t0] w K :=
  cl_of_eq (T := Tb_spec_Prefixed) (args := [t0]) Tryd.func10 rfl follows_mixed (by kernel_rfl) (Nat.le_of_ble_eq_true (by kernel_rfl)) (by kernel_rfl) h

/-- pub-marram/impl.split -/
def F_impl_split (t0 : Value) (w : World) (K : Value → World → Prop) : Prop :=
 jn (fun s1 u1 w1 =>
 K (tup [(gs s1 0), (gs s1 1)]) w1) fun k1 =>
 pu P (oBuiltin .len #[T.sl_impl_Xattr] T.int #[false] #[t0]) fun t9 =>
 lp [(.slice none 0 0), (.slice none 0 0), (.int .i64 0)] w fun s2 u2 w2 C1 =>
 pu P (oBin .lss T.int false false (gs s2 2) t9) fun t11 =>
 jn (fun s3 u3 w3 =>
 pu P (oIdxA T.sl_impl_Xattr t0 (gs s2 2)) fun t12 =>
 st P (oLoad T.impl_Xattr t12) w3 fun t13 w4 =>
 st P (oAlloc T.impl_Xattr) w4 fun t7 w5 =>
 st P (oStore T.impl_Xattr t7 t13) w5 fun _ w6 =>
 pu P (oFldA T.impl_Xattr t7 0) fun t15 =>
 st P (oLoad T.string t15) w6 fun t16 w7 =>
 st P (oBuildSlice T.sl_string 1 #[(0, t16)]) w7 fun t17 w8 =>
 st P (oBuiltin .append #[T.sl_string, T.sl_string] T.sl_string #[false, false] #[(gs s2 0), t17]) w8 fun t18 w9 =>
 pu P (oFldA T.impl_Xattr t7 1) fun t20 =>
 st P (oLoad T.sl_uint8 t20) w9 fun t21 w10 =>
 st P (oBuiltin .append #[T.sl_uint8, T.sl_uint8] T.sl_uint8 #[true, false] #[(.slice none 0 0), t21]) w10 fun t22 w11 =>
 st P (oBuildSlice T.sl_sl_uint8 1 #[(0, t22)]) w11 fun t23 w12 =>
 st P (oBuiltin .append #[T.sl_sl_uint8, T.sl_sl_uint8] T.sl_sl_uint8 #[false, false] #[(gs s2 1), t23]) w12 fun t24 w13 =>
 pu P (oBin .add T.int false true (gs s2 2) (.int .i64 1)) fun t25 =>
 C1 [t18, t24, t25] w13) fun k2 =>
 cd t11 (
 k2 [] w2) (
 k1 [(gs s2 0), (gs s2 1)] w2)
def Tb_impl_split : Tab := { join := fun n => match n with | 9 => [4, 5] | _ => [], loop := fun n => match n with | 4 => [4, 5, 10] | _ => [] }
theorem S_impl_split {t0 : Value} {w : World} {K : Value → World → Prop} (h : F_impl_split t0 w K) : Cl P Fn.impl_split #[t0] w K :=
  cl_of_eq (T := Tb_impl_split) (args := [t0]) Tryd.func11 rfl follows_mixed (by kernel_rfl) (Nat.le_of_ble_eq_true (by kernel_rfl)) (by kernel_rfl) h

/-- pub-marram/pub/hcsshim/ext4/inner/compactext4.DoorFit -/
def F_compactext4_DoorFit (t0 t1 : Value) (w : World) (K : Value → World → Prop) : Prop :=
 st P (oAlloc T.compactext4_xattrState) w fun t7 w1 =>
 st P (oCall Fn.compactext4_xattrState_init #[t7]) w1 fun t11 w2 =>
 jn (fun s1 u1 w3 =>
 K (tup [(gs s1 0), (gs s1 1), (.bool true)]) w3) fun k1 =>
 pu P (oBuiltin .len #[T.sl_string] T.int #[false] #[t0]) fun t13 =>
 lp [(.slice none 0 0), (.slice none 0 0), (.int .i64 0)] w2 fun s2 u2 w4 C1 =>
 pu P (oBin .lss T.int false false (gs s2 2) t13) fun t15 =>
 jn (fun s3 u3 w5 =>
 jn (fun s4 u4 w6 =>
 pu P (oBin .add T.int false true (gs s2 2) (.int .i64 1)) fun t44 =>
 C1 [(gs s4 0), (gs s4 1), t44] w6) fun k3 =>
 pu P (oIdxA T.sl_string t0 (gs s2 2)) fun t17 =>
 st P (oLoad T.string t17) w5 fun t18 w7 =>
 pu P (oFldA T.compactext4_xattrState t7 0) fun t19 =>
 st P (oLoad T.sl_compactext4_xattr t19) w7 fun t20 w8 =>
 pu P (oBuiltin .len #[T.sl_compactext4_xattr] T.int #[false] #[t20]) fun t21 =>
 jn (fun s5 u5 w9 =>
 pu P (oFldA T.compactext4_xattrState t7 0) fun t31 =>
 st P (oLoad T.sl_compactext4_xattr t31) w9 fun t32 w10 =>
 pu P (oBuiltin .len #[T.sl_compactext4_xattr] T.int #[false] #[t32]) fun t33 =>
 pu P (oBin .gtr T.int false false t33 t21) fun t35 =>
 cd t35 (
 st P (oBuildSlice T.sl_int 1 #[(0, (gs s2 2))]) w10 fun t38 w11 =>
 st P (oBuiltin .append #[T.sl_int, T.sl_int] T.sl_int #[false, false] #[(gs s5 0), t38]) w11 fun t39 w12 =>
 k3 [t39, (gs s5 1)] w12) (
 st P (oBuildSlice T.sl_int 1 #[(0, (gs s2 2))]) w10 fun t42 w13 =>
 st P (oBuiltin .append #[T.sl_int, T.sl_int] T.sl_int #[false, false] #[(gs s5 1), t42]) w13 fun t43 w14 =>
 k3 [(gs s5 0), t43] w14)) fun k4 =>
 pu P (oIdxA T.sl_sl_uint8 t1 (gs s2 2)) fun t25 =>
 st P (oLoad T.sl_uint8 t25) w8 fun t26 w15 =>
 st P (oCall Fn.compactext4_xattrState_addXattr #[t7, t18, t26]) w15 fun t27 w16 =>
 pu P (oUn .not t27) fun t28 =>
 cd t28 (
 K (tup [(gs s2 0), (gs s2 1), (.bool false)]) w16) (
 k4 [(gs s2 0), (gs s2 1)] w16)) fun k2 =>
 cd t15 (
 k2 [] w4) (
 k1 [(gs s2 0), (gs s2 1)] w4)
def Tb_compactext4_DoorFit : Tab := { join := fun n => match n with | 9 => [4, 5] | 12 => [4, 5] | 13 => [4, 5] | _ => [], loop := fun n => match n with | 4 => [4, 5, 14] | _ => [] }
theorem S_compactext4_DoorFit {t0 t1 : Value} {w : World} {K : Value → World → Prop} (h : F_compactext4_DoorFit t0 t1 w K) : Cl P Fn.compactext4_DoorFit #[t0, t1] w K :=
  cl_of_eq (T := Tb_compactext4_DoorFit) (args := [t0, t1]) Tryd.func12 rfl follows_mixed (by kernel_rfl) (Nat.le_of_ble_eq_true (by kernel_rfl)) (by kernel_rfl) h

/-- pub-marram/spec.room -/
def F_spec_room (t0 : Value) (w : World) (K : Value → World → Prop) : Prop :=
 st P (oBox T.spec_Xattr t0) w fun t1 w1 =>
 pu P (oFldA T.spec_Xattr t1 0) fun t6 =>
 st P (oLoad T.string t6) w1 fun t7 w2 =>
 st P (oCall Fn.spec_Prefixed #[t7]) w2 fun t8 w3 =>
 pu P (oExtract t8 0) fun t9 =>
 pu P (oExtract t8 1) fun t10 =>
 pu P (oBuiltin .len #[T.string] T.int #[false] #[t10]) fun t12 =>
 pu P (oBin .add T.int false true t12 (.int .i64 3)) fun t13 =>
 pu P (oBin .quo T.int false true t13 (.int .i64 4)) fun t14 =>
 pu P (oBin .mul T.int false true t14 (.int .i64 4)) fun t15 =>
 pu P (oBin .add T.int true false (.int .i64 16) t15) fun t16 =>
 pu P (oFldA T.spec_Xattr t1 1) fun t17 =>
 st P (oLoad T.sl_uint8 t17) w3 fun t18 w4 =>
 pu P (oBuiltin .len #[T.sl_uint8] T.int #[false] #[t18]) fun t19 =>
 pu P (oBin .add T.int false true t19 (.int .i64 3)) fun t20 =>
 pu P (oBin .quo T.int false true t20 (.int .i64 4)) fun t21 =>
 pu P (oBin .mul T.int false true t21 (.int .i64 4)) fun t22 =>
 pu P (oBin .add T.int false false t16 t22) fun t23 =>
 K (tup [t23]) w4
def Tb_spec_room : Tab := { join := fun n => match n with | _ => [], loop := fun n => match n with | _ => [] }
theorem S_spec_room {t0 : Value} {w : World} {K : Value → World → Prop} (h : F_spec_room t0 w K) : Cl P Fn.spec_room #[t0] w K :=
  cl_of_eq (T := Tb_spec_room) (args := [t0]) Tryd.func13 rfl follows_mixed (by kernel_rfl) (Nat.le_of_ble_eq_true (by kernel_rfl)) (by kernel_rfl) h

/-- pub-marram/spec.prefix -/
def F_spec_prefix (t0 : Value) (w : World) (K : Value → World → Prop) : Prop :=
 jn (fun s1 u1 w1 =>
 K (tup [(S []), (.bool false)]) w1) fun k1 =>
 pu P (oBin .eql T.uint64 false true t0 (.int .u64 0)) fun t6 =>
 cd t6 (
 K (tup [(S []), (.bool true)]) w) (
 pu P (oBin .eql T.uint64 false true t0 (.int .u64 1)) fun t8 =>
 cd t8 (
 K (tup [(S [117, 115, 101, 114, 46]), (.bool true)]) w) (
 pu P (oBin .eql T.uint64 false true t0 (.int .u64 2)) fun t10 =>
 cd t10 (
 K (tup [(S [115, 121, 115, 116, 101, 109, 46, 112, 111, 115, 105, 120, 95, 97, 99, 108, 95, 97, 99, 99, 101, 115, 115]), (.bool true)]) w) (
 pu P (oBin .eql T.uint64 false true t0 (.int .u64 3)) fun t12 =>
 cd t12 (
 K (tup [(S [115, 121, 115, 116, 101, 109, 46, 112, 111, 115, 105, 120, 95, 97, 99, 108, 95, 100, 101, 102, 97, 117, 108, 116]), (.bool true)]) w) (
 pu P (oBin .eql T.uint64 false true t0 (.int .u64 4)) fun t14 =>
 cd t14 (
 K (tup [(S [116, 114, 117, 115, 116, 101, 100, 46]), (.bool true)]) w) (
 pu P (oBin .eql T.uint64 false true t0 (.int .u64 6)) fun t16 =>
 cd t16 (
 K (tup [(S [115, 101, 99, 117, 114, 105, 116, 121, 46]), (.bool true)]) w) (
 pu P (oBin .eql T.uint64 false true t0 (.int .u64 7)) fun t18 =>
 cd t18 (
 K (tup [(S [115, 121, 115, 116, 101, 109, 46]), (.bool true)]) w) (
 pu P (oBin .eql T.uint64 false true t0 (.int .u64 8)) fun t20 =>
 cd t20 (
 K (tup [(S [115, 121, 115, 116, 101, 109, 46, 114, 105, 99, 104, 97, 99, 108]), (.bool true)]) w) (
 k1 [] w))))))))
def Tb_spec_prefix : Tab := { join := fun n => match n with | _ => [], loop := fun n => match n with | _ => [] }
theorem S_spec_prefix {t0 : Value} {w : World} {K : Value → World → Prop} (h : F_spec_prefix t0 w K) : Cl P Fn.spec_prefix #[t0] w K :=
  cl_of_eq (T := Tb_spec_prefix) (args := [t0]) Tryd.func14 rfl follows_mixed (by kernel_rfl) (Nat.le_of_ble_eq_true (by kernel_rfl)) (by kernel_rfl) h

/-- pub-marram/spec.Begins -/
def F_spec_Begins (t0 t1 : Value) (w : World) (K : Value → World → Prop) : Prop :=
 pu P (oBuiltin .len #[T.string] T.int #[false] #[t0]) fun t6 =>
 pu P (oBuiltin .len #[T.string] T.int #[false] #[t1]) fun t8 =>
 pu P (oBin .geq T.int false false t6 t8) fun t9 =>
 gd t9 true w (fun K1 => K1 t0 w) fun t11 w1 =>
 gd t9 true w1 (fun K2 => K2 t1 w1) fun t12 w2 =>
 gd t9 true w2 (fun K3 => pu P (oBuiltin .len #[T.string] T.int #[false] #[t12]) fun v => K3 v w2) fun t13 w3 =>
 gd t9 true w3 (fun K4 => pu P (oSlice T.string t11 none (some t13) none) fun v => K4 v w3) fun t14 w4 =>
 gd t9 true w4 (fun K5 => K5 t1 w4) fun t15 w5 =>
 gd t9 true w5 (fun K6 => pu P (oBin .eql T.string false false t14 t15) fun v => K6 v w5) fun t16 w6 =>
 pu P (oPick t9 t16 (.bool false)) fun t17 =>
 K (tup [t17]) w6
def Tb_spec_Begins : Tab := { join := fun n => match n with | _ => [], loop := fun n => match n with | _ => [] }
theorem S_spec_Begins {t0 t1 : Value} {w : World} {K : Value → World → Prop} (h : F_spec_Begins t0 t1 w K) : Cl P Fn.spec_Begins #[t0, t1] w K :=
  cl_of_eq (T := Tb_spec_Begins) (args := [t0, t1]) Tryd.func15 rfl follows_mixed (by kernel_rfl) (Nat.le_of_ble_eq_true (by kernel_rfl)) (by kernel_rfl) h

/-- (*pub-marram/pub/hcsshim/ext4/inner/compactext4.xattrState).init -/
def F_compactext4_xattrState_init (t0 : Value) (w : World) (K : Value → World → Prop) : Prop :=
 pu P (oNil t0) fun t3 =>
 pu P (oFldA T.compactext4_xattrState t3 2) fun t4 =>
 st P (oStore T.int t4 (.int .i64 96)) w fun _ w1 =>
 pu P (oNil t0) fun t6 =>
 pu P (oFldA T.compactext4_xattrState t6 3) fun t7 =>
 st P (oStore T.int t7 (.int .i64 4060)) w1 fun _ w2 =>
 K (tup []) w2
def Tb_compactext4_xattrState_init : Tab := { join := fun n => match n with | _ => [], loop := fun n => match n with | _ => [] }
theorem S_compactext4_xattrState_init {t0 : Value} {w : World} {K : Value → World → Prop} (h : F_compactext4_xattrState_init t0 w K) : Cl P Fn.compactext4_xattrState_init #[t0] w K :=
  cl_of_eq (T := Tb_compactext4_xattrState_init) (args := [t0]) Tryd.func16 rfl follows_mixed (by kernel_rfl) (Nat.le_of_ble_eq_true (by kernel_rfl)) (by kernel_rfl) h

def J_compactext4_xattrState_addXattr_1 (K : Value → World → Prop) (s1 : List Value) (u1 : Env) (w6 : World) : Prop :=
 K (tup [(.bool true)]) w6
def J_compactext4_xattrState_addXattr_2 (t0 : Value) (w7 : World) (t8 : Value) (t21 : Value) (k1 : List Value → World → Prop) : Prop :=
 pu P (oNil t0) fun t30 =>
 pu P (oFldA T.compactext4_xattrState t30 0) fun t31 =>
 rd P (oLoad T.sl_compactext4_xattr t31) w7.drew fun t32 =>
 rd P (oLoad T.compactext4_xattr t8) w7.drew fun t33 =>
 st P (oBuildSlice T.sl_compactext4_xattr 1 #[(0, t33)]) w7.drew fun t34 w8 =>
 hold P (oLoad T.sl_compactext4_xattr t31) t32 w8 ∧ st P (oBuiltin .append #[T.sl_compactext4_xattr, T.sl_compactext4_xattr] T.sl_compactext4_xattr #[false, false] #[t32, t34]) w8 fun t35 w9 =>
 pu P (oNil t0) fun t36 =>
 pu P (oFldA T.compactext4_xattrState t36 0) fun t37 =>
 st P (oStore T.sl_compactext4_xattr t37 t35) w9 fun _ w10 =>
 pu P (oNil t0) fun t39 =>
 pu P (oFldA T.compactext4_xattrState t39 2) fun t40 =>
 st P (oLoad T.int t40) w10 fun t41 w11 =>
 pu P (oBin .sub T.int false false t41 t21) fun t43 =>
 pu P (oNil t0) fun t44 =>
 pu P (oFldA T.compactext4_xattrState t44 2) fun t45 =>
 st P (oStore T.int t45 t43) w11 fun _ w12 =>
 k1 [] w12
def J_compactext4_xattrState_addXattr_3 (t0 : Value) (w13 : World) (t8 : Value) (t21 : Value) (k1 : List Value → World → Prop) : Prop :=
 pu P (oNil t0) fun t54 =>
 pu P (oFldA T.compactext4_xattrState t54 1) fun t55 =>
 rd P (oLoad T.sl_compactext4_xattr t55) w13.drew fun t56 =>
 rd P (oLoad T.compactext4_xattr t8) w13.drew fun t57 =>
 st P (oBuildSlice T.sl_compactext4_xattr 1 #[(0, t57)]) w13.drew fun t58 w14 =>
 hold P (oLoad T.sl_compactext4_xattr t55) t56 w14 ∧ st P (oBuiltin .append #[T.sl_compactext4_xattr, T.sl_compactext4_xattr] T.sl_compactext4_xattr #[false, false] #[t56, t58]) w14 fun t59 w15 =>
 pu P (oNil t0) fun t60 =>
 pu P (oFldA T.compactext4_xattrState t60 1) fun t61 =>
 st P (oStore T.sl_compactext4_xattr t61 t59) w15 fun _ w16 =>
 pu P (oNil t0) fun t63 =>
 pu P (oFldA T.compactext4_xattrState t63 3) fun t64 =>
 st P (oLoad T.int t64) w16 fun t65 w17 =>
 pu P (oBin .sub T.int false false t65 t21) fun t67 =>
 pu P (oNil t0) fun t68 =>
 pu P (oFldA T.compactext4_xattrState t68 3) fun t69 =>
 st P (oStore T.int t69 t67) w17 fun _ w18 =>
 k1 [] w18
def J_compactext4_xattrState_addXattr_4 (t0 : Value) (w7 : World) (t21 : Value) (t8 : Value) (k1 : List Value → World → Prop) (K : Value → World → Prop) : Prop :=
 pu P (oNil t0) fun t47 =>
 pu P (oFldA T.compactext4_xattrState t47 3) fun t48 =>
 st P (oLoad T.int t48) w7 fun t49 w13 =>
 pu P (oBin .geq T.int false false t49 t21) fun t51 =>
 cd t51 (J_compactext4_xattrState_addXattr_3 t0 w13 t8 t21 k1) (
 K (tup [(.bool false)]) w13)
/-- (*pub-marram/pub/hcsshim/ext4/inner/compactext4.xattrState).addXattr -/
def F_compactext4_xattrState_addXattr (t0 t1 t2 : Value) (w : World) (K : Value → World → Prop) : Prop :=
 st P (oCall Fn.compactext4_compressXattrName #[t1]) w fun t12 w1 =>
 pu P (oExtract t12 0) fun t13 =>
 pu P (oExtract t12 1) fun t14 =>
 pu P (oBuild T.compactext4_xattr #[(1, t13), (0, t14), (2, t2)]) fun t18 =>
 st P (oAlloc T.compactext4_xattr) w1 fun t8 w2 =>
 st P (oStore T.compactext4_xattr t8 t18) w2 fun _ w3 =>
 st P (oCall Fn.compactext4_xattr_EntryLen #[t8]) w3 fun t19 w4 =>
 st P (oCall Fn.compactext4_xattr_ValueLen #[t8]) w4 fun t20 w5 =>
 pu P (oBin .add T.int false false t19 t20) fun t21 =>
 jn (J_compactext4_xattrState_addXattr_1 K) fun k1 =>
 pu P (oNil t0) fun t23 =>
 pu P (oFldA T.compactext4_xattrState t23 2) fun t24 =>
 st P (oLoad T.int t24) w5 fun t25 w7 =>
 pu P (oBin .geq T.int false false t25 t21) fun t27 =>
 cd t27 (J_compactext4_xattrState_addXattr_2 t0 w7 t8 t21 k1) (J_compactext4_xattrState_addXattr_4 t0 w7 t21 t8 k1 K)
def Tb_compactext4_xattrState_addXattr : Tab := { join := fun n => match n with | _ => [], loop := fun n => match n with | _ => [] }
theorem S_compactext4_xattrState_addXattr {t0 t1 t2 : Value} {w : World} {K : Value → World → Prop} (h : F_compactext4_xattrState_addXattr t0 t1 t2 w K) : Cl P Fn.compactext4_xattrState_addXattr #[t0, t1, t2] w K :=
  cl_of_eq (T := Tb_compactext4_xattrState_addXattr) (args := [t0, t1, t2]) Tryd.func17 rfl follows_mixed (by kernel_rfl) (Nat.le_of_ble_eq_true (by kernel_rfl)) (by kernel_rfl) h

/-- pub-marram/pub/hcsshim/ext4/inner/compactext4.compressXattrName -/
def F_compactext4_compressXattrName (t0 : Value) (w : World) (K : Value → World → Prop) : Prop :=
 jn (fun s1 u1 w1 =>
 K (tup [(.int .u8 0), t0]) w1) fun k1 =>
 st P (oLoad T.arr7_struct___Index_uint8__Prefix_string__ (.pointer (some ⟨G.compactext4_xattrPrefixes, 0, none⟩))) w fun t6 w2 =>
 lp [(.int .i64 0)] w2 fun s2 u2 w3 C1 =>
 pu P (oBin .lss T.int false true (gs s2 0) (.int .i64 7)) fun t8 =>
 jn (fun s3 u3 w4 =>
 jn (fun s4 u4 w5 =>
 pu P (oBin .add T.int false true (gs s2 0) (.int .i64 1)) fun t21 =>
 C1 [t21] w5) fun k3 =>
 pu P (oIdx T.arr7_struct___Index_uint8__Prefix_string__ t6 (gs s2 0)) fun t9 =>
 st P (oAlloc T.st_5470e38b) w4 fun t5 w6 =>
 st P (oStore T.st_5470e38b t5 t9) w6 fun _ w7 =>
 pu P (oFldA T.st_5470e38b t5 1) fun t11 =>
 st P (oLoad T.string t11) w7 fun t12 w8 =>
 st P (oCall Fn.strings_HasPrefix #[t0, t12]) w8 fun t13 w9 =>
 cd t13 (
 pu P (oFldA T.st_5470e38b t5 0) fun t14 =>
 rd P (oLoad T.uint8 t14) w9.drew fun t15 =>
 pu P (oFldA T.st_5470e38b t5 1) fun t17 =>
 rd P (oLoad T.string t17) w9.drew fun t18 =>
 pu P (oBuiltin .len #[T.string] T.int #[false] #[t18]) fun t19 =>
 pu P (oSlice T.string t0 (some t19) none none) fun t20 =>
 K (tup [t15, t20]) w9.drew) (
 k3 [] w9)) fun k2 =>
 cd t8 (
 k2 [] w3) (
 k1 [] w3)
def Tb_compactext4_compressXattrName : Tab := { join := fun n => match n with | _ => [], loop := fun n => match n with | 2 => [7] | _ => [] }
theorem S_compactext4_compressXattrName {t0 : Value} {w : World} {K : Value → World → Prop} (h : F_compactext4_compressXattrName t0 w K) : Cl P Fn.compactext4_compressXattrName #[t0] w K :=
  cl_of_eq (T := Tb_compactext4_compressXattrName) (args := [t0]) Tryd.func18 rfl follows_mixed (by kernel_rfl) (Nat.le_of_ble_eq_true (by kernel_rfl)) (by kernel_rfl) h

/-- (*pub-marram/pub/hcsshim/ext4/inner/compactext4.xattr).EntryLen -/
def F_compactext4_xattr_EntryLen (t0 : Value) (w : World) (K : Value → World → Prop) : Prop :=
 pu P (oNil t0) fun t4 =>
 pu P (oFldA T.compactext4_xattr t4 0) fun t5 =>
 st P (oLoad T.string t5) w fun t6 w1 =>
 pu P (oBuiltin .len #[T.string] T.int #[false] #[t6]) fun t7 =>
 pu P (oBin .add T.int false true t7 (.int .i64 3)) fun t8 =>
 pu P (oBin .andNot T.int false true t8 (.int .i64 3)) fun t9 =>
 pu P (oBin .add T.int false true t9 (.int .i64 16)) fun t10 =>
 K (tup [t10]) w1
def Tb_compactext4_xattr_EntryLen : Tab := { join := fun n => match n with | _ => [], loop := fun n => match n with | _ => [] }
theorem S_compactext4_xattr_EntryLen {t0 : Value} {w : World} {K : Value → World → Prop} (h : F_compactext4_xattr_EntryLen t0 w K) : Cl P Fn.compactext4_xattr_EntryLen #[t0] w K :=
  cl_of_eq (T := Tb_compactext4_xattr_EntryLen) (args := [t0]) Tryd.func19 rfl follows_mixed (by kernel_rfl) (Nat.le_of_ble_eq_true (by kernel_rfl)) (by kernel_rfl) h

/-- (*pub-marram/pub/hcsshim/ext4/inner/compactext4.xattr).ValueLen -/
def F_compactext4_xattr_ValueLen (t0 : Value) (w : World) (K : Value → World → Prop) : Prop :=
 pu P (oNil t0) fun t4 =>
 pu P (oFldA T.compactext4_xattr t4 2) fun t5 =>
 st P (oLoad T.sl_uint8 t5) w fun t6 w1 =>
 pu P (oBuiltin .len #[T.sl_uint8] T.int #[false] #[t6]) fun t7 =>
 pu P (oBin .add T.int false true t7 (.int .i64 3)) fun t8 =>
 pu P (oBin .andNot T.int false true t8 (.int .i64 3)) fun t9 =>
 K (tup [t9]) w1
def Tb_compactext4_xattr_ValueLen : Tab := { join := fun n => match n with | _ => [], loop := fun n => match n with | _ => [] }
theorem S_compactext4_xattr_ValueLen {t0 : Value} {w : World} {K : Value → World → Prop} (h : F_compactext4_xattr_ValueLen t0 w K) : Cl P Fn.compactext4_xattr_ValueLen #[t0] w K :=
  cl_of_eq (T := Tb_compactext4_xattr_ValueLen) (args := [t0]) Tryd.func20 rfl follows_mixed (by kernel_rfl) (Nat.le_of_ble_eq_true (by kernel_rfl)) (by kernel_rfl) h

/-- strings.HasPrefix -/
def F_strings_HasPrefix (t0 t1 : Value) (w : World) (K : Value → World → Prop) : Prop :=
 st P (oCall Fn.stringslite_HasPrefix #[t0, t1]) w fun t7 w1 =>
 K (tup [t7]) w1
def Tb_strings_HasPrefix : Tab := { join := fun n => match n with | _ => [], loop := fun n => match n with | _ => [] }
theorem S_strings_HasPrefix {t0 t1 : Value} {w : World} {K : Value → World → Prop} (h : F_strings_HasPrefix t0 t1 w K) : Cl P Fn.strings_HasPrefix #[t0, t1] w K :=
  cl_of_eq (T := Tb_strings_HasPrefix) (args := [t0, t1]) Tryd.func21 rfl follows_mixed (by kernel_rfl) (Nat.le_of_ble_eq_true (by kernel_rfl)) (by kernel_rfl) h

/-- internal/stringslite.HasPrefix -/
def F_stringslite_HasPrefix (t0 t1 : Value) (w : World) (K : Value → World → Prop) : Prop :=
 pu P (oBuiltin .len #[T.string] T.int #[false] #[t0]) fun t6 =>
 pu P (oBuiltin .len #[T.string] T.int #[false] #[t1]) fun t8 =>
 pu P (oBin .geq T.int false false t6 t8) fun t9 =>
 gd t9 true w (fun K1 => K1 t0 w) fun t11 w1 =>
 gd t9 true w1 (fun K2 => K2 t1 w1) fun t12 w2 =>
 gd t9 true w2 (fun K3 => pu P (oBuiltin .len #[T.string] T.int #[false] #[t12]) fun v => K3 v w2) fun t13 w3 =>
 gd t9 true w3 (fun K4 => pu P (oSlice T.string t11 none (some t13) none) fun v => K4 v w3) fun t14 w4 =>
 gd t9 true w4 (fun K5 => K5 t1 w4) fun t15 w5 =>
 gd t9 true w5 (fun K6 => pu P (oBin .eql T.string false false t14 t15) fun v => K6 v w5) fun t16 w6 =>
 pu P (oPick t9 t16 (.bool false)) fun t17 =>
 K (tup [t17]) w6
def Tb_stringslite_HasPrefix : Tab := { join := fun n => match n with | _ => [], loop := fun n => match n with | _ => [] }
theorem S_stringslite_HasPrefix {t0 t1 : Value} {w : World} {K : Value → World → Prop} (h : F_stringslite_HasPrefix t0 t1 w K) : Cl P Fn.stringslite_HasPrefix #[t0, t1] w K :=
  cl_of_eq (T := Tb_stringslite_HasPrefix) (args := [t0, t1]) Tryd.func22 rfl follows_mixed (by kernel_rfl) (Nat.le_of_ble_eq_true (by kernel_rfl)) (by kernel_rfl) h

/-- gosem.cut.vars -/
def F_gosem_cut_vars (w : World) (K : Value → World → Prop) : Prop :=
 pu P (oBuild T.st_5470e38b #[(0, (.int .u8 2)), (1, (S [115, 121, 115, 116, 101, 109, 46, 112, 111, 115, 105, 120, 95, 97, 99, 108, 95, 97, 99, 99, 101, 115, 115]))]) fun t0 =>
 pu P (oBuild T.st_5470e38b #[(0, (.int .u8 3)), (1, (S [115, 121, 115, 116, 101, 109, 46, 112, 111, 115, 105, 120, 95, 97, 99, 108, 95, 100, 101, 102, 97, 117, 108, 116]))]) fun t1 =>
 pu P (oBuild T.st_5470e38b #[(0, (.int .u8 8)), (1, (S [115, 121, 115, 116, 101, 109, 46, 114, 105, 99, 104, 97, 99, 108]))]) fun t2 =>
 pu P (oBuild T.st_5470e38b #[(0, (.int .u8 7)), (1, (S [115, 121, 115, 116, 101, 109, 46]))]) fun t3 =>
 pu P (oBuild T.st_5470e38b #[(0, (.int .u8 1)), (1, (S [117, 115, 101, 114, 46]))]) fun t4 =>
 pu P (oBuild T.st_5470e38b #[(0, (.int .u8 4)), (1, (S [116, 114, 117, 115, 116, 101, 100, 46]))]) fun t5 =>
 pu P (oBuild T.st_5470e38b #[(0, (.int .u8 6)), (1, (S [115, 101, 99, 117, 114, 105, 116, 121, 46]))]) fun t6 =>
 pu P (oBuild T.arr7_struct___Index_uint8__Prefix_string__ #[(0, t0), (1, t1), (2, t2), (3, t3), (4, t4), (5, t5), (6, t6)]) fun t7 =>
 st P (oStore T.arr7_struct___Index_uint8__Prefix_string__ (.pointer (some ⟨G.compactext4_xattrPrefixes, 0, none⟩)) t7) w fun _ w1 =>
 K (tup []) w1
def Tb_gosem_cut_vars : Tab := { join := fun n => match n with | _ => [], loop := fun n => match n with | _ => [] }
theorem S_gosem_cut_vars {w : World} {K : Value → World → Prop} (h : F_gosem_cut_vars  w K) : Cl P Fn.gosem_cut_vars #[] w K :=
  cl_of_eq (T := Tb_gosem_cut_vars) (args := []) Tryd.func42 rfl follows_mixed (by kernel_rfl) (Nat.le_of_ble_eq_true (by kernel_rfl)) (by kernel_rfl) h

end Go.Proofs.YtfiepdikejoeeaaDoor.X
