/- The functions' own texts over values, each held against the loaded code by the kernel. Laid by a program of this session. No condition. -/
import Derived.Test.YteblpejgenehfaaDoorXN
set_option linter.unusedVariables false
set_option maxRecDepth 100000
namespace Go.Proofs.YteblpejgenehfaaDoor.X
open Go Go.X Go.Proofs

/-- pub-marram/laws.FnBytesAreBytes -/
def F_laws_FnBytesAreBytes (t0 t1 t2 t3 : Value) (w : World) (K : Value → World → Prop) : Prop :=
 jn (fun s1 u1 w1 =>
 jn (fun s2 u2 w2 =>
 pu P (oBin .or T.uint8 false true t3 (.int .u8 1)) fun t33 =>
 st P (oBuildSlice T.sl_impl_Step 0 #[]) w2 fun t34 w3 =>
 jn (fun s3 u3 w4 =>
 st P (oCall Fn.impl_HandleScript #[t0, t1, t2]) w4 fun t63 w5 =>
 pu P (oExtract t63 0) fun t64 =>
 pu P (oExtract t63 1) fun t65 =>
 st P (oCall Fn.laws_recoded #[t0, t33]) w5 fun t69 w6 =>
 st P (oCall Fn.impl_HandleScript #[t69, t1, (gs s3 0)]) w6 fun t72 w7 =>
 pu P (oExtract t72 0) fun t73 =>
 pu P (oExtract t72 1) fun t74 =>
 jn (fun s4 u4 w8 =>
 jn (fun s5 u5 w9 =>
 rd P (oConv T.sl_uint8 T.string t74) w9.drew fun t112 =>
 st P (oCall Fn.laws_recoded #[t65, t33]) w9.drew fun t109 w10 =>
 hold P (oConv T.sl_uint8 T.string t74) t112 w10 ∧ rd P (oConv T.sl_uint8 T.string t109) w10 fun t110 =>
 pu P (oBin .eql T.string false false t110 t112) fun t113 =>
 K (tup [t113]) w10) fun k5 =>
 pu P (oBuiltin .len #[T.sl_impl_Answer] T.int #[false] #[t64]) fun t88 =>
 lp [(.int .i64 0)] w8 fun s6 u6 w11 C1 =>
 pu P (oBin .lss T.int false false (gs s6 0) t88) fun t90 =>
 jn (fun s7 u7 w12 =>
 jn (fun s8 u8 w13 =>
 pu P (oBin .add T.int false true (gs s6 0) (.int .i64 1)) fun t106 =>
 C1 [t106] w13) fun k7 =>
 pu P (oIdxA T.sl_impl_Answer t64 (gs s6 0)) fun t92 =>
 st P (oLoad T.impl_Answer t92) w12 fun t93 w14 =>
 st P (oAlloc T.impl_Answer) w14 fun t18 w15 =>
 st P (oStore T.impl_Answer t18 t93) w15 fun _ w16 =>
 pu P (oFldA T.impl_Answer t18 3) fun t94 =>
 st P (oLoad T.sl_uint8 t94) w16 fun t95 w17 =>
 st P (oCall Fn.laws_recoded #[t95, t33]) w17 fun t97 w18 =>
 pu P (oFldA T.impl_Answer t18 3) fun t98 =>
 st P (oStore T.sl_uint8 t98 t97) w18 fun _ w19 =>
 rd P (oLoad T.impl_Answer t18) w19.drew fun t99 =>
 pu P (oIdxA T.sl_impl_Answer t73 (gs s6 0)) fun t102 =>
 rd P (oLoad T.impl_Answer t102) w19.drew fun t103 =>
 st P (oCall Fn.spec_SameAnswer #[t99, t103]) w19.drew fun t104 w20 =>
 pu P (oUn .not t104) fun t105 =>
 cd t105 (
 K (tup [(.bool false)]) w20) (
 k7 [] w20)) fun k6 =>
 cd t90 (
 k6 [] w11) (
 k5 [] w11)) fun k4 =>
 pu P (oBuiltin .len #[T.sl_impl_Answer] T.int #[false] #[t64]) fun t76 =>
 pu P (oBuiltin .len #[T.sl_impl_Step] T.int #[false] #[t2]) fun t78 =>
 pu P (oBin .neq T.int false false t76 t78) fun t79 =>
 gd t79 false w7 (fun K1 => K1 t73 w7) fun t81 w21 =>
 gd t79 false w21 (fun K2 => pu P (oBuiltin .len #[T.sl_impl_Answer] T.int #[false] #[t81]) fun v => K2 v w21) fun t82 w22 =>
 gd t79 false w22 (fun K3 => K3 t2 w22) fun t83 w23 =>
 gd t79 false w23 (fun K4 => pu P (oBuiltin .len #[T.sl_impl_Step] T.int #[false] #[t83]) fun v => K4 v w23) fun t84 w24 =>
 gd t79 false w24 (fun K5 => pu P (oBin .neq T.int false false t82 t84) fun v => K5 v w24) fun t85 w25 =>
 pu P (oPick t79 (.bool true) t85) fun t86 =>
 cd t86 (
 K (tup [(.bool false)]) w25) (
 k4 [] w25)) fun k3 =>
 pu P (oBuiltin .len #[T.sl_impl_Step] T.int #[false] #[t2]) fun t36 =>
 lp [t34, (.int .i64 0)] w3 fun s9 u9 w26 C2 =>
 pu P (oBin .lss T.int false false (gs s9 1) t36) fun t38 =>
 jn (fun s10 u10 w27 =>
 jn (fun s11 u11 w28 =>
 pu P (oBin .add T.int false true (gs s9 1) (.int .i64 1)) fun t58 =>
 C2 [(gs s11 0), t58] w28) fun k9 =>
 pu P (oIdxA T.sl_impl_Step t2 (gs s9 1)) fun t39 =>
 st P (oLoad T.impl_Step t39) w27 fun t40 w29 =>
 st P (oAlloc T.impl_Step) w29 fun t12 w30 =>
 st P (oStore T.impl_Step t12 t40) w30 fun _ w31 =>
 jn (fun s12 u12 w32 =>
 pu P (oFldA T.impl_Step t12 6) fun t49 =>
 st P (oLoad T.sl_uint8 t49) w32 fun t50 w33 =>
 st P (oCall Fn.laws_recoded #[t50, t33]) w33 fun t52 w34 =>
 pu P (oFldA T.impl_Step t12 6) fun t53 =>
 st P (oStore T.sl_uint8 t53 t52) w34 fun _ w35 =>
 st P (oLoad T.impl_Step t12) w35 fun t55 w36 =>
 st P (oBuildSlice T.sl_impl_Step 1 #[(0, t55)]) w36 fun t56 w37 =>
 st P (oBuiltin .append #[T.sl_impl_Step, T.sl_impl_Step] T.sl_impl_Step #[false, false] #[(gs s9 0), t56]) w37 fun t57 w38 =>
 k9 [t57] w38) fun k10 =>
 pu P (oFldA T.impl_Step t12 0) fun t41 =>
 st P (oLoad T.int t41) w31 fun t42 w39 =>
 pu P (oBin .eql T.int false true t42 (.int .i64 21)) fun t43 =>
 gd t43 false w39 (fun K6 => pu P (oFldA T.impl_Step t12 0) fun v => K6 v w39) fun t45 w40 =>
 gd t43 false w40 (fun K7 => st P (oLoad T.int t45) w40 K7) fun t46 w41 =>
 gd t43 false w41 (fun K8 => pu P (oBin .eql T.int false true t46 (.int .i64 22)) fun v => K8 v w41) fun t47 w42 =>
 pu P (oPick t43 (.bool true) t47) fun t48 =>
 cd t48 (
 K (tup [(.bool true)]) w42) (
 k10 [] w42)) fun k8 =>
 cd t38 (
 k8 [] w26) (
 k3 [(gs s9 0)] w26)) fun k2 =>
 st P (oCall Fn.laws_handleSpoken #[t0, t1, t2]) w1 fun t30 w43 =>
 pu P (oUn .not t30) fun t31 =>
 cd t31 (
 K (tup [(.bool true)]) w43) (
 k2 [] w43)) fun k1 =>
 pu P (oBuiltin .len #[T.sl_uint8] T.int #[false] #[t0]) fun t20 =>
 pu P (oBin .gtr T.int false true t20 (.int .i64 2147483647)) fun t21 =>
 gd t21 false w (fun K9 => K9 t2 w) fun t23 w44 =>
 gd t21 false w44 (fun K10 => st P (oCall Fn.laws_zzFits1 #[t23]) w44 K10) fun t24 w45 =>
 gd t21 false w45 (fun K11 => pu P (oUn .not t24) fun v => K11 v w45) fun t25 w46 =>
 pu P (oPick t21 (.bool true) t25) fun t26 =>
 cd t26 (
 K (tup [(.bool true)]) w46) (
 k1 [] w46)
def Tb_laws_FnBytesAreBytes : Tab := { join := fun n => match n with | 13 => [10] | 14 => [10] | _ => [], loop := fun n => match n with | 7 => [10, 37] | 19 => [89] | _ => [] }
theorem S_laws_FnBytesAreBytes {t0 t1 t2 t3 : Value} {w : World} {K : Value → World → Prop} (h : F_laws_FnBytesAreBytes t0 t1 t2 t3 w K) : Cl P Fn.laws_FnBytesAreBytes #[t0, t1, t2, t3] w K :=
  cl_of_eq (T := Tb_laws_FnBytesAreBytes) (args := [t0, t1, t2, t3]) Tryd.func3 rfl follows_mixed (by kernel_rfl) (Nat.le_of_ble_eq_true (by kernel_rfl)) (by kernel_rfl) h

/-- pub-marram/laws.FnReadIsReadAt -/
def F_laws_FnReadIsReadAt (t0 t1 t2 t3 : Value) (w : World) (K : Value → World → Prop) : Prop :=
 jn (fun s1 u1 w1 =>
 jn (fun s2 u2 w2 =>
 pu P (oBuild T.impl_Step #[(0, (.int .i64 16)), (7, t2)]) fun t37 =>
 pu P (oBuild T.impl_Step #[(0, (.int .i64 13)), (7, t2), (9, t3)]) fun t40 =>
 pu P (oBuild T.impl_Step #[(0, (.int .i64 12)), (9, t3)]) fun t42 =>
 pu P (oBuild T.impl_Step #[(0, (.int .i64 16)), (8, (.int .i64 1))]) fun t43 =>
 st P (oBuildSlice T.sl_impl_Step 4 #[(0, t37), (1, t40), (2, t42), (3, t43)]) w2 fun t44 w3 =>
 st P (oCall Fn.impl_HandleScript #[t0, t1, t44]) w3 fun t45 w4 =>
 pu P (oExtract t45 0) fun t46 =>
 pu P (oExtract t45 1) fun t47 =>
 pu P (oBuiltin .len #[T.sl_impl_Answer] T.int #[false] #[t46]) fun t49 =>
 pu P (oBin .eql T.int false true t49 (.int .i64 4)) fun t50 =>
 gd t50 true w4.drew (fun K1 => K1 t46 w4.drew) fun t52 w5 =>
 gd t50 true w5 (fun K2 => pu P (oIdxA T.sl_impl_Answer t52 (.int .i64 1)) fun v => K2 v w5) fun t53 w6 =>
 gd t50 true w6 (fun K3 => rd P (oLoad T.impl_Answer t53) w6 fun v => K3 v w6) fun t54 w7 =>
 gd t50 true w7 (fun K4 => K4 t46 w7) fun t55 w8 =>
 gd t50 true w8 (fun K5 => pu P (oIdxA T.sl_impl_Answer t55 (.int .i64 2)) fun v => K5 v w8) fun t56 w9 =>
 gd t50 true w9 (fun K6 => rd P (oLoad T.impl_Answer t56) w9 fun v => K6 v w9) fun t57 w10 =>
 gd t50 true w10 (fun K7 => st P (oCall Fn.spec_SameAnswer #[t54, t57]) w10 K7) fun t58 w11 =>
 pu P (oPick t50 t58 (.bool false)) fun t59 =>
 gd t59 true w11 (fun K8 => K8 t46 w11) fun t61 w12 =>
 gd t59 true w12 (fun K9 => pu P (oIdxA T.sl_impl_Answer t61 (.int .i64 3)) fun v => K9 v w12) fun t62 w13 =>
 gd t59 true w13 (fun K10 => pu P (oFldA T.impl_Answer t62 2) fun v => K10 v w13) fun t63 w14 =>
 gd t59 true w14 (fun K11 => rd P (oLoad T.int64 t63) w14 fun v => K11 v w14) fun t64 w15 =>
 gd t59 true w15 (fun K12 => K12 t2 w15) fun t65 w16 =>
 gd t59 true w16 (fun K13 => K13 t46 w16) fun t66 w17 =>
 gd t59 true w17 (fun K14 => pu P (oIdxA T.sl_impl_Answer t66 (.int .i64 2)) fun v => K14 v w17) fun t67 w18 =>
 gd t59 true w18 (fun K15 => pu P (oFldA T.impl_Answer t67 3) fun v => K15 v w18) fun t68 w19 =>
 gd t59 true w19 (fun K16 => rd P (oLoad T.sl_uint8 t68) w19 fun v => K16 v w19) fun t69 w20 =>
 gd t59 true w20 (fun K17 => pu P (oBuiltin .len #[T.sl_uint8] T.int #[false] #[t69]) fun v => K17 v w20) fun t70 w21 =>
 gd t59 true w21 (fun K18 => pu P (oBin .add T.int false false t65 t70) fun v => K18 v w21) fun t71 w22 =>
 gd t59 true w22 (fun K19 => pu P (oBin .eql T.int64 false false t64 t71) fun v => K19 v w22) fun t72 w23 =>
 pu P (oPick t59 t72 (.bool false)) fun t73 =>
 gd t73 true w23 (fun K20 => K20 t47 w23) fun t75 w24 =>
 gd t73 true w24 (fun K21 => rd P (oConv T.sl_uint8 T.string t75) w24 fun v => K21 v w24) fun t76 w25 =>
 gd t73 true w25 (fun K22 => K22 t0 w25) fun t77 w26 =>
 gd t73 true w26 (fun K23 => rd P (oConv T.sl_uint8 T.string t77) w26 fun v => K23 v w26) fun t78 w27 =>
 gd t73 true w27 (fun K24 => pu P (oBin .eql T.string false false t76 t78) fun v => K24 v w27) fun t79 w28 =>
 pu P (oPick t73 t79 (.bool false)) fun t80 =>
 K (tup [t80]) w28) fun k2 =>
 pu P (oBuiltin .len #[T.sl_uint8] T.int #[false] #[t0]) fun t15 =>
 pu P (oBin .gtr T.int false true t15 (.int .i64 4096)) fun t16 =>
 gd t16 false w1 (fun K25 => K25 t2 w1) fun t18 w29 =>
 gd t16 false w29 (fun K26 => pu P (oBin .lss T.int false true t18 (.int .i64 0)) fun v => K26 v w29) fun t19 w30 =>
 pu P (oPick t16 (.bool true) t19) fun t20 =>
 gd t20 false w30 (fun K27 => K27 t2 w30) fun t22 w31 =>
 gd t20 false w31 (fun K28 => pu P (oBin .gtr T.int false true t22 (.int .i64 10000)) fun v => K28 v w31) fun t23 w32 =>
 pu P (oPick t20 (.bool true) t23) fun t24 =>
 gd t24 false w32 (fun K29 => K29 t3 w32) fun t26 w33 =>
 gd t24 false w33 (fun K30 => pu P (oBin .lss T.int false true t26 (.int .i64 0)) fun v => K30 v w33) fun t27 w34 =>
 pu P (oPick t24 (.bool true) t27) fun t28 =>
 gd t28 false w34 (fun K31 => K31 t3 w34) fun t30 w35 =>
 gd t28 false w35 (fun K32 => pu P (oBin .gtr T.int false true t30 (.int .i64 10000)) fun v => K32 v w35) fun t31 w36 =>
 pu P (oPick t28 (.bool true) t31) fun t32 =>
 cd t32 (
 K (tup [(.bool true)]) w36) (
 k2 [] w36)) fun k1 =>
 pu P (oBuiltin .len #[T.sl_uint8] T.int #[false] #[t0]) fun t12 =>
 pu P (oBin .gtr T.int false true t12 (.int .i64 2147483647)) fun t13 =>
 cd t13 (
 K (tup [(.bool true)]) w) (
 k1 [] w)
def Tb_laws_FnReadIsReadAt : Tab := { join := fun n => match n with | _ => [], loop := fun n => match n with | _ => [] }
theorem S_laws_FnReadIsReadAt {t0 t1 t2 t3 : Value} {w : World} {K : Value → World → Prop} (h : F_laws_FnReadIsReadAt t0 t1 t2 t3 w K) : Cl P Fn.laws_FnReadIsReadAt #[t0, t1, t2, t3] w K :=
  cl_of_eq (T := Tb_laws_FnReadIsReadAt) (args := [t0, t1, t2, t3]) Tryd.func4 rfl follows_mixed (by kernel_rfl) (Nat.le_of_ble_eq_true (by kernel_rfl)) (by kernel_rfl) h

/-- pub-marram/laws.FnReadOnlyHandle -/
def F_laws_FnReadOnlyHandle (t0 t1 : Value) (w : World) (K : Value → World → Prop) : Prop :=
 jn (fun s1 u1 w1 =>
 jn (fun s2 u2 w2 =>
 jn (fun s3 u3 w3 =>
 st P (oCall Fn.impl_HandleScript #[t0, (.bool true), t1]) w3 fun t82 w4 =>
 pu P (oExtract t82 0) fun t83 =>
 pu P (oExtract t82 1) fun t84 =>
 jn (fun s4 u4 w5 =>
 jn (fun s5 u5 w6 =>
 K (tup [(.bool true)]) w6) fun k5 =>
 pu P (oBuiltin .len #[T.sl_impl_Step] T.int #[false] #[t1]) fun t98 =>
 lp [(.int .i64 0)] w5 fun s6 u6 w7 C1 =>
 pu P (oBin .lss T.int false false (gs s6 0) t98) fun t100 =>
 jn (fun s7 u7 w8 =>
 jn (fun s8 u8 w9 =>
 pu P (oBin .add T.int false true (gs s6 0) (.int .i64 1)) fun t125 =>
 C1 [t125] w9) fun k7 =>
 pu P (oIdxA T.sl_impl_Step t1 (gs s6 0)) fun t102 =>
 st P (oLoad T.impl_Step t102) w8 fun t103 w10 =>
 st P (oAlloc T.impl_Step) w10 fun t10 w11 =>
 st P (oStore T.impl_Step t10 t103) w11 fun _ w12 =>
 pu P (oFldA T.impl_Step t10 0) fun t104 =>
 st P (oLoad T.int t104) w12 fun t105 w13 =>
 pu P (oBin .eql T.int false true t105 (.int .i64 14)) fun t106 =>
 gd t106 false w13 (fun K1 => pu P (oFldA T.impl_Step t10 0) fun v => K1 v w13) fun t108 w14 =>
 gd t106 false w14 (fun K2 => st P (oLoad T.int t108) w14 K2) fun t109 w15 =>
 gd t106 false w15 (fun K3 => pu P (oBin .eql T.int false true t109 (.int .i64 15)) fun v => K3 v w15) fun t110 w16 =>
 pu P (oPick t106 (.bool true) t110) fun t111 =>
 gd t111 false w16 (fun K4 => pu P (oFldA T.impl_Step t10 0) fun v => K4 v w16) fun t113 w17 =>
 gd t111 false w17 (fun K5 => st P (oLoad T.int t113) w17 K5) fun t114 w18 =>
 gd t111 false w18 (fun K6 => pu P (oBin .eql T.int false true t114 (.int .i64 17)) fun v => K6 v w18) fun t115 w19 =>
 pu P (oPick t111 (.bool true) t115) fun t116 =>
 pu P (oIdxA T.sl_impl_Answer t83 (gs s6 0)) fun t120 =>
 pu P (oFldA T.impl_Answer t120 0) fun t121 =>
 st P (oLoad T.int t121) w19 fun t122 w20 =>
 pu P (oBin .eql T.int false true t122 (.int .i64 6)) fun t123 =>
 pu P (oBin .neq T.bool false false t116 t123) fun t124 =>
 cd t124 (
 K (tup [(.bool false)]) w20) (
 k7 [] w20)) fun k6 =>
 cd t100 (
 k6 [] w7) (
 k5 [] w7)) fun k4 =>
 pu P (oBuiltin .len #[T.sl_impl_Answer] T.int #[false] #[t83]) fun t86 =>
 pu P (oBuiltin .len #[T.sl_impl_Step] T.int #[false] #[t1]) fun t88 =>
 pu P (oBin .neq T.int false false t86 t88) fun t89 =>
 gd t89 false w4 (fun K7 => K7 t84 w4) fun t91 w21 =>
 gd t89 false w21 (fun K8 => st P (oConv T.sl_uint8 T.string t91) w21 K8) fun t92 w22 =>
 gd t89 false w22 (fun K9 => K9 t0 w22) fun t93 w23 =>
 gd t89 false w23 (fun K10 => st P (oConv T.sl_uint8 T.string t93) w23 K10) fun t94 w24 =>
 gd t89 false w24 (fun K11 => pu P (oBin .neq T.string false false t92 t94) fun v => K11 v w24) fun t95 w25 =>
 pu P (oPick t89 (.bool true) t95) fun t96 =>
 cd t96 (
 K (tup [(.bool false)]) w25) (
 k4 [] w25)) fun k3 =>
 pu P (oBuiltin .len #[T.sl_impl_Step] T.int #[false] #[t1]) fun t29 =>
 lp [(.int .i64 0)] w2 fun s9 u9 w26 C2 =>
 pu P (oBin .lss T.int false false (gs s9 0) t29) fun t31 =>
 jn (fun s10 u10 w27 =>
 jn (fun s11 u11 w28 =>
 pu P (oBin .add T.int false true (gs s9 0) (.int .i64 1)) fun t78 =>
 C2 [t78] w28) fun k9 =>
 pu P (oIdxA T.sl_impl_Step t1 (gs s9 0)) fun t32 =>
 st P (oLoad T.impl_Step t32) w27 fun t33 w29 =>
 st P (oAlloc T.impl_Step) w29 fun t6 w30 =>
 st P (oStore T.impl_Step t6 t33) w30 fun _ w31 =>
 pu P (oFldA T.impl_Step t6 0) fun t34 =>
 st P (oLoad T.int t34) w31 fun t35 w32 =>
 pu P (oBin .lss T.int false true t35 (.int .i64 12)) fun t36 =>
 gd t36 false w32 (fun K12 => pu P (oFldA T.impl_Step t6 0) fun v => K12 v w32) fun t38 w33 =>
 gd t36 false w33 (fun K13 => st P (oLoad T.int t38) w33 K13) fun t39 w34 =>
 gd t36 false w34 (fun K14 => pu P (oBin .gtr T.int false true t39 (.int .i64 17)) fun v => K14 v w34) fun t40 w35 =>
 pu P (oPick t36 (.bool true) t40) fun t41 =>
 gd t41 false w35 (fun K15 => pu P (oFldA T.impl_Step t6 9) fun v => K15 v w35) fun t43 w36 =>
 gd t41 false w36 (fun K16 => st P (oLoad T.int t43) w36 K16) fun t44 w37 =>
 gd t41 false w37 (fun K17 => pu P (oBin .lss T.int false true t44 (.int .i64 0)) fun v => K17 v w37) fun t45 w38 =>
 pu P (oPick t41 (.bool true) t45) fun t46 =>
 gd t46 false w38 (fun K18 => pu P (oFldA T.impl_Step t6 9) fun v => K18 v w38) fun t48 w39 =>
 gd t46 false w39 (fun K19 => st P (oLoad T.int t48) w39 K19) fun t49 w40 =>
 gd t46 false w40 (fun K20 => pu P (oBin .gtr T.int false true t49 (.int .i64 4096)) fun v => K20 v w40) fun t50 w41 =>
 pu P (oPick t46 (.bool true) t50) fun t51 =>
 gd t51 false w41 (fun K21 => pu P (oFldA T.impl_Step t6 7) fun v => K21 v w41) fun t53 w42 =>
 gd t51 false w42 (fun K22 => st P (oLoad T.int64 t53) w42 K22) fun t54 w43 =>
 gd t51 false w43 (fun K23 => pu P (oBin .lss T.int64 false true t54 (.int .i64 0)) fun v => K23 v w43) fun t55 w44 =>
 pu P (oPick t51 (.bool true) t55) fun t56 =>
 gd t56 false w44 (fun K24 => pu P (oFldA T.impl_Step t6 7) fun v => K24 v w44) fun t58 w45 =>
 gd t56 false w45 (fun K25 => st P (oLoad T.int64 t58) w45 K25) fun t59 w46 =>
 gd t56 false w46 (fun K26 => pu P (oBin .gtr T.int64 false true t59 (.int .i64 4096)) fun v => K26 v w46) fun t60 w47 =>
 pu P (oPick t56 (.bool true) t60) fun t61 =>
 gd t61 false w47 (fun K27 => pu P (oFldA T.impl_Step t6 8) fun v => K27 v w47) fun t63 w48 =>
 gd t61 false w48 (fun K28 => st P (oLoad T.int t63) w48 K28) fun t64 w49 =>
 gd t61 false w49 (fun K29 => pu P (oBin .lss T.int false true t64 (.int .i64 0)) fun v => K29 v w49) fun t65 w50 =>
 pu P (oPick t61 (.bool true) t65) fun t66 =>
 gd t66 false w50 (fun K30 => pu P (oFldA T.impl_Step t6 8) fun v => K30 v w50) fun t68 w51 =>
 gd t66 false w51 (fun K31 => st P (oLoad T.int t68) w51 K31) fun t69 w52 =>
 gd t66 false w52 (fun K32 => pu P (oBin .gtr T.int false true t69 (.int .i64 2)) fun v => K32 v w52) fun t70 w53 =>
 pu P (oPick t66 (.bool true) t70) fun t71 =>
 gd t71 false w53 (fun K33 => pu P (oFldA T.impl_Step t6 6) fun v => K33 v w53) fun t73 w54 =>
 gd t71 false w54 (fun K34 => st P (oLoad T.sl_uint8 t73) w54 K34) fun t74 w55 =>
 gd t71 false w55 (fun K35 => pu P (oBuiltin .len #[T.sl_uint8] T.int #[false] #[t74]) fun v => K35 v w55) fun t75 w56 =>
 gd t71 false w56 (fun K36 => pu P (oBin .gtr T.int false true t75 (.int .i64 4096)) fun v => K36 v w56) fun t76 w57 =>
 pu P (oPick t71 (.bool true) t76) fun t77 =>
 cd t77 (
 K (tup [(.bool true)]) w57) (
 k9 [] w57)) fun k8 =>
 cd t31 (
 k8 [] w26) (
 k3 [] w26)) fun k2 =>
 pu P (oBuiltin .len #[T.sl_uint8] T.int #[false] #[t0]) fun t21 =>
 pu P (oBin .gtr T.int false true t21 (.int .i64 4096)) fun t22 =>
 gd t22 false w1 (fun K37 => K37 t1 w1) fun t24 w58 =>
 gd t22 false w58 (fun K38 => pu P (oBuiltin .len #[T.sl_impl_Step] T.int #[false] #[t24]) fun v => K38 v w58) fun t25 w59 =>
 gd t22 false w59 (fun K39 => pu P (oBin .gtr T.int false true t25 (.int .i64 40)) fun v => K39 v w59) fun t26 w60 =>
 pu P (oPick t22 (.bool true) t26) fun t27 =>
 cd t27 (
 K (tup [(.bool true)]) w60) (
 k2 [] w60)) fun k1 =>
 pu P (oBuiltin .len #[T.sl_uint8] T.int #[false] #[t0]) fun t13 =>
 pu P (oBin .gtr T.int false true t13 (.int .i64 2147483647)) fun t14 =>
 gd t14 false w (fun K40 => K40 t1 w) fun t16 w61 =>
 gd t14 false w61 (fun K41 => st P (oCall Fn.laws_zzFits1 #[t16]) w61 K41) fun t17 w62 =>
 gd t14 false w62 (fun K42 => pu P (oUn .not t17) fun v => K42 v w62) fun t18 w63 =>
 pu P (oPick t14 (.bool true) t18) fun t19 =>
 cd t19 (
 K (tup [(.bool true)]) w63) (
 k1 [] w63)
def Tb_laws_FnReadOnlyHandle : Tab := { join := fun n => match n with | _ => [], loop := fun n => match n with | 6 => [30] | 15 => [99] | _ => [] }
theorem S_laws_FnReadOnlyHandle {t0 t1 : Value} {w : World} {K : Value → World → Prop} (h : F_laws_FnReadOnlyHandle t0 t1 w K) : Cl P Fn.laws_FnReadOnlyHandle #[t0, t1] w K :=
  cl_of_eq (T := Tb_laws_FnReadOnlyHandle) (args := [t0, t1]) Tryd.func5 rfl follows_mixed (by kernel_rfl) (Nat.le_of_ble_eq_true (by kernel_rfl)) (by kernel_rfl) h

/-- pub-marram/laws.FnReadToTheEnd -/
def F_laws_FnReadToTheEnd (t0 t1 t2 t3 : Value) (w : World) (K : Value → World → Prop) : Prop :=
 jn (fun s1 u1 w1 =>
 jn (fun s2 u2 w2 =>
 pu P (oBuild T.impl_Step #[(0, (.int .i64 16)), (7, t2)]) fun t58 =>
 st P (oBuildSlice T.sl_impl_Step 1 #[(0, t58)]) w2 fun t59 w3 =>
 jn (fun s3 u3 w4 =>
 pu P (oBuiltin .len #[T.sl_impl_Step] T.int #[false] #[(gs s3 0)]) fun t77 =>
 pu P (oBuild T.impl_Step #[(0, (.int .i64 14)), (6, t1)]) fun t80 =>
 pu P (oBuild T.impl_Step #[(0, (.int .i64 12)), (9, (.int .i64 1))]) fun t81 =>
 pu P (oBuiltin .len #[T.sl_uint8] T.int #[false] #[t0]) fun t83 =>
 pu P (oBuild T.impl_Step #[(0, (.int .i64 16)), (7, t83)]) fun t84 =>
 pu P (oBuiltin .len #[T.sl_uint8] T.int #[false] #[t1]) fun t86 =>
 pu P (oBin .add T.int false true t86 (.int .i64 1)) fun t87 =>
 pu P (oBuild T.impl_Step #[(0, (.int .i64 12)), (9, t87)]) fun t88 =>
 st P (oBuildSlice T.sl_impl_Step 4 #[(0, t80), (1, t81), (2, t84), (3, t88)]) w4 fun t89 w5 =>
 st P (oBuiltin .append #[T.sl_impl_Step, T.sl_impl_Step] T.sl_impl_Step #[false, false] #[(gs s3 0), t89]) w5 fun t90 w6 =>
 st P (oCall Fn.laws_onOne #[t0, t90]) w6 fun t94 w7 =>
 pu P (oExtract t94 0) fun t95 =>
 pu P (oExtract t94 1) fun t96 =>
 pu P (oExtract t94 2) fun t97 =>
 jn (fun s4 u4 w8 =>
 st P (oBuildSlice T.sl_uint8 0 #[]) w8 fun t100 w9 =>
 jn (fun s5 u5 w10 =>
 rd P (oConv T.sl_uint8 T.string (gs s5 0)) w10.drew fun t136 =>
 pu P (oSlice T.sl_uint8 t0 (some t2) none none) fun t139 =>
 rd P (oConv T.sl_uint8 T.string t139) w10.drew fun t140 =>
 pu P (oBin .eql T.string false false t136 t140) fun t141 =>
 gd t141 true w10.drew (fun K1 => K1 t95 w10.drew) fun t143 w11 =>
 gd t141 true w11 (fun K2 => K2 t77 w11) fun t144 w12 =>
 gd t141 true w12 (fun K3 => pu P (oIdxA T.sl_impl_Answer t143 t144) fun v => K3 v w12) fun t145 w13 =>
 gd t141 true w13 (fun K4 => pu P (oFldA T.impl_Answer t145 1) fun v => K4 v w13) fun t146 w14 =>
 gd t141 true w14 (fun K5 => rd P (oLoad T.int t146) w14 fun v => K5 v w14) fun t147 w15 =>
 gd t141 true w15 (fun K6 => K6 t1 w15) fun t148 w16 =>
 gd t141 true w16 (fun K7 => pu P (oBuiltin .len #[T.sl_uint8] T.int #[false] #[t148]) fun v => K7 v w16) fun t149 w17 =>
 gd t141 true w17 (fun K8 => pu P (oBin .eql T.int false false t147 t149) fun v => K8 v w17) fun t150 w18 =>
 pu P (oPick t141 t150 (.bool false)) fun t151 =>
 gd t151 true w18 (fun K9 => K9 t95 w18) fun t153 w19 =>
 gd t151 true w19 (fun K10 => K10 t77 w19) fun t154 w20 =>
 gd t151 true w20 (fun K11 => pu P (oBin .add T.int false true t154 (.int .i64 1)) fun v => K11 v w20) fun t155 w21 =>
 gd t151 true w21 (fun K12 => pu P (oIdxA T.sl_impl_Answer t153 t155) fun v => K12 v w21) fun t156 w22 =>
 gd t151 true w22 (fun K13 => pu P (oFldA T.impl_Answer t156 0) fun v => K13 v w22) fun t157 w23 =>
 gd t151 true w23 (fun K14 => rd P (oLoad T.int t157) w23 fun v => K14 v w23) fun t158 w24 =>
 gd t151 true w24 (fun K15 => pu P (oBin .eql T.int false true t158 (.int .i64 4)) fun v => K15 v w24) fun t159 w25 =>
 pu P (oPick t151 t159 (.bool false)) fun t160 =>
 gd t160 true w25 (fun K16 => K16 t95 w25) fun t162 w26 =>
 gd t160 true w26 (fun K17 => K17 t77 w26) fun t163 w27 =>
 gd t160 true w27 (fun K18 => pu P (oBin .add T.int false true t163 (.int .i64 3)) fun v => K18 v w27) fun t164 w28 =>
 gd t160 true w28 (fun K19 => pu P (oIdxA T.sl_impl_Answer t162 t164) fun v => K19 v w28) fun t165 w29 =>
 gd t160 true w29 (fun K20 => pu P (oFldA T.impl_Answer t165 3) fun v => K20 v w29) fun t166 w30 =>
 gd t160 true w30 (fun K21 => rd P (oLoad T.sl_uint8 t166) w30 fun v => K21 v w30) fun t167 w31 =>
 gd t160 true w31 (fun K22 => rd P (oConv T.sl_uint8 T.string t167) w31 fun v => K22 v w31) fun t168 w32 =>
 gd t160 true w32 (fun K23 => K23 t1 w32) fun t169 w33 =>
 gd t160 true w33 (fun K24 => rd P (oConv T.sl_uint8 T.string t169) w33 fun v => K24 v w33) fun t170 w34 =>
 gd t160 true w34 (fun K25 => pu P (oBin .eql T.string false false t168 t170) fun v => K25 v w34) fun t171 w35 =>
 pu P (oPick t160 t171 (.bool false)) fun t172 =>
 gd t172 true w35 (fun K26 => K26 t96 w35) fun t174 w36 =>
 gd t172 true w36 (fun K27 => rd P (oConv T.sl_uint8 T.string t174) w36 fun v => K27 v w36) fun t175 w37 =>
 gd t172 true w37 (fun K28 => K28 t0 w37) fun t176 w38 =>
 gd t172 true w38 (fun K29 => rd P (oConv T.sl_uint8 T.string t176) w38 fun v => K29 v w38) fun t177 w39 =>
 gd t172 true w39 (fun K30 => K30 t1 w39) fun t178 w40 =>
 gd t172 true w40 (fun K31 => rd P (oConv T.sl_uint8 T.string t178) w40 fun v => K31 v w40) fun t179 w41 =>
 gd t172 true w41 (fun K32 => pu P (oBin .add T.string false false t177 t179) fun v => K32 v w41) fun t180 w42 =>
 gd t172 true w42 (fun K33 => pu P (oBin .eql T.string false false t175 t180) fun v => K33 v w42) fun t181 w43 =>
 pu P (oPick t172 t181 (.bool false)) fun t182 =>
 K (tup [t182]) w43) fun k5 =>
 pu P (oSlice T.sl_impl_Answer t95 (some (.int .i64 1)) (some t77) none) fun t103 =>
 pu P (oBuiltin .len #[T.sl_impl_Answer] T.int #[false] #[t103]) fun t104 =>
 lp [t100, (.int .i64 0)] w9 fun s6 u6 w44 C1 =>
 pu P (oBin .lss T.int false false (gs s6 1) t104) fun t106 =>
 jn (fun s7 u7 w45 =>
 jn (fun s8 u8 w46 =>
 pu P (oBin .add T.int false true (gs s6 1) (.int .i64 1)) fun t134 =>
 C1 [(gs s8 0), t134] w46) fun k7 =>
 pu P (oIdxA T.sl_impl_Answer t103 (gs s6 1)) fun t107 =>
 st P (oLoad T.impl_Answer t107) w45 fun t108 w47 =>
 st P (oAlloc T.impl_Answer) w47 fun t17 w48 =>
 st P (oStore T.impl_Answer t17 t108) w48 fun _ w49 =>
 jn (fun s9 u9 w50 =>
 pu P (oFldA T.impl_Answer t17 3) fun t131 =>
 st P (oLoad T.sl_uint8 t131) w50 fun t132 w51 =>
 st P (oBuiltin .append #[T.sl_uint8, T.sl_uint8] T.sl_uint8 #[false, false] #[(gs s6 0), t132]) w51 fun t133 w52 =>
 k7 [t133] w52) fun k8 =>
 pu P (oFldA T.impl_Answer t17 0) fun t109 =>
 st P (oLoad T.int t109) w49 fun t110 w53 =>
 pu P (oBin .eql T.int false true t110 (.int .i64 4)) fun t111 =>
 pu P (oBuiltin .len #[T.sl_uint8] T.int #[false] #[(gs s6 0)]) fun t114 =>
 pu P (oBin .add T.int false false t2 t114) fun t115 =>
 pu P (oBuiltin .len #[T.sl_uint8] T.int #[false] #[t0]) fun t117 =>
 pu P (oBin .eql T.int false false t115 t117) fun t118 =>
 pu P (oBin .neq T.bool false false t111 t118) fun t119 =>
 gd t119 false w53 (fun K34 => pu P (oFldA T.impl_Answer t17 0) fun v => K34 v w53) fun t121 w54 =>
 gd t119 false w54 (fun K35 => st P (oLoad T.int t121) w54 K35) fun t122 w55 =>
 gd t119 false w55 (fun K36 => pu P (oBin .neq T.int false true t122 (.int .i64 0)) fun v => K36 v w55) fun t123 w56 =>
 gd t119 false w56 (fun K37 => K37 t123 w56) fun t124 w57 =>
 gd t124 true w57 (fun K38 => pu P (oFldA T.impl_Answer t17 0) fun v => K38 v w57) fun t125 w58 =>
 gd t124 true w58 (fun K39 => st P (oLoad T.int t125) w58 K39) fun t126 w59 =>
 gd t124 true w59 (fun K40 => pu P (oBin .neq T.int false true t126 (.int .i64 4)) fun v => K40 v w59) fun t127 w60 =>
 gd t119 false w60 (fun K41 => pu P (oPick t124 t127 (.bool false)) fun v => K41 v w60) fun t128 w61 =>
 pu P (oPick t119 (.bool true) t128) fun t129 =>
 cd t129 (
 K (tup [(.bool false)]) w61) (
 k8 [] w61)) fun k6 =>
 cd t106 (
 k6 [] w44) (
 k5 [(gs s6 0)] w44)) fun k4 =>
 pu P (oUn .not t97) fun t99 =>
 cd t99 (
 K (tup [(.bool false)]) w7) (
 k4 [] w7)) fun k3 =>
 lp [t59, (.int .i64 0)] w3 fun s10 u10 w62 C2 =>
 jn (fun s11 u11 w63 =>
 pu P (oBuild T.impl_Step #[(0, (.int .i64 12)), (9, t3)]) fun t73 =>
 st P (oBuildSlice T.sl_impl_Step 1 #[(0, t73)]) w63 fun t74 w64 =>
 st P (oBuiltin .append #[T.sl_impl_Step, T.sl_impl_Step] T.sl_impl_Step #[false, false] #[(gs s10 0), t74]) w64 fun t75 w65 =>
 pu P (oBin .add T.int false true (gs s10 1) (.int .i64 1)) fun t70 =>
 C2 [t75, t70] w65) fun k9 =>
 pu P (oBuiltin .len #[T.sl_uint8] T.int #[false] #[t0]) fun t62 =>
 pu P (oBin .sub T.int false false t62 t2) fun t64 =>
 pu P (oBin .quo T.int false false t64 t3) fun t66 =>
 pu P (oBin .add T.int false true t66 (.int .i64 2)) fun t67 =>
 pu P (oBin .leq T.int false false (gs s10 1) t67) fun t68 =>
 cd t68 (
 k9 [] w62) (
 k3 [(gs s10 0)] w62)) fun k2 =>
 pu P (oBuiltin .len #[T.sl_uint8] T.int #[false] #[t0]) fun t27 =>
 pu P (oBin .gtr T.int false true t27 (.int .i64 1000)) fun t28 =>
 gd t28 false w1 (fun K42 => K42 t1 w1) fun t30 w66 =>
 gd t28 false w66 (fun K43 => pu P (oBuiltin .len #[T.sl_uint8] T.int #[false] #[t30]) fun v => K43 v w66) fun t31 w67 =>
 gd t28 false w67 (fun K44 => pu P (oBin .eql T.int false true t31 (.int .i64 0)) fun v => K44 v w67) fun t32 w68 =>
 pu P (oPick t28 (.bool true) t32) fun t33 =>
 gd t33 false w68 (fun K45 => K45 t1 w68) fun t35 w69 =>
 gd t33 false w69 (fun K46 => pu P (oBuiltin .len #[T.sl_uint8] T.int #[false] #[t35]) fun v => K46 v w69) fun t36 w70 =>
 gd t33 false w70 (fun K47 => pu P (oBin .gtr T.int false true t36 (.int .i64 1000)) fun v => K47 v w70) fun t37 w71 =>
 pu P (oPick t33 (.bool true) t37) fun t38 =>
 gd t38 false w71 (fun K48 => K48 t2 w71) fun t40 w72 =>
 gd t38 false w72 (fun K49 => pu P (oBin .lss T.int false true t40 (.int .i64 0)) fun v => K49 v w72) fun t41 w73 =>
 pu P (oPick t38 (.bool true) t41) fun t42 =>
 gd t42 false w73 (fun K50 => K50 t2 w73) fun t44 w74 =>
 gd t42 false w74 (fun K51 => K51 t0 w74) fun t45 w75 =>
 gd t42 false w75 (fun K52 => pu P (oBuiltin .len #[T.sl_uint8] T.int #[false] #[t45]) fun v => K52 v w75) fun t46 w76 =>
 gd t42 false w76 (fun K53 => pu P (oBin .gtr T.int false false t44 t46) fun v => K53 v w76) fun t47 w77 =>
 pu P (oPick t42 (.bool true) t47) fun t48 =>
 gd t48 false w77 (fun K54 => K54 t3 w77) fun t50 w78 =>
 gd t48 false w78 (fun K55 => pu P (oBin .lss T.int false true t50 (.int .i64 1)) fun v => K55 v w78) fun t51 w79 =>
 pu P (oPick t48 (.bool true) t51) fun t52 =>
 gd t52 false w79 (fun K56 => K56 t3 w79) fun t54 w80 =>
 gd t52 false w80 (fun K57 => pu P (oBin .gtr T.int false true t54 (.int .i64 100)) fun v => K57 v w80) fun t55 w81 =>
 pu P (oPick t52 (.bool true) t55) fun t56 =>
 cd t56 (
 K (tup [(.bool true)]) w81) (
 k2 [] w81)) fun k1 =>
 pu P (oBuiltin .len #[T.sl_uint8] T.int #[false] #[t0]) fun t19 =>
 pu P (oBin .gtr T.int false true t19 (.int .i64 2147483647)) fun t20 =>
 gd t20 false w (fun K58 => K58 t1 w) fun t22 w82 =>
 gd t20 false w82 (fun K59 => pu P (oBuiltin .len #[T.sl_uint8] T.int #[false] #[t22]) fun v => K59 v w82) fun t23 w83 =>
 gd t20 false w83 (fun K60 => pu P (oBin .gtr T.int false true t23 (.int .i64 2147483647)) fun v => K60 v w83) fun t24 w84 =>
 pu P (oPick t20 (.bool true) t24) fun t25 =>
 cd t25 (
 K (tup [(.bool true)]) w84) (
 k1 [] w84)
def Tb_laws_FnReadToTheEnd : Tab := { join := fun n => match n with | 10 => [9] | 22 => [15] | 23 => [15] | _ => [], loop := fun n => match n with | 7 => [9, 10] | 17 => [15, 105] | _ => [] }
theorem S_laws_FnReadToTheEnd {t0 t1 t2 t3 : Value} {w : World} {K : Value → World → Prop} (h : F_laws_FnReadToTheEnd t0 t1 t2 t3 w K) : Cl P Fn.laws_FnReadToTheEnd #[t0, t1, t2, t3] w K :=
  cl_of_eq (T := Tb_laws_FnReadToTheEnd) (args := [t0, t1, t2, t3]) Tryd.func6 rfl follows_mixed (by kernel_rfl) (Nat.le_of_ble_eq_true (by kernel_rfl)) (by kernel_rfl) h

/-- pub-marram/laws.FnSeekMoves -/
def F_laws_FnSeekMoves (t0 t1 t2 : Value) (w : World) (K : Value → World → Prop) : Prop :=
 jn (fun s1 u1 w1 =>
 pu P (oBuiltin .len #[T.sl_int64] T.int #[false] #[t1]) fun t30 =>
 pu P (oBuiltin .len #[T.sl_int] T.int #[false] #[t2]) fun t32 =>
 pu P (oBuiltin .min #[T.int, T.int] T.int #[false, false] #[t30, t32]) fun t33 =>
 jn (fun s2 u2 w2 =>
 st P (oBuildSlice T.sl_impl_Step 0 #[]) w2 fun t41 w3 =>
 st P (oBuildSlice T.sl_int64 0 #[]) w3 fun t42 w4 =>
 jn (fun s3 u3 w5 =>
 st P (oCall Fn.impl_HandleScript #[t0, (.bool false), (gs s3 0)]) w5 fun t106 w6 =>
 pu P (oExtract t106 0) fun t107 =>
 pu P (oExtract t106 1) fun t108 =>
 jn (fun s4 u4 w7 =>
 jn (fun s5 u5 w8 =>
 K (tup [(.bool true)]) w8) fun k5 =>
 pu P (oBuiltin .len #[T.sl_impl_Answer] T.int #[false] #[t107]) fun t121 =>
 lp [(.int .i64 0)] w7 fun s6 u6 w9 C1 =>
 pu P (oBin .lss T.int false false (gs s6 0) t121) fun t123 =>
 jn (fun s7 u7 w10 =>
 jn (fun s8 u8 w11 =>
 pu P (oBin .add T.int false true (gs s6 0) (.int .i64 1)) fun t139 =>
 C1 [t139] w11) fun k7 =>
 pu P (oIdxA T.sl_impl_Answer t107 (gs s6 0)) fun t125 =>
 st P (oLoad T.impl_Answer t125) w10 fun t126 w12 =>
 st P (oAlloc T.impl_Answer) w12 fun t15 w13 =>
 st P (oStore T.impl_Answer t15 t126) w13 fun _ w14 =>
 pu P (oFldA T.impl_Answer t15 0) fun t127 =>
 rd P (oLoad T.int t127) w14.drew fun t128 =>
 pu P (oBin .neq T.int false true t128 (.int .i64 0)) fun t129 =>
 gd t129 false w14.drew (fun K1 => pu P (oFldA T.impl_Answer t15 2) fun v => K1 v w14.drew) fun t131 w15 =>
 gd t129 false w15 (fun K2 => rd P (oLoad T.int64 t131) w15 fun v => K2 v w15) fun t132 w16 =>
 gd t129 false w16 (fun K3 => K3 (gs s3 1) w16) fun t133 w17 =>
 gd t129 false w17 (fun K4 => K4 (gs s6 0) w17) fun t134 w18 =>
 gd t129 false w18 (fun K5 => pu P (oIdxA T.sl_int64 t133 t134) fun v => K5 v w18) fun t135 w19 =>
 gd t129 false w19 (fun K6 => rd P (oLoad T.int64 t135) w19 fun v => K6 v w19) fun t136 w20 =>
 gd t129 false w20 (fun K7 => pu P (oBin .neq T.int64 false false t132 t136) fun v => K7 v w20) fun t137 w21 =>
 pu P (oPick t129 (.bool true) t137) fun t138 =>
 cd t138 (
 K (tup [(.bool false)]) w21) (
 k7 [] w21)) fun k6 =>
 cd t123 (
 k6 [] w9) (
 k5 [] w9)) fun k4 =>
 pu P (oBuiltin .len #[T.sl_impl_Answer] T.int #[false] #[t107]) fun t110 =>
 pu P (oBin .neq T.int false false t110 t33) fun t112 =>
 gd t112 false w6 (fun K8 => K8 t108 w6) fun t114 w22 =>
 gd t112 false w22 (fun K9 => st P (oConv T.sl_uint8 T.string t114) w22 K9) fun t115 w23 =>
 gd t112 false w23 (fun K10 => K10 t0 w23) fun t116 w24 =>
 gd t112 false w24 (fun K11 => st P (oConv T.sl_uint8 T.string t116) w24 K11) fun t117 w25 =>
 gd t112 false w25 (fun K12 => pu P (oBin .neq T.string false false t115 t117) fun v => K12 v w25) fun t118 w26 =>
 pu P (oPick t112 (.bool true) t118) fun t119 =>
 cd t119 (
 K (tup [(.bool false)]) w26) (
 k4 [] w26)) fun k3 =>
 lp [t41, t42, (.int .i64 0), (.int .i64 0)] w4 fun s9 u9 w27 C2 =>
 jn (fun s10 u10 w28 =>
 jn (fun s11 u11 w29 =>
 pu P (oBin .add T.int false true (gs s9 3) (.int .i64 1)) fun t47 =>
 C2 [(gs s11 0), (gs s11 1), (gs s11 2), t47] w29) fun k9 =>
 jn (fun s12 u12 w30 =>
 jn (fun s13 u13 w31 =>
 pu P (oIdxA T.sl_int64 t1 (gs s9 3)) fun t90 =>
 rd P (oLoad T.int64 t90) w31.drew fun t91 =>
 pu P (oIdxA T.sl_int t2 (gs s9 3)) fun t94 =>
 rd P (oLoad T.int t94) w31.drew fun t95 =>
 pu P (oBuild T.impl_Step #[(0, (.int .i64 16)), (7, t91), (8, t95)]) fun t96 =>
 st P (oBuildSlice T.sl_impl_Step 1 #[(0, t96)]) w31.drew fun t97 w32 =>
 st P (oBuiltin .append #[T.sl_impl_Step, T.sl_impl_Step] T.sl_impl_Step #[false, false] #[(gs s9 0), t97]) w32 fun t98 w33 =>
 st P (oBuildSlice T.sl_int64 1 #[(0, (gs s13 0))]) w33 fun t101 w34 =>
 st P (oBuiltin .append #[T.sl_int64, T.sl_int64] T.sl_int64 #[false, false] #[(gs s9 1), t101]) w34 fun t102 w35 =>
 k9 [t98, t102, (gs s13 0)] w35) fun k11 =>
 pu P (oIdxA T.sl_int t2 (gs s9 3)) fun t62 =>
 st P (oLoad T.int t62) w30 fun t63 w36 =>
 pu P (oBin .eql T.int false true t63 (.int .i64 0)) fun t65 =>
 cd t65 (
 pu P (oIdxA T.sl_int64 t1 (gs s9 3)) fun t68 =>
 st P (oLoad T.int64 t68) w36 fun t69 w37 =>
 k11 [t69] w37) (
 pu P (oBin .eql T.int false true t63 (.int .i64 1)) fun t71 =>
 cd t71 (
 pu P (oIdxA T.sl_int64 t1 (gs s9 3)) fun t75 =>
 st P (oLoad T.int64 t75) w36 fun t76 w38 =>
 pu P (oBin .add T.int64 false false (gs s9 2) t76) fun t77 =>
 k11 [t77] w38) (
 pu P (oBin .eql T.int false true t63 (.int .i64 2)) fun t79 =>
 cd t79 (
 pu P (oBuiltin .len #[T.sl_uint8] T.int #[false] #[t0]) fun t81 =>
 pu P (oIdxA T.sl_int64 t1 (gs s9 3)) fun t84 =>
 st P (oLoad T.int64 t84) w36 fun t85 w39 =>
 pu P (oBin .add T.int64 false false t81 t85) fun t86 =>
 k11 [t86] w39) (
 k11 [(gs s9 2)] w36)))) fun k10 =>
 pu P (oIdxA T.sl_int64 t1 (gs s9 3)) fun t50 =>
 st P (oLoad T.int64 t50) w28 fun t51 w40 =>
 pu P (oBin .gtr T.int64 false true t51 (.int .i64 1099511627776)) fun t52 =>
 gd t52 false w40 (fun K13 => K13 t1 w40) fun t54 w41 =>
 gd t52 false w41 (fun K14 => K14 (gs s9 3) w41) fun t55 w42 =>
 gd t52 false w42 (fun K15 => pu P (oIdxA T.sl_int64 t54 t55) fun v => K15 v w42) fun t56 w43 =>
 gd t52 false w43 (fun K16 => st P (oLoad T.int64 t56) w43 K16) fun t57 w44 =>
 gd t52 false w44 (fun K17 => pu P (oBin .lss T.int64 false true t57 (.int .i64 (-1099511627776))) fun v => K17 v w44) fun t58 w45 =>
 pu P (oPick t52 (.bool true) t58) fun t59 =>
 cd t59 (
 K (tup [(.bool true)]) w45) (
 k10 [] w45)) fun k8 =>
 pu P (oBin .lss T.int false false (gs s9 3) t33) fun t45 =>
 cd t45 (
 k8 [] w27) (
 k3 [(gs s9 0), (gs s9 1)] w27)) fun k2 =>
 pu P (oBuiltin .len #[T.sl_uint8] T.int #[false] #[t0]) fun t35 =>
 pu P (oBin .gtr T.int false true t35 (.int .i64 4096)) fun t36 =>
 gd t36 false w1 (fun K18 => K18 t33 w1) fun t38 w46 =>
 gd t36 false w46 (fun K19 => pu P (oBin .gtr T.int false true t38 (.int .i64 20)) fun v => K19 v w46) fun t39 w47 =>
 pu P (oPick t36 (.bool true) t39) fun t40 =>
 cd t40 (
 K (tup [(.bool true)]) w47) (
 k2 [] w47)) fun k1 =>
 pu P (oBuiltin .len #[T.sl_uint8] T.int #[false] #[t0]) fun t17 =>
 pu P (oBin .gtr T.int false true t17 (.int .i64 2147483647)) fun t18 =>
 gd t18 false w (fun K20 => K20 t1 w) fun t20 w48 =>
 gd t18 false w48 (fun K21 => pu P (oBuiltin .len #[T.sl_int64] T.int #[false] #[t20]) fun v => K21 v w48) fun t21 w49 =>
 gd t18 false w49 (fun K22 => pu P (oBin .gtr T.int false true t21 (.int .i64 2147483647)) fun v => K22 v w49) fun t22 w50 =>
 pu P (oPick t18 (.bool true) t22) fun t23 =>
 gd t23 false w50 (fun K23 => K23 t2 w50) fun t25 w51 =>
 gd t23 false w51 (fun K24 => pu P (oBuiltin .len #[T.sl_int] T.int #[false] #[t25]) fun v => K24 v w51) fun t26 w52 =>
 gd t23 false w52 (fun K25 => pu P (oBin .gtr T.int false true t26 (.int .i64 2147483647)) fun v => K25 v w52) fun t27 w53 =>
 pu P (oPick t23 (.bool true) t27) fun t28 =>
 cd t28 (
 K (tup [(.bool true)]) w53) (
 k1 [] w53)
def Tb_laws_FnSeekMoves : Tab := { join := fun n => match n with | 9 => [8, 9, 10] | 19 => [10] | 21 => [8, 9] | _ => [], loop := fun n => match n with | 8 => [8, 9, 10, 11] | 25 => [122] | _ => [] }
theorem S_laws_FnSeekMoves {t0 t1 t2 : Value} {w : World} {K : Value → World → Prop} (h : F_laws_FnSeekMoves t0 t1 t2 w K) : Cl P Fn.laws_FnSeekMoves #[t0, t1, t2] w K :=
  cl_of_eq (T := Tb_laws_FnSeekMoves) (args := [t0, t1, t2]) Tryd.func7 rfl follows_mixed (by kernel_rfl) (Nat.le_of_ble_eq_true (by kernel_rfl)) (by kernel_rfl) h

/-- pub-marram/laws.FnUnionAlike -/
def F_laws_FnUnionAlike (t0 t1 t2 : Value) (w : World) (K : Value → World → Prop) : Prop :=
 jn (fun s1 u1 w1 =>
 jn (fun s2 u2 w2 =>
 jn (fun s3 u3 w3 =>
 st P (oCall Fn.impl_UnionScript #[t0, t0, t1, t2]) w3 fun t47 w4 =>
 pu P (oExtract t47 0) fun t48 =>
 pu P (oExtract t47 1) fun t49 =>
 pu P (oExtract t47 2) fun t50 =>
 pu P (oBuiltin .len #[T.sl_impl_Answer] T.int #[false] #[t48]) fun t52 =>
 pu P (oBuiltin .len #[T.sl_impl_Step] T.int #[false] #[t2]) fun t54 =>
 pu P (oBin .eql T.int false false t52 t54) fun t55 =>
 gd t55 true w4 (fun K1 => K1 t49 w4) fun t57 w5 =>
 gd t55 true w5 (fun K2 => st P (oConv T.sl_uint8 T.string t57) w5 K2) fun t58 w6 =>
 gd t55 true w6 (fun K3 => K3 t50 w6) fun t59 w7 =>
 gd t55 true w7 (fun K4 => st P (oConv T.sl_uint8 T.string t59) w7 K4) fun t60 w8 =>
 gd t55 true w8 (fun K5 => pu P (oBin .eql T.string false false t58 t60) fun v => K5 v w8) fun t61 w9 =>
 pu P (oPick t55 t61 (.bool false)) fun t62 =>
 gd t62 true w9 (fun K6 => K6 t1 w9) fun t64 w10 =>
 gd t62 true w10 (fun K7 => pu P (oUn .not t64) fun v => K7 v w10) fun t65 w11 =>
 gd t62 true w11 (fun K8 => K8 t65 w11) fun t66 w12 =>
 gd t66 false w12 (fun K9 => K9 t49 w12) fun t67 w13 =>
 gd t66 false w13 (fun K10 => st P (oConv T.sl_uint8 T.string t67) w13 K10) fun t68 w14 =>
 gd t66 false w14 (fun K11 => K11 t0 w14) fun t69 w15 =>
 gd t66 false w15 (fun K12 => st P (oConv T.sl_uint8 T.string t69) w15 K12) fun t70 w16 =>
 gd t66 false w16 (fun K13 => pu P (oBin .eql T.string false false t68 t70) fun v => K13 v w16) fun t71 w17 =>
 gd t62 true w17 (fun K14 => pu P (oPick t66 (.bool true) t71) fun v => K14 v w17) fun t72 w18 =>
 pu P (oPick t62 t72 (.bool false)) fun t73 =>
 K (tup [t73]) w18) fun k3 =>
 st P (oCall Fn.spec_UnionRun #[t0, t0, t1, t2]) w2 fun t35 w19 =>
 pu P (oExtract t35 0) fun t36 =>
 pu P (oExtract t35 1) fun t37 =>
 pu P (oExtract t35 2) fun t38 =>
 pu P (oExtract t35 3) fun t39 =>
 pu P (oUn .not t39) fun t41 =>
 cd t41 (
 K (tup [(.bool true)]) w19) (
 k3 [] w19)) fun k2 =>
 pu P (oBuiltin .len #[T.sl_impl_Step] T.int #[false] #[t2]) fun t23 =>
 pu P (oBin .gtr T.int false true t23 (.int .i64 20)) fun t24 =>
 gd t24 false w1 (fun K15 => K15 t0 w1) fun t26 w20 =>
 gd t24 false w20 (fun K16 => pu P (oBuiltin .len #[T.sl_uint8] T.int #[false] #[t26]) fun v => K16 v w20) fun t27 w21 =>
 gd t24 false w21 (fun K17 => pu P (oBin .gtr T.int false true t27 (.int .i64 4096)) fun v => K17 v w21) fun t28 w22 =>
 pu P (oPick t24 (.bool true) t28) fun t29 =>
 cd t29 (
 K (tup [(.bool true)]) w22) (
 k2 [] w22)) fun k1 =>
 pu P (oBuiltin .len #[T.sl_uint8] T.int #[false] #[t0]) fun t15 =>
 pu P (oBin .gtr T.int false true t15 (.int .i64 2147483647)) fun t16 =>
 gd t16 false w (fun K18 => K18 t2 w) fun t18 w23 =>
 gd t16 false w23 (fun K19 => st P (oCall Fn.laws_zzFits1 #[t18]) w23 K19) fun t19 w24 =>
 gd t16 false w24 (fun K20 => pu P (oUn .not t19) fun v => K20 v w24) fun t20 w25 =>
 pu P (oPick t16 (.bool true) t20) fun t21 =>
 cd t21 (
 K (tup [(.bool true)]) w25) (
 k1 [] w25)
def Tb_laws_FnUnionAlike : Tab := { join := fun n => match n with | _ => [], loop := fun n => match n with | _ => [] }
theorem S_laws_FnUnionAlike {t0 t1 t2 : Value} {w : World} {K : Value → World → Prop} (h : F_laws_FnUnionAlike t0 t1 t2 w K) : Cl P Fn.laws_FnUnionAlike #[t0, t1, t2] w K :=
  cl_of_eq (T := Tb_laws_FnUnionAlike) (args := [t0, t1, t2]) Tryd.func8 rfl follows_mixed (by kernel_rfl) (Nat.le_of_ble_eq_true (by kernel_rfl)) (by kernel_rfl) h

/-- pub-marram/laws.FnUnionCopies -/
def F_laws_FnUnionCopies (t0 t1 t2 t3 : Value) (w : World) (K : Value → World → Prop) : Prop :=
 jn (fun s1 u1 w1 =>
 jn (fun s2 u2 w2 =>
 st P (oBuildSlice T.sl_impl_Step 0 #[]) w2 fun t61 w3 =>
 jn (fun s3 u3 w4 =>
 jn (fun s4 u4 w5 =>
 pu P (oBuild T.impl_Step #[(0, (.int .i64 14)), (6, t2)]) fun t100 =>
 st P (oBuildSlice T.sl_impl_Step 1 #[(0, t100)]) w5 fun t101 w6 =>
 st P (oBuiltin .append #[T.sl_impl_Step, T.sl_impl_Step] T.sl_impl_Step #[false, false] #[(gs s4 0), t101]) w6 fun t102 w7 =>
 st P (oCall Fn.impl_UnionScript #[t0, t1, (.bool false), t102]) w7 fun t103 w8 =>
 pu P (oExtract t103 0) fun t104 =>
 pu P (oExtract t103 1) fun t105 =>
 pu P (oExtract t103 2) fun t106 =>
 st P (oBuildSlice T.sl_uint8 0 #[]) w8 fun t107 w9 =>
 jn (fun s5 u5 w10 =>
 st P (oBuildSlice T.sl_uint8 0 #[]) w10 fun t119 w11 =>
 st P (oBuiltin .append #[T.sl_uint8, T.sl_uint8] T.sl_uint8 #[false, false] #[t119, t1]) w11 fun t121 w12 =>
 jn (fun s6 u6 w13 =>
 pu P (oBuiltin .len #[T.sl_uint8] T.int #[false] #[t0]) fun t135 =>
 pu P (oSlice T.sl_uint8 (gs s6 0) (some t135) none none) fun t136 =>
 st P (oBuiltin .copy #[T.sl_uint8, T.sl_uint8] T.int #[false, false] #[t136, t2]) w13 fun t138 w14 =>
 pu P (oBuiltin .len #[T.sl_impl_Answer] T.int #[false] #[t104]) fun t140 =>
 pu P (oBuiltin .len #[T.sl_impl_Step] T.int #[false] #[(gs s4 0)]) fun t142 =>
 pu P (oBin .add T.int false true t142 (.int .i64 1)) fun t143 =>
 pu P (oBin .eql T.int false false t140 t143) fun t144 =>
 gd t144 true w14 (fun K1 => K1 (gs s5 0) w14) fun t146 w15 =>
 gd t144 true w15 (fun K2 => st P (oConv T.sl_uint8 T.string t146) w15 K2) fun t147 w16 =>
 gd t144 true w16 (fun K3 => K3 t0 w16) fun t148 w17 =>
 gd t144 true w17 (fun K4 => st P (oConv T.sl_uint8 T.string t148) w17 K4) fun t149 w18 =>
 gd t144 true w18 (fun K5 => pu P (oBin .eql T.string false false t147 t149) fun v => K5 v w18) fun t150 w19 =>
 pu P (oPick t144 t150 (.bool false)) fun t151 =>
 gd t151 true w19 (fun K6 => K6 t105 w19) fun t153 w20 =>
 gd t151 true w20 (fun K7 => st P (oConv T.sl_uint8 T.string t153) w20 K7) fun t154 w21 =>
 gd t151 true w21 (fun K8 => K8 t0 w21) fun t155 w22 =>
 gd t151 true w22 (fun K9 => st P (oConv T.sl_uint8 T.string t155) w22 K9) fun t156 w23 =>
 gd t151 true w23 (fun K10 => K10 t2 w23) fun t157 w24 =>
 gd t151 true w24 (fun K11 => st P (oConv T.sl_uint8 T.string t157) w24 K11) fun t158 w25 =>
 gd t151 true w25 (fun K12 => pu P (oBin .add T.string false false t156 t158) fun v => K12 v w25) fun t159 w26 =>
 gd t151 true w26 (fun K13 => pu P (oBin .eql T.string false false t154 t159) fun v => K13 v w26) fun t160 w27 =>
 pu P (oPick t151 t160 (.bool false)) fun t161 =>
 gd t161 true w27 (fun K14 => K14 t106 w27) fun t163 w28 =>
 gd t161 true w28 (fun K15 => st P (oConv T.sl_uint8 T.string t163) w28 K15) fun t164 w29 =>
 gd t161 true w29 (fun K16 => K16 (gs s6 0) w29) fun t165 w30 =>
 gd t161 true w30 (fun K17 => st P (oConv T.sl_uint8 T.string t165) w30 K17) fun t166 w31 =>
 gd t161 true w31 (fun K18 => pu P (oBin .eql T.string false false t164 t166) fun v => K18 v w31) fun t167 w32 =>
 pu P (oPick t161 t167 (.bool false)) fun t168 =>
 K (tup [t168]) w32) fun k6 =>
 lp [t121] w12 fun s7 u7 w33 C1 =>
 jn (fun s8 u8 w34 =>
 st P (oBuildSlice T.sl_uint8 1 #[(0, (.int .u8 0))]) w34 fun t131 w35 =>
 st P (oBuiltin .append #[T.sl_uint8, T.sl_uint8] T.sl_uint8 #[false, false] #[(gs s7 0), t131]) w35 fun t132 w36 =>
 C1 [t132] w36) fun k7 =>
 pu P (oBuiltin .len #[T.sl_uint8] T.int #[false] #[(gs s7 0)]) fun t123 =>
 pu P (oBuiltin .len #[T.sl_uint8] T.int #[false] #[t0]) fun t125 =>
 pu P (oBuiltin .len #[T.sl_uint8] T.int #[false] #[t2]) fun t127 =>
 pu P (oBin .add T.int false false t125 t127) fun t128 =>
 pu P (oBin .lss T.int false false t123 t128) fun t129 =>
 cd t129 (
 k7 [] w33) (
 k6 [(gs s7 0)] w33)) fun k5 =>
 pu P (oBuiltin .len #[T.sl_impl_Answer] T.int #[false] #[t104]) fun t109 =>
 lp [t107, (.int .i64 0)] w9 fun s9 u9 w37 C2 =>
 pu P (oBin .lss T.int false false (gs s9 1) t109) fun t111 =>
 jn (fun s10 u10 w38 =>
 pu P (oIdxA T.sl_impl_Answer t104 (gs s9 1)) fun t112 =>
 st P (oLoad T.impl_Answer t112) w38 fun t113 w39 =>
 st P (oAlloc T.impl_Answer) w39 fun t18 w40 =>
 st P (oStore T.impl_Answer t18 t113) w40 fun _ w41 =>
 pu P (oFldA T.impl_Answer t18 3) fun t115 =>
 st P (oLoad T.sl_uint8 t115) w41 fun t116 w42 =>
 st P (oBuiltin .append #[T.sl_uint8, T.sl_uint8] T.sl_uint8 #[false, false] #[(gs s9 0), t116]) w42 fun t117 w43 =>
 pu P (oBin .add T.int false true (gs s9 1) (.int .i64 1)) fun t118 =>
 C2 [t117, t118] w43) fun k8 =>
 cd t111 (
 k8 [] w37) (
 k5 [(gs s9 0)] w37)) fun k4 =>
 pu P (oBuiltin .len #[T.sl_uint8] T.int #[false] #[t0]) fun t89 =>
 pu P (oBin .lss T.int false false (gs s3 1) t89) fun t90 =>
 cd t90 (
 pu P (oBuild T.impl_Step #[(0, (.int .i64 12)), (9, (.int .i64 300))]) fun t92 =>
 st P (oBuildSlice T.sl_impl_Step 1 #[(0, t92)]) w4 fun t93 w44 =>
 st P (oBuiltin .append #[T.sl_impl_Step, T.sl_impl_Step] T.sl_impl_Step #[false, false] #[(gs s3 0), t93]) w44 fun t94 w45 =>
 k4 [t94] w45) (
 k4 [(gs s3 0)] w4)) fun k3 =>
 pu P (oBuiltin .len #[T.sl_int] T.int #[false] #[t3]) fun t63 =>
 lp [t61, (.int .i64 0), (.int .i64 0)] w3 fun s11 u11 w46 C3 =>
 pu P (oBin .lss T.int false false (gs s11 2) t63) fun t65 =>
 jn (fun s12 u12 w47 =>
 jn (fun s13 u13 w48 =>
 pu P (oBin .add T.int false true (gs s11 2) (.int .i64 1)) fun t86 =>
 C3 [(gs s13 0), (gs s13 1), t86] w48) fun k10 =>
 pu P (oIdxA T.sl_int t3 (gs s11 2)) fun t66 =>
 st P (oLoad T.int t66) w47 fun t67 w49 =>
 jn (fun s14 u14 w50 =>
 pu P (oBuiltin .len #[T.sl_uint8] T.int #[false] #[t0]) fun t76 =>
 pu P (oBin .lss T.int false false (gs s11 1) t76) fun t77 =>
 cd t77 (
 pu P (oBuild T.impl_Step #[(0, (.int .i64 12)), (9, t67)]) fun t80 =>
 st P (oBuildSlice T.sl_impl_Step 1 #[(0, t80)]) w50 fun t81 w51 =>
 st P (oBuiltin .append #[T.sl_impl_Step, T.sl_impl_Step] T.sl_impl_Step #[false, false] #[(gs s11 0), t81]) w51 fun t82 w52 =>
 pu P (oBin .add T.int false false (gs s11 1) t67) fun t85 =>
 k10 [t82, t85] w52) (
 k10 [(gs s11 0), (gs s11 1)] w50)) fun k11 =>
 pu P (oBin .lss T.int false true t67 (.int .i64 1)) fun t69 =>
 gd t69 false w49 (fun K19 => K19 t67 w49) fun t71 w53 =>
 gd t69 false w53 (fun K20 => pu P (oBin .gtr T.int false true t71 (.int .i64 300)) fun v => K20 v w53) fun t72 w54 =>
 pu P (oPick t69 (.bool true) t72) fun t73 =>
 cd t73 (
 K (tup [(.bool true)]) w54) (
 k11 [] w54)) fun k9 =>
 cd t65 (
 k9 [] w46) (
 k3 [(gs s11 0), (gs s11 1)] w46)) fun k2 =>
 pu P (oBuiltin .len #[T.sl_uint8] T.int #[false] #[t0]) fun t39 =>
 pu P (oBin .gtr T.int false true t39 (.int .i64 200)) fun t40 =>
 gd t40 false w1 (fun K21 => K21 t1 w1) fun t42 w55 =>
 gd t40 false w55 (fun K22 => pu P (oBuiltin .len #[T.sl_uint8] T.int #[false] #[t42]) fun v => K22 v w55) fun t43 w56 =>
 gd t40 false w56 (fun K23 => pu P (oBin .gtr T.int false true t43 (.int .i64 200)) fun v => K23 v w56) fun t44 w57 =>
 pu P (oPick t40 (.bool true) t44) fun t45 =>
 gd t45 false w57 (fun K24 => K24 t2 w57) fun t47 w58 =>
 gd t45 false w58 (fun K25 => pu P (oBuiltin .len #[T.sl_uint8] T.int #[false] #[t47]) fun v => K25 v w58) fun t48 w59 =>
 gd t45 false w59 (fun K26 => pu P (oBin .gtr T.int false true t48 (.int .i64 200)) fun v => K26 v w59) fun t49 w60 =>
 pu P (oPick t45 (.bool true) t49) fun t50 =>
 gd t50 false w60 (fun K27 => K27 t2 w60) fun t52 w61 =>
 gd t50 false w61 (fun K28 => pu P (oBuiltin .len #[T.sl_uint8] T.int #[false] #[t52]) fun v => K28 v w61) fun t53 w62 =>
 gd t50 false w62 (fun K29 => pu P (oBin .eql T.int false true t53 (.int .i64 0)) fun v => K29 v w62) fun t54 w63 =>
 pu P (oPick t50 (.bool true) t54) fun t55 =>
 gd t55 false w63 (fun K30 => K30 t3 w63) fun t57 w64 =>
 gd t55 false w64 (fun K31 => pu P (oBuiltin .len #[T.sl_int] T.int #[false] #[t57]) fun v => K31 v w64) fun t58 w65 =>
 gd t55 false w65 (fun K32 => pu P (oBin .gtr T.int false true t58 (.int .i64 100)) fun v => K32 v w65) fun t59 w66 =>
 pu P (oPick t55 (.bool true) t59) fun t60 =>
 cd t60 (
 K (tup [(.bool true)]) w66) (
 k2 [] w66)) fun k1 =>
 pu P (oBuiltin .len #[T.sl_uint8] T.int #[false] #[t0]) fun t21 =>
 pu P (oBin .gtr T.int false true t21 (.int .i64 2147483647)) fun t22 =>
 gd t22 false w (fun K33 => K33 t1 w) fun t24 w67 =>
 gd t22 false w67 (fun K34 => pu P (oBuiltin .len #[T.sl_uint8] T.int #[false] #[t24]) fun v => K34 v w67) fun t25 w68 =>
 gd t22 false w68 (fun K35 => pu P (oBin .gtr T.int false true t25 (.int .i64 2147483647)) fun v => K35 v w68) fun t26 w69 =>
 pu P (oPick t22 (.bool true) t26) fun t27 =>
 gd t27 false w69 (fun K36 => K36 t2 w69) fun t29 w70 =>
 gd t27 false w70 (fun K37 => pu P (oBuiltin .len #[T.sl_uint8] T.int #[false] #[t29]) fun v => K37 v w70) fun t30 w71 =>
 gd t27 false w71 (fun K38 => pu P (oBin .gtr T.int false true t30 (.int .i64 2147483647)) fun v => K38 v w71) fun t31 w72 =>
 pu P (oPick t27 (.bool true) t31) fun t32 =>
 gd t32 false w72 (fun K39 => K39 t3 w72) fun t34 w73 =>
 gd t32 false w73 (fun K40 => pu P (oBuiltin .len #[T.sl_int] T.int #[false] #[t34]) fun v => K40 v w73) fun t35 w74 =>
 gd t32 false w74 (fun K41 => pu P (oBin .gtr T.int false true t35 (.int .i64 2147483647)) fun v => K41 v w74) fun t36 w75 =>
 pu P (oPick t32 (.bool true) t36) fun t37 =>
 cd t37 (
 K (tup [(.bool true)]) w75) (
 k1 [] w75)
def Tb_laws_FnUnionCopies : Tab := { join := fun n => match n with | 13 => [9, 10] | 14 => [9, 10] | 16 => [9] | 23 => [16] | 26 => [19] | _ => [], loop := fun n => match n with | 7 => [9, 10, 64] | 19 => [16, 110] | 24 => [19] | _ => [] }
theorem S_laws_FnUnionCopies {t0 t1 t2 t3 : Value} {w : World} {K : Value → World → Prop} (h : F_laws_FnUnionCopies t0 t1 t2 t3 w K) : Cl P Fn.laws_FnUnionCopies #[t0, t1, t2, t3] w K :=
  cl_of_eq (T := Tb_laws_FnUnionCopies) (args := [t0, t1, t2, t3]) Tryd.func9 rfl follows_mixed (by kernel_rfl) (Nat.le_of_ble_eq_true (by kernel_rfl)) (by kernel_rfl) h

/-- pub-marram/laws.FnUnionScript -/
def F_laws_FnUnionScript (t0 t1 t2 t3 : Value) (w : World) (K : Value → World → Prop) : Prop :=
 jn (fun s1 u1 w1 =>
 jn (fun s2 u2 w2 =>
 st P (oCall Fn.spec_UnionRun #[t0, t1, t2, t3]) w2 fun t47 w3 =>
 pu P (oExtract t47 0) fun t48 =>
 pu P (oExtract t47 1) fun t49 =>
 pu P (oExtract t47 2) fun t50 =>
 pu P (oExtract t47 3) fun t51 =>
 jn (fun s3 u3 w4 =>
 st P (oCall Fn.impl_UnionScript #[t0, t1, t2, t3]) w4 fun t59 w5 =>
 pu P (oExtract t59 0) fun t60 =>
 pu P (oExtract t59 1) fun t61 =>
 pu P (oExtract t59 2) fun t62 =>
 st P (oCall Fn.spec_SameAnswers #[t60, t48]) w5 fun t65 w6 =>
 gd t65 true w6 (fun K1 => K1 t61 w6) fun t67 w7 =>
 gd t65 true w7 (fun K2 => st P (oConv T.sl_uint8 T.string t67) w7 K2) fun t68 w8 =>
 gd t65 true w8 (fun K3 => K3 t49 w8) fun t69 w9 =>
 gd t65 true w9 (fun K4 => st P (oConv T.sl_uint8 T.string t69) w9 K4) fun t70 w10 =>
 gd t65 true w10 (fun K5 => pu P (oBin .eql T.string false false t68 t70) fun v => K5 v w10) fun t71 w11 =>
 pu P (oPick t65 t71 (.bool false)) fun t72 =>
 gd t72 true w11 (fun K6 => K6 t62 w11) fun t74 w12 =>
 gd t72 true w12 (fun K7 => st P (oConv T.sl_uint8 T.string t74) w12 K7) fun t75 w13 =>
 gd t72 true w13 (fun K8 => K8 t50 w13) fun t76 w14 =>
 gd t72 true w14 (fun K9 => st P (oConv T.sl_uint8 T.string t76) w14 K9) fun t77 w15 =>
 gd t72 true w15 (fun K10 => pu P (oBin .eql T.string false false t75 t77) fun v => K10 v w15) fun t78 w16 =>
 pu P (oPick t72 t78 (.bool false)) fun t79 =>
 K (tup [t79]) w16) fun k3 =>
 pu P (oUn .not t51) fun t53 =>
 cd t53 (
 K (tup [(.bool true)]) w3) (
 k3 [] w3)) fun k2 =>
 pu P (oBuiltin .len #[T.sl_impl_Step] T.int #[false] #[t3]) fun t30 =>
 pu P (oBin .gtr T.int false true t30 (.int .i64 20)) fun t31 =>
 gd t31 false w1 (fun K11 => K11 t0 w1) fun t33 w17 =>
 gd t31 false w17 (fun K12 => pu P (oBuiltin .len #[T.sl_uint8] T.int #[false] #[t33]) fun v => K12 v w17) fun t34 w18 =>
 gd t31 false w18 (fun K13 => pu P (oBin .gtr T.int false true t34 (.int .i64 4096)) fun v => K13 v w18) fun t35 w19 =>
 pu P (oPick t31 (.bool true) t35) fun t36 =>
 gd t36 false w19 (fun K14 => K14 t1 w19) fun t38 w20 =>
 gd t36 false w20 (fun K15 => pu P (oBuiltin .len #[T.sl_uint8] T.int #[false] #[t38]) fun v => K15 v w20) fun t39 w21 =>
 gd t36 false w21 (fun K16 => pu P (oBin .gtr T.int false true t39 (.int .i64 4096)) fun v => K16 v w21) fun t40 w22 =>
 pu P (oPick t36 (.bool true) t40) fun t41 =>
 cd t41 (
 K (tup [(.bool true)]) w22) (
 k2 [] w22)) fun k1 =>
 pu P (oBuiltin .len #[T.sl_uint8] T.int #[false] #[t0]) fun t17 =>
 pu P (oBin .gtr T.int false true t17 (.int .i64 2147483647)) fun t18 =>
 gd t18 false w (fun K17 => K17 t1 w) fun t20 w23 =>
 gd t18 false w23 (fun K18 => pu P (oBuiltin .len #[T.sl_uint8] T.int #[false] #[t20]) fun v => K18 v w23) fun t21 w24 =>
 gd t18 false w24 (fun K19 => pu P (oBin .gtr T.int false true t21 (.int .i64 2147483647)) fun v => K19 v w24) fun t22 w25 =>
 pu P (oPick t18 (.bool true) t22) fun t23 =>
 gd t23 false w25 (fun K20 => K20 t3 w25) fun t25 w26 =>
 gd t23 false w26 (fun K21 => st P (oCall Fn.laws_zzFits1 #[t25]) w26 K21) fun t26 w27 =>
 gd t23 false w27 (fun K22 => pu P (oUn .not t26) fun v => K22 v w27) fun t27 w28 =>
 pu P (oPick t23 (.bool true) t27) fun t28 =>
 cd t28 (
 K (tup [(.bool true)]) w28) (
 k1 [] w28)
def Tb_laws_FnUnionScript : Tab := { join := fun n => match n with | _ => [], loop := fun n => match n with | _ => [] }
theorem S_laws_FnUnionScript {t0 t1 t2 t3 : Value} {w : World} {K : Value → World → Prop} (h : F_laws_FnUnionScript t0 t1 t2 t3 w K) : Cl P Fn.laws_FnUnionScript #[t0, t1, t2, t3] w K :=
  cl_of_eq (T := Tb_laws_FnUnionScript) (args := [t0, t1, t2, t3]) Tryd.func10 rfl follows_mixed (by kernel_rfl) (Nat.le_of_ble_eq_true (by kernel_rfl)) (by kernel_rfl) h

/-- pub-marram/laws.zzFits1 -/
def F_laws_zzFits1 (t0 : Value) (w : World) (K : Value → World → Prop) : Prop :=
 jn (fun s1 u1 w1 =>
 jn (fun s2 u2 w2 =>
 K (tup [(.bool true)]) w2) fun k2 =>
 pu P (oBuiltin .len #[T.sl_impl_Step] T.int #[false] #[t0]) fun t9 =>
 lp [(.int .i64 0)] w1 fun s3 u3 w3 C1 =>
 pu P (oBin .lss T.int false false (gs s3 0) t9) fun t11 =>
 jn (fun s4 u4 w4 =>
 jn (fun s5 u5 w5 =>
 pu P (oBin .add T.int false true (gs s3 0) (.int .i64 1)) fun t17 =>
 C1 [t17] w5) fun k4 =>
 pu P (oIdxA T.sl_impl_Step t0 (gs s3 0)) fun t12 =>
 st P (oLoad T.impl_Step t12) w4 fun t13 w6 =>
 st P (oAlloc T.impl_Step) w6 fun t4 w7 =>
 st P (oStore T.impl_Step t4 t13) w7 fun _ w8 =>
 st P (oLoad T.impl_Step t4) w8 fun t14 w9 =>
 st P (oCall Fn.laws_zzFits2 #[t14]) w9 fun t15 w10 =>
 pu P (oUn .not t15) fun t16 =>
 cd t16 (
 K (tup [(.bool false)]) w10) (
 k4 [] w10)) fun k3 =>
 cd t11 (
 k3 [] w3) (
 k2 [] w3)) fun k1 =>
 pu P (oBuiltin .len #[T.sl_impl_Step] T.int #[false] #[t0]) fun t6 =>
 pu P (oBin .gtr T.int false true t6 (.int .i64 2147483647)) fun t7 =>
 cd t7 (
 K (tup [(.bool false)]) w) (
 k1 [] w)
def Tb_laws_zzFits1 : Tab := { join := fun n => match n with | _ => [], loop := fun n => match n with | 4 => [10] | _ => [] }
theorem S_laws_zzFits1 {t0 : Value} {w : World} {K : Value → World → Prop} (h : F_laws_zzFits1 t0 w K) : Cl P Fn.laws_zzFits1 #[t0] w K :=
  cl_of_eq (T := Tb_laws_zzFits1) (args := [t0]) Tryd.func11 rfl follows_mixed (by kernel_rfl) (Nat.le_of_ble_eq_true (by kernel_rfl)) (by kernel_rfl) h

/-- pub-marram/laws.handleSpoken -/
def F_laws_handleSpoken (t0 t1 t2 : Value) (w : World) (K : Value → World → Prop) : Prop :=
 jn (fun s1 u1 w1 =>
 st P (oCall Fn.laws_oneFile #[t0, t1]) w1 fun t22 w2 =>
 pu P (oExtract t22 0) fun t23 =>
 pu P (oExtract t22 1) fun t24 =>
 jn (fun s2 u2 w3 =>
 pu P (oBin .neq T.p_spec_MemHandle false true (gs s2 0) (.pointer none)) fun t51 =>
 K (tup [t51]) w3) fun k2 =>
 pu P (oBuiltin .len #[T.sl_impl_Step] T.int #[false] #[t2]) fun t26 =>
 lp [t24, (.int .i64 0)] w2 fun s3 u3 w4 C1 =>
 pu P (oBin .lss T.int false false (gs s3 1) t26) fun t28 =>
 jn (fun s4 u4 w5 =>
 jn (fun s5 u5 w6 =>
 pu P (oBin .add T.int false true (gs s3 1) (.int .i64 1)) fun t49 =>
 C1 [(gs s5 0), t49] w6) fun k4 =>
 pu P (oIdxA T.sl_impl_Step t2 (gs s3 1)) fun t29 =>
 st P (oLoad T.impl_Step t29) w5 fun t30 w7 =>
 st P (oAlloc T.impl_Step) w7 fun t10 w8 =>
 st P (oStore T.impl_Step t10 t30) w8 fun _ w9 =>
 jn (fun s6 u6 w10 =>
 st P (oLoad T.impl_Step t10) w10 fun t42 w11 =>
 st P (oCall Fn.spec_Mem_Do #[t23, (.int .i64 1), t42]) w11 fun t43 w12 =>
 pu P (oNil t23) fun t45 =>
 pu P (oFldA T.spec_Mem t45 3) fun t46 =>
 st P (oLoad T.map_int_p_spec_MemHandle t46) w12 fun t47 w13 =>
 st P (oLookup T.map_int_p_spec_MemHandle t47 (.int .i64 0) false) w13 fun t48 w14 =>
 k4 [t48] w14) fun k5 =>
 pu P (oFldA T.impl_Step t10 5) fun t31 =>
 st P (oStore T.int t31 (.int .i64 0)) w9 fun _ w15 =>
 st P (oLoad T.impl_Step t10) w15 fun t33 w16 =>
 st P (oCall Fn.spec_Mem_Speaks #[t23, t33]) w16 fun t34 w17 =>
 pu P (oUn .not t34) fun t35 =>
 gd t35 false w17 (fun K1 => st P (oLoad T.impl_Step t10) w17 K1) fun t37 w18 =>
 gd t35 false w18 (fun K2 => st P (oCall Fn.laws_onFile #[t37]) w18 K2) fun t38 w19 =>
 gd t35 false w19 (fun K3 => pu P (oUn .not t38) fun v => K3 v w19) fun t39 w20 =>
 pu P (oPick t35 (.bool true) t39) fun t40 =>
 cd t40 (
 K (tup [(.bool false)]) w20) (
 k5 [] w20)) fun k3 =>
 cd t28 (
 k3 [] w4) (
 k2 [(gs s3 0)] w4)) fun k1 =>
 pu P (oBuiltin .len #[T.sl_uint8] T.int #[false] #[t0]) fun t12 =>
 pu P (oBin .gtr T.int false true t12 (.int .i64 4096)) fun t13 =>
 gd t13 false w (fun K4 => K4 t2 w) fun t15 w21 =>
 gd t13 false w21 (fun K5 => pu P (oBuiltin .len #[T.sl_impl_Step] T.int #[false] #[t15]) fun v => K5 v w21) fun t16 w22 =>
 gd t13 false w22 (fun K6 => pu P (oBin .gtr T.int false true t16 (.int .i64 60)) fun v => K6 v w22) fun t17 w23 =>
 pu P (oPick t13 (.bool true) t17) fun t18 =>
 cd t18 (
 K (tup [(.bool false)]) w23) (
 k1 [] w23)
def Tb_laws_handleSpoken : Tab := { join := fun n => match n with | 12 => [8] | 13 => [8] | _ => [], loop := fun n => match n with | 5 => [8, 27] | _ => [] }
theorem S_laws_handleSpoken {t0 t1 t2 : Value} {w : World} {K : Value → World → Prop} (h : F_laws_handleSpoken t0 t1 t2 w K) : Cl P Fn.laws_handleSpoken #[t0, t1, t2] w K :=
  cl_of_eq (T := Tb_laws_handleSpoken) (args := [t0, t1, t2]) Tryd.func12 rfl follows_mixed (by kernel_rfl) (Nat.le_of_ble_eq_true (by kernel_rfl)) (by kernel_rfl) h

/-- pub-marram/laws.recoded -/
def F_laws_recoded (t0 t1 : Value) (w : World) (K : Value → World → Prop) : Prop :=
 st P (oBuildSlice T.sl_uint8 0 #[]) w fun t8 w1 =>
 jn (fun s1 u1 w2 =>
 K (tup [(gs s1 0)]) w2) fun k1 =>
 pu P (oBuiltin .len #[T.sl_uint8] T.int #[false] #[t0]) fun t10 =>
 lp [t8, (.int .i64 0)] w1 fun s2 u2 w3 C1 =>
 pu P (oBin .lss T.int false false (gs s2 1) t10) fun t12 =>
 jn (fun s3 u3 w4 =>
 pu P (oIdxA T.sl_uint8 t0 (gs s2 1)) fun t13 =>
 st P (oLoad T.uint8 t13) w4 fun t14 w5 =>
 pu P (oBin .mul T.uint8 false false t14 t1) fun t18 =>
 st P (oBuildSlice T.sl_uint8 1 #[(0, t18)]) w5 fun t19 w6 =>
 st P (oBuiltin .append #[T.sl_uint8, T.sl_uint8] T.sl_uint8 #[false, false] #[(gs s2 0), t19]) w6 fun t20 w7 =>
 pu P (oBin .add T.int false true (gs s2 1) (.int .i64 1)) fun t21 =>
 C1 [t20, t21] w7) fun k2 =>
 cd t12 (
 k2 [] w3) (
 k1 [(gs s2 0)] w3)
def Tb_laws_recoded : Tab := { join := fun n => match n with | 7 => [5] | _ => [], loop := fun n => match n with | 3 => [5, 11] | _ => [] }
theorem S_laws_recoded {t0 t1 : Value} {w : World} {K : Value → World → Prop} (h : F_laws_recoded t0 t1 w K) : Cl P Fn.laws_recoded #[t0, t1] w K :=
  cl_of_eq (T := Tb_laws_recoded) (args := [t0, t1]) Tryd.func13 rfl follows_mixed (by kernel_rfl) (Nat.le_of_ble_eq_true (by kernel_rfl)) (by kernel_rfl) h

/-- pub-marram/impl.HandleScript -/
def F_impl_HandleScript (t0 t1 t2 : Value) (w : World) (K : Value → World → Prop) : Prop :=
 st P (oBuiltin .append #[T.sl_uint8, T.sl_uint8] T.sl_uint8 #[true, false] #[(.slice none 0 0), t0]) w fun t14 w1 =>
 st P (oCall Fn.mem_DoorWith #[(S [47, 102]), t14]) w1 fun t15 w2 =>
 st P (oCall Fn.mem_NewFileHandle #[t15]) w2 fun t17 w3 =>
 jn (fun s1 u1 w4 =>
 jn (fun s2 u2 w5 =>
 st P (oCall Fn.mem_FileData_DoorBytes #[t15]) w5 fun t36 w6 =>
 st P (oBuiltin .append #[T.sl_uint8, T.sl_uint8] T.sl_uint8 #[true, false] #[(.slice none 0 0), t36]) w6 fun t37 w7 =>
 K (tup [(gs s2 0), t37]) w7) fun k2 =>
 pu P (oBuiltin .len #[T.sl_impl_Step] T.int #[false] #[t2]) fun t22 =>
 lp [(.slice none 0 0), (.int .i64 0)] w4 fun s3 u3 w8 C1 =>
 pu P (oBin .lss T.int false false (gs s3 1) t22) fun t24 =>
 jn (fun s4 u4 w9 =>
 pu P (oIdxA T.sl_impl_Step t2 (gs s3 1)) fun t25 =>
 st P (oLoad T.impl_Step t25) w9 fun t26 w10 =>
 st P (oAlloc T.impl_Step) w10 fun t12 w11 =>
 st P (oStore T.impl_Step t12 t26) w11 fun _ w12 =>
 st P (oLoad T.impl_Step t12) w12 fun t29 w13 =>
 st P (oCall Fn.impl_on #[(gs s1 0), t29]) w13 fun t30 w14 =>
 st P (oBuildSlice T.sl_impl_Answer 1 #[(0, t30)]) w14 fun t31 w15 =>
 st P (oBuiltin .append #[T.sl_impl_Answer, T.sl_impl_Answer] T.sl_impl_Answer #[false, false] #[(gs s3 0), t31]) w15 fun t32 w16 =>
 pu P (oBin .add T.int false true (gs s3 1) (.int .i64 1)) fun t33 =>
 C1 [t32, t33] w16) fun k3 =>
 cd t24 (
 k3 [] w8) (
 k2 [(gs s3 0)] w8)) fun k1 =>
 cd t1 (
 st P (oCall Fn.mem_NewReadOnlyFileHandle #[t15]) w3 fun t20 w17 =>
 k1 [t20] w17) (
 k1 [t17] w3)
def Tb_impl_HandleScript : Tab := { join := fun n => match n with | 5 => [9] | 11 => [10] | _ => [], loop := fun n => match n with | 7 => [10, 23] | _ => [] }
theorem S_impl_HandleScript {t0 t1 t2 : Value} {w : World} {K : Value → World → Prop} (h : F_impl_HandleScript t0 t1 t2 w K) : Cl P Fn.impl_HandleScript #[t0, t1, t2] w K :=
  cl_of_eq (T := Tb_impl_HandleScript) (args := [t0, t1, t2]) Tryd.func14 rfl follows_mixed (by kernel_rfl) (Nat.le_of_ble_eq_true (by kernel_rfl)) (by kernel_rfl) h

/-- pub-marram/spec.SameAnswer -/
def F_spec_SameAnswer (t0 t1 : Value) (w : World) (K : Value → World → Prop) : Prop :=
 st P (oBox T.impl_Answer t0) w fun t2 w1 =>
 st P (oBox T.impl_Answer t1) w1 fun t3 w2 =>
 jn (fun s1 u1 w3 =>
 jn (fun s2 u2 w4 =>
 jn (fun s3 u3 w5 =>
 K (tup [(.bool true)]) w5) fun k3 =>
 pu P (oFldA T.impl_Answer t2 5) fun t71 =>
 st P (oLoad T.sl_impl_Info t71) w4 fun t72 w6 =>
 pu P (oBuiltin .len #[T.sl_impl_Info] T.int #[false] #[t72]) fun t73 =>
 lp [(.int .i64 0)] w6 fun s4 u4 w7 C1 =>
 pu P (oBin .lss T.int false false (gs s4 0) t73) fun t75 =>
 jn (fun s5 u5 w8 =>
 jn (fun s6 u6 w9 =>
 pu P (oBin .add T.int false true (gs s4 0) (.int .i64 1)) fun t88 =>
 C1 [t88] w9) fun k5 =>
 pu P (oFldA T.impl_Answer t2 5) fun t77 =>
 rd P (oLoad T.sl_impl_Info t77) w8.drew fun t78 =>
 pu P (oIdxA T.sl_impl_Info t78 (gs s4 0)) fun t80 =>
 rd P (oLoad T.impl_Info t80) w8.drew fun t81 =>
 pu P (oFldA T.impl_Answer t3 5) fun t82 =>
 rd P (oLoad T.sl_impl_Info t82) w8.drew fun t83 =>
 pu P (oIdxA T.sl_impl_Info t83 (gs s4 0)) fun t85 =>
 rd P (oLoad T.impl_Info t85) w8.drew fun t86 =>
 pu P (oBin .neq T.impl_Info false false t81 t86) fun t87 =>
 cd t87 (
 K (tup [(.bool false)]) w8.drew) (
 k5 [] w8.drew)) fun k4 =>
 cd t75 (
 k4 [] w7) (
 k3 [] w7)) fun k2 =>
 pu P (oFldA T.impl_Answer t2 4) fun t53 =>
 st P (oLoad T.sl_string t53) w3 fun t54 w10 =>
 pu P (oBuiltin .len #[T.sl_string] T.int #[false] #[t54]) fun t55 =>
 lp [(.int .i64 0)] w10 fun s7 u7 w11 C2 =>
 pu P (oBin .lss T.int false false (gs s7 0) t55) fun t57 =>
 jn (fun s8 u8 w12 =>
 jn (fun s9 u9 w13 =>
 pu P (oBin .add T.int false true (gs s7 0) (.int .i64 1)) fun t70 =>
 C2 [t70] w13) fun k7 =>
 pu P (oFldA T.impl_Answer t2 4) fun t59 =>
 rd P (oLoad T.sl_string t59) w12.drew fun t60 =>
 pu P (oIdxA T.sl_string t60 (gs s7 0)) fun t62 =>
 rd P (oLoad T.string t62) w12.drew fun t63 =>
 pu P (oFldA T.impl_Answer t3 4) fun t64 =>
 rd P (oLoad T.sl_string t64) w12.drew fun t65 =>
 pu P (oIdxA T.sl_string t65 (gs s7 0)) fun t67 =>
 rd P (oLoad T.string t67) w12.drew fun t68 =>
 pu P (oBin .neq T.string false false t63 t68) fun t69 =>
 cd t69 (
 K (tup [(.bool false)]) w12.drew) (
 k7 [] w12.drew)) fun k6 =>
 cd t57 (
 k6 [] w11) (
 k2 [] w11)) fun k1 =>
 pu P (oFldA T.impl_Answer t2 0) fun t7 =>
 st P (oLoad T.int t7) w2 fun t8 w14 =>
 pu P (oFldA T.impl_Answer t3 0) fun t9 =>
 st P (oLoad T.int t9) w14 fun t10 w15 =>
 pu P (oBin .neq T.int false false t8 t10) fun t11 =>
 gd t11 false w15 (fun K1 => pu P (oFldA T.impl_Answer t2 1) fun v => K1 v w15) fun t13 w16 =>
 gd t11 false w16 (fun K2 => st P (oLoad T.int t13) w16 K2) fun t14 w17 =>
 gd t11 false w17 (fun K3 => pu P (oFldA T.impl_Answer t3 1) fun v => K3 v w17) fun t15 w18 =>
 gd t11 false w18 (fun K4 => st P (oLoad T.int t15) w18 K4) fun t16 w19 =>
 gd t11 false w19 (fun K5 => pu P (oBin .neq T.int false false t14 t16) fun v => K5 v w19) fun t17 w20 =>
 pu P (oPick t11 (.bool true) t17) fun t18 =>
 gd t18 false w20 (fun K6 => pu P (oFldA T.impl_Answer t2 2) fun v => K6 v w20) fun t20 w21 =>
 gd t18 false w21 (fun K7 => st P (oLoad T.int64 t20) w21 K7) fun t21 w22 =>
 gd t18 false w22 (fun K8 => pu P (oFldA T.impl_Answer t3 2) fun v => K8 v w22) fun t22 w23 =>
 gd t18 false w23 (fun K9 => st P (oLoad T.int64 t22) w23 K9) fun t23 w24 =>
 gd t18 false w24 (fun K10 => pu P (oBin .neq T.int64 false false t21 t23) fun v => K10 v w24) fun t24 w25 =>
 pu P (oPick t18 (.bool true) t24) fun t25 =>
 gd t25 false w25 (fun K11 => pu P (oFldA T.impl_Answer t2 3) fun v => K11 v w25) fun t27 w26 =>
 gd t25 false w26 (fun K12 => st P (oLoad T.sl_uint8 t27) w26 K12) fun t28 w27 =>
 gd t25 false w27 (fun K13 => st P (oConv T.sl_uint8 T.string t28) w27 K13) fun t29 w28 =>
 gd t25 false w28 (fun K14 => pu P (oFldA T.impl_Answer t3 3) fun v => K14 v w28) fun t30 w29 =>
 gd t25 false w29 (fun K15 => st P (oLoad T.sl_uint8 t30) w29 K15) fun t31 w30 =>
 gd t25 false w30 (fun K16 => st P (oConv T.sl_uint8 T.string t31) w30 K16) fun t32 w31 =>
 gd t25 false w31 (fun K17 => pu P (oBin .neq T.string false false t29 t32) fun v => K17 v w31) fun t33 w32 =>
 pu P (oPick t25 (.bool true) t33) fun t34 =>
 gd t34 false w32 (fun K18 => pu P (oFldA T.impl_Answer t2 4) fun v => K18 v w32) fun t36 w33 =>
 gd t34 false w33 (fun K19 => st P (oLoad T.sl_string t36) w33 K19) fun t37 w34 =>
 gd t34 false w34 (fun K20 => pu P (oBuiltin .len #[T.sl_string] T.int #[false] #[t37]) fun v => K20 v w34) fun t38 w35 =>
 gd t34 false w35 (fun K21 => pu P (oFldA T.impl_Answer t3 4) fun v => K21 v w35) fun t39 w36 =>
 gd t34 false w36 (fun K22 => st P (oLoad T.sl_string t39) w36 K22) fun t40 w37 =>
 gd t34 false w37 (fun K23 => pu P (oBuiltin .len #[T.sl_string] T.int #[false] #[t40]) fun v => K23 v w37) fun t41 w38 =>
 gd t34 false w38 (fun K24 => pu P (oBin .neq T.int false false t38 t41) fun v => K24 v w38) fun t42 w39 =>
 pu P (oPick t34 (.bool true) t42) fun t43 =>
 gd t43 false w39 (fun K25 => pu P (oFldA T.impl_Answer t2 5) fun v => K25 v w39) fun t45 w40 =>
 gd t43 false w40 (fun K26 => st P (oLoad T.sl_impl_Info t45) w40 K26) fun t46 w41 =>
 gd t43 false w41 (fun K27 => pu P (oBuiltin .len #[T.sl_impl_Info] T.int #[false] #[t46]) fun v => K27 v w41) fun t47 w42 =>
 gd t43 false w42 (fun K28 => pu P (oFldA T.impl_Answer t3 5) fun v => K28 v w42) fun t48 w43 =>
 gd t43 false w43 (fun K29 => st P (oLoad T.sl_impl_Info t48) w43 K29) fun t49 w44 =>
 gd t43 false w44 (fun K30 => pu P (oBuiltin .len #[T.sl_impl_Info] T.int #[false] #[t49]) fun v => K30 v w44) fun t50 w45 =>
 gd t43 false w45 (fun K31 => pu P (oBin .neq T.int false false t47 t50) fun v => K31 v w45) fun t51 w46 =>
 pu P (oPick t43 (.bool true) t51) fun t52 =>
 cd t52 (
 K (tup [(.bool false)]) w46) (
 k1 [] w46)
def Tb_spec_SameAnswer : Tab := { join := fun n => match n with | _ => [], loop := fun n => match n with | 4 => [56] | 10 => [74] | _ => [] }
theorem S_spec_SameAnswer {t0 t1 : Value} {w : World} {K : Value → World → Prop} (h : F_spec_SameAnswer t0 t1 w K) : Cl P Fn.spec_SameAnswer #[t0, t1] w K :=
  cl_of_eq (T := Tb_spec_SameAnswer) (args := [t0, t1]) Tryd.func15 rfl follows_mixed (by kernel_rfl) (Nat.le_of_ble_eq_true (by kernel_rfl)) (by kernel_rfl) h

/-- pub-marram/laws.onOne -/
def F_laws_onOne (t0 t1 : Value) (w : World) (K : Value → World → Prop) : Prop :=
 st P (oCall Fn.impl_HandleScript #[t0, (.bool false), t1]) w fun t12 w1 =>
 pu P (oExtract t12 0) fun t13 =>
 pu P (oExtract t12 1) fun t14 =>
 pu P (oBuiltin .len #[T.sl_impl_Answer] T.int #[false] #[t13]) fun t18 =>
 pu P (oBuiltin .len #[T.sl_impl_Step] T.int #[false] #[t1]) fun t20 =>
 pu P (oBin .eql T.int false false t18 t20) fun t21 =>
 K (tup [t13, t14, t21]) w1
def Tb_laws_onOne : Tab := { join := fun n => match n with | _ => [], loop := fun n => match n with | _ => [] }
theorem S_laws_onOne {t0 t1 : Value} {w : World} {K : Value → World → Prop} (h : F_laws_onOne t0 t1 w K) : Cl P Fn.laws_onOne #[t0, t1] w K :=
  cl_of_eq (T := Tb_laws_onOne) (args := [t0, t1]) Tryd.func16 rfl follows_mixed (by kernel_rfl) (Nat.le_of_ble_eq_true (by kernel_rfl)) (by kernel_rfl) h

/-- pub-marram/spec.UnionRun -/
def F_spec_UnionRun (t0 t1 t2 t3 : Value) (w : World) (K : Value → World → Prop) : Prop :=
 st P (oCall Fn.spec_oneOpen #[t1, t2]) w fun t18 w1 =>
 st P (oCall Fn.spec_oneOpen #[t0, t2]) w1 fun t21 w2 =>
 st P (oMkMap T.map_int_int none) w2 fun t22 w3 =>
 st P (oMapUp T.map_int_int t22 (.int .i64 0) (.int .i64 3)) w3 fun _ w4 =>
 pu P (oBuild T.spec_Pair #[(0, t18), (1, t21), (2, t22)]) fun t24 =>
 st P (oBox T.spec_Pair t24) w4 fun t25 w5 =>
 st P (oBuildSlice T.sl_impl_Answer 0 #[]) w5 fun t26 w6 =>
 jn (fun s1 u1 w7 =>
 pu P (oNil t25) fun t79 =>
 pu P (oFldA T.spec_Pair t79 1) fun t80 =>
 rd P (oLoad T.p_spec_Mem t80) w7.drew fun t81 =>
 pu P (oNil t81) fun t82 =>
 pu P (oFldA T.spec_Mem t82 2) fun t83 =>
 rd P (oLoad T.sl_spec_MemNode t83) w7.drew fun t84 =>
 pu P (oIdxA T.sl_spec_MemNode t84 (.int .i64 1)) fun t85 =>
 pu P (oFldA T.spec_MemNode t85 2) fun t86 =>
 rd P (oLoad T.sl_uint8 t86) w7.drew fun t87 =>
 pu P (oNil t25) fun t89 =>
 pu P (oFldA T.spec_Pair t89 0) fun t90 =>
 rd P (oLoad T.p_spec_Mem t90) w7.drew fun t91 =>
 pu P (oNil t91) fun t92 =>
 pu P (oFldA T.spec_Mem t92 2) fun t93 =>
 rd P (oLoad T.sl_spec_MemNode t93) w7.drew fun t94 =>
 pu P (oIdxA T.sl_spec_MemNode t94 (.int .i64 1)) fun t95 =>
 pu P (oFldA T.spec_MemNode t95 2) fun t96 =>
 rd P (oLoad T.sl_uint8 t96) w7.drew fun t97 =>
 K (tup [(gs s1 0), t87, t97, (.bool true)]) w7.drew) fun k1 =>
 pu P (oBuiltin .len #[T.sl_impl_Step] T.int #[false] #[t3]) fun t28 =>
 lp [t26, (.int .i64 0)] w6 fun s2 u2 w8 C1 =>
 pu P (oBin .lss T.int false false (gs s2 1) t28) fun t30 =>
 jn (fun s3 u3 w9 =>
 jn (fun s4 u4 w10 =>
 pu P (oBin .add T.int false true (gs s2 1) (.int .i64 1)) fun t76 =>
 C1 [(gs s4 0), t76] w10) fun k3 =>
 pu P (oIdxA T.sl_impl_Step t3 (gs s2 1)) fun t31 =>
 st P (oLoad T.impl_Step t31) w9 fun t32 w11 =>
 st P (oAlloc T.impl_Step) w11 fun t15 w12 =>
 st P (oStore T.impl_Step t15 t32) w12 fun _ w13 =>
 pu P (oFldA T.impl_Step t15 5) fun t33 =>
 st P (oStore T.int t33 (.int .i64 0)) w13 fun _ w14 =>
 jn (fun s5 u5 w15 =>
 st P (oLoad T.impl_Step t15) w15 fun t72 w16 =>
 st P (oCall Fn.spec_Pair_cacheHandle #[t25, t72]) w16 fun t73 w17 =>
 st P (oBuildSlice T.sl_impl_Answer 1 #[(0, t73)]) w17 fun t74 w18 =>
 st P (oBuiltin .append #[T.sl_impl_Answer, T.sl_impl_Answer] T.sl_impl_Answer #[false, false] #[(gs s2 0), t74]) w18 fun t75 w19 =>
 k3 [t75] w19) fun k4 =>
 rd P (oLoad T.impl_Step t15) w14.drew fun t34 =>
 st P (oCall Fn.spec_onHandles #[t34]) w14.drew fun t35 w20 =>
 pu P (oUn .not t35) fun t36 =>
 gd t36 false w20 (fun K1 => pu P (oFldA T.impl_Step t15 0) fun v => K1 v w20) fun t38 w21 =>
 gd t36 false w21 (fun K2 => rd P (oLoad T.int t38) w21 fun v => K2 v w21) fun t39 w22 =>
 gd t36 false w22 (fun K3 => pu P (oBin .eql T.int false true t39 (.int .i64 13)) fun v => K3 v w22) fun t40 w23 =>
 pu P (oPick t36 (.bool true) t40) fun t41 =>
 gd t41 false w23 (fun K4 => pu P (oFldA T.impl_Step t15 0) fun v => K4 v w23) fun t43 w24 =>
 gd t41 false w24 (fun K5 => rd P (oLoad T.int t43) w24 fun v => K5 v w24) fun t44 w25 =>
 gd t41 false w25 (fun K6 => pu P (oBin .eql T.int false true t44 (.int .i64 22)) fun v => K6 v w25) fun t45 w26 =>
 pu P (oPick t41 (.bool true) t45) fun t46 =>
 gd t46 false w26 (fun K7 => pu P (oFldA T.impl_Step t15 0) fun v => K7 v w26) fun t48 w27 =>
 gd t46 false w27 (fun K8 => rd P (oLoad T.int t48) w27 fun v => K8 v w27) fun t49 w28 =>
 gd t46 false w28 (fun K9 => pu P (oBin .eql T.int false true t49 (.int .i64 21)) fun v => K9 v w28) fun t50 w29 =>
 pu P (oPick t46 (.bool true) t50) fun t51 =>
 gd t51 false w29 (fun K10 => K10 t25 w29) fun t53 w30 =>
 gd t51 false w30 (fun K11 => pu P (oNil t53) fun v => K11 v w30) fun t54 w31 =>
 gd t51 false w31 (fun K12 => pu P (oFldA T.spec_Pair t54 0) fun v => K12 v w31) fun t55 w32 =>
 gd t51 false w32 (fun K13 => rd P (oLoad T.p_spec_Mem t55) w32 fun v => K13 v w32) fun t56 w33 =>
 gd t51 false w33 (fun K14 => rd P (oLoad T.impl_Step t15) w33 fun v => K14 v w33) fun t57 w34 =>
 gd t51 false w34 (fun K15 => st P (oCall Fn.spec_Mem_Speaks #[t56, t57]) w34 K15) fun t58 w35 =>
 gd t51 false w35 (fun K16 => pu P (oUn .not t58) fun v => K16 v w35) fun t59 w36 =>
 pu P (oPick t51 (.bool true) t59) fun t60 =>
 gd t60 false w36 (fun K17 => K17 t25 w36) fun t62 w37 =>
 gd t60 false w37 (fun K18 => pu P (oNil t62) fun v => K18 v w37) fun t63 w38 =>
 gd t60 false w38 (fun K19 => pu P (oFldA T.spec_Pair t63 1) fun v => K19 v w38) fun t64 w39 =>
 gd t60 false w39 (fun K20 => rd P (oLoad T.p_spec_Mem t64) w39 fun v => K20 v w39) fun t65 w40 =>
 gd t60 false w40 (fun K21 => rd P (oLoad T.impl_Step t15) w40 fun v => K21 v w40) fun t66 w41 =>
 gd t60 false w41 (fun K22 => st P (oCall Fn.spec_Mem_Speaks #[t65, t66]) w41 K22) fun t67 w42 =>
 gd t60 false w42 (fun K23 => pu P (oUn .not t67) fun v => K23 v w42) fun t68 w43 =>
 pu P (oPick t60 (.bool true) t68) fun t69 =>
 cd t69 (
 K (tup [(.slice none 0 0), (.slice none 0 0), (.slice none 0 0), (.bool false)]) w43) (
 k4 [] w43)) fun k2 =>
 cd t30 (
 k2 [] w8) (
 k1 [(gs s2 0)] w8)
def Tb_spec_UnionRun : Tab := { join := fun n => match n with | 10 => [13] | 11 => [13] | _ => [], loop := fun n => match n with | 4 => [13, 29] | _ => [] }
theorem S_spec_UnionRun {t0 t1 t2 t3 : Value} {w : World} {K : Value → World → Prop} (h : F_spec_UnionRun t0 t1 t2 t3 w K) : Cl P Fn.spec_UnionRun #[t0, t1, t2, t3] w K :=
  cl_of_eq (T := Tb_spec_UnionRun) (args := [t0, t1, t2, t3]) Tryd.func17 rfl follows_mixed (by kernel_rfl) (Nat.le_of_ble_eq_true (by kernel_rfl)) (by kernel_rfl) h

/-- pub-marram/impl.UnionScript -/
def F_impl_UnionScript (t0 t1 t2 t3 : Value) (w : World) (K : Value → World → Prop) : Prop :=
 st P (oBuiltin .append #[T.sl_uint8, T.sl_uint8] T.sl_uint8 #[true, false] #[(.slice none 0 0), t0]) w fun t18 w1 =>
 st P (oCall Fn.mem_DoorWith #[(S [47, 102]), t18]) w1 fun t19 w2 =>
 st P (oBuiltin .append #[T.sl_uint8, T.sl_uint8] T.sl_uint8 #[true, false] #[(.slice none 0 0), t1]) w2 fun t21 w3 =>
 st P (oCall Fn.mem_DoorWith #[(S [47, 102]), t21]) w3 fun t22 w4 =>
 st P (oCall Fn.mem_NewFileHandle #[t22]) w4 fun t24 w5 =>
 st P (oCall Fn.mem_NewFileHandle #[t19]) w5 fun t26 w6 =>
 pu P (oBuild T.afero_UnionFile #[(0, t24), (1, t26)]) fun t27 =>
 st P (oBox T.afero_UnionFile t27) w6 fun t28 w7 =>
 jn (fun s1 u1 w8 =>
 jn (fun s2 u2 w9 =>
 st P (oCall Fn.mem_FileData_DoorBytes #[t19]) w9 fun t51 w10 =>
 st P (oBuiltin .append #[T.sl_uint8, T.sl_uint8] T.sl_uint8 #[true, false] #[(.slice none 0 0), t51]) w10 fun t52 w11 =>
 st P (oCall Fn.mem_FileData_DoorBytes #[t22]) w11 fun t54 w12 =>
 st P (oBuiltin .append #[T.sl_uint8, T.sl_uint8] T.sl_uint8 #[true, false] #[(.slice none 0 0), t54]) w12 fun t55 w13 =>
 K (tup [(gs s2 0), t52, t55]) w13) fun k2 =>
 pu P (oBuiltin .len #[T.sl_impl_Step] T.int #[false] #[t3]) fun t37 =>
 lp [(.slice none 0 0), (.int .i64 0)] w8 fun s3 u3 w14 C1 =>
 pu P (oBin .lss T.int false false (gs s3 1) t37) fun t39 =>
 jn (fun s4 u4 w15 =>
 pu P (oIdxA T.sl_impl_Step t3 (gs s3 1)) fun t40 =>
 st P (oLoad T.impl_Step t40) w15 fun t41 w16 =>
 st P (oAlloc T.impl_Step) w16 fun t16 w17 =>
 st P (oStore T.impl_Step t16 t41) w17 fun _ w18 =>
 st P (oLoad T.impl_Step t16) w18 fun t44 w19 =>
 st P (oCall Fn.impl_woven #[(gs s1 0), t44]) w19 fun t45 w20 =>
 st P (oBuildSlice T.sl_impl_Answer 1 #[(0, t45)]) w20 fun t46 w21 =>
 st P (oBuiltin .append #[T.sl_impl_Answer, T.sl_impl_Answer] T.sl_impl_Answer #[false, false] #[(gs s3 0), t46]) w21 fun t47 w22 =>
 pu P (oBin .add T.int false true (gs s3 1) (.int .i64 1)) fun t48 =>
 C1 [t47, t48] w22) fun k3 =>
 cd t39 (
 k3 [] w14) (
 k2 [(gs s3 0)] w14)) fun k1 =>
 cd t2 (
 st P (oCall Fn.mem_NewReadOnlyFileHandle #[t22]) w7 fun t31 w23 =>
 st P (oCall Fn.mem_NewReadOnlyFileHandle #[t19]) w23 fun t33 w24 =>
 pu P (oBuild T.afero_UnionFile #[(0, t31), (1, t33)]) fun t34 =>
 st P (oBox T.afero_UnionFile t34) w24 fun t35 w25 =>
 k1 [t35] w25) (
 k1 [t28] w7)
def Tb_impl_UnionScript : Tab := { join := fun n => match n with | 5 => [13] | 11 => [14] | _ => [], loop := fun n => match n with | 7 => [14, 38] | _ => [] }
theorem S_impl_UnionScript {t0 t1 t2 t3 : Value} {w : World} {K : Value → World → Prop} (h : F_impl_UnionScript t0 t1 t2 t3 w K) : Cl P Fn.impl_UnionScript #[t0, t1, t2, t3] w K :=
  cl_of_eq (T := Tb_impl_UnionScript) (args := [t0, t1, t2, t3]) Tryd.func18 rfl follows_mixed (by kernel_rfl) (Nat.le_of_ble_eq_true (by kernel_rfl)) (by kernel_rfl) h

/-- pub-marram/spec.SameAnswers -/
def F_spec_SameAnswers (t0 t1 : Value) (w : World) (K : Value → World → Prop) : Prop :=
 jn (fun s1 u1 w1 =>
 jn (fun s2 u2 w2 =>
 K (tup [(.bool true)]) w2) fun k2 =>
 pu P (oBuiltin .len #[T.sl_impl_Answer] T.int #[false] #[t0]) fun t12 =>
 lp [(.int .i64 0)] w1 fun s3 u3 w3 C1 =>
 pu P (oBin .lss T.int false false (gs s3 0) t12) fun t14 =>
 jn (fun s4 u4 w4 =>
 jn (fun s5 u5 w5 =>
 pu P (oBin .add T.int false true (gs s3 0) (.int .i64 1)) fun t26 =>
 C1 [t26] w5) fun k4 =>
 pu P (oIdxA T.sl_impl_Answer t0 (gs s3 0)) fun t18 =>
 rd P (oLoad T.impl_Answer t18) w4.drew fun t19 =>
 pu P (oIdxA T.sl_impl_Answer t1 (gs s3 0)) fun t22 =>
 rd P (oLoad T.impl_Answer t22) w4.drew fun t23 =>
 st P (oCall Fn.spec_SameAnswer #[t19, t23]) w4.drew fun t24 w6 =>
 pu P (oUn .not t24) fun t25 =>
 cd t25 (
 K (tup [(.bool false)]) w6) (
 k4 [] w6)) fun k3 =>
 cd t14 (
 k3 [] w3) (
 k2 [] w3)) fun k1 =>
 pu P (oBuiltin .len #[T.sl_impl_Answer] T.int #[false] #[t0]) fun t7 =>
 pu P (oBuiltin .len #[T.sl_impl_Answer] T.int #[false] #[t1]) fun t9 =>
 pu P (oBin .neq T.int false false t7 t9) fun t10 =>
 cd t10 (
 K (tup [(.bool false)]) w) (
 k1 [] w)
def Tb_spec_SameAnswers : Tab := { join := fun n => match n with | _ => [], loop := fun n => match n with | 4 => [13] | _ => [] }
theorem S_spec_SameAnswers {t0 t1 : Value} {w : World} {K : Value → World → Prop} (h : F_spec_SameAnswers t0 t1 w K) : Cl P Fn.spec_SameAnswers #[t0, t1] w K :=
  cl_of_eq (T := Tb_spec_SameAnswers) (args := [t0, t1]) Tryd.func19 rfl follows_mixed (by kernel_rfl) (Nat.le_of_ble_eq_true (by kernel_rfl)) (by kernel_rfl) h

/-- pub-marram/laws.zzFits2 -/
def F_laws_zzFits2 (t0 : Value) (w : World) (K : Value → World → Prop) : Prop :=
 st P (oBox T.impl_Step t0) w fun t1 w1 =>
 jn (fun s1 u1 w2 =>
 jn (fun s2 u2 w3 =>
 jn (fun s3 u3 w4 =>
 K (tup [(.bool true)]) w4) fun k3 =>
 pu P (oFldA T.impl_Step t1 6) fun t11 =>
 st P (oLoad T.sl_uint8 t11) w3 fun t12 w5 =>
 pu P (oBuiltin .len #[T.sl_uint8] T.int #[false] #[t12]) fun t13 =>
 pu P (oBin .gtr T.int false true t13 (.int .i64 2147483647)) fun t14 =>
 cd t14 (
 K (tup [(.bool false)]) w5) (
 k3 [] w5)) fun k2 =>
 pu P (oFldA T.impl_Step t1 2) fun t7 =>
 st P (oLoad T.string t7) w2 fun t8 w6 =>
 pu P (oBuiltin .len #[T.string] T.int #[false] #[t8]) fun t9 =>
 pu P (oBin .gtr T.int false true t9 (.int .i64 2147483647)) fun t10 =>
 cd t10 (
 K (tup [(.bool false)]) w6) (
 k2 [] w6)) fun k1 =>
 pu P (oFldA T.impl_Step t1 1) fun t3 =>
 st P (oLoad T.string t3) w1 fun t4 w7 =>
 pu P (oBuiltin .len #[T.string] T.int #[false] #[t4]) fun t5 =>
 pu P (oBin .gtr T.int false true t5 (.int .i64 2147483647)) fun t6 =>
 cd t6 (
 K (tup [(.bool false)]) w7) (
 k1 [] w7)
def Tb_laws_zzFits2 : Tab := { join := fun n => match n with | _ => [], loop := fun n => match n with | _ => [] }
theorem S_laws_zzFits2 {t0 : Value} {w : World} {K : Value → World → Prop} (h : F_laws_zzFits2 t0 w K) : Cl P Fn.laws_zzFits2 #[t0] w K :=
  cl_of_eq (T := Tb_laws_zzFits2) (args := [t0]) Tryd.func20 rfl follows_mixed (by kernel_rfl) (Nat.le_of_ble_eq_true (by kernel_rfl)) (by kernel_rfl) h

/-- pub-marram/laws.oneFile -/
def F_laws_oneFile (t0 t1 : Value) (w : World) (K : Value → World → Prop) : Prop :=
 st P (oCall Fn.spec_NewMem #[]) w fun t8 w1 =>
 pu P (oBuild T.impl_Step #[(0, (.int .i64 0)), (1, (S [47, 102]))]) fun t10 =>
 st P (oCall Fn.spec_Mem_Do #[t8, (.int .i64 0), t10]) w1 fun t11 w2 =>
 pu P (oNil t8) fun t13 =>
 pu P (oFldA T.spec_Mem t13 3) fun t14 =>
 st P (oLoad T.map_int_p_spec_MemHandle t14) w2 fun t15 w3 =>
 st P (oLookup T.map_int_p_spec_MemHandle t15 (.int .i64 0) false) w3 fun t16 w4 =>
 pu P (oNil t8) fun t18 =>
 pu P (oFldA T.spec_Mem t18 2) fun t19 =>
 rd P (oLoad T.sl_spec_MemNode t19) w4.drew fun t20 =>
 pu P (oNil t16) fun t22 =>
 pu P (oFldA T.spec_MemHandle t22 0) fun t23 =>
 rd P (oLoad T.int t23) w4.drew fun t24 =>
 st P (oBuildSlice T.sl_uint8 0 #[]) w4.drew fun t25 w5 =>
 hold P (oLoad T.int t23) t24 w5 ∧ hold P (oLoad T.sl_spec_MemNode t19) t20 w5 ∧ st P (oBuiltin .append #[T.sl_uint8, T.sl_uint8] T.sl_uint8 #[false, false] #[t25, t0]) w5 fun t27 w6 =>
 hold P (oLoad T.int t23) t24 w6 ∧ hold P (oLoad T.sl_spec_MemNode t19) t20 w6 ∧ pu P (oIdxA T.sl_spec_MemNode t20 t24) fun t28 =>
 pu P (oFldA T.spec_MemNode t28 2) fun t29 =>
 st P (oStore T.sl_uint8 t29 t27) w6 fun _ w7 =>
 pu P (oNil t16) fun t32 =>
 pu P (oFldA T.spec_MemHandle t32 4) fun t33 =>
 st P (oStore T.bool t33 t1) w7 fun _ w8 =>
 K (tup [t8, t16]) w8
def Tb_laws_oneFile : Tab := { join := fun n => match n with | _ => [], loop := fun n => match n with | _ => [] }
theorem S_laws_oneFile {t0 t1 : Value} {w : World} {K : Value → World → Prop} (h : F_laws_oneFile t0 t1 w K) : Cl P Fn.laws_oneFile #[t0, t1] w K :=
  cl_of_eq (T := Tb_laws_oneFile) (args := [t0, t1]) Tryd.func21 rfl follows_mixed (by kernel_rfl) (Nat.le_of_ble_eq_true (by kernel_rfl)) (by kernel_rfl) h

/-- (*pub-marram/spec.Mem).Speaks -/
def F_spec_Mem_Speaks (t0 t1 : Value) (w : World) (K : Value → World → Prop) : Prop :=
 st P (oBox T.impl_Step t1) w fun t3 w1 =>
 jn (fun s1 u1 w2 =>
 jn (fun s2 u2 w3 =>
 pu P (oNil t0) fun t47 =>
 pu P (oFldA T.spec_Mem t47 3) fun t48 =>
 rd P (oLoad T.map_int_p_spec_MemHandle t48) w3.drew fun t49 =>
 pu P (oFldA T.impl_Step t3 5) fun t50 =>
 rd P (oLoad T.int t50) w3.drew fun t51 =>
 rd P (oLookup T.map_int_p_spec_MemHandle t49 t51 false) w3.drew fun t52 =>
 pu P (oBin .eql T.p_spec_MemHandle false true t52 (.pointer none)) fun t54 =>
 gd t54 false w3.drew (fun K1 => K1 t0 w3.drew) fun t56 w4 =>
 gd t54 false w4 (fun K2 => K2 t52 w4) fun t57 w5 =>
 gd t54 false w5 (fun K3 => st P (oLoad T.impl_Step t3) w5 K3) fun t58 w6 =>
 gd t54 false w6 (fun K4 => st P (oCall Fn.spec_Mem_speaksFile #[t56, t57, t58]) w6 K4) fun t59 w7 =>
 pu P (oPick t54 (.bool true) t59) fun t60 =>
 K (tup [t60]) w7) fun k2 =>
 pu P (oFldA T.impl_Step t3 0) fun t23 =>
 st P (oLoad T.int t23) w2 fun t24 w8 =>
 pu P (oBin .geq T.int false true t24 (.int .i64 0)) fun t25 =>
 gd t25 true w8 (fun K5 => pu P (oFldA T.impl_Step t3 0) fun v => K5 v w8) fun t27 w9 =>
 gd t25 true w9 (fun K6 => st P (oLoad T.int t27) w9 K6) fun t28 w10 =>
 gd t25 true w10 (fun K7 => pu P (oBin .leq T.int false true t28 (.int .i64 2)) fun v => K7 v w10) fun t29 w11 =>
 pu P (oPick t25 t29 (.bool false)) fun t30 =>
 cd t30 (
 st P (oLoad T.impl_Step t3) w11 fun t32 w12 =>
 st P (oCall Fn.spec_Mem_speaksOpen #[t0, t32]) w12 fun t33 w13 =>
 K (tup [t33]) w13) (
 pu P (oFldA T.impl_Step t3 0) fun t35 =>
 st P (oLoad T.int t35) w11 fun t36 w14 =>
 pu P (oBin .geq T.int false true t36 (.int .i64 3)) fun t37 =>
 gd t37 true w14 (fun K8 => pu P (oFldA T.impl_Step t3 0) fun v => K8 v w14) fun t39 w15 =>
 gd t37 true w15 (fun K9 => st P (oLoad T.int t39) w15 K9) fun t40 w16 =>
 gd t37 true w16 (fun K10 => pu P (oBin .leq T.int false true t40 (.int .i64 11)) fun v => K10 v w16) fun t41 w17 =>
 pu P (oPick t37 t41 (.bool false)) fun t42 =>
 cd t42 (
 st P (oLoad T.impl_Step t3) w17 fun t44 w18 =>
 st P (oCall Fn.spec_Mem_speaksNames #[t0, t44]) w18 fun t45 w19 =>
 K (tup [t45]) w19) (
 k2 [] w17))) fun k1 =>
 pu P (oFldA T.impl_Step t3 1) fun t6 =>
 st P (oLoad T.string t6) w1 fun t7 w20 =>
 pu P (oBuiltin .len #[T.string] T.int #[false] #[t7]) fun t8 =>
 pu P (oBin .gtr T.int false true t8 (.int .i64 400)) fun t9 =>
 gd t9 false w20 (fun K11 => pu P (oFldA T.impl_Step t3 2) fun v => K11 v w20) fun t11 w21 =>
 gd t9 false w21 (fun K12 => st P (oLoad T.string t11) w21 K12) fun t12 w22 =>
 gd t9 false w22 (fun K13 => pu P (oBuiltin .len #[T.string] T.int #[false] #[t12]) fun v => K13 v w22) fun t13 w23 =>
 gd t9 false w23 (fun K14 => pu P (oBin .gtr T.int false true t13 (.int .i64 400)) fun v => K14 v w23) fun t14 w24 =>
 pu P (oPick t9 (.bool true) t14) fun t15 =>
 gd t15 false w24 (fun K15 => pu P (oFldA T.impl_Step t3 6) fun v => K15 v w24) fun t17 w25 =>
 gd t15 false w25 (fun K16 => st P (oLoad T.sl_uint8 t17) w25 K16) fun t18 w26 =>
 gd t15 false w26 (fun K17 => pu P (oBuiltin .len #[T.sl_uint8] T.int #[false] #[t18]) fun v => K17 v w26) fun t19 w27 =>
 gd t15 false w27 (fun K18 => pu P (oBin .gtr T.int false true t19 (.int .i64 4096)) fun v => K18 v w27) fun t20 w28 =>
 pu P (oPick t15 (.bool true) t20) fun t21 =>
 cd t21 (
 K (tup [(.bool false)]) w28) (
 k1 [] w28)
def Tb_spec_Mem_Speaks : Tab := { join := fun n => match n with | _ => [], loop := fun n => match n with | _ => [] }
theorem S_spec_Mem_Speaks {t0 t1 : Value} {w : World} {K : Value → World → Prop} (h : F_spec_Mem_Speaks t0 t1 w K) : Cl P Fn.spec_Mem_Speaks #[t0, t1] w K :=
  cl_of_eq (T := Tb_spec_Mem_Speaks) (args := [t0, t1]) Tryd.func22 rfl follows_mixed (by kernel_rfl) (Nat.le_of_ble_eq_true (by kernel_rfl)) (by kernel_rfl) h

/-- pub-marram/laws.onFile -/
def F_laws_onFile (t0 : Value) (w : World) (K : Value → World → Prop) : Prop :=
 st P (oBox T.impl_Step t0) w fun t1 w1 =>
 pu P (oFldA T.impl_Step t1 0) fun t3 =>
 st P (oLoad T.int t3) w1 fun t4 w2 =>
 pu P (oBin .geq T.int false true t4 (.int .i64 12)) fun t5 =>
 gd t5 true w2 (fun K1 => pu P (oFldA T.impl_Step t1 0) fun v => K1 v w2) fun t7 w3 =>
 gd t5 true w3 (fun K2 => st P (oLoad T.int t7) w3 K2) fun t8 w4 =>
 gd t5 true w4 (fun K3 => pu P (oBin .leq T.int false true t8 (.int .i64 23)) fun v => K3 v w4) fun t9 w5 =>
 pu P (oPick t5 t9 (.bool false)) fun t10 =>
 K (tup [t10]) w5
def Tb_laws_onFile : Tab := { join := fun n => match n with | _ => [], loop := fun n => match n with | _ => [] }
theorem S_laws_onFile {t0 : Value} {w : World} {K : Value → World → Prop} (h : F_laws_onFile t0 w K) : Cl P Fn.laws_onFile #[t0] w K :=
  cl_of_eq (T := Tb_laws_onFile) (args := [t0]) Tryd.func23 rfl follows_mixed (by kernel_rfl) (Nat.le_of_ble_eq_true (by kernel_rfl)) (by kernel_rfl) h

/-- (*pub-marram/spec.Mem).Do -/
def F_spec_Mem_Do (t0 t1 t2 : Value) (w : World) (K : Value → World → Prop) : Prop :=
 st P (oBox T.impl_Step t2) w fun t5 w1 =>
 st P (oAlloc T.impl_Answer) w1 fun t6 w2 =>
 jn (fun s1 u1 w3 =>
 pu P (oNil t0) fun t34 =>
 pu P (oFldA T.spec_Mem t34 3) fun t35 =>
 rd P (oLoad T.map_int_p_spec_MemHandle t35) w3.drew fun t36 =>
 pu P (oFldA T.impl_Step t5 5) fun t37 =>
 rd P (oLoad T.int t37) w3.drew fun t38 =>
 rd P (oLookup T.map_int_p_spec_MemHandle t36 t38 false) w3.drew fun t39 =>
 jn (fun s2 u2 w4 =>
 st P (oLoad T.impl_Step t5) w4 fun t55 w5 =>
 st P (oCall Fn.spec_Mem_file #[t0, t39, t55]) w5 fun t56 w6 =>
 st P (oStore T.impl_Answer t6 t56) w6 fun _ w7 =>
 rsl P T.impl_Answer t6 w7 fun r1 =>
 K (tup [r1]) w7) fun k2 =>
 pu P (oBin .eql T.p_spec_MemHandle false true t39 (.pointer none)) fun t41 =>
 gd t41 false w3.drew (fun K1 => pu P (oFldA T.impl_Step t5 0) fun v => K1 v w3.drew) fun t43 w8 =>
 gd t41 false w8 (fun K2 => st P (oLoad T.int t43) w8 K2) fun t44 w9 =>
 gd t41 false w9 (fun K3 => pu P (oBin .lss T.int false true t44 (.int .i64 12)) fun v => K3 v w9) fun t45 w10 =>
 pu P (oPick t41 (.bool true) t45) fun t46 =>
 gd t46 false w10 (fun K4 => pu P (oFldA T.impl_Step t5 0) fun v => K4 v w10) fun t48 w11 =>
 gd t46 false w11 (fun K5 => st P (oLoad T.int t48) w11 K5) fun t49 w12 =>
 gd t46 false w12 (fun K6 => pu P (oBin .gtr T.int false true t49 (.int .i64 23)) fun v => K6 v w12) fun t50 w13 =>
 pu P (oPick t46 (.bool true) t50) fun t51 =>
 cd t51 (
 pu P (oBuild T.impl_Answer #[(0, (.int .i64 13))]) fun t52 =>
 st P (oStore T.impl_Answer t6 t52) w13 fun _ w14 =>
 rsl P T.impl_Answer t6 w14 fun r2 =>
 K (tup [r2]) w14) (
 k2 [] w13)) fun k1 =>
 pu P (oFldA T.impl_Step t5 0) fun t9 =>
 st P (oLoad T.int t9) w2 fun t10 w15 =>
 pu P (oBin .geq T.int false true t10 (.int .i64 0)) fun t11 =>
 gd t11 true w15 (fun K7 => pu P (oFldA T.impl_Step t5 0) fun v => K7 v w15) fun t13 w16 =>
 gd t11 true w16 (fun K8 => st P (oLoad T.int t13) w16 K8) fun t14 w17 =>
 gd t11 true w17 (fun K9 => pu P (oBin .leq T.int false true t14 (.int .i64 2)) fun v => K9 v w17) fun t15 w18 =>
 pu P (oPick t11 t15 (.bool false)) fun t16 =>
 cd t16 (
 st P (oLoad T.impl_Step t5) w18 fun t19 w19 =>
 st P (oCall Fn.spec_Mem_open #[t0, t1, t19]) w19 fun t20 w20 =>
 st P (oStore T.impl_Answer t6 t20) w20 fun _ w21 =>
 rsl P T.impl_Answer t6 w21 fun r3 =>
 K (tup [r3]) w21) (
 pu P (oFldA T.impl_Step t5 0) fun t22 =>
 st P (oLoad T.int t22) w18 fun t23 w22 =>
 pu P (oBin .geq T.int false true t23 (.int .i64 3)) fun t24 =>
 gd t24 true w22 (fun K10 => pu P (oFldA T.impl_Step t5 0) fun v => K10 v w22) fun t26 w23 =>
 gd t24 true w23 (fun K11 => st P (oLoad T.int t26) w23 K11) fun t27 w24 =>
 gd t24 true w24 (fun K12 => pu P (oBin .leq T.int false true t27 (.int .i64 11)) fun v => K12 v w24) fun t28 w25 =>
 pu P (oPick t24 t28 (.bool false)) fun t29 =>
 cd t29 (
 st P (oLoad T.impl_Step t5) w25 fun t31 w26 =>
 st P (oCall Fn.spec_Mem_names #[t0, t31]) w26 fun t32 w27 =>
 st P (oStore T.impl_Answer t6 t32) w27 fun _ w28 =>
 rsl P T.impl_Answer t6 w28 fun r4 =>
 K (tup [r4]) w28) (
 k1 [] w25))
def Tb_spec_Mem_Do : Tab := { join := fun n => match n with | _ => [], loop := fun n => match n with | _ => [] }
theorem S_spec_Mem_Do {t0 t1 t2 : Value} {w : World} {K : Value → World → Prop} (h : F_spec_Mem_Do t0 t1 t2 w K) : Cl P Fn.spec_Mem_Do #[t0, t1, t2] w K :=
  cl_of_eq (T := Tb_spec_Mem_Do) (args := [t0, t1, t2]) Tryd.func24 rfl follows_mixed (by kernel_rfl) (Nat.le_of_ble_eq_true (by kernel_rfl)) (by kernel_rfl) h

/-- pub-marram/pub/afero/mem.DoorWith -/
def F_mem_DoorWith (t0 t1 : Value) (w : World) (K : Value → World → Prop) : Prop :=
 st P (oCall Fn.mem_CreateFile #[t0]) w fun t7 w1 =>
 pu P (oNil t7) fun t10 =>
 pu P (oFldA T.mem_FileData t10 1) fun t11 =>
 st P (oStore T.sl_uint8 t11 t1) w1 fun _ w2 =>
 K (tup [t7]) w2
def Tb_mem_DoorWith : Tab := { join := fun n => match n with | _ => [], loop := fun n => match n with | _ => [] }
theorem S_mem_DoorWith {t0 t1 : Value} {w : World} {K : Value → World → Prop} (h : F_mem_DoorWith t0 t1 w K) : Cl P Fn.mem_DoorWith #[t0, t1] w K :=
  cl_of_eq (T := Tb_mem_DoorWith) (args := [t0, t1]) Tryd.func25 rfl follows_mixed (by kernel_rfl) (Nat.le_of_ble_eq_true (by kernel_rfl)) (by kernel_rfl) h

/-- pub-marram/pub/afero/mem.NewFileHandle -/
def F_mem_NewFileHandle (t0 : Value) (w : World) (K : Value → World → Prop) : Prop :=
 pu P (oBuild T.mem_File #[(4, t0)]) fun t4 =>
 st P (oBox T.mem_File t4) w fun t5 w1 =>
 K (tup [t5]) w1
def Tb_mem_NewFileHandle : Tab := { join := fun n => match n with | _ => [], loop := fun n => match n with | _ => [] }
theorem S_mem_NewFileHandle {t0 : Value} {w : World} {K : Value → World → Prop} (h : F_mem_NewFileHandle t0 w K) : Cl P Fn.mem_NewFileHandle #[t0] w K :=
  cl_of_eq (T := Tb_mem_NewFileHandle) (args := [t0]) Tryd.func26 rfl follows_mixed (by kernel_rfl) (Nat.le_of_ble_eq_true (by kernel_rfl)) (by kernel_rfl) h

/-- pub-marram/pub/afero/mem.NewReadOnlyFileHandle -/
def F_mem_NewReadOnlyFileHandle (t0 : Value) (w : World) (K : Value → World → Prop) : Prop :=
 pu P (oBuild T.mem_File #[(4, t0), (3, (.bool true))]) fun t4 =>
 st P (oBox T.mem_File t4) w fun t5 w1 =>
 K (tup [t5]) w1
def Tb_mem_NewReadOnlyFileHandle : Tab := { join := fun n => match n with | _ => [], loop := fun n => match n with | _ => [] }
theorem S_mem_NewReadOnlyFileHandle {t0 : Value} {w : World} {K : Value → World → Prop} (h : F_mem_NewReadOnlyFileHandle t0 w K) : Cl P Fn.mem_NewReadOnlyFileHandle #[t0] w K :=
  cl_of_eq (T := Tb_mem_NewReadOnlyFileHandle) (args := [t0]) Tryd.func27 rfl follows_mixed (by kernel_rfl) (Nat.le_of_ble_eq_true (by kernel_rfl)) (by kernel_rfl) h

/-- pub-marram/impl.on -/
def F_impl_on (t0 t1 : Value) (w : World) (K : Value → World → Prop) : Prop :=
 st P (oBox T.impl_Step t1) w fun t3 w1 =>
 st P (oAlloc T.impl_Answer) w1 fun t4 w2 =>
 pu P (oBuild T.impl_Answer #[]) fun t13 =>
 st P (oAlloc T.impl_Answer) w2 fun t5 w3 =>
 st P (oStore T.impl_Answer t5 t13) w3 fun _ w4 =>
 jn (fun s1 u1 w5 =>
 st P (oCall Fn.impl_kind #[(gs s1 0)]) w5 fun t143 w6 =>
 pu P (oFldA T.impl_Answer t5 0) fun t144 =>
 st P (oStore T.int t144 t143) w6 fun _ w7 =>
 st P (oLoad T.impl_Answer t5) w7 fun t145 w8 =>
 st P (oStore T.impl_Answer t4 t145) w8 fun _ w9 =>
 rsl P T.impl_Answer t4 w9 fun r1 =>
 K (tup [r1]) w9) fun k1 =>
 pu P (oFldA T.impl_Step t3 0) fun t14 =>
 st P (oLoad T.int t14) w4 fun t15 w10 =>
 pu P (oBin .eql T.int false true t15 (.int .i64 12)) fun t18 =>
 cd t18 (
 pu P (oFldA T.impl_Step t3 9) fun t19 =>
 st P (oLoad T.int t19) w10 fun t20 w11 =>
 pu P (oBuiltin .min #[T.int, T.int] T.int #[false, true] #[t20, (.int .i64 1048576)]) fun t21 =>
 pu P (oBuiltin .max #[T.int, T.int] T.int #[true, false] #[(.int .i64 0), t21]) fun t22 =>
 st P (oMkSlice T.sl_uint8 t22 t22) w11 fun t23 w12 =>
 st P (oCall Fn.mem_File_Read #[t0, t23]) w12 fun t27 w13 =>
 pu P (oExtract t27 0) fun t28 =>
 pu P (oExtract t27 1) fun t29 =>
 pu P (oSlice T.sl_uint8 t23 none (some t28) none) fun t32 =>
 pu P (oFldA T.impl_Answer t5 3) fun t33 =>
 st P (oStore T.sl_uint8 t33 t32) w13 fun _ w14 =>
 k1 [t29] w14) (
 pu P (oBin .eql T.int false true t15 (.int .i64 13)) fun t35 =>
 cd t35 (
 pu P (oFldA T.impl_Step t3 9) fun t36 =>
 st P (oLoad T.int t36) w10 fun t37 w15 =>
 pu P (oBuiltin .min #[T.int, T.int] T.int #[false, true] #[t37, (.int .i64 1048576)]) fun t38 =>
 pu P (oBuiltin .max #[T.int, T.int] T.int #[true, false] #[(.int .i64 0), t38]) fun t39 =>
 st P (oMkSlice T.sl_uint8 t39 t39) w15 fun t40 w16 =>
 pu P (oFldA T.impl_Step t3 7) fun t44 =>
 st P (oLoad T.int64 t44) w16 fun t45 w17 =>
 st P (oCall Fn.mem_File_ReadAt #[t0, t40, t45]) w17 fun t46 w18 =>
 pu P (oExtract t46 0) fun t47 =>
 pu P (oExtract t46 1) fun t48 =>
 pu P (oSlice T.sl_uint8 t40 none (some t47) none) fun t51 =>
 pu P (oFldA T.impl_Answer t5 3) fun t52 =>
 st P (oStore T.sl_uint8 t52 t51) w18 fun _ w19 =>
 k1 [t48] w19) (
 pu P (oBin .eql T.int false true t15 (.int .i64 14)) fun t54 =>
 cd t54 (
 pu P (oFldA T.impl_Step t3 6) fun t57 =>
 st P (oLoad T.sl_uint8 t57) w10 fun t58 w20 =>
 st P (oBuiltin .append #[T.sl_uint8, T.sl_uint8] T.sl_uint8 #[true, false] #[(.slice none 0 0), t58]) w20 fun t59 w21 =>
 st P (oCall Fn.mem_File_Write #[t0, t59]) w21 fun t60 w22 =>
 pu P (oExtract t60 0) fun t61 =>
 pu P (oExtract t60 1) fun t62 =>
 pu P (oFldA T.impl_Answer t5 1) fun t63 =>
 st P (oStore T.int t63 t61) w22 fun _ w23 =>
 k1 [t62] w23) (
 pu P (oBin .eql T.int false true t15 (.int .i64 15)) fun t65 =>
 cd t65 (
 pu P (oFldA T.impl_Step t3 6) fun t68 =>
 rd P (oLoad T.sl_uint8 t68) w10.drew fun t69 =>
 pu P (oFldA T.impl_Step t3 7) fun t71 =>
 rd P (oLoad T.int64 t71) w10.drew fun t72 =>
 st P (oBuiltin .append #[T.sl_uint8, T.sl_uint8] T.sl_uint8 #[true, false] #[(.slice none 0 0), t69]) w10.drew fun t70 w24 =>
 hold P (oLoad T.int64 t71) t72 w24 ∧ st P (oCall Fn.mem_File_WriteAt #[t0, t70, t72]) w24 fun t73 w25 =>
 pu P (oExtract t73 0) fun t74 =>
 pu P (oExtract t73 1) fun t75 =>
 pu P (oFldA T.impl_Answer t5 1) fun t76 =>
 st P (oStore T.int t76 t74) w25 fun _ w26 =>
 k1 [t75] w26) (
 pu P (oBin .eql T.int false true t15 (.int .i64 16)) fun t78 =>
 cd t78 (
 pu P (oFldA T.impl_Step t3 7) fun t81 =>
 st P (oLoad T.int64 t81) w10 fun t82 w27 =>
 pu P (oFldA T.impl_Step t3 8) fun t83 =>
 st P (oLoad T.int t83) w27 fun t84 w28 =>
 st P (oCall Fn.mem_File_Seek #[t0, t82, t84]) w28 fun t85 w29 =>
 pu P (oExtract t85 0) fun t86 =>
 pu P (oExtract t85 1) fun t87 =>
 pu P (oFldA T.impl_Answer t5 2) fun t88 =>
 st P (oStore T.int64 t88 t86) w29 fun _ w30 =>
 k1 [t87] w30) (
 pu P (oBin .eql T.int false true t15 (.int .i64 17)) fun t90 =>
 cd t90 (
 pu P (oFldA T.impl_Step t3 7) fun t92 =>
 st P (oLoad T.int64 t92) w10 fun t93 w31 =>
 st P (oCall Fn.mem_File_Truncate #[t0, t93]) w31 fun t94 w32 =>
 k1 [t94] w32) (
 pu P (oBin .eql T.int false true t15 (.int .i64 18)) fun t96 =>
 cd t96 (
 st P (oCall Fn.mem_File_Close #[t0]) w10 fun t98 w33 =>
 k1 [t98] w33) (
 pu P (oBin .eql T.int false true t15 (.int .i64 19)) fun t100 =>
 cd t100 (
 pu P (oFldA T.impl_Step t3 9) fun t103 =>
 st P (oLoad T.int t103) w10 fun t104 w34 =>
 st P (oCall Fn.mem_File_Readdir #[t0, t104]) w34 fun t105 w35 =>
 pu P (oExtract t105 0) fun t106 =>
 pu P (oExtract t105 1) fun t107 =>
 st P (oCall Fn.impl_fromInfos #[t106]) w35 fun t109 w36 =>
 pu P (oFldA T.impl_Answer t5 5) fun t110 =>
 st P (oStore T.sl_impl_Info t110 t109) w36 fun _ w37 =>
 k1 [t107] w37) (
 pu P (oBin .eql T.int false true t15 (.int .i64 20)) fun t112 =>
 cd t112 (
 pu P (oFldA T.impl_Step t3 9) fun t115 =>
 st P (oLoad T.int t115) w10 fun t116 w38 =>
 st P (oCall Fn.mem_File_Readdirnames #[t0, t116]) w38 fun t117 w39 =>
 pu P (oExtract t117 0) fun t118 =>
 pu P (oExtract t117 1) fun t119 =>
 pu P (oFldA T.impl_Answer t5 4) fun t120 =>
 st P (oStore T.sl_string t120 t118) w39 fun _ w40 =>
 k1 [t119] w40) (
 pu P (oBin .eql T.int false true t15 (.int .i64 21)) fun t122 =>
 cd t122 (
 st P (oCall Fn.mem_File_Stat #[t0]) w10 fun t125 w41 =>
 pu P (oExtract t125 0) fun t126 =>
 pu P (oExtract t125 1) fun t127 =>
 st P (oBuildSlice T.sl_p_mem_FileInfo 1 #[(0, t126)]) w41 fun t129 w42 =>
 st P (oCall Fn.impl_fromInfos #[t129]) w42 fun t130 w43 =>
 pu P (oFldA T.impl_Answer t5 5) fun t131 =>
 st P (oStore T.sl_impl_Info t131 t130) w43 fun _ w44 =>
 k1 [t127] w44) (
 pu P (oBin .eql T.int false true t15 (.int .i64 22)) fun t133 =>
 cd t133 (
 st P (oCall Fn.mem_File_Name #[t0]) w10 fun t135 w45 =>
 st P (oBuildSlice T.sl_string 1 #[(0, t135)]) w45 fun t136 w46 =>
 pu P (oFldA T.impl_Answer t5 4) fun t137 =>
 st P (oStore T.sl_string t137 t136) w46 fun _ w47 =>
 k1 [.nilIface] w47) (
 pu P (oBin .eql T.int false true t15 (.int .i64 23)) fun t139 =>
 cd t139 (
 st P (oCall Fn.mem_File_Sync #[t0]) w10 fun t141 w48 =>
 k1 [t141] w48) (
 pu P (oBuild T.impl_Answer #[(0, (.int .i64 13))]) fun t16 =>
 st P (oStore T.impl_Answer t4 t16) w10 fun _ w49 =>
 rsl P T.impl_Answer t4 w49 fun r2 =>
 K (tup [r2]) w49))))))))))))
def Tb_impl_on : Tab := { join := fun n => match n with | 39 => [6] | _ => [], loop := fun n => match n with | _ => [] }
theorem S_impl_on {t0 t1 : Value} {w : World} {K : Value → World → Prop} (h : F_impl_on t0 t1 w K) : Cl P Fn.impl_on #[t0, t1] w K :=
  cl_of_eq (T := Tb_impl_on) (args := [t0, t1]) Tryd.func28 rfl follows_mixed (by kernel_rfl) (Nat.le_of_ble_eq_true (by kernel_rfl)) (by kernel_rfl) h

/-- (*pub-marram/pub/afero/mem.FileData).DoorBytes -/
def F_mem_FileData_DoorBytes (t0 : Value) (w : World) (K : Value → World → Prop) : Prop :=
 pu P (oNil t0) fun t4 =>
 pu P (oFldA T.mem_FileData t4 1) fun t5 =>
 st P (oLoad T.sl_uint8 t5) w fun t6 w1 =>
 K (tup [t6]) w1
def Tb_mem_FileData_DoorBytes : Tab := { join := fun n => match n with | _ => [], loop := fun n => match n with | _ => [] }
theorem S_mem_FileData_DoorBytes {t0 : Value} {w : World} {K : Value → World → Prop} (h : F_mem_FileData_DoorBytes t0 w K) : Cl P Fn.mem_FileData_DoorBytes #[t0] w K :=
  cl_of_eq (T := Tb_mem_FileData_DoorBytes) (args := [t0]) Tryd.func29 rfl follows_mixed (by kernel_rfl) (Nat.le_of_ble_eq_true (by kernel_rfl)) (by kernel_rfl) h

/-- pub-marram/spec.oneOpen -/
def F_spec_oneOpen (t0 t1 : Value) (w : World) (K : Value → World → Prop) : Prop :=
 st P (oCall Fn.spec_NewMem #[]) w fun t7 w1 =>
 st P (oBuildSlice T.sl_uint8 0 #[]) w1 fun t9 w2 =>
 st P (oBuiltin .append #[T.sl_uint8, T.sl_uint8] T.sl_uint8 #[false, false] #[t9, t0]) w2 fun t11 w3 =>
 pu P (oBuild T.spec_MemNode #[(1, (.int .i64 268435456)), (2, t11)]) fun t12 =>
 st P (oCall Fn.spec_Mem_add #[t7, (S [47, 102]), t12]) w3 fun t13 w4 =>
 pu P (oNil t7) fun t15 =>
 pu P (oFldA T.spec_Mem t15 3) fun t16 =>
 st P (oLoad T.map_int_p_spec_MemHandle t16) w4 fun t17 w5 =>
 pu P (oBuild T.spec_MemHandle #[(0, t13), (4, t1)]) fun t20 =>
 st P (oBox T.spec_MemHandle t20) w5 fun t21 w6 =>
 st P (oMapUp T.map_int_p_spec_MemHandle t17 (.int .i64 0) t21) w6 fun _ w7 =>
 K (tup [t7]) w7
def Tb_spec_oneOpen : Tab := { join := fun n => match n with | _ => [], loop := fun n => match n with | _ => [] }
theorem S_spec_oneOpen {t0 t1 : Value} {w : World} {K : Value → World → Prop} (h : F_spec_oneOpen t0 t1 w K) : Cl P Fn.spec_oneOpen #[t0, t1] w K :=
  cl_of_eq (T := Tb_spec_oneOpen) (args := [t0, t1]) Tryd.func30 rfl follows_mixed (by kernel_rfl) (Nat.le_of_ble_eq_true (by kernel_rfl)) (by kernel_rfl) h

/-- pub-marram/spec.onHandles -/
def F_spec_onHandles (t0 : Value) (w : World) (K : Value → World → Prop) : Prop :=
 st P (oBox T.impl_Step t0) w fun t1 w1 =>
 pu P (oFldA T.impl_Step t1 0) fun t3 =>
 st P (oLoad T.int t3) w1 fun t4 w2 =>
 pu P (oBin .geq T.int false true t4 (.int .i64 12)) fun t5 =>
 gd t5 true w2 (fun K1 => pu P (oFldA T.impl_Step t1 0) fun v => K1 v w2) fun t7 w3 =>
 gd t5 true w3 (fun K2 => st P (oLoad T.int t7) w3 K2) fun t8 w4 =>
 gd t5 true w4 (fun K3 => pu P (oBin .leq T.int false true t8 (.int .i64 23)) fun v => K3 v w4) fun t9 w5 =>
 pu P (oPick t5 t9 (.bool false)) fun t10 =>
 K (tup [t10]) w5
def Tb_spec_onHandles : Tab := { join := fun n => match n with | _ => [], loop := fun n => match n with | _ => [] }
theorem S_spec_onHandles {t0 : Value} {w : World} {K : Value → World → Prop} (h : F_spec_onHandles t0 w K) : Cl P Fn.spec_onHandles #[t0] w K :=
  cl_of_eq (T := Tb_spec_onHandles) (args := [t0]) Tryd.func31 rfl follows_mixed (by kernel_rfl) (Nat.le_of_ble_eq_true (by kernel_rfl)) (by kernel_rfl) h

/-- (*pub-marram/spec.Pair).cacheHandle · FORKS 1 -/
def F_spec_Pair_cacheHandle (t0 t1 : Value) (w : World) (K : Value → World → Prop) : Prop :=
 st P (oBox T.impl_Step t1) w fun t3 w1 =>
 st P (oAlloc T.impl_Answer) w1 fun t4 w2 =>
 jn (fun s1 u1 w3 =>
 pu P (oNil t0) fun t28 =>
 pu P (oFldA T.spec_Pair t28 1) fun t29 =>
 rd P (oLoad T.p_spec_Mem t29) w3.drew fun t30 =>
 pu P (oFldA T.impl_Step t3 5) fun t31 =>
 rd P (oLoad T.int t31) w3.drew fun t32 =>
 rd P (oLoad T.impl_Step t3) w3.drew fun t33 =>
 (st P (oCall Fn.spec_Mem_Do #[t30, t32, t33]) w3.drew fun t34 w4 =>
 st P (oAlloc T.impl_Answer) w4 fun t5 w5 =>
 st P (oStore T.impl_Answer t5 t34) w5 fun _ w6 =>
 jn (fun s2 u2 w7 =>
 st P (oLoad T.impl_Answer t5) w7 fun t64 w8 =>
 st P (oStore T.impl_Answer t4 t64) w8 fun _ w9 =>
 rsl P T.impl_Answer t4 w9 fun r1 =>
 K (tup [r1]) w9) fun k2 =>
 pu P (oFldA T.impl_Step t3 0) fun t36 =>
 st P (oLoad T.int t36) w6 fun t37 w10 =>
 pu P (oBin .eql T.int false true t37 (.int .i64 12)) fun t38 =>
 cd t38 (
 pu P (oNil t0) fun t40 =>
 pu P (oFldA T.spec_Pair t40 0) fun t41 =>
 rd P (oLoad T.p_spec_Mem t41) w10.drew fun t42 =>
 pu P (oFldA T.impl_Step t3 5) fun t43 =>
 rd P (oLoad T.int t43) w10.drew fun t44 =>
 pu P (oFldA T.impl_Step t3 5) fun t45 =>
 rd P (oLoad T.int t45) w10.drew fun t46 =>
 pu P (oFldA T.impl_Answer t5 3) fun t47 =>
 rd P (oLoad T.sl_uint8 t47) w10.drew fun t48 =>
 pu P (oBuiltin .len #[T.sl_uint8] T.int #[false] #[t48]) fun t49 =>
 pu P (oBuild T.impl_Step #[(0, (.int .i64 16)), (5, t46), (7, t49), (8, (.int .i64 1))]) fun t50 =>
 st P (oCall Fn.spec_Mem_Do #[t42, t44, t50]) w10.drew fun t51 w11 =>
 k2 [] w11) (
 pu P (oFldA T.impl_Answer t5 0) fun t53 =>
 st P (oLoad T.int t53) w10 fun t54 w12 =>
 pu P (oBin .eql T.int false true t54 (.int .i64 0)) fun t55 =>
 cd t55 (
 pu P (oNil t0) fun t57 =>
 pu P (oFldA T.spec_Pair t57 0) fun t58 =>
 rd P (oLoad T.p_spec_Mem t58) w12.drew fun t59 =>
 pu P (oFldA T.impl_Step t3 5) fun t60 =>
 rd P (oLoad T.int t60) w12.drew fun t61 =>
 rd P (oLoad T.impl_Step t3) w12.drew fun t62 =>
 st P (oCall Fn.spec_Mem_Do #[t59, t61, t62]) w12.drew fun t63 w13 =>
 k2 [] w13) (
 k2 [] w12))) ∧ (st P (oAlloc T.impl_Answer) w3.drew fun t5_2 w14 =>
 hold P (oLoad T.impl_Step t3) t33 w14 ∧ hold P (oLoad T.int t31) t32 w14 ∧ hold P (oLoad T.p_spec_Mem t29) t30 w14 ∧ st P (oCall Fn.spec_Mem_Do #[t30, t32, t33]) w14 fun t34_2 w15 =>
 st P (oStore T.impl_Answer t5_2 t34_2) w15 fun _ w16 =>
 jn (fun s3 u3 w17 =>
 st P (oLoad T.impl_Answer t5_2) w17 fun t64_2 w18 =>
 st P (oStore T.impl_Answer t4 t64_2) w18 fun _ w19 =>
 rsl P T.impl_Answer t4 w19 fun r2 =>
 K (tup [r2]) w19) fun k3 =>
 pu P (oFldA T.impl_Step t3 0) fun t36_2 =>
 st P (oLoad T.int t36_2) w16 fun t37_2 w20 =>
 pu P (oBin .eql T.int false true t37_2 (.int .i64 12)) fun t38_2 =>
 cd t38_2 (
 pu P (oNil t0) fun t40_2 =>
 pu P (oFldA T.spec_Pair t40_2 0) fun t41_2 =>
 rd P (oLoad T.p_spec_Mem t41_2) w20.drew fun t42_2 =>
 pu P (oFldA T.impl_Step t3 5) fun t43_2 =>
 rd P (oLoad T.int t43_2) w20.drew fun t44_2 =>
 pu P (oFldA T.impl_Step t3 5) fun t45_2 =>
 rd P (oLoad T.int t45_2) w20.drew fun t46_2 =>
 pu P (oFldA T.impl_Answer t5_2 3) fun t47_2 =>
 rd P (oLoad T.sl_uint8 t47_2) w20.drew fun t48_2 =>
 pu P (oBuiltin .len #[T.sl_uint8] T.int #[false] #[t48_2]) fun t49_2 =>
 pu P (oBuild T.impl_Step #[(0, (.int .i64 16)), (5, t46_2), (7, t49_2), (8, (.int .i64 1))]) fun t50_2 =>
 st P (oCall Fn.spec_Mem_Do #[t42_2, t44_2, t50_2]) w20.drew fun t51_2 w21 =>
 k3 [] w21) (
 pu P (oFldA T.impl_Answer t5_2 0) fun t53_2 =>
 st P (oLoad T.int t53_2) w20 fun t54_2 w22 =>
 pu P (oBin .eql T.int false true t54_2 (.int .i64 0)) fun t55_2 =>
 cd t55_2 (
 pu P (oNil t0) fun t57_2 =>
 pu P (oFldA T.spec_Pair t57_2 0) fun t58_2 =>
 rd P (oLoad T.p_spec_Mem t58_2) w22.drew fun t59_2 =>
 pu P (oFldA T.impl_Step t3 5) fun t60_2 =>
 rd P (oLoad T.int t60_2) w22.drew fun t61_2 =>
 rd P (oLoad T.impl_Step t3) w22.drew fun t62_2 =>
 st P (oCall Fn.spec_Mem_Do #[t59_2, t61_2, t62_2]) w22.drew fun t63_2 w23 =>
 k3 [] w23) (
 k3 [] w22)))) fun k1 =>
 pu P (oNil t0) fun t7 =>
 pu P (oFldA T.spec_Pair t7 2) fun t8 =>
 rd P (oLoad T.map_int_int t8) w2.drew fun t9 =>
 pu P (oFldA T.impl_Step t3 5) fun t10 =>
 rd P (oLoad T.int t10) w2.drew fun t11 =>
 rd P (oLookup T.map_int_int t9 t11 false) w2.drew fun t12 =>
 pu P (oBin .neq T.int false true t12 (.int .i64 3)) fun t13 =>
 gd t13 false w2.drew (fun K1 => pu P (oFldA T.impl_Step t3 0) fun v => K1 v w2.drew) fun t15 w24 =>
 gd t13 false w24 (fun K2 => rd P (oLoad T.int t15) w24 fun v => K2 v w24) fun t16 w25 =>
 gd t13 false w25 (fun K3 => pu P (oBin .eql T.int false true t16 (.int .i64 19)) fun v => K3 v w25) fun t17 w26 =>
 pu P (oPick t13 (.bool true) t17) fun t18 =>
 gd t18 false w26 (fun K4 => pu P (oFldA T.impl_Step t3 0) fun v => K4 v w26) fun t20 w27 =>
 gd t18 false w27 (fun K5 => rd P (oLoad T.int t20) w27 fun v => K5 v w27) fun t21 w28 =>
 gd t18 false w28 (fun K6 => pu P (oBin .eql T.int false true t21 (.int .i64 20)) fun v => K6 v w28) fun t22 w29 =>
 pu P (oPick t18 (.bool true) t22) fun t23 =>
 cd t23 (
 st P (oLoad T.impl_Step t3) w29 fun t25 w30 =>
 st P (oCall Fn.spec_Pair_onHandle #[t0, t25]) w30 fun t26 w31 =>
 st P (oStore T.impl_Answer t4 t26) w31 fun _ w32 =>
 rsl P T.impl_Answer t4 w32 fun r3 =>
 K (tup [r3]) w32) (
 k1 [] w29)
def Tb_spec_Pair_cacheHandle : Tab := { join := fun n => match n with | _ => [], loop := fun n => match n with | _ => [] }
theorem S_spec_Pair_cacheHandle {t0 t1 : Value} {w : World} {K : Value → World → Prop} (h : F_spec_Pair_cacheHandle t0 t1 w K) : Cl P Fn.spec_Pair_cacheHandle #[t0, t1] w K :=
  cl_of_eq (T := Tb_spec_Pair_cacheHandle) (args := [t0, t1]) Tryd.func32 rfl follows_mixed (by kernel_rfl) (Nat.le_of_ble_eq_true (by kernel_rfl)) (by kernel_rfl) h

/-- pub-marram/impl.woven -/
def F_impl_woven (t0 t1 : Value) (w : World) (K : Value → World → Prop) : Prop :=
 st P (oBox T.impl_Step t1) w fun t3 w1 =>
 st P (oAlloc T.impl_Answer) w1 fun t4 w2 =>
 pu P (oBuild T.impl_Answer #[]) fun t15 =>
 st P (oAlloc T.impl_Answer) w2 fun t5 w3 =>
 st P (oStore T.impl_Answer t5 t15) w3 fun _ w4 =>
 jn (fun s1 u1 w5 =>
 st P (oCall Fn.impl_kind #[(gs s1 0)]) w5 fun t153 w6 =>
 pu P (oFldA T.impl_Answer t5 0) fun t154 =>
 st P (oStore T.int t154 t153) w6 fun _ w7 =>
 st P (oLoad T.impl_Answer t5) w7 fun t155 w8 =>
 st P (oStore T.impl_Answer t4 t155) w8 fun _ w9 =>
 rsl P T.impl_Answer t4 w9 fun r1 =>
 K (tup [r1]) w9) fun k1 =>
 pu P (oFldA T.impl_Step t3 0) fun t16 =>
 st P (oLoad T.int t16) w4 fun t17 w10 =>
 pu P (oBin .eql T.int false true t17 (.int .i64 12)) fun t20 =>
 cd t20 (
 pu P (oFldA T.impl_Step t3 9) fun t21 =>
 st P (oLoad T.int t21) w10 fun t22 w11 =>
 pu P (oBuiltin .min #[T.int, T.int] T.int #[false, true] #[t22, (.int .i64 1048576)]) fun t23 =>
 pu P (oBuiltin .max #[T.int, T.int] T.int #[true, false] #[(.int .i64 0), t23]) fun t24 =>
 st P (oMkSlice T.sl_uint8 t24 t24) w11 fun t25 w12 =>
 st P (oCall Fn.afero_UnionFile_Read #[t0, t25]) w12 fun t29 w13 =>
 pu P (oExtract t29 0) fun t30 =>
 pu P (oExtract t29 1) fun t31 =>
 pu P (oSlice T.sl_uint8 t25 none (some t30) none) fun t34 =>
 pu P (oFldA T.impl_Answer t5 3) fun t35 =>
 st P (oStore T.sl_uint8 t35 t34) w13 fun _ w14 =>
 k1 [t31] w14) (
 pu P (oBin .eql T.int false true t17 (.int .i64 13)) fun t37 =>
 cd t37 (
 pu P (oFldA T.impl_Step t3 9) fun t38 =>
 st P (oLoad T.int t38) w10 fun t39 w15 =>
 pu P (oBuiltin .min #[T.int, T.int] T.int #[false, true] #[t39, (.int .i64 1048576)]) fun t40 =>
 pu P (oBuiltin .max #[T.int, T.int] T.int #[true, false] #[(.int .i64 0), t40]) fun t41 =>
 st P (oMkSlice T.sl_uint8 t41 t41) w15 fun t42 w16 =>
 pu P (oFldA T.impl_Step t3 7) fun t46 =>
 st P (oLoad T.int64 t46) w16 fun t47 w17 =>
 st P (oCall Fn.afero_UnionFile_ReadAt #[t0, t42, t47]) w17 fun t48 w18 =>
 pu P (oExtract t48 0) fun t49 =>
 pu P (oExtract t48 1) fun t50 =>
 pu P (oSlice T.sl_uint8 t42 none (some t49) none) fun t53 =>
 pu P (oFldA T.impl_Answer t5 3) fun t54 =>
 st P (oStore T.sl_uint8 t54 t53) w18 fun _ w19 =>
 k1 [t50] w19) (
 pu P (oBin .eql T.int false true t17 (.int .i64 14)) fun t56 =>
 cd t56 (
 pu P (oFldA T.impl_Step t3 6) fun t59 =>
 st P (oLoad T.sl_uint8 t59) w10 fun t60 w20 =>
 st P (oBuiltin .append #[T.sl_uint8, T.sl_uint8] T.sl_uint8 #[true, false] #[(.slice none 0 0), t60]) w20 fun t61 w21 =>
 st P (oCall Fn.afero_UnionFile_Write #[t0, t61]) w21 fun t62 w22 =>
 pu P (oExtract t62 0) fun t63 =>
 pu P (oExtract t62 1) fun t64 =>
 pu P (oFldA T.impl_Answer t5 1) fun t65 =>
 st P (oStore T.int t65 t63) w22 fun _ w23 =>
 k1 [t64] w23) (
 pu P (oBin .eql T.int false true t17 (.int .i64 15)) fun t67 =>
 cd t67 (
 pu P (oFldA T.impl_Step t3 6) fun t70 =>
 rd P (oLoad T.sl_uint8 t70) w10.drew fun t71 =>
 pu P (oFldA T.impl_Step t3 7) fun t73 =>
 rd P (oLoad T.int64 t73) w10.drew fun t74 =>
 st P (oBuiltin .append #[T.sl_uint8, T.sl_uint8] T.sl_uint8 #[true, false] #[(.slice none 0 0), t71]) w10.drew fun t72 w24 =>
 hold P (oLoad T.int64 t73) t74 w24 ∧ st P (oCall Fn.afero_UnionFile_WriteAt #[t0, t72, t74]) w24 fun t75 w25 =>
 pu P (oExtract t75 0) fun t76 =>
 pu P (oExtract t75 1) fun t77 =>
 pu P (oFldA T.impl_Answer t5 1) fun t78 =>
 st P (oStore T.int t78 t76) w25 fun _ w26 =>
 k1 [t77] w26) (
 pu P (oBin .eql T.int false true t17 (.int .i64 16)) fun t80 =>
 cd t80 (
 pu P (oFldA T.impl_Step t3 7) fun t83 =>
 st P (oLoad T.int64 t83) w10 fun t84 w27 =>
 pu P (oFldA T.impl_Step t3 8) fun t85 =>
 st P (oLoad T.int t85) w27 fun t86 w28 =>
 st P (oCall Fn.afero_UnionFile_Seek #[t0, t84, t86]) w28 fun t87 w29 =>
 pu P (oExtract t87 0) fun t88 =>
 pu P (oExtract t87 1) fun t89 =>
 pu P (oFldA T.impl_Answer t5 2) fun t90 =>
 st P (oStore T.int64 t90 t88) w29 fun _ w30 =>
 k1 [t89] w30) (
 pu P (oBin .eql T.int false true t17 (.int .i64 17)) fun t92 =>
 cd t92 (
 pu P (oFldA T.impl_Step t3 7) fun t94 =>
 st P (oLoad T.int64 t94) w10 fun t95 w31 =>
 st P (oCall Fn.afero_UnionFile_Truncate #[t0, t95]) w31 fun t96 w32 =>
 k1 [t96] w32) (
 pu P (oBin .eql T.int false true t17 (.int .i64 18)) fun t98 =>
 cd t98 (
 st P (oCall Fn.afero_UnionFile_Close #[t0]) w10 fun t100 w33 =>
 k1 [t100] w33) (
 pu P (oBin .eql T.int false true t17 (.int .i64 19)) fun t102 =>
 cd t102 (
 pu P (oFldA T.impl_Step t3 9) fun t105 =>
 st P (oLoad T.int t105) w10 fun t106 w34 =>
 st P (oCall Fn.afero_UnionFile_Readdir #[t0, t106]) w34 fun t107 w35 =>
 pu P (oExtract t107 0) fun t108 =>
 pu P (oExtract t107 1) fun t109 =>
 st P (oCall Fn.impl_fromInfos #[t108]) w35 fun t111 w36 =>
 pu P (oFldA T.impl_Answer t5 5) fun t113 =>
 st P (oStore T.sl_impl_Info t113 t111) w36 fun _ w37 =>
 k1 [t109] w37) (
 pu P (oBin .eql T.int false true t17 (.int .i64 20)) fun t115 =>
 cd t115 (
 pu P (oFldA T.impl_Step t3 9) fun t118 =>
 st P (oLoad T.int t118) w10 fun t119 w38 =>
 st P (oCall Fn.afero_UnionFile_Readdirnames #[t0, t119]) w38 fun t120 w39 =>
 pu P (oExtract t120 0) fun t121 =>
 pu P (oExtract t120 1) fun t122 =>
 pu P (oFldA T.impl_Answer t5 4) fun t123 =>
 st P (oStore T.sl_string t123 t121) w39 fun _ w40 =>
 k1 [t122] w40) (
 pu P (oBin .eql T.int false true t17 (.int .i64 21)) fun t125 =>
 cd t125 (
 st P (oCall Fn.afero_UnionFile_Stat #[t0]) w10 fun t128 w41 =>
 pu P (oExtract t128 0) fun t129 =>
 pu P (oExtract t128 1) fun t130 =>
 jn (fun s2 u2 w42 =>
 k1 [t130] w42) fun k2 =>
 pu P (oBin .eql T.error false true t130 .nilIface) fun t132 =>
 gd t132 true w41 (fun K1 => K1 t129 w41) fun t134 w43 =>
 gd t132 true w43 (fun K2 => pu P (oBin .neq T.p_mem_FileInfo false true t134 (.pointer none)) fun v => K2 v w43) fun t135 w44 =>
 pu P (oPick t132 t135 (.bool false)) fun t136 =>
 cd t136 (
 st P (oCall Fn.impl_fromInfo #[t129]) w44 fun t138 w45 =>
 st P (oBuildSlice T.sl_impl_Info 1 #[(0, t138)]) w45 fun t139 w46 =>
 pu P (oFldA T.impl_Answer t5 5) fun t140 =>
 st P (oStore T.sl_impl_Info t140 t139) w46 fun _ w47 =>
 k2 [] w47) (
 k2 [] w44)) (
 pu P (oBin .eql T.int false true t17 (.int .i64 22)) fun t143 =>
 cd t143 (
 st P (oCall Fn.afero_UnionFile_Name #[t0]) w10 fun t145 w48 =>
 st P (oBuildSlice T.sl_string 1 #[(0, t145)]) w48 fun t146 w49 =>
 pu P (oFldA T.impl_Answer t5 4) fun t147 =>
 st P (oStore T.sl_string t147 t146) w49 fun _ w50 =>
 k1 [.nilIface] w50) (
 pu P (oBin .eql T.int false true t17 (.int .i64 23)) fun t149 =>
 cd t149 (
 st P (oCall Fn.afero_UnionFile_Sync #[t0]) w10 fun t151 w51 =>
 k1 [t151] w51) (
 pu P (oBuild T.impl_Answer #[(0, (.int .i64 13))]) fun t18 =>
 st P (oStore T.impl_Answer t4 t18) w10 fun _ w52 =>
 rsl P T.impl_Answer t4 w52 fun r2 =>
 K (tup [r2]) w52))))))))))))
def Tb_impl_woven : Tab := { join := fun n => match n with | 39 => [6] | _ => [], loop := fun n => match n with | _ => [] }
theorem S_impl_woven {t0 t1 : Value} {w : World} {K : Value → World → Prop} (h : F_impl_woven t0 t1 w K) : Cl P Fn.impl_woven #[t0, t1] w K :=
  cl_of_eq (T := Tb_impl_woven) (args := [t0, t1]) Tryd.func33 rfl follows_mixed (by kernel_rfl) (Nat.le_of_ble_eq_true (by kernel_rfl)) (by kernel_rfl) h

/-- pub-marram/spec.NewMem -/
def F_spec_NewMem (w : World) (K : Value → World → Prop) : Prop :=
 st P (oBuildSlice T.sl_string 1 #[(0, (S [47]))]) w fun t1 w1 =>
 st P (oBuildSlice T.sl_int 1 #[(0, (.int .i64 0))]) w1 fun t2 w2 =>
 pu P (oBuild T.spec_MemNode #[(0, (.bool true)), (1, (.int .i64 2147484141)), (4, (S [47]))]) fun t3 =>
 st P (oBuildSlice T.sl_spec_MemNode 1 #[(0, t3)]) w2 fun t4 w3 =>
 st P (oMkMap T.map_int_p_spec_MemHandle none) w3 fun t5 w4 =>
 pu P (oBuild T.spec_Mem #[(0, t1), (1, t2), (2, t4), (3, t5)]) fun t6 =>
 st P (oBox T.spec_Mem t6) w4 fun t7 w5 =>
 K (tup [t7]) w5
def Tb_spec_NewMem : Tab := { join := fun n => match n with | _ => [], loop := fun n => match n with | _ => [] }
theorem S_spec_NewMem {w : World} {K : Value → World → Prop} (h : F_spec_NewMem  w K) : Cl P Fn.spec_NewMem #[] w K :=
  cl_of_eq (T := Tb_spec_NewMem) (args := []) Tryd.func34 rfl follows_mixed (by kernel_rfl) (Nat.le_of_ble_eq_true (by kernel_rfl)) (by kernel_rfl) h

end Go.Proofs.YteblpejgenehfaaDoor.X
