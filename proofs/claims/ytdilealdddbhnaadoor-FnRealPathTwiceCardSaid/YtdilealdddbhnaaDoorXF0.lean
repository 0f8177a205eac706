/- The functions' own texts over values, each held against the loaded code by the kernel. Laid by a program of this session. No condition. -/
import Derived.Test.YtdilealdddbhnaaDoorXN
set_option linter.unusedVariables false
set_option maxRecDepth 100000
namespace Go.Proofs.YtdilealdddbhnaaDoor.X
open Go Go.X Go.Proofs

/-- pub-marram/laws.FnNameAhead -/
def F_laws_FnNameAhead (t0 t1 : Value) (w : World) (K : Value → World → Prop) : Prop :=
 jn (fun s1 u1 w1 =>
 st P (oCall Fn.impl_CompressName #[t0]) w1 fun t19 w2 =>
 pu P (oExtract t19 0) fun t20 =>
 pu P (oExtract t19 1) fun t21 =>
 jn (fun s2 u2 w3 =>
 pu P (oBin .add T.string false false t0 t1) fun t40 =>
 st P (oCall Fn.impl_CompressName #[t40]) w3 fun t41 w4 =>
 pu P (oExtract t41 0) fun t42 =>
 pu P (oExtract t41 1) fun t43 =>
 jn (fun s3 u3 w5 =>
 pu P (oBin .eql T.uint8 false true t20 (.int .u8 7)) fun t53 =>
 gd t53 true w5 (fun K1 => K1 t42 w5) fun t55 w6 =>
 gd t53 true w6 (fun K2 => pu P (oBin .eql T.uint8 false true t55 (.int .u8 2)) fun v => K2 v w6) fun t56 w7 =>
 gd t53 true w7 (fun K3 => K3 t56 w7) fun t57 w8 =>
 gd t57 false w8 (fun K4 => K4 t42 w8) fun t58 w9 =>
 gd t57 false w9 (fun K5 => pu P (oBin .eql T.uint8 false true t58 (.int .u8 3)) fun v => K5 v w9) fun t59 w10 =>
 gd t53 true w10 (fun K6 => pu P (oPick t57 (.bool true) t59) fun v => K6 v w10) fun t60 w11 =>
 gd t53 true w11 (fun K7 => K7 t60 w11) fun t61 w12 =>
 gd t61 false w12 (fun K8 => K8 t42 w12) fun t62 w13 =>
 gd t61 false w13 (fun K9 => pu P (oBin .eql T.uint8 false true t62 (.int .u8 8)) fun v => K9 v w13) fun t63 w14 =>
 gd t53 true w14 (fun K10 => pu P (oPick t61 (.bool true) t63) fun v => K10 v w14) fun t64 w15 =>
 pu P (oPick t53 t64 (.bool false)) fun t65 =>
 gd t65 true w15 (fun K11 => K11 t42 w15) fun t67 w16 =>
 gd t65 true w16 (fun K12 => K12 t43 w16) fun t68 w17 =>
 gd t65 true w17 (fun K13 => st P (oCall Fn.impl_DecompressName #[t67, t68]) w17 K13) fun t69 w18 =>
 gd t65 true w18 (fun K14 => K14 t0 w18) fun t70 w19 =>
 gd t65 true w19 (fun K15 => K15 t1 w19) fun t71 w20 =>
 gd t65 true w20 (fun K16 => pu P (oBin .add T.string false false t70 t71) fun v => K16 v w20) fun t72 w21 =>
 gd t65 true w21 (fun K17 => pu P (oBin .eql T.string false false t69 t72) fun v => K17 v w21) fun t73 w22 =>
 pu P (oPick t65 t73 (.bool false)) fun t74 =>
 K (tup [t74]) w22) fun k3 =>
 pu P (oBin .eql T.uint8 false false t42 t20) fun t46 =>
 cd t46 (
 pu P (oBin .add T.string false false t21 t1) fun t50 =>
 pu P (oBin .eql T.string false false t43 t50) fun t51 =>
 K (tup [t51]) w4) (
 k3 [] w4)) fun k2 =>
 pu P (oBin .eql T.string false true t21 (S [])) fun t23 =>
 gd t23 false w2 (fun K18 => K18 t20 w2) fun t25 w23 =>
 gd t23 false w23 (fun K19 => pu P (oBin .eql T.uint8 false true t25 (.int .u8 0)) fun v => K19 v w23) fun t26 w24 =>
 pu P (oPick t23 (.bool true) t26) fun t27 =>
 cd t27 (
 st P (oCall Fn.impl_DecompressName #[t20, t21]) w24 fun t30 w25 =>
 pu P (oBin .eql T.string false false t30 t0) fun t32 =>
 gd t32 true w25 (fun K20 => st P (oCall Fn.impl_DecompressName #[(.int .u8 1), (S [97])]) w25 K20) fun t34 w26 =>
 gd t32 true w26 (fun K21 => pu P (oBin .eql T.string false true t34 (S [117, 115, 101, 114, 46, 97])) fun v => K21 v w26) fun t35 w27 =>
 pu P (oPick t32 t35 (.bool false)) fun t36 =>
 K (tup [t36]) w27) (
 k2 [] w24)) fun k1 =>
 pu P (oBuiltin .len #[T.string] T.int #[false] #[t0]) fun t10 =>
 pu P (oBin .gtr T.int false true t10 (.int .i64 2147483647)) fun t11 =>
 gd t11 false w (fun K22 => K22 t1 w) fun t13 w28 =>
 gd t11 false w28 (fun K23 => pu P (oBuiltin .len #[T.string] T.int #[false] #[t13]) fun v => K23 v w28) fun t14 w29 =>
 gd t11 false w29 (fun K24 => pu P (oBin .gtr T.int false true t14 (.int .i64 2147483647)) fun v => K24 v w29) fun t15 w30 =>
 pu P (oPick t11 (.bool true) t15) fun t16 =>
 cd t16 (
 K (tup [(.bool true)]) w30) (
 k1 [] w30)
def Tb_laws_FnNameAhead : Tab := { join := fun n => match n with | _ => [], loop := fun n => match n with | _ => [] }
theorem S_laws_FnNameAhead {t0 t1 : Value} {w : World} {K : Value → World → Prop} (h : F_laws_FnNameAhead t0 t1 w K) : Cl P Fn.laws_FnNameAhead #[t0, t1] w K :=
  cl_of_eq (T := Tb_laws_FnNameAhead) (args := [t0, t1]) Tryd.func3 rfl follows_mixed (by kernel_rfl) (Nat.le_of_ble_eq_true (by kernel_rfl)) (by kernel_rfl) h

/-- pub-marram/laws.FnFitAll -/
def F_laws_FnFitAll (t0 : Value) (w : World) (K : Value → World → Prop) : Prop :=
 jn (fun s1 u1 w1 =>
 jn (fun s2 u2 w2 =>
 st P (oCall Fn.impl_FitXattrs #[t0]) w2 fun t18 w3 =>
 pu P (oExtract t18 0) fun t19 =>
 pu P (oExtract t18 1) fun t20 =>
 pu P (oExtract t18 2) fun t21 =>
 jn (fun s3 u3 w4 =>
 jn (fun s4 u4 w5 =>
 jn (fun s5 u5 w6 =>
 pu P (oBuiltin .len #[T.sl_impl_Xattr] T.int #[false] #[(gs s5 0)]) fun t114 =>
 pu P (oBin .eql T.int false true t114 (.int .i64 0)) fun t115 =>
 gd t115 true w6 (fun K1 => K1 (gs s5 1) w6) fun t117 w7 =>
 gd t115 true w7 (fun K2 => pu P (oBuiltin .len #[T.sl_impl_Xattr] T.int #[false] #[t117]) fun v => K2 v w7) fun t118 w8 =>
 gd t115 true w8 (fun K3 => pu P (oBin .eql T.int false true t118 (.int .i64 0)) fun v => K3 v w8) fun t119 w9 =>
 pu P (oPick t115 t119 (.bool false)) fun t120 =>
 K (tup [t120]) w9) fun k5 =>
 pu P (oBuiltin .len #[T.sl_impl_Xattr] T.int #[false] #[t0]) fun t43 =>
 lp [t19, t20, (.int .i64 96), (.int .i64 0)] w5 fun s6 u6 w10 C1 =>
 pu P (oBin .lss T.int false false (gs s6 3) t43) fun t45 =>
 jn (fun s7 u7 w11 =>
 jn (fun s8 u8 w12 =>
 pu P (oBin .add T.int false true (gs s6 3) (.int .i64 1)) fun t112 =>
 C1 [(gs s8 0), (gs s8 1), (gs s8 2), t112] w12) fun k7 =>
 pu P (oIdxA T.sl_impl_Xattr t0 (gs s6 3)) fun t46 =>
 st P (oLoad T.impl_Xattr t46) w11 fun t47 w13 =>
 st P (oAlloc T.impl_Xattr) w13 fun t8 w14 =>
 st P (oStore T.impl_Xattr t8 t47) w14 fun _ w15 =>
 st P (oLoad T.impl_Xattr t8) w15 fun t48 w16 =>
 st P (oBuildSlice T.sl_impl_Xattr 1 #[(0, t48)]) w16 fun t49 w17 =>
 st P (oCall Fn.laws_attributes #[t49]) w17 fun t50 w18 =>
 st P (oCall Fn.spec_Rooms #[t50]) w18 fun t51 w19 =>
 pu P (oBuiltin .len #[T.sl_impl_Xattr] T.int #[false] #[(gs s6 0)]) fun t54 =>
 pu P (oBin .gtr T.int false true t54 (.int .i64 0)) fun t55 =>
 gd t55 true w19.drew (fun K4 => K4 (gs s6 0) w19.drew) fun t57 w20 =>
 gd t55 true w20 (fun K5 => pu P (oIdxA T.sl_impl_Xattr t57 (.int .i64 0)) fun v => K5 v w20) fun t58 w21 =>
 gd t55 true w21 (fun K6 => pu P (oFldA T.impl_Xattr t58 0) fun v => K6 v w21) fun t59 w22 =>
 gd t55 true w22 (fun K7 => rd P (oLoad T.string t59) w22 fun v => K7 v w22) fun t60 w23 =>
 gd t55 true w23 (fun K8 => pu P (oFldA T.impl_Xattr t8 0) fun v => K8 v w23) fun t61 w24 =>
 gd t55 true w24 (fun K9 => rd P (oLoad T.string t61) w24 fun v => K9 v w24) fun t62 w25 =>
 gd t55 true w25 (fun K10 => pu P (oBin .eql T.string false false t60 t62) fun v => K10 v w25) fun t63 w26 =>
 pu P (oPick t55 t63 (.bool false)) fun t64 =>
 gd t64 true w26 (fun K11 => K11 (gs s6 0) w26) fun t66 w27 =>
 gd t64 true w27 (fun K12 => pu P (oIdxA T.sl_impl_Xattr t66 (.int .i64 0)) fun v => K12 v w27) fun t67 w28 =>
 gd t64 true w28 (fun K13 => pu P (oFldA T.impl_Xattr t67 1) fun v => K13 v w28) fun t68 w29 =>
 gd t64 true w29 (fun K14 => rd P (oLoad T.sl_uint8 t68) w29 fun v => K14 v w29) fun t69 w30 =>
 gd t64 true w30 (fun K15 => rd P (oConv T.sl_uint8 T.string t69) w30 fun v => K15 v w30) fun t70 w31 =>
 gd t64 true w31 (fun K16 => pu P (oFldA T.impl_Xattr t8 1) fun v => K16 v w31) fun t71 w32 =>
 gd t64 true w32 (fun K17 => rd P (oLoad T.sl_uint8 t71) w32 fun v => K17 v w32) fun t72 w33 =>
 gd t64 true w33 (fun K18 => rd P (oConv T.sl_uint8 T.string t72) w33 fun v => K18 v w33) fun t73 w34 =>
 gd t64 true w34 (fun K19 => pu P (oBin .eql T.string false false t70 t73) fun v => K19 v w34) fun t74 w35 =>
 pu P (oPick t64 t74 (.bool false)) fun t75 =>
 cd t75 (
 pu P (oSlice T.sl_impl_Xattr (gs s6 0) (some (.int .i64 1)) none none) fun t77 =>
 pu P (oBin .sub T.int false false (gs s6 2) t51) fun t80 =>
 k7 [t77, (gs s6 1), t80] w35) (
 pu P (oBuiltin .len #[T.sl_impl_Xattr] T.int #[false] #[(gs s6 1)]) fun t83 =>
 pu P (oBin .gtr T.int false true t83 (.int .i64 0)) fun t84 =>
 gd t84 true w35.drew (fun K20 => K20 (gs s6 1) w35.drew) fun t86 w36 =>
 gd t84 true w36 (fun K21 => pu P (oIdxA T.sl_impl_Xattr t86 (.int .i64 0)) fun v => K21 v w36) fun t87 w37 =>
 gd t84 true w37 (fun K22 => pu P (oFldA T.impl_Xattr t87 0) fun v => K22 v w37) fun t88 w38 =>
 gd t84 true w38 (fun K23 => rd P (oLoad T.string t88) w38 fun v => K23 v w38) fun t89 w39 =>
 gd t84 true w39 (fun K24 => pu P (oFldA T.impl_Xattr t8 0) fun v => K24 v w39) fun t90 w40 =>
 gd t84 true w40 (fun K25 => rd P (oLoad T.string t90) w40 fun v => K25 v w40) fun t91 w41 =>
 gd t84 true w41 (fun K26 => pu P (oBin .eql T.string false false t89 t91) fun v => K26 v w41) fun t92 w42 =>
 pu P (oPick t84 t92 (.bool false)) fun t93 =>
 gd t93 true w42 (fun K27 => K27 (gs s6 1) w42) fun t95 w43 =>
 gd t93 true w43 (fun K28 => pu P (oIdxA T.sl_impl_Xattr t95 (.int .i64 0)) fun v => K28 v w43) fun t96 w44 =>
 gd t93 true w44 (fun K29 => pu P (oFldA T.impl_Xattr t96 1) fun v => K29 v w44) fun t97 w45 =>
 gd t93 true w45 (fun K30 => rd P (oLoad T.sl_uint8 t97) w45 fun v => K30 v w45) fun t98 w46 =>
 gd t93 true w46 (fun K31 => rd P (oConv T.sl_uint8 T.string t98) w46 fun v => K31 v w46) fun t99 w47 =>
 gd t93 true w47 (fun K32 => pu P (oFldA T.impl_Xattr t8 1) fun v => K32 v w47) fun t100 w48 =>
 gd t93 true w48 (fun K33 => rd P (oLoad T.sl_uint8 t100) w48 fun v => K33 v w48) fun t101 w49 =>
 gd t93 true w49 (fun K34 => rd P (oConv T.sl_uint8 T.string t101) w49 fun v => K34 v w49) fun t102 w50 =>
 gd t93 true w50 (fun K35 => pu P (oBin .eql T.string false false t99 t102) fun v => K35 v w50) fun t103 w51 =>
 pu P (oPick t93 t103 (.bool false)) fun t104 =>
 gd t104 true w51 (fun K36 => K36 t51 w51) fun t106 w52 =>
 gd t104 true w52 (fun K37 => K37 (gs s6 2) w52) fun t107 w53 =>
 gd t104 true w53 (fun K38 => pu P (oBin .gtr T.int false false t106 t107) fun v => K38 v w53) fun t108 w54 =>
 pu P (oPick t104 t108 (.bool false)) fun t109 =>
 cd t109 (
 pu P (oSlice T.sl_impl_Xattr (gs s6 1) (some (.int .i64 1)) none none) fun t111 =>
 k7 [(gs s6 0), t111, (gs s6 2)] w54) (
 K (tup [(.bool false)]) w54))) fun k6 =>
 cd t45 (
 k6 [] w10) (
 k5 [(gs s6 0), (gs s6 1)] w10)) fun k4 =>
 st P (oCall Fn.laws_attributes #[t19]) w4 fun t33 w55 =>
 st P (oCall Fn.spec_Rooms #[t33]) w55 fun t34 w56 =>
 pu P (oBin .gtr T.int false true t34 (.int .i64 96)) fun t35 =>
 gd t35 false w56 (fun K39 => K39 t20 w56) fun t37 w57 =>
 gd t35 false w57 (fun K40 => st P (oCall Fn.laws_attributes #[t37]) w57 K40) fun t38 w58 =>
 gd t35 false w58 (fun K41 => st P (oCall Fn.spec_Rooms #[t38]) w58 K41) fun t39 w59 =>
 gd t35 false w59 (fun K42 => pu P (oBin .gtr T.int false true t39 (.int .i64 4060)) fun v => K42 v w59) fun t40 w60 =>
 pu P (oPick t35 (.bool true) t40) fun t41 =>
 cd t41 (
 K (tup [(.bool false)]) w60) (
 k4 [] w60)) fun k3 =>
 pu P (oUn .not t21) fun t23 =>
 cd t23 (
 pu P (oBuiltin .len #[T.sl_impl_Xattr] T.int #[false] #[t19]) fun t25 =>
 pu P (oBuiltin .len #[T.sl_impl_Xattr] T.int #[false] #[t20]) fun t27 =>
 pu P (oBin .add T.int false false t25 t27) fun t28 =>
 pu P (oBuiltin .len #[T.sl_impl_Xattr] T.int #[false] #[t0]) fun t30 =>
 pu P (oBin .lss T.int false false t28 t30) fun t31 =>
 K (tup [t31]) w3) (
 k3 [] w3)) fun k2 =>
 st P (oCall Fn.laws_attributesFair #[t0]) w1 fun t14 w61 =>
 pu P (oUn .not t14) fun t15 =>
 cd t15 (
 K (tup [(.bool true)]) w61) (
 k2 [] w61)) fun k1 =>
 st P (oCall Fn.laws_zzFits7 #[t0]) w fun t11 w62 =>
 pu P (oUn .not t11) fun t12 =>
 cd t12 (
 K (tup [(.bool true)]) w62) (
 k1 [] w62)
def Tb_laws_FnFitAll : Tab := { join := fun n => match n with | 20 => [3, 4, 6] | 21 => [3, 4] | _ => [], loop := fun n => match n with | 12 => [3, 4, 6, 44] | _ => [] }
theorem S_laws_FnFitAll {t0 : Value} {w : World} {K : Value → World → Prop} (h : F_laws_FnFitAll t0 w K) : Cl P Fn.laws_FnFitAll #[t0] w K :=
  cl_of_eq (T := Tb_laws_FnFitAll) (args := [t0]) Tryd.func4 rfl follows_mixed (by kernel_rfl) (Nat.le_of_ble_eq_true (by kernel_rfl)) (by kernel_rfl) h

/-- pub-marram/laws.FnRealPathTwice -/
def F_laws_FnRealPathTwice (t0 t1 t2 : Value) (w : World) (K : Value → World → Prop) : Prop :=
 jn (fun s1 u1 w1 =>
 jn (fun s2 u2 w2 =>
 jn (fun s3 u3 w3 =>
 st P (oCall Fn.impl_RealPath #[t0, t1]) w3 fun t62 w4 =>
 pu P (oExtract t62 0) fun t63 =>
 pu P (oExtract t62 1) fun t64 =>
 st P (oCall Fn.impl_RealPath #[t63, t2]) w4 fun t68 w5 =>
 pu P (oExtract t68 0) fun t69 =>
 pu P (oExtract t68 1) fun t70 =>
 pu P (oBin .add T.string false true t1 (S [47])) fun t74 =>
 pu P (oBin .add T.string false false t74 t2) fun t76 =>
 st P (oCall Fn.impl_RealPath #[t0, t76]) w5 fun t77 w6 =>
 pu P (oExtract t77 0) fun t78 =>
 pu P (oExtract t77 1) fun t79 =>
 pu P (oBin .eql T.int false true t64 (.int .i64 0)) fun t81 =>
 gd t81 true w6 (fun K1 => K1 t70 w6) fun t83 w7 =>
 gd t81 true w7 (fun K2 => pu P (oBin .eql T.int false true t83 (.int .i64 0)) fun v => K2 v w7) fun t84 w8 =>
 pu P (oPick t81 t84 (.bool false)) fun t85 =>
 gd t85 true w8 (fun K3 => K3 t79 w8) fun t87 w9 =>
 gd t85 true w9 (fun K4 => pu P (oBin .eql T.int false true t87 (.int .i64 0)) fun v => K4 v w9) fun t88 w10 =>
 pu P (oPick t85 t88 (.bool false)) fun t89 =>
 gd t89 true w10 (fun K5 => K5 t69 w10) fun t91 w11 =>
 gd t89 true w11 (fun K6 => K6 t78 w11) fun t92 w12 =>
 gd t89 true w12 (fun K7 => pu P (oBin .eql T.string false false t91 t92) fun v => K7 v w12) fun t93 w13 =>
 pu P (oPick t89 t93 (.bool false)) fun t94 =>
 gd t94 true w13 (fun K8 => K8 t78 w13) fun t96 w14 =>
 gd t94 true w14 (fun K9 => K9 t63 w14) fun t97 w15 =>
 gd t94 true w15 (fun K10 => st P (oCall Fn.spec_Within #[t96, t97]) w15 K10) fun t98 w16 =>
 pu P (oPick t94 t98 (.bool false)) fun t99 =>
 gd t99 true w16 (fun K11 => K11 t63 w16) fun t101 w17 =>
 gd t99 true w17 (fun K12 => K12 t0 w17) fun t102 w18 =>
 gd t99 true w18 (fun K13 => st P (oCall Fn.spec_Clean #[t102]) w18 K13) fun t103 w19 =>
 gd t99 true w19 (fun K14 => st P (oCall Fn.spec_Within #[t101, t103]) w19 K14) fun t104 w20 =>
 pu P (oPick t99 t104 (.bool false)) fun t105 =>
 K (tup [t105]) w20) fun k3 =>
 st P (oCall Fn.spec_Elements #[t1]) w2 fun t47 w21 =>
 st P (oCall Fn.spec_Elements #[t2]) w21 fun t49 w22 =>
 st P (oBuiltin .append #[T.sl_string, T.sl_string] T.sl_string #[false, false] #[t47, t49]) w22 fun t50 w23 =>
 pu P (oBuiltin .len #[T.sl_string] T.int #[false] #[t50]) fun t51 =>
 lp [(.int .i64 0)] w23 fun s4 u4 w24 C1 =>
 pu P (oBin .lss T.int false false (gs s4 0) t51) fun t53 =>
 jn (fun s5 u5 w25 =>
 jn (fun s6 u6 w26 =>
 pu P (oBin .add T.int false true (gs s4 0) (.int .i64 1)) fun t58 =>
 C1 [t58] w26) fun k5 =>
 pu P (oIdxA T.sl_string t50 (gs s4 0)) fun t54 =>
 st P (oLoad T.string t54) w25 fun t55 w27 =>
 pu P (oBin .eql T.string false true t55 (S [46, 46])) fun t57 =>
 cd t57 (
 K (tup [(.bool true)]) w27) (
 k5 [] w27)) fun k4 =>
 cd t53 (
 k4 [] w24) (
 k3 [] w24)) fun k2 =>
 pu P (oBuiltin .len #[T.string] T.int #[false] #[t0]) fun t29 =>
 pu P (oBin .gtr T.int false true t29 (.int .i64 200)) fun t30 =>
 gd t30 false w1 (fun K15 => K15 t1 w1) fun t32 w28 =>
 gd t30 false w28 (fun K16 => pu P (oBuiltin .len #[T.string] T.int #[false] #[t32]) fun v => K16 v w28) fun t33 w29 =>
 gd t30 false w29 (fun K17 => pu P (oBin .gtr T.int false true t33 (.int .i64 200)) fun v => K17 v w29) fun t34 w30 =>
 pu P (oPick t30 (.bool true) t34) fun t35 =>
 gd t35 false w30 (fun K18 => K18 t2 w30) fun t37 w31 =>
 gd t35 false w31 (fun K19 => pu P (oBuiltin .len #[T.string] T.int #[false] #[t37]) fun v => K19 v w31) fun t38 w32 =>
 gd t35 false w32 (fun K20 => pu P (oBin .gtr T.int false true t38 (.int .i64 200)) fun v => K20 v w32) fun t39 w33 =>
 pu P (oPick t35 (.bool true) t39) fun t40 =>
 gd t40 false w33 (fun K21 => K21 t0 w33) fun t42 w34 =>
 gd t40 false w34 (fun K22 => st P (oCall Fn.spec_Rooted #[t42]) w34 K22) fun t43 w35 =>
 gd t40 false w35 (fun K23 => pu P (oUn .not t43) fun v => K23 v w35) fun t44 w36 =>
 pu P (oPick t40 (.bool true) t44) fun t45 =>
 cd t45 (
 K (tup [(.bool true)]) w36) (
 k2 [] w36)) fun k1 =>
 pu P (oBuiltin .len #[T.string] T.int #[false] #[t0]) fun t16 =>
 pu P (oBin .gtr T.int false true t16 (.int .i64 2147483647)) fun t17 =>
 gd t17 false w (fun K24 => K24 t1 w) fun t19 w37 =>
 gd t17 false w37 (fun K25 => pu P (oBuiltin .len #[T.string] T.int #[false] #[t19]) fun v => K25 v w37) fun t20 w38 =>
 gd t17 false w38 (fun K26 => pu P (oBin .gtr T.int false true t20 (.int .i64 2147483647)) fun v => K26 v w38) fun t21 w39 =>
 pu P (oPick t17 (.bool true) t21) fun t22 =>
 gd t22 false w39 (fun K27 => K27 t2 w39) fun t24 w40 =>
 gd t22 false w40 (fun K28 => pu P (oBuiltin .len #[T.string] T.int #[false] #[t24]) fun v => K28 v w40) fun t25 w41 =>
 gd t22 false w41 (fun K29 => pu P (oBin .gtr T.int false true t25 (.int .i64 2147483647)) fun v => K29 v w41) fun t26 w42 =>
 pu P (oPick t22 (.bool true) t26) fun t27 =>
 cd t27 (
 K (tup [(.bool true)]) w42) (
 k1 [] w42)
def Tb_laws_FnRealPathTwice : Tab := { join := fun n => match n with | _ => [], loop := fun n => match n with | 6 => [52] | _ => [] }
theorem S_laws_FnRealPathTwice {t0 t1 t2 : Value} {w : World} {K : Value → World → Prop} (h : F_laws_FnRealPathTwice t0 t1 t2 w K) : Cl P Fn.laws_FnRealPathTwice #[t0, t1, t2] w K :=
  cl_of_eq (T := Tb_laws_FnRealPathTwice) (args := [t0, t1, t2]) Tryd.func5 rfl follows_mixed (by kernel_rfl) (Nat.le_of_ble_eq_true (by kernel_rfl)) (by kernel_rfl) h

/-- pub-marram/impl.CompressName -/
def F_impl_CompressName (t0 : Value) (w : World) (K : Value → World → Prop) : Prop :=
 st P (oCall Fn.compactext4_DoorCompress #[t0]) w fun t5 w1 =>
 pu P (oExtract t5 0) fun t6 =>
 pu P (oExtract t5 1) fun t7 =>
 K (tup [t6, t7]) w1
def Tb_impl_CompressName : Tab := { join := fun n => match n with | _ => [], loop := fun n => match n with | _ => [] }
theorem S_impl_CompressName {t0 : Value} {w : World} {K : Value → World → Prop} (h : F_impl_CompressName t0 w K) : Cl P Fn.impl_CompressName #[t0] w K :=
  cl_of_eq (T := Tb_impl_CompressName) (args := [t0]) Tryd.func6 rfl follows_mixed (by kernel_rfl) (Nat.le_of_ble_eq_true (by kernel_rfl)) (by kernel_rfl) h

/-- pub-marram/impl.DecompressName -/
def F_impl_DecompressName (t0 t1 : Value) (w : World) (K : Value → World → Prop) : Prop :=
 st P (oCall Fn.compactext4_DoorDecompress #[t0, t1]) w fun t7 w1 =>
 K (tup [t7]) w1
def Tb_impl_DecompressName : Tab := { join := fun n => match n with | _ => [], loop := fun n => match n with | _ => [] }
theorem S_impl_DecompressName {t0 t1 : Value} {w : World} {K : Value → World → Prop} (h : F_impl_DecompressName t0 t1 w K) : Cl P Fn.impl_DecompressName #[t0, t1] w K :=
  cl_of_eq (T := Tb_impl_DecompressName) (args := [t0, t1]) Tryd.func7 rfl follows_mixed (by kernel_rfl) (Nat.le_of_ble_eq_true (by kernel_rfl)) (by kernel_rfl) h

/-- pub-marram/laws.zzFits7 -/
def F_laws_zzFits7 (t0 : Value) (w : World) (K : Value → World → Prop) : Prop :=
 jn (fun s1 u1 w1 =>
 jn (fun s2 u2 w2 =>
 K (tup [(.bool true)]) w2) fun k2 =>
 pu P (oBuiltin .len #[T.sl_impl_Xattr] T.int #[false] #[t0]) fun t9 =>
 lp [(.int .i64 0)] w1 fun s3 u3 w3 C1 =>
 pu P (oBin .lss T.int false false (gs s3 0) t9) fun t11 =>
 jn (fun s4 u4 w4 =>
 jn (fun s5 u5 w5 =>
 pu P (oBin .add T.int false true (gs s3 0) (.int .i64 1)) fun t17 =>
 C1 [t17] w5) fun k4 =>
 pu P (oIdxA T.sl_impl_Xattr t0 (gs s3 0)) fun t12 =>
 st P (oLoad T.impl_Xattr t12) w4 fun t13 w6 =>
 st P (oAlloc T.impl_Xattr) w6 fun t4 w7 =>
 st P (oStore T.impl_Xattr t4 t13) w7 fun _ w8 =>
 st P (oLoad T.impl_Xattr t4) w8 fun t14 w9 =>
 st P (oCall Fn.laws_zzFits8 #[t14]) w9 fun t15 w10 =>
 pu P (oUn .not t15) fun t16 =>
 cd t16 (
 K (tup [(.bool false)]) w10) (
 k4 [] w10)) fun k3 =>
 cd t11 (
 k3 [] w3) (
 k2 [] w3)) fun k1 =>
 pu P (oBuiltin .len #[T.sl_impl_Xattr] T.int #[false] #[t0]) fun t6 =>
 pu P (oBin .gtr T.int false true t6 (.int .i64 2147483647)) fun t7 =>
 cd t7 (
 K (tup [(.bool false)]) w) (
 k1 [] w)
def Tb_laws_zzFits7 : Tab := { join := fun n => match n with | _ => [], loop := fun n => match n with | 4 => [10] | _ => [] }
theorem S_laws_zzFits7 {t0 : Value} {w : World} {K : Value → World → Prop} (h : F_laws_zzFits7 t0 w K) : Cl P Fn.laws_zzFits7 #[t0] w K :=
  cl_of_eq (T := Tb_laws_zzFits7) (args := [t0]) Tryd.func8 rfl follows_mixed (by kernel_rfl) (Nat.le_of_ble_eq_true (by kernel_rfl)) (by kernel_rfl) h

/-- pub-marram/laws.attributesFair -/
def F_laws_attributesFair (t0 : Value) (w : World) (K : Value → World → Prop) : Prop :=
 jn (fun s1 u1 w1 =>
 jn (fun s2 u2 w2 =>
 K (tup [(.bool true)]) w2) fun k2 =>
 pu P (oBuiltin .len #[T.sl_impl_Xattr] T.int #[false] #[t0]) fun t13 =>
 lp [(.int .i64 0)] w1 fun s3 u3 w3 C1 =>
 pu P (oBin .lss T.int false false (gs s3 0) t13) fun t15 =>
 jn (fun s4 u4 w4 =>
 jn (fun s5 u5 w5 =>
 pu P (oBin .add T.int false true (gs s3 0) (.int .i64 1)) fun t52 =>
 C1 [t52] w5) fun k4 =>
 pu P (oIdxA T.sl_impl_Xattr t0 (gs s3 0)) fun t17 =>
 st P (oLoad T.impl_Xattr t17) w4 fun t18 w6 =>
 st P (oAlloc T.impl_Xattr) w6 fun t4 w7 =>
 st P (oStore T.impl_Xattr t4 t18) w7 fun _ w8 =>
 pu P (oFldA T.impl_Xattr t4 0) fun t20 =>
 st P (oLoad T.string t20) w8 fun t21 w9 =>
 st P (oCall Fn.spec_Prefixed #[t21]) w9 fun t22 w10 =>
 pu P (oExtract t22 0) fun t23 =>
 pu P (oExtract t22 1) fun t24 =>
 jn (fun s6 u6 w11 =>
 pu P (oSlice T.sl_impl_Xattr t0 none (some (gs s3 0)) none) fun t40 =>
 pu P (oBuiltin .len #[T.sl_impl_Xattr] T.int #[false] #[t40]) fun t41 =>
 lp [(.int .i64 0)] w11 fun s7 u7 w12 C2 =>
 pu P (oBin .lss T.int false false (gs s7 0) t41) fun t43 =>
 jn (fun s8 u8 w13 =>
 jn (fun s9 u9 w14 =>
 pu P (oBin .add T.int false true (gs s7 0) (.int .i64 1)) fun t51 =>
 C2 [t51] w14) fun k7 =>
 pu P (oIdxA T.sl_impl_Xattr t40 (gs s7 0)) fun t44 =>
 st P (oLoad T.impl_Xattr t44) w13 fun t45 w15 =>
 st P (oAlloc T.impl_Xattr) w15 fun t8 w16 =>
 st P (oStore T.impl_Xattr t8 t45) w16 fun _ w17 =>
 pu P (oFldA T.impl_Xattr t4 0) fun t46 =>
 st P (oLoad T.string t46) w17 fun t47 w18 =>
 pu P (oFldA T.impl_Xattr t8 0) fun t48 =>
 st P (oLoad T.string t48) w18 fun t49 w19 =>
 pu P (oBin .eql T.string false false t47 t49) fun t50 =>
 cd t50 (
 K (tup [(.bool false)]) w19) (
 k7 [] w19)) fun k6 =>
 cd t43 (
 k6 [] w12) (
 k4 [] w12)) fun k5 =>
 pu P (oBin .eql T.string false true t24 (S [])) fun t26 =>
 gd t26 false w10 (fun K1 => K1 t24 w10) fun t28 w20 =>
 gd t26 false w20 (fun K2 => pu P (oBuiltin .len #[T.string] T.int #[false] #[t28]) fun v => K2 v w20) fun t29 w21 =>
 gd t26 false w21 (fun K3 => pu P (oBin .gtr T.int false true t29 (.int .i64 255)) fun v => K3 v w21) fun t30 w22 =>
 pu P (oPick t26 (.bool true) t30) fun t31 =>
 gd t31 false w22 (fun K4 => pu P (oFldA T.impl_Xattr t4 1) fun v => K4 v w22) fun t33 w23 =>
 gd t31 false w23 (fun K5 => st P (oLoad T.sl_uint8 t33) w23 K5) fun t34 w24 =>
 gd t31 false w24 (fun K6 => pu P (oBuiltin .len #[T.sl_uint8] T.int #[false] #[t34]) fun v => K6 v w24) fun t35 w25 =>
 gd t31 false w25 (fun K7 => pu P (oBin .gtr T.int false true t35 (.int .i64 4096)) fun v => K7 v w25) fun t36 w26 =>
 pu P (oPick t31 (.bool true) t36) fun t37 =>
 cd t37 (
 K (tup [(.bool false)]) w26) (
 k5 [] w26)) fun k3 =>
 cd t15 (
 k3 [] w3) (
 k2 [] w3)) fun k1 =>
 pu P (oBuiltin .len #[T.sl_impl_Xattr] T.int #[false] #[t0]) fun t10 =>
 pu P (oBin .gtr T.int false true t10 (.int .i64 40)) fun t11 =>
 cd t11 (
 K (tup [(.bool false)]) w) (
 k1 [] w)
def Tb_laws_attributesFair : Tab := { join := fun n => match n with | _ => [], loop := fun n => match n with | 4 => [14] | 10 => [42] | _ => [] }
theorem S_laws_attributesFair {t0 : Value} {w : World} {K : Value → World → Prop} (h : F_laws_attributesFair t0 w K) : Cl P Fn.laws_attributesFair #[t0] w K :=
  cl_of_eq (T := Tb_laws_attributesFair) (args := [t0]) Tryd.func9 rfl follows_mixed (by kernel_rfl) (Nat.le_of_ble_eq_true (by kernel_rfl)) (by kernel_rfl) h

/-- pub-marram/impl.FitXattrs -/
def F_impl_FitXattrs (t0 : Value) (w : World) (K : Value → World → Prop) : Prop :=
 st P (oCall Fn.impl_split #[t0]) w fun t16 w1 =>
 pu P (oExtract t16 0) fun t17 =>
 pu P (oExtract t16 1) fun t18 =>
 st P (oCall Fn.compactext4_DoorFit #[t17, t18]) w1 fun t22 w2 =>
 pu P (oExtract t22 0) fun t23 =>
 pu P (oExtract t22 1) fun t24 =>
 pu P (oExtract t22 2) fun t25 =>
 jn (fun s1 u1 w3 =>
 jn (fun s2 u2 w4 =>
 K (tup [(gs s1 0), (gs s2 0), t25]) w4) fun k2 =>
 pu P (oBuiltin .len #[T.sl_int] T.int #[false] #[t24]) fun t41 =>
 lp [(.slice none 0 0), (.int .i64 0)] w3 fun s3 u3 w5 C1 =>
 pu P (oBin .lss T.int false false (gs s3 1) t41) fun t43 =>
 jn (fun s4 u4 w6 =>
 pu P (oIdxA T.sl_int t24 (gs s3 1)) fun t44 =>
 st P (oLoad T.int t44) w6 fun t45 w7 =>
 pu P (oIdxA T.sl_impl_Xattr t0 t45) fun t49 =>
 st P (oLoad T.impl_Xattr t49) w7 fun t50 w8 =>
 st P (oBuildSlice T.sl_impl_Xattr 1 #[(0, t50)]) w8 fun t51 w9 =>
 st P (oBuiltin .append #[T.sl_impl_Xattr, T.sl_impl_Xattr] T.sl_impl_Xattr #[false, false] #[(gs s3 0), t51]) w9 fun t52 w10 =>
 pu P (oBin .add T.int false true (gs s3 1) (.int .i64 1)) fun t53 =>
 C1 [t52, t53] w10) fun k3 =>
 cd t43 (
 k3 [] w5) (
 k2 [(gs s3 0)] w5)) fun k1 =>
 pu P (oBuiltin .len #[T.sl_int] T.int #[false] #[t23]) fun t27 =>
 lp [(.slice none 0 0), (.int .i64 0)] w2 fun s5 u5 w11 C2 =>
 pu P (oBin .lss T.int false false (gs s5 1) t27) fun t29 =>
 jn (fun s6 u6 w12 =>
 pu P (oIdxA T.sl_int t23 (gs s5 1)) fun t30 =>
 st P (oLoad T.int t30) w12 fun t31 w13 =>
 pu P (oIdxA T.sl_impl_Xattr t0 t31) fun t35 =>
 st P (oLoad T.impl_Xattr t35) w13 fun t36 w14 =>
 st P (oBuildSlice T.sl_impl_Xattr 1 #[(0, t36)]) w14 fun t37 w15 =>
 st P (oBuiltin .append #[T.sl_impl_Xattr, T.sl_impl_Xattr] T.sl_impl_Xattr #[false, false] #[(gs s5 0), t37]) w15 fun t38 w16 =>
 pu P (oBin .add T.int false true (gs s5 1) (.int .i64 1)) fun t39 =>
 C2 [t38, t39] w16) fun k4 =>
 cd t29 (
 k4 [] w11) (
 k1 [(gs s5 0)] w11)
def Tb_impl_FitXattrs : Tab := { join := fun n => match n with | 8 => [2] | 13 => [3] | _ => [], loop := fun n => match n with | 4 => [2, 28] | 9 => [3, 42] | _ => [] }
theorem S_impl_FitXattrs {t0 : Value} {w : World} {K : Value → World → Prop} (h : F_impl_FitXattrs t0 w K) : Cl P Fn.impl_FitXattrs #[t0] w K :=
  cl_of_eq (T := Tb_impl_FitXattrs) (args := [t0]) Tryd.func10 rfl follows_mixed (by kernel_rfl) (Nat.le_of_ble_eq_true (by kernel_rfl)) (by kernel_rfl) h

/-- pub-marram/spec.Rooms -/
def F_spec_Rooms (t0 : Value) (w : World) (K : Value → World → Prop) : Prop :=
 jn (fun s1 u1 w1 =>
 K (tup [(gs s1 0)]) w1) fun k1 =>
 pu P (oBuiltin .len #[T.sl_spec_Xattr] T.int #[false] #[t0]) fun t7 =>
 lp [(.int .i64 0), (.int .i64 0)] w fun s2 u2 w2 C1 =>
 pu P (oBin .lss T.int false false (gs s2 1) t7) fun t9 =>
 jn (fun s3 u3 w3 =>
 pu P (oIdxA T.sl_spec_Xattr t0 (gs s2 1)) fun t10 =>
 st P (oLoad T.spec_Xattr t10) w3 fun t11 w4 =>
 st P (oAlloc T.spec_Xattr) w4 fun t5 w5 =>
 st P (oStore T.spec_Xattr t5 t11) w5 fun _ w6 =>
 st P (oLoad T.spec_Xattr t5) w6 fun t13 w7 =>
 st P (oCall Fn.spec_room #[t13]) w7 fun t14 w8 =>
 pu P (oBin .add T.int false false (gs s2 0) t14) fun t15 =>
 pu P (oBin .add T.int false true (gs s2 1) (.int .i64 1)) fun t16 =>
 C1 [t15, t16] w8) fun k2 =>
 cd t9 (
 k2 [] w2) (
 k1 [(gs s2 0)] w2)
def Tb_spec_Rooms : Tab := { join := fun n => match n with | 7 => [3] | _ => [], loop := fun n => match n with | 3 => [3, 8] | _ => [] }
theorem S_spec_Rooms {t0 : Value} {w : World} {K : Value → World → Prop} (h : F_spec_Rooms t0 w K) : Cl P Fn.spec_Rooms #[t0] w K :=
  cl_of_eq (T := Tb_spec_Rooms) (args := [t0]) Tryd.func11 rfl follows_mixed (by kernel_rfl) (Nat.le_of_ble_eq_true (by kernel_rfl)) (by kernel_rfl) h

/-- pub-marram/laws.attributes -/
def F_laws_attributes (t0 : Value) (w : World) (K : Value → World → Prop) : Prop :=
 jn (fun s1 u1 w1 =>
 K (tup [(gs s1 0)]) w1) fun k1 =>
 pu P (oBuiltin .len #[T.sl_impl_Xattr] T.int #[false] #[t0]) fun t7 =>
 lp [(.slice none 0 0), (.int .i64 0)] w fun s2 u2 w2 C1 =>
 pu P (oBin .lss T.int false false (gs s2 1) t7) fun t9 =>
 jn (fun s3 u3 w3 =>
 pu P (oIdxA T.sl_impl_Xattr t0 (gs s2 1)) fun t10 =>
 st P (oLoad T.impl_Xattr t10) w3 fun t11 w4 =>
 st P (oAlloc T.impl_Xattr) w4 fun t5 w5 =>
 st P (oStore T.impl_Xattr t5 t11) w5 fun _ w6 =>
 pu P (oFldA T.impl_Xattr t5 0) fun t13 =>
 st P (oLoad T.string t13) w6 fun t14 w7 =>
 pu P (oFldA T.impl_Xattr t5 1) fun t15 =>
 st P (oLoad T.sl_uint8 t15) w7 fun t16 w8 =>
 pu P (oBuild T.spec_Xattr #[(0, t14), (1, t16)]) fun t17 =>
 st P (oBuildSlice T.sl_spec_Xattr 1 #[(0, t17)]) w8 fun t18 w9 =>
 st P (oBuiltin .append #[T.sl_spec_Xattr, T.sl_spec_Xattr] T.sl_spec_Xattr #[false, false] #[(gs s2 0), t18]) w9 fun t19 w10 =>
 pu P (oBin .add T.int false true (gs s2 1) (.int .i64 1)) fun t20 =>
 C1 [t19, t20] w10) fun k2 =>
 cd t9 (
 k2 [] w2) (
 k1 [(gs s2 0)] w2)
def Tb_laws_attributes : Tab := { join := fun n => match n with | 7 => [3] | _ => [], loop := fun n => match n with | 3 => [3, 8] | _ => [] }
theorem S_laws_attributes {t0 : Value} {w : World} {K : Value → World → Prop} (h : F_laws_attributes t0 w K) : Cl P Fn.laws_attributes #[t0] w K :=
  cl_of_eq (T := Tb_laws_attributes) (args := [t0]) Tryd.func12 rfl follows_mixed (by kernel_rfl) (Nat.le_of_ble_eq_true (by kernel_rfl)) (by kernel_rfl) h

/-- pub-marram/spec.Rooted -/
def F_spec_Rooted (t0 : Value) (w : World) (K : Value → World → Prop) : Prop :=
 pu P (oBin .neq T.string false true t0 (S [])) fun t4 =>
 gd t4 true w (fun K1 => K1 t0 w) fun t6 w1 =>
 gd t4 true w1 (fun K2 => pu P (oIdx T.string t6 (.int .i64 0)) fun v => K2 v w1) fun t7 w2 =>
 gd t4 true w2 (fun K3 => pu P (oBin .eql T.uint8 false true t7 (.int .u8 47)) fun v => K3 v w2) fun t8 w3 =>
 pu P (oPick t4 t8 (.bool false)) fun t9 =>
 K (tup [t9]) w3
def Tb_spec_Rooted : Tab := { join := fun n => match n with | _ => [], loop := fun n => match n with | _ => [] }
theorem S_spec_Rooted {t0 : Value} {w : World} {K : Value → World → Prop} (h : F_spec_Rooted t0 w K) : Cl P Fn.spec_Rooted #[t0] w K :=
  cl_of_eq (T := Tb_spec_Rooted) (args := [t0]) Tryd.func13 rfl follows_mixed (by kernel_rfl) (Nat.le_of_ble_eq_true (by kernel_rfl)) (by kernel_rfl) h

/-- pub-marram/spec.Elements -/
def F_spec_Elements (t0 : Value) (w : World) (K : Value → World → Prop) : Prop :=
 st P (oBuildSlice T.sl_string 0 #[]) w fun t6 w1 =>
 jn (fun s1 u1 w2 =>
 K (tup [(gs s1 0)]) w2) fun k1 =>
 lp [t6, (.int .i64 0), (.int .i64 0)] w1 fun s2 u2 w3 C1 =>
 jn (fun s3 u3 w4 =>
 jn (fun s4 u4 w5 =>
 pu P (oBin .add T.int false true (gs s2 2) (.int .i64 1)) fun t12 =>
 C1 [(gs s4 0), (gs s4 1), t12] w5) fun k3 =>
 pu P (oBuiltin .len #[T.string] T.int #[false] #[t0]) fun t15 =>
 pu P (oBin .eql T.int false false (gs s2 2) t15) fun t16 =>
 gd t16 false w4 (fun K1 => K1 t0 w4) fun t18 w6 =>
 gd t16 false w6 (fun K2 => K2 (gs s2 2) w6) fun t19 w7 =>
 gd t16 false w7 (fun K3 => pu P (oIdx T.string t18 t19) fun v => K3 v w7) fun t20 w8 =>
 gd t16 false w8 (fun K4 => pu P (oBin .eql T.uint8 false true t20 (.int .u8 47)) fun v => K4 v w8) fun t21 w9 =>
 pu P (oPick t16 (.bool true) t21) fun t22 =>
 cd t22 (
 jn (fun s5 u5 w10 =>
 pu P (oBin .add T.int false true (gs s2 2) (.int .i64 1)) fun t34 =>
 k3 [(gs s5 0), t34] w10) fun k4 =>
 pu P (oBin .gtr T.int false false (gs s2 2) (gs s2 1)) fun t25 =>
 cd t25 (
 pu P (oSlice T.string t0 (some (gs s2 1)) (some (gs s2 2)) none) fun t30 =>
 st P (oBuildSlice T.sl_string 1 #[(0, t30)]) w9 fun t31 w11 =>
 st P (oBuiltin .append #[T.sl_string, T.sl_string] T.sl_string #[false, false] #[(gs s2 0), t31]) w11 fun t32 w12 =>
 k4 [t32] w12) (
 k4 [(gs s2 0)] w9)) (
 k3 [(gs s2 0), (gs s2 1)] w9)) fun k2 =>
 pu P (oBuiltin .len #[T.string] T.int #[false] #[t0]) fun t9 =>
 pu P (oBin .leq T.int false false (gs s2 2) t9) fun t10 =>
 cd t10 (
 k2 [] w3) (
 k1 [(gs s2 0)] w3)
def Tb_spec_Elements : Tab := { join := fun n => match n with | 4 => [3, 4] | 8 => [3] | 9 => [3] | _ => [], loop := fun n => match n with | 3 => [3, 4, 5] | _ => [] }
theorem S_spec_Elements {t0 : Value} {w : World} {K : Value → World → Prop} (h : F_spec_Elements t0 w K) : Cl P Fn.spec_Elements #[t0] w K :=
  cl_of_eq (T := Tb_spec_Elements) (args := [t0]) Tryd.func14 rfl follows_mixed (by kernel_rfl) (Nat.le_of_ble_eq_true (by kernel_rfl)) (by kernel_rfl) h

/-- pub-marram/impl.RealPath -/
def F_impl_RealPath (t0 t1 : Value) (w : World) (K : Value → World → Prop) : Prop :=
 st P (oCall Fn.afero_NewMemMapFs #[]) w fun t9 w1 =>
 st P (oCall Fn.afero_NewBasePathFs #[t9, t0]) w1 fun t11 w2 =>
 st P (oCall Fn.afero_BasePathFs_RealPath #[t11, t1]) w2 fun t15 w3 =>
 pu P (oExtract t15 0) fun t16 =>
 pu P (oExtract t15 1) fun t17 =>
 st P (oCall Fn.impl_kind #[t17]) w3 fun t20 w4 =>
 K (tup [t16, t20]) w4
def Tb_impl_RealPath : Tab := { join := fun n => match n with | _ => [], loop := fun n => match n with | _ => [] }
theorem S_impl_RealPath {t0 t1 : Value} {w : World} {K : Value → World → Prop} (h : F_impl_RealPath t0 t1 w K) : Cl P Fn.impl_RealPath #[t0, t1] w K :=
  cl_of_eq (T := Tb_impl_RealPath) (args := [t0, t1]) Tryd.func15 rfl follows_mixed (by kernel_rfl) (Nat.le_of_ble_eq_true (by kernel_rfl)) (by kernel_rfl) h

/-- pub-marram/spec.Within -/
def F_spec_Within (t0 t1 : Value) (w : World) (K : Value → World → Prop) : Prop :=
 pu P (oBin .eql T.string false false t0 t1) fun t7 =>
 gd t7 false w (fun K1 => K1 t1 w) fun t9 w1 =>
 gd t7 false w1 (fun K2 => pu P (oBin .eql T.string false true t9 (S [47])) fun v => K2 v w1) fun t10 w2 =>
 gd t7 false w2 (fun K3 => K3 t10 w2) fun t11 w3 =>
 gd t11 true w3 (fun K4 => K4 t0 w3) fun t12 w4 =>
 gd t11 true w4 (fun K5 => st P (oCall Fn.spec_Rooted #[t12]) w4 K5) fun t13 w5 =>
 gd t7 false w5 (fun K6 => pu P (oPick t11 t13 (.bool false)) fun v => K6 v w5) fun t14 w6 =>
 pu P (oPick t7 (.bool true) t14) fun t15 =>
 gd t15 false w6 (fun K7 => K7 t0 w6) fun t17 w7 =>
 gd t15 false w7 (fun K8 => K8 t1 w7) fun t18 w8 =>
 gd t15 false w8 (fun K9 => pu P (oBin .add T.string false true t18 (S [47])) fun v => K9 v w8) fun t19 w9 =>
 gd t15 false w9 (fun K10 => st P (oCall Fn.spec_Begins #[t17, t19]) w9 K10) fun t20 w10 =>
 pu P (oPick t15 (.bool true) t20) fun t21 =>
 K (tup [t21]) w10
def Tb_spec_Within : Tab := { join := fun n => match n with | _ => [], loop := fun n => match n with | _ => [] }
theorem S_spec_Within {t0 t1 : Value} {w : World} {K : Value → World → Prop} (h : F_spec_Within t0 t1 w K) : Cl P Fn.spec_Within #[t0, t1] w K :=
  cl_of_eq (T := Tb_spec_Within) (args := [t0, t1]) Tryd.func16 rfl follows_mixed (by kernel_rfl) (Nat.le_of_ble_eq_true (by kernel_rfl)) (by kernel_rfl) h

/-- pub-marram/spec.Clean -/
def F_spec_Clean (t0 : Value) (w : World) (K : Value → World → Prop) : Prop :=
 jn (fun s1 u1 w1 =>
 jn (fun s2 u2 w2 =>
 st P (oCall Fn.spec_Joined #[(gs s1 0)]) w2 fun t61 w3 =>
 K (tup [t61]) w3) fun k2 =>
 st P (oCall Fn.spec_Rooted #[t0]) w1 fun t52 w4 =>
 cd t52 (
 st P (oCall Fn.spec_Joined #[(gs s1 0)]) w4 fun t54 w5 =>
 pu P (oBin .add T.string true false (S [47]) t54) fun t55 =>
 K (tup [t55]) w5) (
 pu P (oBuiltin .len #[T.sl_string] T.int #[false] #[(gs s1 0)]) fun t58 =>
 pu P (oBin .eql T.int false true t58 (.int .i64 0)) fun t59 =>
 cd t59 (
 K (tup [(S [46])]) w4) (
 k2 [] w4))) fun k1 =>
 st P (oCall Fn.spec_Elements #[t0]) w fun t7 w6 =>
 pu P (oBuiltin .len #[T.sl_string] T.int #[false] #[t7]) fun t8 =>
 lp [(.slice none 0 0), (.int .i64 0)] w6 fun s3 u3 w7 C1 =>
 pu P (oBin .lss T.int false false (gs s3 1) t8) fun t10 =>
 jn (fun s4 u4 w8 =>
 jn (fun s5 u5 w9 =>
 pu P (oBin .add T.int false true (gs s3 1) (.int .i64 1)) fun t49 =>
 C1 [(gs s5 0), t49] w9) fun k4 =>
 pu P (oIdxA T.sl_string t7 (gs s3 1)) fun t11 =>
 st P (oLoad T.string t11) w8 fun t12 w10 =>
 pu P (oBin .eql T.string false true t12 (S [46])) fun t19 =>
 cd t19 (
 k4 [(gs s3 0)] w10) (
 pu P (oBin .eql T.string false true t12 (S [46, 46])) fun t22 =>
 gd t22 true w10 (fun K1 => K1 (gs s3 0) w10) fun t24 w11 =>
 gd t22 true w11 (fun K2 => pu P (oBuiltin .len #[T.sl_string] T.int #[false] #[t24]) fun v => K2 v w11) fun t25 w12 =>
 gd t22 true w12 (fun K3 => pu P (oBin .gtr T.int false true t25 (.int .i64 0)) fun v => K3 v w12) fun t26 w13 =>
 pu P (oPick t22 t26 (.bool false)) fun t27 =>
 gd t27 true w13 (fun K4 => K4 (gs s3 0) w13) fun t29 w14 =>
 gd t27 true w14 (fun K5 => K5 (gs s3 0) w14) fun t30 w15 =>
 gd t27 true w15 (fun K6 => pu P (oBuiltin .len #[T.sl_string] T.int #[false] #[t30]) fun v => K6 v w15) fun t31 w16 =>
 gd t27 true w16 (fun K7 => pu P (oBin .sub T.int false true t31 (.int .i64 1)) fun v => K7 v w16) fun t32 w17 =>
 gd t27 true w17 (fun K8 => pu P (oIdxA T.sl_string t29 t32) fun v => K8 v w17) fun t33 w18 =>
 gd t27 true w18 (fun K9 => st P (oLoad T.string t33) w18 K9) fun t34 w19 =>
 gd t27 true w19 (fun K10 => pu P (oBin .neq T.string false true t34 (S [46, 46])) fun v => K10 v w19) fun t35 w20 =>
 pu P (oPick t27 t35 (.bool false)) fun t36 =>
 cd t36 (
 pu P (oBuiltin .len #[T.sl_string] T.int #[false] #[(gs s3 0)]) fun t39 =>
 pu P (oBin .sub T.int false true t39 (.int .i64 1)) fun t40 =>
 pu P (oSlice T.sl_string (gs s3 0) none (some t40) none) fun t41 =>
 k4 [t41] w20) (
 pu P (oBin .eql T.string false true t12 (S [46, 46])) fun t44 =>
 gd t44 true w20 (fun K11 => K11 t0 w20) fun t46 w21 =>
 gd t44 true w21 (fun K12 => st P (oCall Fn.spec_Rooted #[t46]) w21 K12) fun t47 w22 =>
 pu P (oPick t44 t47 (.bool false)) fun t48 =>
 cd t48 (
 k4 [(gs s3 0)] w22) (
 st P (oBuildSlice T.sl_string 1 #[(0, t12)]) w22 fun t15 w23 =>
 st P (oBuiltin .append #[T.sl_string, T.sl_string] T.sl_string #[false, false] #[(gs s3 0), t15]) w23 fun t16 w24 =>
 k4 [t16] w24)))) fun k3 =>
 cd t10 (
 k3 [] w7) (
 k1 [(gs s3 0)] w7)
def Tb_spec_Clean : Tab := { join := fun n => match n with | 10 => [3] | 11 => [3] | _ => [], loop := fun n => match n with | 3 => [3, 9] | _ => [] }
theorem S_spec_Clean {t0 : Value} {w : World} {K : Value → World → Prop} (h : F_spec_Clean t0 w K) : Cl P Fn.spec_Clean #[t0] w K :=
  cl_of_eq (T := Tb_spec_Clean) (args := [t0]) Tryd.func17 rfl follows_mixed (by kernel_rfl) (Nat.le_of_ble_eq_true (by kernel_rfl)) (by kernel_rfl) h

/-- pub-marram/pub/hcsshim/ext4/inner/compactext4.DoorCompress -/
def F_compactext4_DoorCompress (t0 : Value) (w : World) (K : Value → World → Prop) : Prop :=
 st P (oCall Fn.compactext4_compressXattrName #[t0]) w fun t5 w1 =>
 pu P (oExtract t5 0) fun t6 =>
 pu P (oExtract t5 1) fun t7 =>
 K (tup [t6, t7]) w1
def Tb_compactext4_DoorCompress : Tab := { join := fun n => match n with | _ => [], loop := fun n => match n with | _ => [] }
theorem S_compactext4_DoorCompress {t0 : Value} {w : World} {K : Value → World → Prop} (h : F_compactext4_DoorCompress t0 w K) : Cl P Fn.compactext4_DoorCompress #[t0] w K :=
  cl_of_eq (T := Tb_compactext4_DoorCompress) (args := [t0]) Tryd.func18 rfl follows_mixed (by kernel_rfl) (Nat.le_of_ble_eq_true (by kernel_rfl)) (by kernel_rfl) h

/-- pub-marram/pub/hcsshim/ext4/inner/compactext4.DoorDecompress -/
def F_compactext4_DoorDecompress (t0 t1 : Value) (w : World) (K : Value → World → Prop) : Prop :=
 st P (oCall Fn.compactext4_decompressXattrName #[t0, t1]) w fun t7 w1 =>
 K (tup [t7]) w1
def Tb_compactext4_DoorDecompress : Tab := { join := fun n => match n with | _ => [], loop := fun n => match n with | _ => [] }
theorem S_compactext4_DoorDecompress {t0 t1 : Value} {w : World} {K : Value → World → Prop} (h : F_compactext4_DoorDecompress t0 t1 w K) : Cl P Fn.compactext4_DoorDecompress #[t0, t1] w K :=
  cl_of_eq (T := Tb_compactext4_DoorDecompress) (args := [t0, t1]) Tryd.func19 rfl follows_mixed (by kernel_rfl) (Nat.le_of_ble_eq_true (by kernel_rfl)) (by kernel_rfl) h

/-- pub-marram/laws.zzFits8 -/
def F_laws_zzFits8 (t0 : Value) (w : World) (K : Value → World → Prop) : Prop :=
 st P (oBox T.impl_Xattr t0) w fun t1 w1 =>
 jn (fun s1 u1 w2 =>
 jn (fun s2 u2 w3 =>
 K (tup [(.bool true)]) w3) fun k2 =>
 pu P (oFldA T.impl_Xattr t1 1) fun t7 =>
 st P (oLoad T.sl_uint8 t7) w2 fun t8 w4 =>
 pu P (oBuiltin .len #[T.sl_uint8] T.int #[false] #[t8]) fun t9 =>
 pu P (oBin .gtr T.int false true t9 (.int .i64 2147483647)) fun t10 =>
 cd t10 (
 K (tup [(.bool false)]) w4) (
 k2 [] w4)) fun k1 =>
 pu P (oFldA T.impl_Xattr t1 0) fun t3 =>
 st P (oLoad T.string t3) w1 fun t4 w5 =>
 pu P (oBuiltin .len #[T.string] T.int #[false] #[t4]) fun t5 =>
 pu P (oBin .gtr T.int false true t5 (.int .i64 2147483647)) fun t6 =>
 cd t6 (
 K (tup [(.bool false)]) w5) (
 k1 [] w5)
def Tb_laws_zzFits8 : Tab := { join := fun n => match n with | _ => [], loop := fun n => match n with | _ => [] }
theorem S_laws_zzFits8 {t0 : Value} {w : World} {K : Value → World → Prop} (h : F_laws_zzFits8 t0 w K) : Cl P Fn.laws_zzFits8 #[t0] w K :=
  cl_of_eq (T := Tb_laws_zzFits8) (args := [t0]) Tryd.func20 rfl follows_mixed (by kernel_rfl) (Nat.le_of_ble_eq_true (by kernel_rfl)) (by kernel_rfl) h

/-- pub-marram/spec.Prefixed -/
def F_spec_Prefixed (t0 : Value) (w : World) (K : Value → World → Prop) : Prop :=
 jn (fun s1 u1 w1 =>
 K (tup [(.int .u64 0), t0]) w1) fun k1 =>
 st P (oBuildSlice T.sl_uint64 7 #[(0, (.int .u64 2)), (1, (.int .u64 3)), (2, (.int .u64 8)), (3, (.int .u64 7)), (4, (.int .u64 1)), (5, (.int .u64 4)), (6, (.int .u64 6))]) w fun t8 w2 =>
 pu P (oBuiltin .len #[T.sl_uint64] T.int #[false] #[t8]) fun t9 =>
 lp [(.int .i64 0)] w2 fun s2 u2 w3 C1 =>
 pu P (oBin .lss T.int false false (gs s2 0) t9) fun t11 =>
 jn (fun s3 u3 w4 =>
 jn (fun s4 u4 w5 =>
 pu P (oBin .add T.int false true (gs s2 0) (.int .i64 1)) fun t27 =>
 C1 [t27] w5) fun k3 =>
 pu P (oIdxA T.sl_uint64 t8 (gs s2 0)) fun t12 =>
 st P (oLoad T.uint64 t12) w4 fun t13 w6 =>
 st P (oCall Fn.spec_prefix #[t13]) w6 fun t16 w7 =>
 pu P (oExtract t16 0) fun t17 =>
 pu P (oExtract t16 1) fun t18 =>
 st P (oCall Fn.spec_Begins #[t0, t17]) w7 fun t21 w8 =>
 cd t21 (
 pu P (oBuiltin .len #[T.string] T.int #[false] #[t17]) fun t25 =>
 pu P (oSlice T.string t0 (some t25) none none) fun t26 =>
 K (tup [t13, t26]) w8.drew) (
 k3 [] w8)) fun k2 =>
 cd t11 (
 k2 [] w3) (
 k1 [] w3)
def Tb_spec_Prefixed : Tab := { join := fun n => match n with | _ => [], loop := fun n => match n with | 2 => [10] | _ => [] }
theorem S_spec_Prefixed {t0 : Value} {w : World} {K : Value → World → Prop} (h : F_spec_Prefixed t0 w K) : Cl P Fn.spec_Prefixed #[t0] w K :=
  cl_of_eq (T := Tb_spec_Prefixed) (args := [t0]) Tryd.func21 rfl follows_mixed (by kernel_rfl) (Nat.le_of_ble_eq_true (by kernel_rfl)) (by kernel_rfl) h

/-- pub-marram/impl.split -/
def F_impl_split (t0 : Value) (w : World) (K : Value → World → Prop) : Prop :=
 jn (fun s1 u1 w1 =>
 K (tup [(gs s1 0), (gs s1 1)]) w1) fun k1 =>
 pu P (oBuiltin .len #[T.sl_impl_Xattr] T.int #[false] #[t0]) fun t9 =>
 lp [(.slice none 0 0), (.slice none 0 0), (.int .i64 0)] w fun s2 u2 w2 C1 =>
 pu P (oBin .lss T.int false false (gs s2 2) t9) fun t11 =>
 jn (fun s3 u3 w3 =>
 pu P (oIdxA T.sl_impl_Xattr t0 (gs s2 2)) fun t12 =>
 st P (oLoad T.impl_Xattr t12) w3 fun t13 w4 =>
 st P (oAlloc T.impl_Xattr) w4 fun t7 w5 =>
 st P (oStore T.impl_Xattr t7 t13) w5 fun _ w6 =>
 pu P (oFldA T.impl_Xattr t7 0) fun t15 =>
 st P (oLoad T.string t15) w6 fun t16 w7 =>
 st P (oBuildSlice T.sl_string 1 #[(0, t16)]) w7 fun t17 w8 =>
 st P (oBuiltin .append #[T.sl_string, T.sl_string] T.sl_string #[false, false] #[(gs s2 0), t17]) w8 fun t18 w9 =>
 pu P (oFldA T.impl_Xattr t7 1) fun t20 =>
 st P (oLoad T.sl_uint8 t20) w9 fun t21 w10 =>
 st P (oBuiltin .append #[T.sl_uint8, T.sl_uint8] T.sl_uint8 #[true, false] #[(.slice none 0 0), t21]) w10 fun t22 w11 =>
 st P (oBuildSlice T.sl_sl_uint8 1 #[(0, t22)]) w11 fun t23 w12 =>
 st P (oBuiltin .append #[T.sl_sl_uint8, T.sl_sl_uint8] T.sl_sl_uint8 #[false, false] #[(gs s2 1), t23]) w12 fun t24 w13 =>
 pu P (oBin .add T.int false true (gs s2 2) (.int .i64 1)) fun t25 =>
 C1 [t18, t24, t25] w13) fun k2 =>
 cd t11 (
 k2 [] w2) (
 k1 [(gs s2 0), (gs s2 1)] w2)
def Tb_impl_split : Tab := { join := fun n => match n with | 9 => [4, 5] | _ => [], loop := fun n => match n with | 4 => [4, 5, 10] | _ => [] }
theorem S_impl_split {t0 : Value} {w : World} {K : Value → World → Prop} (h : F_impl_split t0 w K) : Cl P Fn.impl_split #[t0] w K :=
  cl_of_eq (T := Tb_impl_split) (args := [t0]) Tryd.func22 rfl follows_mixed (by kernel_rfl) (Nat.le_of_ble_eq_true (by kernel_rfl)) (by kernel_rfl) h

/-- pub-marram/pub/hcsshim/ext4/inner/compactext4.DoorFit -/
def F_compactext4_DoorFit (t0 t1 : Value) (w : World) (K : Value → World → Prop) : Prop :=
 st P (oAlloc T.compactext4_xattrState) w fun t7 w1 =>
 st P (oCall Fn.compactext4_xattrState_init #[t7]) w1 fun t11 w2 =>
 jn (fun s1 u1 w3 =>
 K (tup [(gs s1 0), (gs s1 1), (.bool true)]) w3) fun k1 =>
 pu P (oBuiltin .len #[T.sl_string] T.int #[false] #[t0]) fun t13 =>
 lp [(.slice none 0 0), (.slice none 0 0), (.int .i64 0)] w2 fun s2 u2 w4 C1 =>
 pu P (oBin .lss T.int false false (gs s2 2) t13) fun t15 =>
 jn (fun s3 u3 w5 =>
 jn (fun s4 u4 w6 =>
 pu P (oBin .add T.int false true (gs s2 2) (.int .i64 1)) fun t44 =>
 C1 [(gs s4 0), (gs s4 1), t44] w6) fun k3 =>
 pu P (oIdxA T.sl_string t0 (gs s2 2)) fun t17 =>
 st P (oLoad T.string t17) w5 fun t18 w7 =>
 pu P (oFldA T.compactext4_xattrState t7 0) fun t19 =>
 st P (oLoad T.sl_compactext4_xattr t19) w7 fun t20 w8 =>
 pu P (oBuiltin .len #[T.sl_compactext4_xattr] T.int #[false] #[t20]) fun t21 =>
 jn (fun s5 u5 w9 =>
 pu P (oFldA T.compactext4_xattrState t7 0) fun t31 =>
 st P (oLoad T.sl_compactext4_xattr t31) w9 fun t32 w10 =>
 pu P (oBuiltin .len #[T.sl_compactext4_xattr] T.int #[false] #[t32]) fun t33 =>
 pu P (oBin .gtr T.int false false t33 t21) fun t35 =>
 cd t35 (
 st P (oBuildSlice T.sl_int 1 #[(0, (gs s2 2))]) w10 fun t38 w11 =>
 st P (oBuiltin .append #[T.sl_int, T.sl_int] T.sl_int #[false, false] #[(gs s5 0), t38]) w11 fun t39 w12 =>
 k3 [t39, (gs s5 1)] w12) (
 st P (oBuildSlice T.sl_int 1 #[(0, (gs s2 2))]) w10 fun t42 w13 =>
 st P (oBuiltin .append #[T.sl_int, T.sl_int] T.sl_int #[false, false] #[(gs s5 1), t42]) w13 fun t43 w14 =>
 k3 [(gs s5 0), t43] w14)) fun k4 =>
 pu P (oIdxA T.sl_sl_uint8 t1 (gs s2 2)) fun t25 =>
 st P (oLoad T.sl_uint8 t25) w8 fun t26 w15 =>
 st P (oCall Fn.compactext4_xattrState_addXattr #[t7, t18, t26]) w15 fun t27 w16 =>
 pu P (oUn .not t27) fun t28 =>
 cd t28 (
 K (tup [(gs s2 0), (gs s2 1), (.bool false)]) w16) (
 k4 [(gs s2 0), (gs s2 1)] w16)) fun k2 =>
 cd t15 (
 k2 [] w4) (
 k1 [(gs s2 0), (gs s2 1)] w4)
def Tb_compactext4_DoorFit : Tab := { join := fun n => match n with | 9 => [4, 5] | 12 => [4, 5] | 13 => [4, 5] | _ => [], loop := fun n => match n with | 4 => [4, 5, 14] | _ => [] }
theorem S_compactext4_DoorFit {t0 t1 : Value} {w : World} {K : Value → World → Prop} (h : F_compactext4_DoorFit t0 t1 w K) : Cl P Fn.compactext4_DoorFit #[t0, t1] w K :=
  cl_of_eq (T := Tb_compactext4_DoorFit) (args := [t0, t1]) Tryd.func23 rfl follows_mixed (by kernel_rfl) (Nat.le_of_ble_eq_true (by kernel_rfl)) (by kernel_rfl) h

/-- pub-marram/spec.room -/
def F_spec_room (t0 : Value) (w : World) (K : Value → World → Prop) : Prop :=
 st P (oBox T.spec_Xattr t0) w fun t1 w1 =>
 pu P (oFldA T.spec_Xattr t1 0) fun t6 =>
 st P (oLoad T.string t6) w1 fun t7 w2 =>
 st P (oCall Fn.spec_Prefixed #[t7]) w2 fun t8 w3 =>
 pu P (oExtract t8 0) fun t9 =>
 pu P (oExtract t8 1) fun t10 =>
 pu P (oBuiltin .len #[T.string] T.int #[false] #[t10]) fun t12 =>
 pu P (oBin .add T.int false true t12 (.int .i64 3)) fun t13 =>
 pu P (oBin .quo T.int false true t13 (.int .i64 4)) fun t14 =>
 pu P (oBin .mul T.int false true t14 (.int .i64 4)) fun t15 =>
 pu P (oBin .add T.int true false (.int .i64 16) t15) fun t16 =>
 pu P (oFldA T.spec_Xattr t1 1) fun t17 =>
 st P (oLoad T.sl_uint8 t17) w3 fun t18 w4 =>
 pu P (oBuiltin .len #[T.sl_uint8] T.int #[false] #[t18]) fun t19 =>
 pu P (oBin .add T.int false true t19 (.int .i64 3)) fun t20 =>
 pu P (oBin .quo T.int false true t20 (.int .i64 4)) fun t21 =>
 pu P (oBin .mul T.int false true t21 (.int .i64 4)) fun t22 =>
 pu P (oBin .add T.int false false t16 t22) fun t23 =>
 K (tup [t23]) w4
def Tb_spec_room : Tab := { join := fun n => match n with | _ => [], loop := fun n => match n with | _ => [] }
theorem S_spec_room {t0 : Value} {w : World} {K : Value → World → Prop} (h : F_spec_room t0 w K) : Cl P Fn.spec_room #[t0] w K :=
  cl_of_eq (T := Tb_spec_room) (args := [t0]) Tryd.func24 rfl follows_mixed (by kernel_rfl) (Nat.le_of_ble_eq_true (by kernel_rfl)) (by kernel_rfl) h

/-- pub-marram/pub/afero.NewBasePathFs -/
def F_afero_NewBasePathFs (t0 t1 : Value) (w : World) (K : Value → World → Prop) : Prop :=
 pu P (oBuild T.afero_BasePathFs #[(0, t0), (1, t1)]) fun t7 =>
 st P (oBox T.afero_BasePathFs t7) w fun t8 w1 =>
 K (tup [t8]) w1
def Tb_afero_NewBasePathFs : Tab := { join := fun n => match n with | _ => [], loop := fun n => match n with | _ => [] }
theorem S_afero_NewBasePathFs {t0 t1 : Value} {w : World} {K : Value → World → Prop} (h : F_afero_NewBasePathFs t0 t1 w K) : Cl P Fn.afero_NewBasePathFs #[t0, t1] w K :=
  cl_of_eq (T := Tb_afero_NewBasePathFs) (args := [t0, t1]) Tryd.func25 rfl follows_mixed (by kernel_rfl) (Nat.le_of_ble_eq_true (by kernel_rfl)) (by kernel_rfl) h

/-- pub-marram/pub/afero.NewMemMapFs -/
def F_afero_NewMemMapFs (w : World) (K : Value → World → Prop) : Prop :=
 pu P (oBuild T.afero_MemMapFs #[]) fun t1 =>
 st P (oBox T.afero_MemMapFs t1) w fun t2 w1 =>
 K (tup [t2]) w1
def Tb_afero_NewMemMapFs : Tab := { join := fun n => match n with | _ => [], loop := fun n => match n with | _ => [] }
theorem S_afero_NewMemMapFs {w : World} {K : Value → World → Prop} (h : F_afero_NewMemMapFs  w K) : Cl P Fn.afero_NewMemMapFs #[] w K :=
  cl_of_eq (T := Tb_afero_NewMemMapFs) (args := []) Tryd.func26 rfl follows_mixed (by kernel_rfl) (Nat.le_of_ble_eq_true (by kernel_rfl)) (by kernel_rfl) h

/-- (*pub-marram/pub/afero.BasePathFs).RealPath -/
def F_afero_BasePathFs_RealPath (t0 t1 : Value) (w : World) (K : Value → World → Prop) : Prop :=
 pu P (oNil t0) fun t8 =>
 pu P (oFldA T.afero_BasePathFs t8 1) fun t9 =>
 st P (oLoad T.string t9) w fun t10 w1 =>
 st P (oCall Fn.path_Clean #[t10]) w1 fun t11 w2 =>
 st P (oBuildSlice T.sl_string 2 #[(0, t11), (1, t1)]) w2 fun t14 w3 =>
 st P (oCall Fn.path_Join #[t14]) w3 fun t15 w4 =>
 st P (oCall Fn.path_Clean #[t15]) w4 fun t16 w5 =>
 jn (fun s1 u1 w6 =>
 K (tup [(gs s1 0), .nilIface]) w6) fun k1 =>
 st P (oCall Fn.strings_HasPrefix #[t16, t11]) w5 fun t19 w7 =>
 pu P (oUn .not t19) fun t20 =>
 cd t20 (
 rd P (oLoad T.error (.pointer (some ⟨G.os_ErrNotExist, 0, none⟩))) w7.drew fun t22 =>
 K (tup [t1, t22]) w7.drew) (
 k1 [t16] w7)
def Tb_afero_BasePathFs_RealPath : Tab := { join := fun n => match n with | 5 => [4] | _ => [], loop := fun n => match n with | _ => [] }
theorem S_afero_BasePathFs_RealPath {t0 t1 : Value} {w : World} {K : Value → World → Prop} (h : F_afero_BasePathFs_RealPath t0 t1 w K) : Cl P Fn.afero_BasePathFs_RealPath #[t0, t1] w K :=
  cl_of_eq (T := Tb_afero_BasePathFs_RealPath) (args := [t0, t1]) Tryd.func27 rfl follows_mixed (by kernel_rfl) (Nat.le_of_ble_eq_true (by kernel_rfl)) (by kernel_rfl) h

/-- pub-marram/impl.kind -/
def F_impl_kind (t0 : Value) (w : World) (K : Value → World → Prop) : Prop :=
 jn (fun s1 u1 w1 =>
 jn (fun s2 u2 w2 =>
 K (tup [(.int .i64 13)]) w2) fun k2 =>
 pu P (oBin .eql T.error false true (gs s1 0) .nilIface) fun t39 =>
 cd t39 (
 K (tup [(.int .i64 0)]) w1) (
 jn (fun s3 u3 w3 =>
 cd (gs s3 0) (
 K (tup [(.int .i64 1)]) w3) (
 st P (oLoad T.error (.pointer (some ⟨G.os_ErrExist, 0, none⟩))) w3 fun t46 w4 =>
 st P (oBin .eql T.error false false (gs s1 0) t46) w4 fun t47 w5 =>
 cd t47 (
 K (tup [(.int .i64 2)]) w5) (
 st P (oLoad T.error (.pointer (some ⟨G.mem_ErrFileClosed, 0, none⟩))) w5 fun t49 w6 =>
 st P (oBin .eql T.error false false (gs s1 0) t49) w6 fun t50 w7 =>
 cd t50 (
 K (tup [(.int .i64 3)]) w7) (
 st P (oLoad T.error (.pointer (some ⟨G.io_EOF, 0, none⟩))) w7 fun t52 w8 =>
 st P (oBin .eql T.error false false (gs s1 0) t52) w8 fun t53 w9 =>
 cd t53 (
 K (tup [(.int .i64 4)]) w9) (
 st P (oLoad T.error (.pointer (some ⟨G.io_ErrUnexpectedEOF, 0, none⟩))) w9 fun t55 w10 =>
 st P (oBin .eql T.error false false (gs s1 0) t55) w10 fun t56 w11 =>
 cd t56 (
 K (tup [(.int .i64 5)]) w11) (
 st P (oLoad T.error (.pointer (some ⟨G.mem_ErrOutOfRange, 0, none⟩))) w11 fun t58 w12 =>
 st P (oBin .eql T.error false false (gs s1 0) t58) w12 fun t59 w13 =>
 cd t59 (
 K (tup [(.int .i64 7)]) w13) (
 st P (oLoad T.error (.pointer (some ⟨G.os_ENOTDIR, 0, none⟩))) w13 fun t61 w14 =>
 st P (oBin .eql T.error false false (gs s1 0) t61) w14 fun t62 w15 =>
 cd t62 (
 K (tup [(.int .i64 8)]) w15) (
 st P (oLoad T.error (.pointer (some ⟨G.os_EPERM, 0, none⟩))) w15 fun t64 w16 =>
 st P (oBin .eql T.error false false (gs s1 0) t64) w16 fun t65 w17 =>
 cd t65 (
 K (tup [(.int .i64 9)]) w17) (
 st P (oLoad T.error (.pointer (some ⟨G.os_EBADFD, 0, none⟩))) w17 fun t67 w18 =>
 st P (oBin .eql T.error false false (gs s1 0) t67) w18 fun t68 w19 =>
 cd t68 (
 K (tup [(.int .i64 10)]) w19) (
 st P (oLoad T.error (.pointer (some ⟨G.os_EIO, 0, none⟩))) w19 fun t70 w20 =>
 st P (oBin .eql T.error false false (gs s1 0) t70) w20 fun t71 w21 =>
 cd t71 (
 K (tup [(.int .i64 11)]) w21) (
 k2 [] w21))))))))))) fun k3 =>
 st P (oLoad T.error (.pointer (some ⟨G.os_ErrNotExist, 0, none⟩))) w1 fun t41 w22 =>
 st P (oBin .eql T.error false false (gs s1 0) t41) w22 fun t42 w23 =>
 cd t42 (
 k3 [t42] w23) (
 st P (oLoad T.error (.pointer (some ⟨G.os_ENOENT, 0, none⟩))) w23 fun t43 w24 =>
 st P (oBin .eql T.error false false (gs s1 0) t43) w24 fun t44 w25 =>
 k3 [t44] w25))) fun k1 =>
 pu P (oAssert t0 T.error T.p_os_PathError true) fun t7 =>
 pu P (oExtract t7 0) fun t8 =>
 pu P (oExtract t7 1) fun t9 =>
 cd t9 (
 pu P (oNil t8) fun t12 =>
 pu P (oFldA T.os_PathError t12 2) fun t13 =>
 st P (oLoad T.error t13) w fun t14 w26 =>
 jn (fun s4 u4 w27 =>
 cd (gs s4 0) (
 pu P (oNil t8) fun t34 =>
 pu P (oFldA T.os_PathError t34 2) fun t35 =>
 st P (oLoad T.error t35) w27 fun t36 w28 =>
 k1 [t36] w28) (
 jn (fun s5 u5 w29 =>
 K (tup [(.int .i64 13)]) w29) fun k5 =>
 pu P (oNil t8) fun t16 =>
 pu P (oFldA T.os_PathError t16 0) fun t17 =>
 st P (oLoad T.string t17) w27 fun t18 w30 =>
 pu P (oBin .eql T.string false true t18 (S [114, 101, 97, 100, 100, 105, 114])) fun t20 =>
 cd t20 (
 K (tup [(.int .i64 8)]) w30) (
 jn (fun s6 u6 w31 =>
 cd (gs s6 0) (
 K (tup [(.int .i64 6)]) w31) (
 k5 [] w31)) fun k6 =>
 pu P (oBin .eql T.string false true t18 (S [116, 114, 117, 110, 99, 97, 116, 101])) fun t22 =>
 cd t22 (
 k6 [t22] w30) (
 pu P (oBin .eql T.string false true t18 (S [119, 114, 105, 116, 101])) fun t23 =>
 k6 [t23] w30)))) fun k4 =>
 st P (oLoad T.error (.pointer (some ⟨G.os_ErrNotExist, 0, none⟩))) w26 fun t25 w32 =>
 st P (oBin .eql T.error false false t14 t25) w32 fun t26 w33 =>
 cd t26 (
 k4 [t26] w33) (
 st P (oLoad T.error (.pointer (some ⟨G.os_ErrExist, 0, none⟩))) w33 fun t27 w34 =>
 st P (oBin .eql T.error false false t14 t27) w34 fun t28 w35 =>
 cd t28 (
 k4 [t28] w35) (
 st P (oLoad T.error (.pointer (some ⟨G.os_ENOTDIR, 0, none⟩))) w35 fun t29 w36 =>
 st P (oBin .eql T.error false false t14 t29) w36 fun t30 w37 =>
 cd t30 (
 k4 [t30] w37) (
 st P (oLoad T.error (.pointer (some ⟨G.os_ENOENT, 0, none⟩))) w37 fun t31 w38 =>
 st P (oBin .eql T.error false false t14 t31) w38 fun t32 w39 =>
 k4 [t32] w39)))) (
 k1 [t0] w)
def Tb_impl_kind : Tab := { join := fun n => match n with | 9 => [21] | 15 => [24] | 16 => [0] | 21 => [40] | _ => [], loop := fun n => match n with | _ => [] }
theorem S_impl_kind {t0 : Value} {w : World} {K : Value → World → Prop} (h : F_impl_kind t0 w K) : Cl P Fn.impl_kind #[t0] w K :=
  cl_of_eq (T := Tb_impl_kind) (args := [t0]) Tryd.func28 rfl follows_mixed (by kernel_rfl) (Nat.le_of_ble_eq_true (by kernel_rfl)) (by kernel_rfl) h

/-- pub-marram/spec.Begins -/
def F_spec_Begins (t0 t1 : Value) (w : World) (K : Value → World → Prop) : Prop :=
 pu P (oBuiltin .len #[T.string] T.int #[false] #[t0]) fun t6 =>
 pu P (oBuiltin .len #[T.string] T.int #[false] #[t1]) fun t8 =>
 pu P (oBin .geq T.int false false t6 t8) fun t9 =>
 gd t9 true w (fun K1 => K1 t0 w) fun t11 w1 =>
 gd t9 true w1 (fun K2 => K2 t1 w1) fun t12 w2 =>
 gd t9 true w2 (fun K3 => pu P (oBuiltin .len #[T.string] T.int #[false] #[t12]) fun v => K3 v w2) fun t13 w3 =>
 gd t9 true w3 (fun K4 => pu P (oSlice T.string t11 none (some t13) none) fun v => K4 v w3) fun t14 w4 =>
 gd t9 true w4 (fun K5 => K5 t1 w4) fun t15 w5 =>
 gd t9 true w5 (fun K6 => pu P (oBin .eql T.string false false t14 t15) fun v => K6 v w5) fun t16 w6 =>
 pu P (oPick t9 t16 (.bool false)) fun t17 =>
 K (tup [t17]) w6
def Tb_spec_Begins : Tab := { join := fun n => match n with | _ => [], loop := fun n => match n with | _ => [] }
theorem S_spec_Begins {t0 t1 : Value} {w : World} {K : Value → World → Prop} (h : F_spec_Begins t0 t1 w K) : Cl P Fn.spec_Begins #[t0, t1] w K :=
  cl_of_eq (T := Tb_spec_Begins) (args := [t0, t1]) Tryd.func29 rfl follows_mixed (by kernel_rfl) (Nat.le_of_ble_eq_true (by kernel_rfl)) (by kernel_rfl) h

/-- pub-marram/spec.Joined -/
def F_spec_Joined (t0 : Value) (w : World) (K : Value → World → Prop) : Prop :=
 jn (fun s1 u1 w1 =>
 K (tup [(gs s1 0)]) w1) fun k1 =>
 pu P (oBuiltin .len #[T.sl_string] T.int #[false] #[t0]) fun t7 =>
 lp [(S []), (.int .i64 0)] w fun s2 u2 w2 C1 =>
 pu P (oBin .lss T.int false false (gs s2 1) t7) fun t9 =>
 jn (fun s3 u3 w3 =>
 jn (fun s4 u4 w4 =>
 pu P (oBin .add T.int false true (gs s2 1) (.int .i64 1)) fun t20 =>
 C1 [(gs s4 0), t20] w4) fun k3 =>
 pu P (oIdxA T.sl_string t0 (gs s2 1)) fun t11 =>
 st P (oLoad T.string t11) w3 fun t12 w5 =>
 jn (fun s5 u5 w6 =>
 pu P (oBin .add T.string false false (gs s5 0) t12) fun t19 =>
 k3 [t19] w6) fun k4 =>
 pu P (oBin .gtr T.int false true (gs s2 1) (.int .i64 0)) fun t14 =>
 cd t14 (
 pu P (oBin .add T.string false true (gs s2 0) (S [47])) fun t16 =>
 k4 [t16] w5) (
 k4 [(gs s2 0)] w5)) fun k2 =>
 cd t9 (
 k2 [] w2) (
 k1 [(gs s2 0)] w2)
def Tb_spec_Joined : Tab := { join := fun n => match n with | 7 => [3] | 8 => [3] | 9 => [3] | _ => [], loop := fun n => match n with | 3 => [3, 8] | _ => [] }
theorem S_spec_Joined {t0 : Value} {w : World} {K : Value → World → Prop} (h : F_spec_Joined t0 w K) : Cl P Fn.spec_Joined #[t0] w K :=
  cl_of_eq (T := Tb_spec_Joined) (args := [t0]) Tryd.func30 rfl follows_mixed (by kernel_rfl) (Nat.le_of_ble_eq_true (by kernel_rfl)) (by kernel_rfl) h

/-- pub-marram/pub/hcsshim/ext4/inner/compactext4.compressXattrName -/
def F_compactext4_compressXattrName (t0 : Value) (w : World) (K : Value → World → Prop) : Prop :=
 jn (fun s1 u1 w1 =>
 K (tup [(.int .u8 0), t0]) w1) fun k1 =>
 st P (oLoad T.arr7_struct___Index_uint8__Prefix_string__ (.pointer (some ⟨G.compactext4_xattrPrefixes, 0, none⟩))) w fun t6 w2 =>
 lp [(.int .i64 0)] w2 fun s2 u2 w3 C1 =>
 pu P (oBin .lss T.int false true (gs s2 0) (.int .i64 7)) fun t8 =>
 jn (fun s3 u3 w4 =>
 jn (fun s4 u4 w5 =>
 pu P (oBin .add T.int false true (gs s2 0) (.int .i64 1)) fun t21 =>
 C1 [t21] w5) fun k3 =>
 pu P (oIdx T.arr7_struct___Index_uint8__Prefix_string__ t6 (gs s2 0)) fun t9 =>
 st P (oAlloc T.st_5470e38b) w4 fun t5 w6 =>
 st P (oStore T.st_5470e38b t5 t9) w6 fun _ w7 =>
 pu P (oFldA T.st_5470e38b t5 1) fun t11 =>
 st P (oLoad T.string t11) w7 fun t12 w8 =>
 st P (oCall Fn.strings_HasPrefix #[t0, t12]) w8 fun t13 w9 =>
 cd t13 (
 pu P (oFldA T.st_5470e38b t5 0) fun t14 =>
 rd P (oLoad T.uint8 t14) w9.drew fun t15 =>
 pu P (oFldA T.st_5470e38b t5 1) fun t17 =>
 rd P (oLoad T.string t17) w9.drew fun t18 =>
 pu P (oBuiltin .len #[T.string] T.int #[false] #[t18]) fun t19 =>
 pu P (oSlice T.string t0 (some t19) none none) fun t20 =>
 K (tup [t15, t20]) w9.drew) (
 k3 [] w9)) fun k2 =>
 cd t8 (
 k2 [] w3) (
 k1 [] w3)
def Tb_compactext4_compressXattrName : Tab := { join := fun n => match n with | _ => [], loop := fun n => match n with | 2 => [7] | _ => [] }
theorem S_compactext4_compressXattrName {t0 : Value} {w : World} {K : Value → World → Prop} (h : F_compactext4_compressXattrName t0 w K) : Cl P Fn.compactext4_compressXattrName #[t0] w K :=
  cl_of_eq (T := Tb_compactext4_compressXattrName) (args := [t0]) Tryd.func31 rfl follows_mixed (by kernel_rfl) (Nat.le_of_ble_eq_true (by kernel_rfl)) (by kernel_rfl) h

/-- pub-marram/pub/hcsshim/ext4/inner/compactext4.decompressXattrName -/
def F_compactext4_decompressXattrName (t0 t1 : Value) (w : World) (K : Value → World → Prop) : Prop :=
 jn (fun s1 u1 w1 =>
 K (tup [t1]) w1) fun k1 =>
 st P (oLoad T.arr7_struct___Index_uint8__Prefix_string__ (.pointer (some ⟨G.compactext4_xattrPrefixes, 0, none⟩))) w fun t7 w2 =>
 lp [(.int .i64 0)] w2 fun s2 u2 w3 C1 =>
 pu P (oBin .lss T.int false true (gs s2 0) (.int .i64 7)) fun t9 =>
 jn (fun s3 u3 w4 =>
 jn (fun s4 u4 w5 =>
 pu P (oBin .add T.int false true (gs s2 0) (.int .i64 1)) fun t19 =>
 C1 [t19] w5) fun k3 =>
 pu P (oIdx T.arr7_struct___Index_uint8__Prefix_string__ t7 (gs s2 0)) fun t10 =>
 st P (oAlloc T.st_5470e38b) w4 fun t6 w6 =>
 st P (oStore T.st_5470e38b t6 t10) w6 fun _ w7 =>
 pu P (oFldA T.st_5470e38b t6 0) fun t12 =>
 st P (oLoad T.uint8 t12) w7 fun t13 w8 =>
 pu P (oBin .eql T.uint8 false false t0 t13) fun t14 =>
 cd t14 (
 pu P (oFldA T.st_5470e38b t6 1) fun t15 =>
 st P (oLoad T.string t15) w8 fun t16 w9 =>
 pu P (oBin .add T.string false false t16 t1) fun t18 =>
 K (tup [t18]) w9) (
 k3 [] w8)) fun k2 =>
 cd t9 (
 k2 [] w3) (
 k1 [] w3)
def Tb_compactext4_decompressXattrName : Tab := { join := fun n => match n with | _ => [], loop := fun n => match n with | 2 => [8] | _ => [] }
theorem S_compactext4_decompressXattrName {t0 t1 : Value} {w : World} {K : Value → World → Prop} (h : F_compactext4_decompressXattrName t0 t1 w K) : Cl P Fn.compactext4_decompressXattrName #[t0, t1] w K :=
  cl_of_eq (T := Tb_compactext4_decompressXattrName) (args := [t0, t1]) Tryd.func32 rfl follows_mixed (by kernel_rfl) (Nat.le_of_ble_eq_true (by kernel_rfl)) (by kernel_rfl) h

/-- pub-marram/spec.prefix -/
def F_spec_prefix (t0 : Value) (w : World) (K : Value → World → Prop) : Prop :=
 jn (fun s1 u1 w1 =>
 K (tup [(S []), (.bool false)]) w1) fun k1 =>
 pu P (oBin .eql T.uint64 false true t0 (.int .u64 0)) fun t6 =>
 cd t6 (
 K (tup [(S []), (.bool true)]) w) (
 pu P (oBin .eql T.uint64 false true t0 (.int .u64 1)) fun t8 =>
 cd t8 (
 K (tup [(S [117, 115, 101, 114, 46]), (.bool true)]) w) (
 pu P (oBin .eql T.uint64 false true t0 (.int .u64 2)) fun t10 =>
 cd t10 (
 K (tup [(S [115, 121, 115, 116, 101, 109, 46, 112, 111, 115, 105, 120, 95, 97, 99, 108, 95, 97, 99, 99, 101, 115, 115]), (.bool true)]) w) (
 pu P (oBin .eql T.uint64 false true t0 (.int .u64 3)) fun t12 =>
 cd t12 (
 K (tup [(S [115, 121, 115, 116, 101, 109, 46, 112, 111, 115, 105, 120, 95, 97, 99, 108, 95, 100, 101, 102, 97, 117, 108, 116]), (.bool true)]) w) (
 pu P (oBin .eql T.uint64 false true t0 (.int .u64 4)) fun t14 =>
 cd t14 (
 K (tup [(S [116, 114, 117, 115, 116, 101, 100, 46]), (.bool true)]) w) (
 pu P (oBin .eql T.uint64 false true t0 (.int .u64 6)) fun t16 =>
 cd t16 (
 K (tup [(S [115, 101, 99, 117, 114, 105, 116, 121, 46]), (.bool true)]) w) (
 pu P (oBin .eql T.uint64 false true t0 (.int .u64 7)) fun t18 =>
 cd t18 (
 K (tup [(S [115, 121, 115, 116, 101, 109, 46]), (.bool true)]) w) (
 pu P (oBin .eql T.uint64 false true t0 (.int .u64 8)) fun t20 =>
 cd t20 (
 K (tup [(S [115, 121, 115, 116, 101, 109, 46, 114, 105, 99, 104, 97, 99, 108]), (.bool true)]) w) (
 k1 [] w))))))))
def Tb_spec_prefix : Tab := { join := fun n => match n with | _ => [], loop := fun n => match n with | _ => [] }
theorem S_spec_prefix {t0 : Value} {w : World} {K : Value → World → Prop} (h : F_spec_prefix t0 w K) : Cl P Fn.spec_prefix #[t0] w K :=
  cl_of_eq (T := Tb_spec_prefix) (args := [t0]) Tryd.func33 rfl follows_mixed (by kernel_rfl) (Nat.le_of_ble_eq_true (by kernel_rfl)) (by kernel_rfl) h

/-- (*pub-marram/pub/hcsshim/ext4/inner/compactext4.xattrState).init -/
def F_compactext4_xattrState_init (t0 : Value) (w : World) (K : Value → World → Prop) : Prop :=
 pu P (oNil t0) fun t3 =>
 pu P (oFldA T.compactext4_xattrState t3 2) fun t4 =>
 st P (oStore T.int t4 (.int .i64 96)) w fun _ w1 =>
 pu P (oNil t0) fun t6 =>
 pu P (oFldA T.compactext4_xattrState t6 3) fun t7 =>
 st P (oStore T.int t7 (.int .i64 4060)) w1 fun _ w2 =>
 K (tup []) w2
def Tb_compactext4_xattrState_init : Tab := { join := fun n => match n with | _ => [], loop := fun n => match n with | _ => [] }
theorem S_compactext4_xattrState_init {t0 : Value} {w : World} {K : Value → World → Prop} (h : F_compactext4_xattrState_init t0 w K) : Cl P Fn.compactext4_xattrState_init #[t0] w K :=
  cl_of_eq (T := Tb_compactext4_xattrState_init) (args := [t0]) Tryd.func34 rfl follows_mixed (by kernel_rfl) (Nat.le_of_ble_eq_true (by kernel_rfl)) (by kernel_rfl) h

/-- (*pub-marram/pub/hcsshim/ext4/inner/compactext4.xattrState).addXattr -/
def F_compactext4_xattrState_addXattr (t0 t1 t2 : Value) (w : World) (K : Value → World → Prop) : Prop :=
 st P (oCall Fn.compactext4_compressXattrName #[t1]) w fun t12 w1 =>
 pu P (oExtract t12 0) fun t13 =>
 pu P (oExtract t12 1) fun t14 =>
 pu P (oBuild T.compactext4_xattr #[(1, t13), (0, t14), (2, t2)]) fun t18 =>
 st P (oAlloc T.compactext4_xattr) w1 fun t8 w2 =>
 st P (oStore T.compactext4_xattr t8 t18) w2 fun _ w3 =>
 st P (oCall Fn.compactext4_xattr_EntryLen #[t8]) w3 fun t19 w4 =>
 st P (oCall Fn.compactext4_xattr_ValueLen #[t8]) w4 fun t20 w5 =>
 pu P (oBin .add T.int false false t19 t20) fun t21 =>
 jn (fun s1 u1 w6 =>
 K (tup [(.bool true)]) w6) fun k1 =>
 pu P (oNil t0) fun t23 =>
 pu P (oFldA T.compactext4_xattrState t23 2) fun t24 =>
 st P (oLoad T.int t24) w5 fun t25 w7 =>
 pu P (oBin .geq T.int false false t25 t21) fun t27 =>
 cd t27 (
 pu P (oNil t0) fun t30 =>
 pu P (oFldA T.compactext4_xattrState t30 0) fun t31 =>
 rd P (oLoad T.sl_compactext4_xattr t31) w7.drew fun t32 =>
 rd P (oLoad T.compactext4_xattr t8) w7.drew fun t33 =>
 st P (oBuildSlice T.sl_compactext4_xattr 1 #[(0, t33)]) w7.drew fun t34 w8 =>
 hold P (oLoad T.sl_compactext4_xattr t31) t32 w8 ∧ st P (oBuiltin .append #[T.sl_compactext4_xattr, T.sl_compactext4_xattr] T.sl_compactext4_xattr #[false, false] #[t32, t34]) w8 fun t35 w9 =>
 pu P (oNil t0) fun t36 =>
 pu P (oFldA T.compactext4_xattrState t36 0) fun t37 =>
 st P (oStore T.sl_compactext4_xattr t37 t35) w9 fun _ w10 =>
 pu P (oNil t0) fun t39 =>
 pu P (oFldA T.compactext4_xattrState t39 2) fun t40 =>
 st P (oLoad T.int t40) w10 fun t41 w11 =>
 pu P (oBin .sub T.int false false t41 t21) fun t43 =>
 pu P (oNil t0) fun t44 =>
 pu P (oFldA T.compactext4_xattrState t44 2) fun t45 =>
 st P (oStore T.int t45 t43) w11 fun _ w12 =>
 k1 [] w12) (
 pu P (oNil t0) fun t47 =>
 pu P (oFldA T.compactext4_xattrState t47 3) fun t48 =>
 st P (oLoad T.int t48) w7 fun t49 w13 =>
 pu P (oBin .geq T.int false false t49 t21) fun t51 =>
 cd t51 (
 pu P (oNil t0) fun t54 =>
 pu P (oFldA T.compactext4_xattrState t54 1) fun t55 =>
 rd P (oLoad T.sl_compactext4_xattr t55) w13.drew fun t56 =>
 rd P (oLoad T.compactext4_xattr t8) w13.drew fun t57 =>
 st P (oBuildSlice T.sl_compactext4_xattr 1 #[(0, t57)]) w13.drew fun t58 w14 =>
 hold P (oLoad T.sl_compactext4_xattr t55) t56 w14 ∧ st P (oBuiltin .append #[T.sl_compactext4_xattr, T.sl_compactext4_xattr] T.sl_compactext4_xattr #[false, false] #[t56, t58]) w14 fun t59 w15 =>
 pu P (oNil t0) fun t60 =>
 pu P (oFldA T.compactext4_xattrState t60 1) fun t61 =>
 st P (oStore T.sl_compactext4_xattr t61 t59) w15 fun _ w16 =>
 pu P (oNil t0) fun t63 =>
 pu P (oFldA T.compactext4_xattrState t63 3) fun t64 =>
 st P (oLoad T.int t64) w16 fun t65 w17 =>
 pu P (oBin .sub T.int false false t65 t21) fun t67 =>
 pu P (oNil t0) fun t68 =>
 pu P (oFldA T.compactext4_xattrState t68 3) fun t69 =>
 st P (oStore T.int t69 t67) w17 fun _ w18 =>
 k1 [] w18) (
 K (tup [(.bool false)]) w13))
def Tb_compactext4_xattrState_addXattr : Tab := { join := fun n => match n with | _ => [], loop := fun n => match n with | _ => [] }
theorem S_compactext4_xattrState_addXattr {t0 t1 t2 : Value} {w : World} {K : Value → World → Prop} (h : F_compactext4_xattrState_addXattr t0 t1 t2 w K) : Cl P Fn.compactext4_xattrState_addXattr #[t0, t1, t2] w K :=
  cl_of_eq (T := Tb_compactext4_xattrState_addXattr) (args := [t0, t1, t2]) Tryd.func35 rfl follows_mixed (by kernel_rfl) (Nat.le_of_ble_eq_true (by kernel_rfl)) (by kernel_rfl) h

/-- path.Clean -/
def F_path_Clean (t0 : Value) (w : World) (K : Value → World → Prop) : Prop :=
 jn (fun s1 u1 w1 =>
 pu P (oIdx T.string t0 (.int .i64 0)) fun t11 =>
 pu P (oBin .eql T.uint8 false true t11 (.int .u8 47)) fun t12 =>
 pu P (oBuiltin .len #[T.string] T.int #[false] #[t0]) fun t14 =>
 pu P (oBuild T.path_lazybuf #[(0, t0)]) fun t16 =>
 st P (oAlloc T.path_lazybuf) w1 fun t5 w2 =>
 st P (oStore T.path_lazybuf t5 t16) w2 fun _ w3 =>
 jn (fun s2 u2 w4 =>
 jn (fun s3 u3 w5 =>
 jn (fun s4 u4 w6 =>
 st P (oCall Fn.path_lazybuf_string #[t5]) w6 fun t144 w7 =>
 K (tup [t144]) w7) fun k4 =>
 pu P (oFldA T.path_lazybuf t5 2) fun t141 =>
 st P (oLoad T.int t141) w5 fun t142 w8 =>
 pu P (oBin .eql T.int false true t142 (.int .i64 0)) fun t143 =>
 cd t143 (
 K (tup [(S [46])]) w8) (
 k4 [] w8)) fun k3 =>
 lp [(gs s2 0), (gs s2 1)] w4 fun s5 u5 w9 C1 =>
 jn (fun s6 u6 w10 =>
 pu P (oIdx T.string t0 (gs s5 0)) fun t56 =>
 pu P (oBin .eql T.uint8 false true t56 (.int .u8 47)) fun t57 =>
 cd t57 (
 pu P (oBin .add T.int false true (gs s5 0) (.int .i64 1)) fun t59 =>
 C1 [t59, (gs s5 1)] w10) (
 pu P (oIdx T.string t0 (gs s5 0)) fun t63 =>
 pu P (oBin .eql T.uint8 false true t63 (.int .u8 46)) fun t64 =>
 gd t64 true w10 (fun K1 => K1 (gs s5 0) w10) fun t66 w11 =>
 gd t64 true w11 (fun K2 => pu P (oBin .add T.int false true t66 (.int .i64 1)) fun v => K2 v w11) fun t67 w12 =>
 gd t64 true w12 (fun K3 => K3 t14 w12) fun t68 w13 =>
 gd t64 true w13 (fun K4 => pu P (oBin .eql T.int false false t67 t68) fun v => K4 v w13) fun t69 w14 =>
 gd t64 true w14 (fun K5 => K5 t69 w14) fun t70 w15 =>
 gd t70 false w15 (fun K6 => K6 t0 w15) fun t71 w16 =>
 gd t70 false w16 (fun K7 => K7 (gs s5 0) w16) fun t72 w17 =>
 gd t70 false w17 (fun K8 => pu P (oBin .add T.int false true t72 (.int .i64 1)) fun v => K8 v w17) fun t73 w18 =>
 gd t70 false w18 (fun K9 => pu P (oIdx T.string t71 t73) fun v => K9 v w18) fun t74 w19 =>
 gd t70 false w19 (fun K10 => pu P (oBin .eql T.uint8 false true t74 (.int .u8 47)) fun v => K10 v w19) fun t75 w20 =>
 gd t64 true w20 (fun K11 => pu P (oPick t70 (.bool true) t75) fun v => K11 v w20) fun t76 w21 =>
 pu P (oPick t64 t76 (.bool false)) fun t77 =>
 cd t77 (
 pu P (oBin .add T.int false true (gs s5 0) (.int .i64 1)) fun t79 =>
 C1 [t79, (gs s5 1)] w21) (
 pu P (oIdx T.string t0 (gs s5 0)) fun t83 =>
 pu P (oBin .eql T.uint8 false true t83 (.int .u8 46)) fun t84 =>
 gd t84 true w21 (fun K12 => K12 t0 w21) fun t86 w22 =>
 gd t84 true w22 (fun K13 => K13 (gs s5 0) w22) fun t87 w23 =>
 gd t84 true w23 (fun K14 => pu P (oBin .add T.int false true t87 (.int .i64 1)) fun v => K14 v w23) fun t88 w24 =>
 gd t84 true w24 (fun K15 => pu P (oIdx T.string t86 t88) fun v => K15 v w24) fun t89 w25 =>
 gd t84 true w25 (fun K16 => pu P (oBin .eql T.uint8 false true t89 (.int .u8 46)) fun v => K16 v w25) fun t90 w26 =>
 pu P (oPick t84 t90 (.bool false)) fun t91 =>
 gd t91 true w26 (fun K17 => K17 (gs s5 0) w26) fun t93 w27 =>
 gd t91 true w27 (fun K18 => pu P (oBin .add T.int false true t93 (.int .i64 2)) fun v => K18 v w27) fun t94 w28 =>
 gd t91 true w28 (fun K19 => K19 t14 w28) fun t95 w29 =>
 gd t91 true w29 (fun K20 => pu P (oBin .eql T.int false false t94 t95) fun v => K20 v w29) fun t96 w30 =>
 gd t91 true w30 (fun K21 => K21 t96 w30) fun t97 w31 =>
 gd t97 false w31 (fun K22 => K22 t0 w31) fun t98 w32 =>
 gd t97 false w32 (fun K23 => K23 (gs s5 0) w32) fun t99 w33 =>
 gd t97 false w33 (fun K24 => pu P (oBin .add T.int false true t99 (.int .i64 2)) fun v => K24 v w33) fun t100 w34 =>
 gd t97 false w34 (fun K25 => pu P (oIdx T.string t98 t100) fun v => K25 v w34) fun t101 w35 =>
 gd t97 false w35 (fun K26 => pu P (oBin .eql T.uint8 false true t101 (.int .u8 47)) fun v => K26 v w35) fun t102 w36 =>
 gd t91 true w36 (fun K27 => pu P (oPick t97 (.bool true) t102) fun v => K27 v w36) fun t103 w37 =>
 pu P (oPick t91 t103 (.bool false)) fun t104 =>
 cd t104 (
 pu P (oBin .add T.int false true (gs s5 0) (.int .i64 2)) fun t106 =>
 pu P (oFldA T.path_lazybuf t5 2) fun t108 =>
 st P (oLoad T.int t108) w37 fun t109 w38 =>
 pu P (oBin .gtr T.int false false t109 (gs s5 1)) fun t111 =>
 cd t111 (
 pu P (oFldA T.path_lazybuf t5 2) fun t112 =>
 st P (oLoad T.int t112) w38 fun t113 w39 =>
 pu P (oBin .sub T.int false true t113 (.int .i64 1)) fun t114 =>
 pu P (oFldA T.path_lazybuf t5 2) fun t115 =>
 st P (oStore T.int t115 t114) w39 fun _ w40 =>
 lp [] w40 fun s7 u7 w41 C2 =>
 jn (fun s8 u8 w42 =>
 pu P (oFldA T.path_lazybuf t5 2) fun t126 =>
 st P (oLoad T.int t126) w42 fun t127 w43 =>
 pu P (oBin .sub T.int false true t127 (.int .i64 1)) fun t128 =>
 pu P (oFldA T.path_lazybuf t5 2) fun t129 =>
 st P (oStore T.int t129 t128) w43 fun _ w44 =>
 C2 [] w44) fun k6 =>
 pu P (oFldA T.path_lazybuf t5 2) fun t116 =>
 st P (oLoad T.int t116) w41 fun t117 w45 =>
 pu P (oBin .gtr T.int false false t117 (gs s5 1)) fun t119 =>
 gd t119 true w45 (fun K28 => pu P (oFldA T.path_lazybuf t5 2) fun v => K28 v w45) fun t121 w46 =>
 gd t119 true w46 (fun K29 => st P (oLoad T.int t121) w46 K29) fun t122 w47 =>
 gd t119 true w47 (fun K30 => st P (oCall Fn.path_lazybuf_index #[t5, t122]) w47 K30) fun t123 w48 =>
 gd t119 true w48 (fun K31 => pu P (oBin .neq T.uint8 false true t123 (.int .u8 47)) fun v => K31 v w48) fun t124 w49 =>
 pu P (oPick t119 t124 (.bool false)) fun t125 =>
 cd t125 (
 k6 [] w49) (
 C1 [t106, (gs s5 1)] w49)) (
 pu P (oUn .not t12) fun t132 =>
 cd t132 (
 jn (fun s9 u9 w50 =>
 st P (oCall Fn.path_lazybuf_append #[t5, (.int .u8 46)]) w50 fun t137 w51 =>
 st P (oCall Fn.path_lazybuf_append #[t5, (.int .u8 46)]) w51 fun t138 w52 =>
 pu P (oFldA T.path_lazybuf t5 2) fun t139 =>
 st P (oLoad T.int t139) w52 fun t140 w53 =>
 C1 [t106, t140] w53) fun k7 =>
 pu P (oFldA T.path_lazybuf t5 2) fun t133 =>
 st P (oLoad T.int t133) w38 fun t134 w54 =>
 pu P (oBin .gtr T.int false true t134 (.int .i64 0)) fun t135 =>
 cd t135 (
 st P (oCall Fn.path_lazybuf_append #[t5, (.int .u8 47)]) w54 fun t136 w55 =>
 k7 [] w55) (
 k7 [] w54)) (
 C1 [t106, (gs s5 1)] w38))) (
 jn (fun s10 u10 w56 =>
 lp [(gs s5 0)] w56 fun s11 u11 w57 C3 =>
 jn (fun s12 u12 w58 =>
 pu P (oIdx T.string t0 (gs s11 0)) fun t51 =>
 st P (oCall Fn.path_lazybuf_append #[t5, t51]) w58 fun t52 w59 =>
 pu P (oBin .add T.int false true (gs s11 0) (.int .i64 1)) fun t48 =>
 C3 [t48] w59) fun k9 =>
 pu P (oBin .lss T.int false false (gs s11 0) t14) fun t40 =>
 gd t40 true w57 (fun K32 => K32 t0 w57) fun t42 w60 =>
 gd t40 true w60 (fun K33 => K33 (gs s11 0) w60) fun t43 w61 =>
 gd t40 true w61 (fun K34 => pu P (oIdx T.string t42 t43) fun v => K34 v w61) fun t44 w62 =>
 gd t40 true w62 (fun K35 => pu P (oBin .neq T.uint8 false true t44 (.int .u8 47)) fun v => K35 v w62) fun t45 w63 =>
 pu P (oPick t40 t45 (.bool false)) fun t46 =>
 cd t46 (
 k9 [] w63) (
 C1 [(gs s11 0), (gs s5 1)] w63)) fun k8 =>
 gd t12 true w37 (fun K36 => pu P (oFldA T.path_lazybuf t5 2) fun v => K36 v w37) fun t24 w64 =>
 gd t12 true w64 (fun K37 => st P (oLoad T.int t24) w64 K37) fun t25 w65 =>
 gd t12 true w65 (fun K38 => pu P (oBin .neq T.int false true t25 (.int .i64 1)) fun v => K38 v w65) fun t26 w66 =>
 pu P (oPick t12 t26 (.bool false)) fun t27 =>
 gd t27 false w66 (fun K39 => K39 t12 w66) fun t29 w67 =>
 gd t27 false w67 (fun K40 => pu P (oUn .not t29) fun v => K40 v w67) fun t30 w68 =>
 gd t27 false w68 (fun K41 => K41 t30 w68) fun t31 w69 =>
 gd t31 true w69 (fun K42 => pu P (oFldA T.path_lazybuf t5 2) fun v => K42 v w69) fun t32 w70 =>
 gd t31 true w70 (fun K43 => st P (oLoad T.int t32) w70 K43) fun t33 w71 =>
 gd t31 true w71 (fun K44 => pu P (oBin .neq T.int false true t33 (.int .i64 0)) fun v => K44 v w71) fun t34 w72 =>
 gd t27 false w72 (fun K45 => pu P (oPick t31 t34 (.bool false)) fun v => K45 v w72) fun t35 w73 =>
 pu P (oPick t27 (.bool true) t35) fun t36 =>
 cd t36 (
 st P (oCall Fn.path_lazybuf_append #[t5, (.int .u8 47)]) w73 fun t37 w74 =>
 k8 [] w74) (
 k8 [] w73))))) fun k5 =>
 pu P (oBin .lss T.int false false (gs s5 0) t14) fun t21 =>
 cd t21 (
 k5 [] w9) (
 k3 [] w9)) fun k2 =>
 cd t12 (
 st P (oCall Fn.path_lazybuf_append #[t5, (.int .u8 47)]) w3 fun t18 w75 =>
 k2 [(.int .i64 1), (.int .i64 1)] w75) (
 k2 [(.int .i64 0), (.int .i64 0)] w3)) fun k1 =>
 pu P (oBin .eql T.string false true t0 (S [])) fun t9 =>
 cd t9 (
 K (tup [(S [46])]) w) (
 k1 [] w)
def Tb_path_Clean : Tab := { join := fun n => match n with | 10 => [6, 7] | _ => [], loop := fun n => match n with | 10 => [6, 7] | 13 => [6] | _ => [] }
theorem S_path_Clean {t0 : Value} {w : World} {K : Value → World → Prop} (h : F_path_Clean t0 w K) : Cl P Fn.path_Clean #[t0] w K :=
  cl_of_eq (T := Tb_path_Clean) (args := [t0]) Tryd.func36 rfl follows_mixed (by kernel_rfl) (Nat.le_of_ble_eq_true (by kernel_rfl)) (by kernel_rfl) h

/-- path.Join -/
def F_path_Join (t0 : Value) (w : World) (K : Value → World → Prop) : Prop :=
 jn (fun s1 u1 w1 =>
 jn (fun s2 u2 w2 =>
 pu P (oBuiltin .len #[T.sl_string] T.int #[false] #[t0]) fun t24 =>
 pu P (oBin .add T.int false false (gs s1 0) t24) fun t25 =>
 pu P (oBin .sub T.int false true t25 (.int .i64 1)) fun t26 =>
 st P (oMkSlice T.sl_uint8 (.int .i64 0) t26) w2 fun t27 w3 =>
 jn (fun s3 u3 w4 =>
 st P (oConv T.sl_uint8 T.string (gs s3 0)) w4 fun t52 w5 =>
 st P (oCall Fn.path_Clean #[t52]) w5 fun t53 w6 =>
 K (tup [t53]) w6) fun k3 =>
 pu P (oBuiltin .len #[T.sl_string] T.int #[false] #[t0]) fun t29 =>
 lp [t27, (.int .i64 0)] w3 fun s4 u4 w7 C1 =>
 pu P (oBin .lss T.int false false (gs s4 1) t29) fun t31 =>
 jn (fun s5 u5 w8 =>
 jn (fun s6 u6 w9 =>
 pu P (oBin .add T.int false true (gs s4 1) (.int .i64 1)) fun t50 =>
 C1 [(gs s6 0), t50] w9) fun k5 =>
 pu P (oIdxA T.sl_string t0 (gs s4 1)) fun t32 =>
 st P (oLoad T.string t32) w8 fun t33 w10 =>
 pu P (oBuiltin .len #[T.sl_uint8] T.int #[false] #[(gs s4 0)]) fun t35 =>
 pu P (oBin .gtr T.int false true t35 (.int .i64 0)) fun t36 =>
 gd t36 false w10 (fun K1 => K1 t33 w10) fun t38 w11 =>
 gd t36 false w11 (fun K2 => pu P (oBin .neq T.string false true t38 (S [])) fun v => K2 v w11) fun t39 w12 =>
 pu P (oPick t36 (.bool true) t39) fun t40 =>
 cd t40 (
 jn (fun s7 u7 w13 =>
 st P (oBuiltin .append #[T.sl_uint8, T.string] T.sl_uint8 #[false, false] #[(gs s7 0), t33]) w13 fun t49 w14 =>
 k5 [t49] w14) fun k6 =>
 pu P (oBuiltin .len #[T.sl_uint8] T.int #[false] #[(gs s4 0)]) fun t42 =>
 pu P (oBin .gtr T.int false true t42 (.int .i64 0)) fun t43 =>
 cd t43 (
 st P (oBuildSlice T.sl_uint8 1 #[(0, (.int .u8 47))]) w12 fun t45 w15 =>
 st P (oBuiltin .append #[T.sl_uint8, T.sl_uint8] T.sl_uint8 #[false, false] #[(gs s4 0), t45]) w15 fun t46 w16 =>
 k6 [t46] w16) (
 k6 [(gs s4 0)] w12)) (
 k5 [(gs s4 0)] w12)) fun k4 =>
 cd t31 (
 k4 [] w7) (
 k3 [(gs s4 0)] w7)) fun k2 =>
 pu P (oBin .eql T.int false true (gs s1 0) (.int .i64 0)) fun t21 =>
 cd t21 (
 K (tup [(S [])]) w1) (
 k2 [] w1)) fun k1 =>
 pu P (oBuiltin .len #[T.sl_string] T.int #[false] #[t0]) fun t10 =>
 lp [(.int .i64 0), (.int .i64 0)] w fun s8 u8 w17 C2 =>
 pu P (oBin .lss T.int false false (gs s8 1) t10) fun t12 =>
 jn (fun s9 u9 w18 =>
 pu P (oIdxA T.sl_string t0 (gs s8 1)) fun t13 =>
 st P (oLoad T.string t13) w18 fun t14 w19 =>
 pu P (oBuiltin .len #[T.string] T.int #[false] #[t14]) fun t17 =>
 pu P (oBin .add T.int false false (gs s8 0) t17) fun t18 =>
 pu P (oBin .add T.int false true (gs s8 1) (.int .i64 1)) fun t19 =>
 C2 [t18, t19] w19) fun k7 =>
 cd t12 (
 k7 [] w17) (
 k1 [(gs s8 0)] w17)
def Tb_path_Join : Tab := { join := fun n => match n with | 7 => [3] | 16 => [6] | 17 => [6] | 18 => [6] | _ => [], loop := fun n => match n with | 3 => [3, 11] | 11 => [6, 30] | _ => [] }
theorem S_path_Join {t0 : Value} {w : World} {K : Value → World → Prop} (h : F_path_Join t0 w K) : Cl P Fn.path_Join #[t0] w K :=
  cl_of_eq (T := Tb_path_Join) (args := [t0]) Tryd.func37 rfl follows_mixed (by kernel_rfl) (Nat.le_of_ble_eq_true (by kernel_rfl)) (by kernel_rfl) h

/-- strings.HasPrefix -/
def F_strings_HasPrefix (t0 t1 : Value) (w : World) (K : Value → World → Prop) : Prop :=
 st P (oCall Fn.stringslite_HasPrefix #[t0, t1]) w fun t7 w1 =>
 K (tup [t7]) w1
def Tb_strings_HasPrefix : Tab := { join := fun n => match n with | _ => [], loop := fun n => match n with | _ => [] }
theorem S_strings_HasPrefix {t0 t1 : Value} {w : World} {K : Value → World → Prop} (h : F_strings_HasPrefix t0 t1 w K) : Cl P Fn.strings_HasPrefix #[t0, t1] w K :=
  cl_of_eq (T := Tb_strings_HasPrefix) (args := [t0, t1]) Tryd.func38 rfl follows_mixed (by kernel_rfl) (Nat.le_of_ble_eq_true (by kernel_rfl)) (by kernel_rfl) h

/-- (*pub-marram/pub/hcsshim/ext4/inner/compactext4.xattr).EntryLen -/
def F_compactext4_xattr_EntryLen (t0 : Value) (w : World) (K : Value → World → Prop) : Prop :=
 pu P (oNil t0) fun t4 =>
 pu P (oFldA T.compactext4_xattr t4 0) fun t5 =>
 st P (oLoad T.string t5) w fun t6 w1 =>
 pu P (oBuiltin .len #[T.string] T.int #[false] #[t6]) fun t7 =>
 pu P (oBin .add T.int false true t7 (.int .i64 3)) fun t8 =>
 pu P (oBin .andNot T.int false true t8 (.int .i64 3)) fun t9 =>
 pu P (oBin .add T.int false true t9 (.int .i64 16)) fun t10 =>
 K (tup [t10]) w1
def Tb_compactext4_xattr_EntryLen : Tab := { join := fun n => match n with | _ => [], loop := fun n => match n with | _ => [] }
theorem S_compactext4_xattr_EntryLen {t0 : Value} {w : World} {K : Value → World → Prop} (h : F_compactext4_xattr_EntryLen t0 w K) : Cl P Fn.compactext4_xattr_EntryLen #[t0] w K :=
  cl_of_eq (T := Tb_compactext4_xattr_EntryLen) (args := [t0]) Tryd.func39 rfl follows_mixed (by kernel_rfl) (Nat.le_of_ble_eq_true (by kernel_rfl)) (by kernel_rfl) h

/-- (*pub-marram/pub/hcsshim/ext4/inner/compactext4.xattr).ValueLen -/
def F_compactext4_xattr_ValueLen (t0 : Value) (w : World) (K : Value → World → Prop) : Prop :=
 pu P (oNil t0) fun t4 =>
 pu P (oFldA T.compactext4_xattr t4 2) fun t5 =>
 st P (oLoad T.sl_uint8 t5) w fun t6 w1 =>
 pu P (oBuiltin .len #[T.sl_uint8] T.int #[false] #[t6]) fun t7 =>
 pu P (oBin .add T.int false true t7 (.int .i64 3)) fun t8 =>
 pu P (oBin .andNot T.int false true t8 (.int .i64 3)) fun t9 =>
 K (tup [t9]) w1
def Tb_compactext4_xattr_ValueLen : Tab := { join := fun n => match n with | _ => [], loop := fun n => match n with | _ => [] }
theorem S_compactext4_xattr_ValueLen {t0 : Value} {w : World} {K : Value → World → Prop} (h : F_compactext4_xattr_ValueLen t0 w K) : Cl P Fn.compactext4_xattr_ValueLen #[t0] w K :=
  cl_of_eq (T := Tb_compactext4_xattr_ValueLen) (args := [t0]) Tryd.func40 rfl follows_mixed (by kernel_rfl) (Nat.le_of_ble_eq_true (by kernel_rfl)) (by kernel_rfl) h

/-- (*path.lazybuf).append -/
def F_path_lazybuf_append (t0 t1 : Value) (w : World) (K : Value → World → Prop) : Prop :=
 jn (fun s1 u1 w1 =>
 pu P (oNil t0) fun t63 =>
 pu P (oFldA T.path_lazybuf t63 1) fun t64 =>
 rd P (oLoad T.sl_uint8 t64) w1.drew fun t65 =>
 pu P (oNil t0) fun t67 =>
 pu P (oFldA T.path_lazybuf t67 2) fun t68 =>
 rd P (oLoad T.int t68) w1.drew fun t69 =>
 pu P (oIdxA T.sl_uint8 t65 t69) fun t71 =>
 st P (oStore T.uint8 t71 t1) w1.drew fun _ w2 =>
 pu P (oNil t0) fun t73 =>
 pu P (oFldA T.path_lazybuf t73 2) fun t74 =>
 st P (oLoad T.int t74) w2 fun t75 w3 =>
 pu P (oBin .add T.int false true t75 (.int .i64 1)) fun t76 =>
 pu P (oNil t0) fun t77 =>
 pu P (oFldA T.path_lazybuf t77 2) fun t78 =>
 st P (oStore T.int t78 t76) w3 fun _ w4 =>
 K (tup []) w4) fun k1 =>
 pu P (oNil t0) fun t5 =>
 pu P (oFldA T.path_lazybuf t5 1) fun t6 =>
 st P (oLoad T.sl_uint8 t6) w fun t7 w5 =>
 pu P (oBin .eql T.sl_uint8 false true t7 (.slice none 0 0)) fun t8 =>
 cd t8 (
 jn (fun s2 u2 w6 =>
 pu P (oNil t0) fun t41 =>
 pu P (oFldA T.path_lazybuf t41 0) fun t42 =>
 st P (oLoad T.string t42) w6 fun t43 w7 =>
 pu P (oBuiltin .len #[T.string] T.int #[false] #[t43]) fun t44 =>
 st P (oMkSlice T.sl_uint8 t44 t44) w7 fun t45 w8 =>
 pu P (oNil t0) fun t46 =>
 pu P (oFldA T.path_lazybuf t46 1) fun t47 =>
 st P (oStore T.sl_uint8 t47 t45) w8 fun _ w9 =>
 pu P (oNil t0) fun t49 =>
 pu P (oFldA T.path_lazybuf t49 1) fun t50 =>
 rd P (oLoad T.sl_uint8 t50) w9.drew fun t51 =>
 pu P (oNil t0) fun t53 =>
 pu P (oFldA T.path_lazybuf t53 0) fun t54 =>
 rd P (oLoad T.string t54) w9.drew fun t55 =>
 pu P (oNil t0) fun t57 =>
 pu P (oFldA T.path_lazybuf t57 2) fun t58 =>
 rd P (oLoad T.int t58) w9.drew fun t59 =>
 pu P (oSlice T.string t55 none (some t59) none) fun t60 =>
 st P (oBuiltin .copy #[T.sl_uint8, T.string] T.int #[false, false] #[t51, t60]) w9.drew fun t61 w10 =>
 k1 [] w10) fun k2 =>
 pu P (oNil t0) fun t10 =>
 pu P (oFldA T.path_lazybuf t10 2) fun t11 =>
 rd P (oLoad T.int t11) w5.drew fun t12 =>
 pu P (oNil t0) fun t14 =>
 pu P (oFldA T.path_lazybuf t14 0) fun t15 =>
 rd P (oLoad T.string t15) w5.drew fun t16 =>
 pu P (oBuiltin .len #[T.string] T.int #[false] #[t16]) fun t17 =>
 pu P (oBin .lss T.int false false t12 t17) fun t18 =>
 gd t18 true w5.drew (fun K1 => K1 t0 w5.drew) fun t20 w11 =>
 gd t18 true w11 (fun K2 => pu P (oNil t20) fun v => K2 v w11) fun t21 w12 =>
 gd t18 true w12 (fun K3 => pu P (oFldA T.path_lazybuf t21 0) fun v => K3 v w12) fun t22 w13 =>
 gd t18 true w13 (fun K4 => rd P (oLoad T.string t22) w13 fun v => K4 v w13) fun t23 w14 =>
 gd t18 true w14 (fun K5 => K5 t0 w14) fun t24 w15 =>
 gd t18 true w15 (fun K6 => pu P (oNil t24) fun v => K6 v w15) fun t25 w16 =>
 gd t18 true w16 (fun K7 => pu P (oFldA T.path_lazybuf t25 2) fun v => K7 v w16) fun t26 w17 =>
 gd t18 true w17 (fun K8 => rd P (oLoad T.int t26) w17 fun v => K8 v w17) fun t27 w18 =>
 gd t18 true w18 (fun K9 => pu P (oIdx T.string t23 t27) fun v => K9 v w18) fun t28 w19 =>
 gd t18 true w19 (fun K10 => K10 t1 w19) fun t29 w20 =>
 gd t18 true w20 (fun K11 => pu P (oBin .eql T.uint8 false false t28 t29) fun v => K11 v w20) fun t30 w21 =>
 pu P (oPick t18 t30 (.bool false)) fun t31 =>
 cd t31 (
 pu P (oNil t0) fun t33 =>
 pu P (oFldA T.path_lazybuf t33 2) fun t34 =>
 st P (oLoad T.int t34) w21 fun t35 w22 =>
 pu P (oBin .add T.int false true t35 (.int .i64 1)) fun t36 =>
 pu P (oNil t0) fun t37 =>
 pu P (oFldA T.path_lazybuf t37 2) fun t38 =>
 st P (oStore T.int t38 t36) w22 fun _ w23 =>
 K (tup []) w23) (
 k2 [] w21)) (
 k1 [] w5)
def Tb_path_lazybuf_append : Tab := { join := fun n => match n with | _ => [], loop := fun n => match n with | _ => [] }
theorem S_path_lazybuf_append {t0 t1 : Value} {w : World} {K : Value → World → Prop} (h : F_path_lazybuf_append t0 t1 w K) : Cl P Fn.path_lazybuf_append #[t0, t1] w K :=
  cl_of_eq (T := Tb_path_lazybuf_append) (args := [t0, t1]) Tryd.func41 rfl follows_mixed (by kernel_rfl) (Nat.le_of_ble_eq_true (by kernel_rfl)) (by kernel_rfl) h

/-- (*path.lazybuf).index -/
def F_path_lazybuf_index (t0 t1 : Value) (w : World) (K : Value → World → Prop) : Prop :=
 jn (fun s1 u1 w1 =>
 pu P (oNil t0) fun t18 =>
 pu P (oFldA T.path_lazybuf t18 0) fun t19 =>
 st P (oLoad T.string t19) w1 fun t20 w2 =>
 pu P (oIdx T.string t20 t1) fun t22 =>
 K (tup [t22]) w2) fun k1 =>
 pu P (oNil t0) fun t6 =>
 pu P (oFldA T.path_lazybuf t6 1) fun t7 =>
 st P (oLoad T.sl_uint8 t7) w fun t8 w3 =>
 pu P (oBin .neq T.sl_uint8 false true t8 (.slice none 0 0)) fun t9 =>
 cd t9 (
 pu P (oNil t0) fun t11 =>
 pu P (oFldA T.path_lazybuf t11 1) fun t12 =>
 st P (oLoad T.sl_uint8 t12) w3 fun t13 w4 =>
 pu P (oIdxA T.sl_uint8 t13 t1) fun t15 =>
 st P (oLoad T.uint8 t15) w4 fun t16 w5 =>
 K (tup [t16]) w5) (
 k1 [] w3)
def Tb_path_lazybuf_index : Tab := { join := fun n => match n with | _ => [], loop := fun n => match n with | _ => [] }
theorem S_path_lazybuf_index {t0 t1 : Value} {w : World} {K : Value → World → Prop} (h : F_path_lazybuf_index t0 t1 w K) : Cl P Fn.path_lazybuf_index #[t0, t1] w K :=
  cl_of_eq (T := Tb_path_lazybuf_index) (args := [t0, t1]) Tryd.func42 rfl follows_mixed (by kernel_rfl) (Nat.le_of_ble_eq_true (by kernel_rfl)) (by kernel_rfl) h

/-- (*path.lazybuf).string -/
def F_path_lazybuf_string (t0 : Value) (w : World) (K : Value → World → Prop) : Prop :=
 jn (fun s1 u1 w1 =>
 pu P (oNil t0) fun t18 =>
 pu P (oFldA T.path_lazybuf t18 1) fun t19 =>
 rd P (oLoad T.sl_uint8 t19) w1.drew fun t20 =>
 pu P (oNil t0) fun t22 =>
 pu P (oFldA T.path_lazybuf t22 2) fun t23 =>
 rd P (oLoad T.int t23) w1.drew fun t24 =>
 pu P (oSlice T.sl_uint8 t20 none (some t24) none) fun t25 =>
 rd P (oConv T.sl_uint8 T.string t25) w1.drew fun t26 =>
 K (tup [t26]) w1.drew) fun k1 =>
 pu P (oNil t0) fun t4 =>
 pu P (oFldA T.path_lazybuf t4 1) fun t5 =>
 st P (oLoad T.sl_uint8 t5) w fun t6 w2 =>
 pu P (oBin .eql T.sl_uint8 false true t6 (.slice none 0 0)) fun t7 =>
 cd t7 (
 pu P (oNil t0) fun t9 =>
 pu P (oFldA T.path_lazybuf t9 0) fun t10 =>
 rd P (oLoad T.string t10) w2.drew fun t11 =>
 pu P (oNil t0) fun t13 =>
 pu P (oFldA T.path_lazybuf t13 2) fun t14 =>
 rd P (oLoad T.int t14) w2.drew fun t15 =>
 pu P (oSlice T.string t11 none (some t15) none) fun t16 =>
 K (tup [t16]) w2.drew) (
 k1 [] w2)
def Tb_path_lazybuf_string : Tab := { join := fun n => match n with | _ => [], loop := fun n => match n with | _ => [] }
theorem S_path_lazybuf_string {t0 : Value} {w : World} {K : Value → World → Prop} (h : F_path_lazybuf_string t0 w K) : Cl P Fn.path_lazybuf_string #[t0] w K :=
  cl_of_eq (T := Tb_path_lazybuf_string) (args := [t0]) Tryd.func43 rfl follows_mixed (by kernel_rfl) (Nat.le_of_ble_eq_true (by kernel_rfl)) (by kernel_rfl) h

/-- internal/stringslite.HasPrefix -/
def F_stringslite_HasPrefix (t0 t1 : Value) (w : World) (K : Value → World → Prop) : Prop :=
 pu P (oBuiltin .len #[T.string] T.int #[false] #[t0]) fun t6 =>
 pu P (oBuiltin .len #[T.string] T.int #[false] #[t1]) fun t8 =>
 pu P (oBin .geq T.int false false t6 t8) fun t9 =>
 gd t9 true w (fun K1 => K1 t0 w) fun t11 w1 =>
 gd t9 true w1 (fun K2 => K2 t1 w1) fun t12 w2 =>
 gd t9 true w2 (fun K3 => pu P (oBuiltin .len #[T.string] T.int #[false] #[t12]) fun v => K3 v w2) fun t13 w3 =>
 gd t9 true w3 (fun K4 => pu P (oSlice T.string t11 none (some t13) none) fun v => K4 v w3) fun t14 w4 =>
 gd t9 true w4 (fun K5 => K5 t1 w4) fun t15 w5 =>
 gd t9 true w5 (fun K6 => pu P (oBin .eql T.string false false t14 t15) fun v => K6 v w5) fun t16 w6 =>
 pu P (oPick t9 t16 (.bool false)) fun t17 =>
 K (tup [t17]) w6
def Tb_stringslite_HasPrefix : Tab := { join := fun n => match n with | _ => [], loop := fun n => match n with | _ => [] }
theorem S_stringslite_HasPrefix {t0 t1 : Value} {w : World} {K : Value → World → Prop} (h : F_stringslite_HasPrefix t0 t1 w K) : Cl P Fn.stringslite_HasPrefix #[t0, t1] w K :=
  cl_of_eq (T := Tb_stringslite_HasPrefix) (args := [t0, t1]) Tryd.func44 rfl follows_mixed (by kernel_rfl) (Nat.le_of_ble_eq_true (by kernel_rfl)) (by kernel_rfl) h

/-- errors.New -/
def F_errors_New (t0 : Value) (w : World) (K : Value → World → Prop) : Prop :=
 pu P (oBuild T.errors_errorString #[(0, t0)]) fun t4 =>
 st P (oBox T.errors_errorString t4) w fun t5 w1 =>
 pu P (oMkIface T.p_errors_errorString t5) fun t6 =>
 K (tup [t6]) w1
def Tb_errors_New : Tab := { join := fun n => match n with | _ => [], loop := fun n => match n with | _ => [] }
theorem S_errors_New {t0 : Value} {w : World} {K : Value → World → Prop} (h : F_errors_New t0 w K) : Cl P Fn.errors_New #[t0] w K :=
  cl_of_eq (T := Tb_errors_New) (args := [t0]) Tryd.func67 rfl follows_mixed (by kernel_rfl) (Nat.le_of_ble_eq_true (by kernel_rfl)) (by kernel_rfl) h

/-- gosem.cut.vars -/
def F_gosem_cut_vars (w : World) (K : Value → World → Prop) : Prop :=
 st P (oCall Fn.errors_New #[(S [102, 105, 108, 101, 32, 97, 108, 114, 101, 97, 100, 121, 32, 101, 120, 105, 115, 116, 115])]) w fun t0 w1 =>
 st P (oStore T.error (.pointer (some ⟨G.os_ErrExist, 0, none⟩)) t0) w1 fun _ w2 =>
 st P (oCall Fn.errors_New #[(S [102, 105, 108, 101, 32, 100, 111, 101, 115, 32, 110, 111, 116, 32, 101, 120, 105, 115, 116])]) w2 fun t1 w3 =>
 st P (oStore T.error (.pointer (some ⟨G.os_ErrNotExist, 0, none⟩)) t1) w3 fun _ w4 =>
 st P (oCall Fn.errors_New #[(S [110, 111, 32, 115, 117, 99, 104, 32, 102, 105, 108, 101, 32, 111, 114, 32, 100, 105, 114, 101, 99, 116, 111, 114, 121])]) w4 fun t2 w5 =>
 st P (oStore T.error (.pointer (some ⟨G.os_ENOENT, 0, none⟩)) t2) w5 fun _ w6 =>
 st P (oCall Fn.errors_New #[(S [110, 111, 116, 32, 97, 32, 100, 105, 114, 101, 99, 116, 111, 114, 121])]) w6 fun t3 w7 =>
 st P (oStore T.error (.pointer (some ⟨G.os_ENOTDIR, 0, none⟩)) t3) w7 fun _ w8 =>
 st P (oCall Fn.errors_New #[(S [111, 112, 101, 114, 97, 116, 105, 111, 110, 32, 110, 111, 116, 32, 112, 101, 114, 109, 105, 116, 116, 101, 100])]) w8 fun t4 w9 =>
 st P (oStore T.error (.pointer (some ⟨G.os_EPERM, 0, none⟩)) t4) w9 fun _ w10 =>
 st P (oCall Fn.errors_New #[(S [105, 110, 112, 117, 116, 47, 111, 117, 116, 112, 117, 116, 32, 101, 114, 114, 111, 114])]) w10 fun t5 w11 =>
 st P (oStore T.error (.pointer (some ⟨G.os_EIO, 0, none⟩)) t5) w11 fun _ w12 =>
 st P (oCall Fn.errors_New #[(S [102, 105, 108, 101, 32, 100, 101, 115, 99, 114, 105, 112, 116, 111, 114, 32, 105, 110, 32, 98, 97, 100, 32, 115, 116, 97, 116, 101])]) w12 fun t6 w13 =>
 st P (oStore T.error (.pointer (some ⟨G.os_EBADFD, 0, none⟩)) t6) w13 fun _ w14 =>
 st P (oCall Fn.errors_New #[(S [69, 79, 70])]) w14 fun t7 w15 =>
 st P (oStore T.error (.pointer (some ⟨G.io_EOF, 0, none⟩)) t7) w15 fun _ w16 =>
 st P (oCall Fn.errors_New #[(S [117, 110, 101, 120, 112, 101, 99, 116, 101, 100, 32, 69, 79, 70])]) w16 fun t8 w17 =>
 st P (oStore T.error (.pointer (some ⟨G.io_ErrUnexpectedEOF, 0, none⟩)) t8) w17 fun _ w18 =>
 st P (oCall Fn.errors_New #[(S [70, 105, 108, 101, 32, 105, 115, 32, 99, 108, 111, 115, 101, 100])]) w18 fun t9 w19 =>
 st P (oStore T.error (.pointer (some ⟨G.mem_ErrFileClosed, 0, none⟩)) t9) w19 fun _ w20 =>
 st P (oCall Fn.errors_New #[(S [111, 117, 116, 32, 111, 102, 32, 114, 97, 110, 103, 101])]) w20 fun t10 w21 =>
 st P (oStore T.error (.pointer (some ⟨G.mem_ErrOutOfRange, 0, none⟩)) t10) w21 fun _ w22 =>
 pu P (oBuild T.st_5470e38b #[(0, (.int .u8 2)), (1, (S [115, 121, 115, 116, 101, 109, 46, 112, 111, 115, 105, 120, 95, 97, 99, 108, 95, 97, 99, 99, 101, 115, 115]))]) fun t11 =>
 pu P (oBuild T.st_5470e38b #[(0, (.int .u8 3)), (1, (S [115, 121, 115, 116, 101, 109, 46, 112, 111, 115, 105, 120, 95, 97, 99, 108, 95, 100, 101, 102, 97, 117, 108, 116]))]) fun t12 =>
 pu P (oBuild T.st_5470e38b #[(0, (.int .u8 8)), (1, (S [115, 121, 115, 116, 101, 109, 46, 114, 105, 99, 104, 97, 99, 108]))]) fun t13 =>
 pu P (oBuild T.st_5470e38b #[(0, (.int .u8 7)), (1, (S [115, 121, 115, 116, 101, 109, 46]))]) fun t14 =>
 pu P (oBuild T.st_5470e38b #[(0, (.int .u8 1)), (1, (S [117, 115, 101, 114, 46]))]) fun t15 =>
 pu P (oBuild T.st_5470e38b #[(0, (.int .u8 4)), (1, (S [116, 114, 117, 115, 116, 101, 100, 46]))]) fun t16 =>
 pu P (oBuild T.st_5470e38b #[(0, (.int .u8 6)), (1, (S [115, 101, 99, 117, 114, 105, 116, 121, 46]))]) fun t17 =>
 pu P (oBuild T.arr7_struct___Index_uint8__Prefix_string__ #[(0, t11), (1, t12), (2, t13), (3, t14), (4, t15), (5, t16), (6, t17)]) fun t18 =>
 st P (oStore T.arr7_struct___Index_uint8__Prefix_string__ (.pointer (some ⟨G.compactext4_xattrPrefixes, 0, none⟩)) t18) w22 fun _ w23 =>
 K (tup []) w23
def Tb_gosem_cut_vars : Tab := { join := fun n => match n with | _ => [], loop := fun n => match n with | _ => [] }
theorem S_gosem_cut_vars {w : World} {K : Value → World → Prop} (h : F_gosem_cut_vars  w K) : Cl P Fn.gosem_cut_vars #[] w K :=
  cl_of_eq (T := Tb_gosem_cut_vars) (args := []) Tryd.func82 rfl follows_mixed (by kernel_rfl) (Nat.le_of_ble_eq_true (by kernel_rfl)) (by kernel_rfl) h

end Go.Proofs.YtdilealdddbhnaaDoor.X
