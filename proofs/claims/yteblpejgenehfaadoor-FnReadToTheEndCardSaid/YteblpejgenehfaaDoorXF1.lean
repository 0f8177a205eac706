/- The functions' own texts over values, each held against the loaded code by the kernel. Laid by a program of this session. No condition. -/
import Derived.Test.YteblpejgenehfaaDoorXN
set_option linter.unusedVariables false
set_option maxRecDepth 100000
namespace Go.Proofs.YteblpejgenehfaaDoor.X
open Go Go.X Go.Proofs

/-- (*pub-marram/spec.Mem).speaksOpen -/
def F_spec_Mem_speaksOpen (t0 t1 : Value) (w : World) (K : Value → World → Prop) : Prop :=
 st P (oBox T.impl_Step t1) w fun t3 w1 =>
 pu P (oFldA T.impl_Step t3 1) fun t8 =>
 st P (oLoad T.string t8) w1 fun t9 w2 =>
 st P (oCall Fn.spec_MemName #[t9]) w2 fun t10 w3 =>
 st P (oCall Fn.spec_Mem_Find #[t0, t10]) w3 fun t14 w4 =>
 pu P (oExtract t14 0) fun t15 =>
 pu P (oExtract t14 1) fun t16 =>
 jn (fun s1 u1 w5 =>
 pu P (oFldA T.impl_Step t3 3) fun t39 =>
 st P (oLoad T.int t39) w5 fun t40 w6 =>
 pu P (oBin .andNot T.int false true t40 (.int .i64 1731)) fun t41 =>
 pu P (oBin .eql T.int false true t41 (.int .i64 0)) fun t42 =>
 gd t42 true w6 (fun K1 => K1 t16 w6) fun t44 w7 =>
 gd t42 true w7 (fun K2 => K2 t44 w7) fun t45 w8 =>
 gd t45 false w8 (fun K3 => pu P (oFldA T.impl_Step t3 3) fun v => K3 v w8) fun t46 w9 =>
 gd t45 false w9 (fun K4 => st P (oLoad T.int t46) w9 K4) fun t47 w10 =>
 gd t45 false w10 (fun K5 => pu P (oBin .and T.int false true t47 (.int .i64 64)) fun v => K5 v w10) fun t48 w11 =>
 gd t45 false w11 (fun K6 => pu P (oBin .eql T.int false true t48 (.int .i64 0)) fun v => K6 v w11) fun t49 w12 =>
 gd t42 true w12 (fun K7 => pu P (oPick t45 (.bool true) t49) fun v => K7 v w12) fun t50 w13 =>
 gd t42 true w13 (fun K8 => K8 t50 w13) fun t51 w14 =>
 gd t51 false w14 (fun K9 => K9 t0 w14) fun t52 w15 =>
 gd t51 false w15 (fun K10 => K10 t10 w15) fun t53 w16 =>
 gd t51 false w16 (fun K11 => st P (oCall Fn.spec_Mem_clear #[t52, t53]) w16 K11) fun t54 w17 =>
 gd t42 true w17 (fun K12 => pu P (oPick t51 (.bool true) t54) fun v => K12 v w17) fun t55 w18 =>
 pu P (oPick t42 t55 (.bool false)) fun t56 =>
 gd t56 true w18 (fun K13 => K13 t0 w18) fun t58 w19 =>
 gd t56 true w19 (fun K14 => K14 t10 w19) fun t59 w20 =>
 gd t56 true w20 (fun K15 => st P (oCall Fn.spec_Mem_isDir #[t58, t59]) w20 K15) fun t60 w21 =>
 gd t56 true w21 (fun K16 => K16 t60 w21) fun t61 w22 =>
 gd t61 true w22 (fun K17 => pu P (oFldA T.impl_Step t3 3) fun v => K17 v w22) fun t62 w23 =>
 gd t61 true w23 (fun K18 => st P (oLoad T.int t62) w23 K18) fun t63 w24 =>
 gd t61 true w24 (fun K19 => pu P (oBin .and T.int false true t63 (.int .i64 512)) fun v => K19 v w24) fun t64 w25 =>
 gd t61 true w25 (fun K20 => pu P (oBin .neq T.int false true t64 (.int .i64 0)) fun v => K20 v w25) fun t65 w26 =>
 gd t56 true w26 (fun K21 => pu P (oPick t61 t65 (.bool false)) fun v => K21 v w26) fun t66 w27 =>
 gd t56 true w27 (fun K22 => pu P (oUn .not t66) fun v => K22 v w27) fun t67 w28 =>
 pu P (oPick t56 t67 (.bool false)) fun t68 =>
 K (tup [t68]) w28) fun k1 =>
 pu P (oFldA T.impl_Step t3 1) fun t18 =>
 st P (oLoad T.string t18) w4 fun t19 w29 =>
 st P (oCall Fn.spec_named #[t19]) w29 fun t20 w30 =>
 pu P (oUn .not t20) fun t21 =>
 cd t21 (
 K (tup [(.bool false)]) w30) (
 pu P (oFldA T.impl_Step t3 0) fun t23 =>
 st P (oLoad T.int t23) w30 fun t24 w31 =>
 pu P (oBin .eql T.int false true t24 (.int .i64 0)) fun t25 =>
 cd t25 (
 st P (oCall Fn.spec_Mem_isDir #[t0, t10]) w31 fun t28 w32 =>
 pu P (oUn .not t28) fun t29 =>
 gd t29 true w32 (fun K23 => K23 t0 w32) fun t31 w33 =>
 gd t29 true w33 (fun K24 => K24 t10 w33) fun t32 w34 =>
 gd t29 true w34 (fun K25 => st P (oCall Fn.spec_Mem_clear #[t31, t32]) w34 K25) fun t33 w35 =>
 pu P (oPick t29 t33 (.bool false)) fun t34 =>
 K (tup [t34]) w35) (
 pu P (oFldA T.impl_Step t3 0) fun t36 =>
 st P (oLoad T.int t36) w31 fun t37 w36 =>
 pu P (oBin .eql T.int false true t37 (.int .i64 1)) fun t38 =>
 cd t38 (
 K (tup [(.bool true)]) w36) (
 k1 [] w36)))
def Tb_spec_Mem_speaksOpen : Tab := { join := fun n => match n with | _ => [], loop := fun n => match n with | _ => [] }
theorem S_spec_Mem_speaksOpen {t0 t1 : Value} {w : World} {K : Value → World → Prop} (h : F_spec_Mem_speaksOpen t0 t1 w K) : Cl P Fn.spec_Mem_speaksOpen #[t0, t1] w K :=
  cl_of_eq (T := Tb_spec_Mem_speaksOpen) (args := [t0, t1]) Tryd.func35 rfl follows_mixed (by kernel_rfl) (Nat.le_of_ble_eq_true (by kernel_rfl)) (by kernel_rfl) h

/-- (*pub-marram/spec.Mem).speaksNames -/
def F_spec_Mem_speaksNames (t0 t1 : Value) (w : World) (K : Value → World → Prop) : Prop :=
 st P (oBox T.impl_Step t1) w fun t3 w1 =>
 pu P (oFldA T.impl_Step t3 1) fun t9 =>
 st P (oLoad T.string t9) w1 fun t10 w2 =>
 st P (oCall Fn.spec_MemName #[t10]) w2 fun t11 w3 =>
 st P (oCall Fn.spec_Mem_Find #[t0, t11]) w3 fun t15 w4 =>
 pu P (oExtract t15 0) fun t16 =>
 pu P (oExtract t15 1) fun t17 =>
 jn (fun s1 u1 w5 =>
 K (tup [(.bool true)]) w5) fun k1 =>
 pu P (oFldA T.impl_Step t3 1) fun t19 =>
 st P (oLoad T.string t19) w4 fun t20 w6 =>
 st P (oCall Fn.spec_named #[t20]) w6 fun t21 w7 =>
 pu P (oUn .not t21) fun t22 =>
 cd t22 (
 K (tup [(.bool false)]) w7) (
 pu P (oFldA T.impl_Step t3 0) fun t24 =>
 st P (oLoad T.int t24) w7 fun t25 w8 =>
 pu P (oBin .eql T.int false true t25 (.int .i64 3)) fun t26 =>
 gd t26 false w8 (fun K1 => pu P (oFldA T.impl_Step t3 0) fun v => K1 v w8) fun t28 w9 =>
 gd t26 false w9 (fun K2 => st P (oLoad T.int t28) w9 K2) fun t29 w10 =>
 gd t26 false w10 (fun K3 => pu P (oBin .eql T.int false true t29 (.int .i64 4)) fun v => K3 v w10) fun t30 w11 =>
 pu P (oPick t26 (.bool true) t30) fun t31 =>
 cd t31 (
 gd t17 false w11 (fun K4 => K4 t0 w11) fun t34 w12 =>
 gd t17 false w12 (fun K5 => K5 t11 w12) fun t35 w13 =>
 gd t17 false w13 (fun K6 => st P (oCall Fn.spec_Mem_clear #[t34, t35]) w13 K6) fun t36 w14 =>
 pu P (oPick t17 (.bool true) t36) fun t37 =>
 K (tup [t37]) w14) (
 pu P (oFldA T.impl_Step t3 0) fun t39 =>
 st P (oLoad T.int t39) w11 fun t40 w15 =>
 pu P (oBin .eql T.int false true t40 (.int .i64 5)) fun t41 =>
 cd t41 (
 pu P (oBin .neq T.string false true t11 (S [47])) fun t43 =>
 gd t43 true w15 (fun K7 => K7 t0 w15) fun t45 w16 =>
 gd t43 true w16 (fun K8 => K8 t11 w16) fun t46 w17 =>
 gd t43 true w17 (fun K9 => st P (oCall Fn.spec_Mem_Children #[t45, t46]) w17 K9) fun t47 w18 =>
 gd t43 true w18 (fun K10 => pu P (oBuiltin .len #[T.sl_string] T.int #[false] #[t47]) fun v => K10 v w18) fun t48 w19 =>
 gd t43 true w19 (fun K11 => pu P (oBin .eql T.int false true t48 (.int .i64 0)) fun v => K11 v w19) fun t49 w20 =>
 pu P (oPick t43 t49 (.bool false)) fun t50 =>
 K (tup [t50]) w20) (
 pu P (oFldA T.impl_Step t3 0) fun t52 =>
 st P (oLoad T.int t52) w15 fun t53 w21 =>
 pu P (oBin .eql T.int false true t53 (.int .i64 6)) fun t54 =>
 cd t54 (
 pu P (oBin .neq T.string false true t11 (S [47])) fun t56 =>
 K (tup [t56]) w21) (
 pu P (oFldA T.impl_Step t3 0) fun t58 =>
 st P (oLoad T.int t58) w21 fun t59 w22 =>
 pu P (oBin .eql T.int false true t59 (.int .i64 7)) fun t60 =>
 cd t60 (
 pu P (oFldA T.impl_Step t3 2) fun t61 =>
 st P (oLoad T.string t61) w22 fun t62 w23 =>
 st P (oCall Fn.spec_MemName #[t62]) w23 fun t63 w24 =>
 pu P (oFldA T.impl_Step t3 2) fun t64 =>
 st P (oLoad T.string t64) w24 fun t65 w25 =>
 st P (oCall Fn.spec_named #[t65]) w25 fun t66 w26 =>
 gd t66 true w26 (fun K12 => K12 t11 w26) fun t68 w27 =>
 gd t66 true w27 (fun K13 => K13 t63 w27) fun t69 w28 =>
 gd t66 true w28 (fun K14 => pu P (oBin .eql T.string false false t68 t69) fun v => K14 v w28) fun t70 w29 =>
 gd t66 true w29 (fun K15 => K15 t70 w29) fun t71 w30 =>
 gd t71 false w30 (fun K16 => K16 t11 w30) fun t72 w31 =>
 gd t71 false w31 (fun K17 => pu P (oBin .neq T.string false true t72 (S [47])) fun v => K17 v w31) fun t73 w32 =>
 gd t71 false w32 (fun K18 => K18 t73 w32) fun t74 w33 =>
 gd t74 true w33 (fun K19 => K19 t63 w33) fun t75 w34 =>
 gd t74 true w34 (fun K20 => pu P (oBin .neq T.string false true t75 (S [47])) fun v => K20 v w34) fun t76 w35 =>
 gd t71 false w35 (fun K21 => pu P (oPick t74 t76 (.bool false)) fun v => K21 v w35) fun t77 w36 =>
 gd t71 false w36 (fun K22 => K22 t77 w36) fun t78 w37 =>
 gd t78 true w37 (fun K23 => K23 t63 w37) fun t79 w38 =>
 gd t78 true w38 (fun K24 => K24 t11 w38) fun t80 w39 =>
 gd t78 true w39 (fun K25 => st P (oCall Fn.spec_MemBelow #[t79, t80]) w39 K25) fun t81 w40 =>
 gd t78 true w40 (fun K26 => pu P (oUn .not t81) fun v => K26 v w40) fun t82 w41 =>
 gd t71 false w41 (fun K27 => pu P (oPick t78 t82 (.bool false)) fun v => K27 v w41) fun t83 w42 =>
 gd t71 false w42 (fun K28 => K28 t83 w42) fun t84 w43 =>
 gd t84 true w43 (fun K29 => K29 t0 w43) fun t85 w44 =>
 gd t84 true w44 (fun K30 => K30 t63 w44) fun t86 w45 =>
 gd t84 true w45 (fun K31 => st P (oCall Fn.spec_Mem_isDir #[t85, t86]) w45 K31) fun t87 w46 =>
 gd t84 true w46 (fun K32 => pu P (oUn .not t87) fun v => K32 v w46) fun t88 w47 =>
 gd t71 false w47 (fun K33 => pu P (oPick t84 t88 (.bool false)) fun v => K33 v w47) fun t89 w48 =>
 gd t71 false w48 (fun K34 => K34 t89 w48) fun t90 w49 =>
 gd t90 true w49 (fun K35 => K35 t0 w49) fun t91 w50 =>
 gd t90 true w50 (fun K36 => K36 t63 w50) fun t92 w51 =>
 gd t90 true w51 (fun K37 => st P (oCall Fn.spec_Mem_clear #[t91, t92]) w51 K37) fun t93 w52 =>
 gd t71 false w52 (fun K38 => pu P (oPick t90 t93 (.bool false)) fun v => K38 v w52) fun t94 w53 =>
 gd t66 true w53 (fun K39 => pu P (oPick t71 (.bool true) t94) fun v => K39 v w53) fun t95 w54 =>
 pu P (oPick t66 t95 (.bool false)) fun t96 =>
 K (tup [t96]) w54) (
 pu P (oFldA T.impl_Step t3 0) fun t98 =>
 st P (oLoad T.int t98) w22 fun t99 w55 =>
 pu P (oBin .eql T.int false true t99 (.int .i64 10)) fun t100 =>
 cd t100 (
 gd t17 true w55 (fun K40 => pu P (oFldA T.impl_Step t3 1) fun v => K40 v w55) fun t103 w56 =>
 gd t17 true w56 (fun K41 => st P (oLoad T.string t103) w56 K41) fun t104 w57 =>
 gd t17 true w57 (fun K42 => K42 t11 w57) fun t105 w58 =>
 gd t17 true w58 (fun K43 => pu P (oBin .eql T.string false false t104 t105) fun v => K43 v w58) fun t106 w59 =>
 pu P (oPick t17 t106 (.bool false)) fun t107 =>
 K (tup [t107]) w59) (
 pu P (oFldA T.impl_Step t3 0) fun t109 =>
 st P (oLoad T.int t109) w55 fun t110 w60 =>
 pu P (oBin .eql T.int false true t110 (.int .i64 11)) fun t111 =>
 cd t111 (
 pu P (oFldA T.impl_Step t3 7) fun t112 =>
 st P (oLoad T.int64 t112) w60 fun t113 w61 =>
 pu P (oBin .geq T.int64 false true t113 (.int .i64 (-1099511627776))) fun t114 =>
 gd t114 true w61 (fun K44 => pu P (oFldA T.impl_Step t3 7) fun v => K44 v w61) fun t116 w62 =>
 gd t114 true w62 (fun K45 => st P (oLoad T.int64 t116) w62 K45) fun t117 w63 =>
 gd t114 true w63 (fun K46 => pu P (oBin .leq T.int64 false true t117 (.int .i64 1099511627776)) fun v => K46 v w63) fun t118 w64 =>
 pu P (oPick t114 t118 (.bool false)) fun t119 =>
 K (tup [t119]) w64) (
 k1 [] w60)))))))
def Tb_spec_Mem_speaksNames : Tab := { join := fun n => match n with | _ => [], loop := fun n => match n with | _ => [] }
theorem S_spec_Mem_speaksNames {t0 t1 : Value} {w : World} {K : Value → World → Prop} (h : F_spec_Mem_speaksNames t0 t1 w K) : Cl P Fn.spec_Mem_speaksNames #[t0, t1] w K :=
  cl_of_eq (T := Tb_spec_Mem_speaksNames) (args := [t0, t1]) Tryd.func36 rfl follows_mixed (by kernel_rfl) (Nat.le_of_ble_eq_true (by kernel_rfl)) (by kernel_rfl) h

/-- (*pub-marram/spec.Mem).speaksFile -/
def F_spec_Mem_speaksFile (t0 t1 t2 : Value) (w : World) (K : Value → World → Prop) : Prop :=
 st P (oBox T.impl_Step t2) w fun t5 w1 =>
 pu P (oNil t0) fun t11 =>
 pu P (oFldA T.spec_Mem t11 2) fun t12 =>
 rd P (oLoad T.sl_spec_MemNode t12) w1.drew fun t13 =>
 pu P (oNil t1) fun t15 =>
 pu P (oFldA T.spec_MemHandle t15 0) fun t16 =>
 rd P (oLoad T.int t16) w1.drew fun t17 =>
 pu P (oIdxA T.sl_spec_MemNode t13 t17) fun t18 =>
 rd P (oLoad T.spec_MemNode t18) w1.drew fun t19 =>
 st P (oAlloc T.spec_MemNode) w1.drew fun t7 w2 =>
 hold P (oLoad T.spec_MemNode t18) t19 w2 ∧ hold P (oLoad T.int t16) t17 w2 ∧ hold P (oLoad T.sl_spec_MemNode t12) t13 w2 ∧ st P (oStore T.spec_MemNode t7 t19) w2 fun _ w3 =>
 jn (fun s1 u1 w4 =>
 jn (fun s2 u2 w5 =>
 jn (fun s3 u3 w6 =>
 K (tup [(.bool true)]) w6) fun k3 =>
 pu P (oFldA T.impl_Step t5 0) fun t91 =>
 st P (oLoad T.int t91) w5 fun t92 w7 =>
 pu P (oBin .eql T.int false true t92 (.int .i64 12)) fun t94 =>
 cd t94 (
 pu P (oNil t1) fun t96 =>
 pu P (oFldA T.spec_MemHandle t96 3) fun t97 =>
 st P (oLoad T.bool t97) w7 fun t98 w8 =>
 gd t98 false w8 (fun K1 => K1 t1 w8) fun t100 w9 =>
 gd t98 false w9 (fun K2 => pu P (oNil t100) fun v => K2 v w9) fun t101 w10 =>
 gd t98 false w10 (fun K3 => pu P (oFldA T.spec_MemHandle t101 1) fun v => K3 v w10) fun t102 w11 =>
 gd t98 false w11 (fun K4 => st P (oLoad T.int64 t102) w11 K4) fun t103 w12 =>
 gd t98 false w12 (fun K5 => pu P (oBin .geq T.int64 false true t103 (.int .i64 0)) fun v => K5 v w12) fun t104 w13 =>
 pu P (oPick t98 (.bool true) t104) fun t105 =>
 K (tup [t105]) w13) (
 pu P (oBin .eql T.int false true t92 (.int .i64 13)) fun t107 =>
 cd t107 (
 pu P (oFldA T.impl_Step t5 7) fun t108 =>
 st P (oLoad T.int64 t108) w7 fun t109 w14 =>
 pu P (oBin .geq T.int64 false true t109 (.int .i64 0)) fun t110 =>
 K (tup [t110]) w14) (
 pu P (oBin .eql T.int false true t92 (.int .i64 14)) fun t112 =>
 cd t112 (
 pu P (oNil t1) fun t114 =>
 pu P (oFldA T.spec_MemHandle t114 1) fun t115 =>
 st P (oLoad T.int64 t115) w7 fun t116 w15 =>
 pu P (oBin .geq T.int64 false true t116 (.int .i64 0)) fun t117 =>
 gd t117 true w15 (fun K6 => K6 t1 w15) fun t119 w16 =>
 gd t117 true w16 (fun K7 => pu P (oNil t119) fun v => K7 v w16) fun t120 w17 =>
 gd t117 true w17 (fun K8 => pu P (oFldA T.spec_MemHandle t120 1) fun v => K8 v w17) fun t121 w18 =>
 gd t117 true w18 (fun K9 => st P (oLoad T.int64 t121) w18 K9) fun t122 w19 =>
 gd t117 true w19 (fun K10 => pu P (oBin .leq T.int64 false true t122 (.int .i64 4096)) fun v => K10 v w19) fun t123 w20 =>
 pu P (oPick t117 t123 (.bool false)) fun t124 =>
 K (tup [t124]) w20) (
 pu P (oBin .eql T.int false true t92 (.int .i64 15)) fun t126 =>
 cd t126 (
 pu P (oFldA T.impl_Step t5 7) fun t127 =>
 st P (oLoad T.int64 t127) w7 fun t128 w21 =>
 pu P (oBin .geq T.int64 false true t128 (.int .i64 0)) fun t129 =>
 gd t129 true w21 (fun K11 => pu P (oFldA T.impl_Step t5 7) fun v => K11 v w21) fun t131 w22 =>
 gd t129 true w22 (fun K12 => st P (oLoad T.int64 t131) w22 K12) fun t132 w23 =>
 gd t129 true w23 (fun K13 => pu P (oBin .leq T.int64 false true t132 (.int .i64 4096)) fun v => K13 v w23) fun t133 w24 =>
 pu P (oPick t129 t133 (.bool false)) fun t134 =>
 K (tup [t134]) w24) (
 pu P (oBin .eql T.int false true t92 (.int .i64 17)) fun t136 =>
 cd t136 (
 pu P (oFldA T.impl_Step t5 7) fun t137 =>
 st P (oLoad T.int64 t137) w7 fun t138 w25 =>
 pu P (oBin .leq T.int64 false true t138 (.int .i64 4096)) fun t139 =>
 K (tup [t139]) w25) (
 pu P (oBin .eql T.int false true t92 (.int .i64 16)) fun t141 =>
 cd t141 (
 pu P (oNil t1) fun t143 =>
 pu P (oFldA T.spec_MemHandle t143 1) fun t144 =>
 st P (oLoad T.int64 t144) w7 fun t145 w26 =>
 pu P (oBin .lss T.int64 false true t145 (.int .i64 2199023255552)) fun t146 =>
 gd t146 true w26 (fun K14 => K14 t1 w26) fun t148 w27 =>
 gd t146 true w27 (fun K15 => pu P (oNil t148) fun v => K15 v w27) fun t149 w28 =>
 gd t146 true w28 (fun K16 => pu P (oFldA T.spec_MemHandle t149 1) fun v => K16 v w28) fun t150 w29 =>
 gd t146 true w29 (fun K17 => st P (oLoad T.int64 t150) w29 K17) fun t151 w30 =>
 gd t146 true w30 (fun K18 => pu P (oBin .gtr T.int64 false true t151 (.int .i64 (-2199023255552))) fun v => K18 v w30) fun t152 w31 =>
 pu P (oPick t146 t152 (.bool false)) fun t153 =>
 K (tup [t153]) w31) (
 k3 [] w7))))))) fun k2 =>
 pu P (oFldA T.spec_MemNode t7 0) fun t63 =>
 st P (oLoad T.bool t63) w4 fun t64 w32 =>
 gd t64 false w32 (fun K19 => pu P (oFldA T.impl_Step t5 6) fun v => K19 v w32) fun t66 w33 =>
 gd t64 false w33 (fun K20 => st P (oLoad T.sl_uint8 t66) w33 K20) fun t67 w34 =>
 gd t64 false w34 (fun K21 => pu P (oBuiltin .len #[T.sl_uint8] T.int #[false] #[t67]) fun v => K21 v w34) fun t68 w35 =>
 gd t64 false w35 (fun K22 => pu P (oBin .gtr T.int false true t68 (.int .i64 4096)) fun v => K22 v w35) fun t69 w36 =>
 pu P (oPick t64 (.bool true) t69) fun t70 =>
 gd t70 false w36 (fun K23 => pu P (oFldA T.impl_Step t5 9) fun v => K23 v w36) fun t72 w37 =>
 gd t70 false w37 (fun K24 => st P (oLoad T.int t72) w37 K24) fun t73 w38 =>
 gd t70 false w38 (fun K25 => pu P (oBin .lss T.int false true t73 (.int .i64 0)) fun v => K25 v w38) fun t74 w39 =>
 pu P (oPick t70 (.bool true) t74) fun t75 =>
 gd t75 false w39 (fun K26 => pu P (oFldA T.impl_Step t5 9) fun v => K26 v w39) fun t77 w40 =>
 gd t75 false w40 (fun K27 => st P (oLoad T.int t77) w40 K27) fun t78 w41 =>
 gd t75 false w41 (fun K28 => pu P (oBin .gtr T.int false true t78 (.int .i64 4096)) fun v => K28 v w41) fun t79 w42 =>
 pu P (oPick t75 (.bool true) t79) fun t80 =>
 gd t80 false w42 (fun K29 => pu P (oFldA T.impl_Step t5 7) fun v => K29 v w42) fun t82 w43 =>
 gd t80 false w43 (fun K30 => st P (oLoad T.int64 t82) w43 K30) fun t83 w44 =>
 gd t80 false w44 (fun K31 => pu P (oBin .gtr T.int64 false true t83 (.int .i64 1099511627776)) fun v => K31 v w44) fun t84 w45 =>
 pu P (oPick t80 (.bool true) t84) fun t85 =>
 gd t85 false w45 (fun K32 => pu P (oFldA T.impl_Step t5 7) fun v => K32 v w45) fun t87 w46 =>
 gd t85 false w46 (fun K33 => st P (oLoad T.int64 t87) w46 K33) fun t88 w47 =>
 gd t85 false w47 (fun K34 => pu P (oBin .lss T.int64 false true t88 (.int .i64 (-1099511627776))) fun v => K34 v w47) fun t89 w48 =>
 pu P (oPick t85 (.bool true) t89) fun t90 =>
 cd t90 (
 K (tup [(.bool false)]) w48) (
 k2 [] w48)) fun k1 =>
 pu P (oFldA T.impl_Step t5 0) fun t20 =>
 st P (oLoad T.int t20) w3 fun t21 w49 =>
 jn (fun s4 u4 w50 =>
 cd (gs s4 0) (
 pu P (oFldA T.spec_MemNode t7 4) fun t27 =>
 st P (oLoad T.string t27) w50 fun t28 w51 =>
 st P (oCall Fn.spec_Mem_Find #[t0, t28]) w51 fun t29 w52 =>
 pu P (oExtract t29 0) fun t30 =>
 pu P (oExtract t29 1) fun t31 =>
 pu P (oFldA T.spec_MemNode t7 0) fun t32 =>
 rd P (oLoad T.bool t32) w52.drew fun t33 =>
 pu P (oUn .not t33) fun t34 =>
 gd t34 false w52.drew (fun K35 => K35 t31 w52.drew) fun t36 w53 =>
 gd t34 false w53 (fun K36 => K36 t36 w53) fun t37 w54 =>
 gd t37 true w54 (fun K37 => K37 t30 w54) fun t38 w55 =>
 gd t37 true w55 (fun K38 => K38 t1 w55) fun t39 w56 =>
 gd t37 true w56 (fun K39 => pu P (oNil t39) fun v => K39 v w56) fun t40 w57 =>
 gd t37 true w57 (fun K40 => pu P (oFldA T.spec_MemHandle t40 0) fun v => K40 v w57) fun t41 w58 =>
 gd t37 true w58 (fun K41 => rd P (oLoad T.int t41) w58 fun v => K41 v w58) fun t42 w59 =>
 gd t37 true w59 (fun K42 => pu P (oBin .eql T.int false false t38 t42) fun v => K42 v w59) fun t43 w60 =>
 gd t34 false w60 (fun K43 => pu P (oPick t37 t43 (.bool false)) fun v => K43 v w60) fun t44 w61 =>
 gd t34 false w61 (fun K44 => K44 t44 w61) fun t45 w62 =>
 gd t45 true w62 (fun K45 => K45 t1 w62) fun t46 w63 =>
 gd t45 true w63 (fun K46 => pu P (oNil t46) fun v => K46 v w63) fun t47 w64 =>
 gd t45 true w64 (fun K47 => pu P (oFldA T.spec_MemHandle t47 2) fun v => K47 v w64) fun t48 w65 =>
 gd t45 true w65 (fun K48 => rd P (oLoad T.int t48) w65 fun v => K48 v w65) fun t49 w66 =>
 gd t45 true w66 (fun K49 => K49 t0 w66) fun t50 w67 =>
 gd t45 true w67 (fun K50 => pu P (oFldA T.spec_MemNode t7 4) fun v => K50 v w67) fun t51 w68 =>
 gd t45 true w68 (fun K51 => rd P (oLoad T.string t51) w68 fun v => K51 v w68) fun t52 w69 =>
 gd t45 true w69 (fun K52 => st P (oCall Fn.spec_Mem_Children #[t50, t52]) w69 K52) fun t53 w70 =>
 (isb t45 true = true → hold P (oLoad T.int t48) t49 w70) ∧ gd t45 true w70 (fun K53 => pu P (oBuiltin .len #[T.sl_string] T.int #[false] #[t53]) fun v => K53 v w70) fun t54 w71 =>
 gd t45 true w71 (fun K54 => pu P (oBin .leq T.int false false t49 t54) fun v => K54 v w71) fun t55 w72 =>
 gd t34 false w72 (fun K55 => pu P (oPick t45 t55 (.bool false)) fun v => K55 v w72) fun t56 w73 =>
 pu P (oPick t34 (.bool true) t56) fun t57 =>
 K (tup [t57]) w73) (
 jn (fun s5 u5 w74 =>
 cd (gs s5 0) (
 K (tup [(.bool true)]) w74) (
 k1 [] w74)) fun k5 =>
 pu P (oBin .eql T.int false true t21 (.int .i64 18)) fun t59 =>
 cd t59 (
 k5 [t59] w50) (
 pu P (oBin .eql T.int false true t21 (.int .i64 21)) fun t60 =>
 cd t60 (
 k5 [t60] w50) (
 pu P (oBin .eql T.int false true t21 (.int .i64 22)) fun t61 =>
 cd t61 (
 k5 [t61] w50) (
 pu P (oBin .eql T.int false true t21 (.int .i64 23)) fun t62 =>
 k5 [t62] w50))))) fun k4 =>
 pu P (oBin .eql T.int false true t21 (.int .i64 19)) fun t23 =>
 cd t23 (
 k4 [t23] w49) (
 pu P (oBin .eql T.int false true t21 (.int .i64 20)) fun t24 =>
 k4 [t24] w49)
def Tb_spec_Mem_speaksFile : Tab := { join := fun n => match n with | 5 => [22] | 11 => [58] | _ => [], loop := fun n => match n with | _ => [] }
theorem S_spec_Mem_speaksFile {t0 t1 t2 : Value} {w : World} {K : Value → World → Prop} (h : F_spec_Mem_speaksFile t0 t1 t2 w K) : Cl P Fn.spec_Mem_speaksFile #[t0, t1, t2] w K :=
  cl_of_eq (T := Tb_spec_Mem_speaksFile) (args := [t0, t1, t2]) Tryd.func37 rfl follows_mixed (by kernel_rfl) (Nat.le_of_ble_eq_true (by kernel_rfl)) (by kernel_rfl) h

/-- (*pub-marram/spec.Mem).open -/
def F_spec_Mem_open (t0 t1 t2 : Value) (w : World) (K : Value → World → Prop) : Prop :=
 st P (oBox T.impl_Step t2) w fun t5 w1 =>
 st P (oAlloc T.impl_Answer) w1 fun t6 w2 =>
 pu P (oFldA T.impl_Step t5 1) fun t11 =>
 st P (oLoad T.string t11) w2 fun t12 w3 =>
 st P (oCall Fn.spec_MemName #[t12]) w3 fun t13 w4 =>
 st P (oCall Fn.spec_Mem_Find #[t0, t13]) w4 fun t17 w5 =>
 pu P (oExtract t17 0) fun t18 =>
 pu P (oExtract t17 1) fun t19 =>
 pu P (oBuild T.spec_MemHandle #[(0, t18)]) fun t21 =>
 st P (oBox T.spec_MemHandle t21) w5 fun t22 w6 =>
 jn (fun s1 u1 w7 =>
 pu P (oNil t0) fun t133 =>
 pu P (oFldA T.spec_Mem t133 3) fun t134 =>
 st P (oLoad T.map_int_p_spec_MemHandle t134) w7 fun t135 w8 =>
 st P (oMapUp T.map_int_p_spec_MemHandle t135 t1 t22) w8 fun _ w9 =>
 pu P (oBuild T.impl_Answer #[]) fun t138 =>
 st P (oStore T.impl_Answer t6 t138) w9 fun _ w10 =>
 rsl P T.impl_Answer t6 w10 fun r1 =>
 K (tup [r1]) w10) fun k1 =>
 pu P (oFldA T.impl_Step t5 0) fun t23 =>
 st P (oLoad T.int t23) w6 fun t24 w11 =>
 pu P (oBin .eql T.int false true t24 (.int .i64 0)) fun t113 =>
 cd t113 (
 st P (oCall Fn.spec_Mem_parents #[t0, t13, (.int .i64 0)]) w11 fun t116 w12 =>
 pu P (oBuild T.spec_MemNode #[(1, (.int .i64 268435456))]) fun t120 =>
 st P (oCall Fn.spec_Mem_add #[t0, t13, t120]) w12 fun t121 w13 =>
 pu P (oNil t22) fun t122 =>
 pu P (oFldA T.spec_MemHandle t122 0) fun t123 =>
 st P (oStore T.int t123 t121) w13 fun _ w14 =>
 k1 [] w14) (
 pu P (oBin .eql T.int false true t24 (.int .i64 1)) fun t125 =>
 cd t125 (
 jn (fun s2 u2 w15 =>
 pu P (oNil t22) fun t130 =>
 pu P (oFldA T.spec_MemHandle t130 4) fun t131 =>
 st P (oStore T.bool t131 (.bool true)) w15 fun _ w16 =>
 k1 [] w16) fun k2 =>
 pu P (oUn .not t19) fun t127 =>
 cd t127 (
 pu P (oBuild T.impl_Answer #[(0, (.int .i64 1))]) fun t128 =>
 st P (oStore T.impl_Answer t6 t128) w11 fun _ w17 =>
 rsl P T.impl_Answer t6 w17 fun r2 =>
 K (tup [r2]) w17) (
 k2 [] w11)) (
 jn (fun s3 u3 w18 =>
 jn (fun s4 u4 w19 =>
 jn (fun s5 u5 w20 =>
 pu P (oFldA T.impl_Step t5 3) fun t58 =>
 st P (oLoad T.int t58) w20 fun t59 w21 =>
 pu P (oBin .eql T.int false true t59 (.int .i64 0)) fun t60 =>
 pu P (oNil t22) fun t61 =>
 pu P (oFldA T.spec_MemHandle t61 4) fun t62 =>
 st P (oStore T.bool t62 t60) w21 fun _ w22 =>
 jn (fun s6 u6 w23 =>
 pu P (oFldA T.impl_Step t5 3) fun t82 =>
 st P (oLoad T.int t82) w23 fun t83 w24 =>
 pu P (oBin .and T.int false true t83 (.int .i64 512)) fun t84 =>
 pu P (oBin .neq T.int false true t84 (.int .i64 0)) fun t85 =>
 gd t85 true w24 (fun K1 => pu P (oFldA T.impl_Step t5 3) fun v => K1 v w24) fun t87 w25 =>
 gd t85 true w25 (fun K2 => st P (oLoad T.int t87) w25 K2) fun t88 w26 =>
 gd t85 true w26 (fun K3 => pu P (oBin .and T.int false true t88 (.int .i64 3)) fun v => K3 v w26) fun t89 w27 =>
 gd t85 true w27 (fun K4 => pu P (oBin .neq T.int false true t89 (.int .i64 0)) fun v => K4 v w27) fun t90 w28 =>
 pu P (oPick t85 t90 (.bool false)) fun t91 =>
 cd t91 (
 pu P (oNil t0) fun t93 =>
 pu P (oFldA T.spec_Mem t93 2) fun t94 =>
 rd P (oLoad T.sl_spec_MemNode t94) w28.drew fun t95 =>
 pu P (oNil t22) fun t97 =>
 pu P (oFldA T.spec_MemHandle t97 0) fun t98 =>
 rd P (oLoad T.int t98) w28.drew fun t99 =>
 pu P (oNil t0) fun t101 =>
 pu P (oFldA T.spec_Mem t101 2) fun t102 =>
 rd P (oLoad T.sl_spec_MemNode t102) w28.drew fun t103 =>
 pu P (oNil t22) fun t105 =>
 pu P (oFldA T.spec_MemHandle t105 0) fun t106 =>
 rd P (oLoad T.int t106) w28.drew fun t107 =>
 pu P (oIdxA T.sl_spec_MemNode t95 t99) fun t108 =>
 pu P (oFldA T.spec_MemNode t108 2) fun t109 =>
 st P (oStore T.sl_uint8 t109 (.slice none 0 0)) w28.drew fun _ w29 =>
 pu P (oIdxA T.sl_spec_MemNode t103 t107) fun t110 =>
 pu P (oFldA T.spec_MemNode t110 3) fun t111 =>
 st P (oStore T.int64 t111 (.int .i64 0)) w29 fun _ w30 =>
 k1 [] w30) (
 k1 [] w28)) fun k6 =>
 pu P (oFldA T.impl_Step t5 3) fun t63 =>
 st P (oLoad T.int t63) w22 fun t64 w31 =>
 pu P (oBin .and T.int false true t64 (.int .i64 1024)) fun t65 =>
 pu P (oBin .neq T.int false true t65 (.int .i64 0)) fun t66 =>
 cd t66 (
 pu P (oNil t0) fun t69 =>
 pu P (oFldA T.spec_Mem t69 2) fun t70 =>
 rd P (oLoad T.sl_spec_MemNode t70) w31.drew fun t71 =>
 pu P (oNil t22) fun t73 =>
 pu P (oFldA T.spec_MemHandle t73 0) fun t74 =>
 rd P (oLoad T.int t74) w31.drew fun t75 =>
 pu P (oIdxA T.sl_spec_MemNode t71 t75) fun t76 =>
 pu P (oFldA T.spec_MemNode t76 2) fun t77 =>
 rd P (oLoad T.sl_uint8 t77) w31.drew fun t78 =>
 pu P (oBuiltin .len #[T.sl_uint8] T.int #[false] #[t78]) fun t79 =>
 pu P (oNil t22) fun t80 =>
 pu P (oFldA T.spec_MemHandle t80 1) fun t81 =>
 st P (oStore T.int64 t81 t79) w31.drew fun _ w32 =>
 k6 [] w32) (
 k6 [] w31)) fun k5 =>
 pu P (oUn .not t19) fun t43 =>
 cd t43 (
 st P (oCall Fn.spec_Mem_parents #[t0, t13, (.int .i64 0)]) w19 fun t46 w33 =>
 pu P (oFldA T.impl_Step t5 4) fun t50 =>
 st P (oLoad T.int t50) w33 fun t51 w34 =>
 pu P (oBin .and T.int false true t51 (.int .i64 13631999)) fun t52 =>
 pu P (oBuild T.spec_MemNode #[(1, t52)]) fun t53 =>
 st P (oCall Fn.spec_Mem_add #[t0, t13, t53]) w34 fun t54 w35 =>
 pu P (oNil t22) fun t55 =>
 pu P (oFldA T.spec_MemHandle t55 0) fun t56 =>
 st P (oStore T.int t56 t54) w35 fun _ w36 =>
 k5 [] w36) (
 k5 [] w19)) fun k4 =>
 pu P (oUn .not t19) fun t34 =>
 gd t34 true w18 (fun K5 => pu P (oFldA T.impl_Step t5 3) fun v => K5 v w18) fun t36 w37 =>
 gd t34 true w37 (fun K6 => st P (oLoad T.int t36) w37 K6) fun t37 w38 =>
 gd t34 true w38 (fun K7 => pu P (oBin .and T.int false true t37 (.int .i64 64)) fun v => K7 v w38) fun t38 w39 =>
 gd t34 true w39 (fun K8 => pu P (oBin .eql T.int false true t38 (.int .i64 0)) fun v => K8 v w39) fun t39 w40 =>
 pu P (oPick t34 t39 (.bool false)) fun t40 =>
 cd t40 (
 pu P (oBuild T.impl_Answer #[(0, (.int .i64 1))]) fun t41 =>
 st P (oStore T.impl_Answer t6 t41) w40 fun _ w41 =>
 rsl P T.impl_Answer t6 w41 fun r3 =>
 K (tup [r3]) w41) (
 k4 [] w40)) fun k3 =>
 gd t19 true w11 (fun K9 => pu P (oFldA T.impl_Step t5 3) fun v => K9 v w11) fun t27 w42 =>
 gd t19 true w42 (fun K10 => st P (oLoad T.int t27) w42 K10) fun t28 w43 =>
 gd t19 true w43 (fun K11 => pu P (oBin .and T.int false true t28 (.int .i64 128)) fun v => K11 v w43) fun t29 w44 =>
 gd t19 true w44 (fun K12 => pu P (oBin .neq T.int false true t29 (.int .i64 0)) fun v => K12 v w44) fun t30 w45 =>
 pu P (oPick t19 t30 (.bool false)) fun t31 =>
 cd t31 (
 pu P (oBuild T.impl_Answer #[(0, (.int .i64 2))]) fun t32 =>
 st P (oStore T.impl_Answer t6 t32) w45 fun _ w46 =>
 rsl P T.impl_Answer t6 w46 fun r4 =>
 K (tup [r4]) w46) (
 k3 [] w45)))
def Tb_spec_Mem_open : Tab := { join := fun n => match n with | _ => [], loop := fun n => match n with | _ => [] }
theorem S_spec_Mem_open {t0 t1 t2 : Value} {w : World} {K : Value → World → Prop} (h : F_spec_Mem_open t0 t1 t2 w K) : Cl P Fn.spec_Mem_open #[t0, t1, t2] w K :=
  cl_of_eq (T := Tb_spec_Mem_open) (args := [t0, t1, t2]) Tryd.func38 rfl follows_mixed (by kernel_rfl) (Nat.le_of_ble_eq_true (by kernel_rfl)) (by kernel_rfl) h

/-- (*pub-marram/spec.Mem).names -/
def F_spec_Mem_names (t0 t1 : Value) (w : World) (K : Value → World → Prop) : Prop :=
 st P (oBox T.impl_Step t1) w fun t3 w1 =>
 st P (oAlloc T.impl_Answer) w1 fun t4 w2 =>
 pu P (oFldA T.impl_Step t3 1) fun t10 =>
 st P (oLoad T.string t10) w2 fun t11 w3 =>
 st P (oCall Fn.spec_MemName #[t11]) w3 fun t12 w4 =>
 jn (fun s1 u1 w5 =>
 st P (oCall Fn.spec_Mem_Find #[t0, t12]) w5 fun t26 w6 =>
 pu P (oExtract t26 0) fun t27 =>
 pu P (oExtract t26 1) fun t28 =>
 jn (fun s2 u2 w7 =>
 jn (fun s3 u3 w8 =>
 jn (fun s4 u4 w9 =>
 pu P (oBuild T.impl_Answer #[]) fun t142 =>
 st P (oStore T.impl_Answer t4 t142) w9 fun _ w10 =>
 rsl P T.impl_Answer t4 w10 fun r1 =>
 K (tup [r1]) w10) fun k4 =>
 pu P (oFldA T.impl_Step t3 0) fun t95 =>
 st P (oLoad T.int t95) w8 fun t96 w11 =>
 pu P (oBin .eql T.int false true t96 (.int .i64 5)) fun t98 =>
 cd t98 (
 st P (oCall Fn.spec_Mem_drop #[t0, t12]) w11 fun t101 w12 =>
 k4 [] w12) (
 pu P (oBin .eql T.int false true t96 (.int .i64 8)) fun t103 =>
 cd t103 (
 st P (oCall Fn.spec_Mem_info #[t0, t27]) w11 fun t106 w13 =>
 st P (oBuildSlice T.sl_impl_Info 1 #[(0, t106)]) w13 fun t107 w14 =>
 pu P (oBuild T.impl_Answer #[(5, t107)]) fun t108 =>
 st P (oStore T.impl_Answer t4 t108) w14 fun _ w15 =>
 rsl P T.impl_Answer t4 w15 fun r2 =>
 K (tup [r2]) w15) (
 pu P (oBin .eql T.int false true t96 (.int .i64 9)) fun t110 =>
 cd t110 (
 pu P (oNil t0) fun t112 =>
 pu P (oFldA T.spec_Mem t112 2) fun t113 =>
 rd P (oLoad T.sl_spec_MemNode t113) w11.drew fun t114 =>
 pu P (oNil t0) fun t117 =>
 pu P (oFldA T.spec_Mem t117 2) fun t118 =>
 rd P (oLoad T.sl_spec_MemNode t118) w11.drew fun t119 =>
 pu P (oIdxA T.sl_spec_MemNode t119 t27) fun t121 =>
 pu P (oFldA T.spec_MemNode t121 1) fun t122 =>
 rd P (oLoad T.int t122) w11.drew fun t123 =>
 pu P (oBin .andNot T.int false true t123 (.int .i64 13631999)) fun t124 =>
 pu P (oFldA T.impl_Step t3 4) fun t125 =>
 rd P (oLoad T.int t125) w11.drew fun t126 =>
 pu P (oBin .and T.int false true t126 (.int .i64 13631999)) fun t127 =>
 pu P (oBin .or T.int false false t124 t127) fun t128 =>
 pu P (oIdxA T.sl_spec_MemNode t114 t27) fun t129 =>
 pu P (oFldA T.spec_MemNode t129 1) fun t130 =>
 st P (oStore T.int t130 t128) w11.drew fun _ w16 =>
 k4 [] w16) (
 pu P (oBin .eql T.int false true t96 (.int .i64 11)) fun t132 =>
 cd t132 (
 pu P (oNil t0) fun t134 =>
 pu P (oFldA T.spec_Mem t134 2) fun t135 =>
 rd P (oLoad T.sl_spec_MemNode t135) w11.drew fun t136 =>
 pu P (oFldA T.impl_Step t3 7) fun t138 =>
 rd P (oLoad T.int64 t138) w11.drew fun t139 =>
 pu P (oIdxA T.sl_spec_MemNode t136 t27) fun t140 =>
 pu P (oFldA T.spec_MemNode t140 3) fun t141 =>
 st P (oStore T.int64 t141 t139) w11.drew fun _ w17 =>
 k4 [] w17) (
 k4 [] w11))))) fun k3 =>
 pu P (oUn .not t28) fun t93 =>
 cd t93 (
 pu P (oBuild T.impl_Answer #[(0, (.int .i64 1))]) fun t94 =>
 st P (oStore T.impl_Answer t4 t94) w7 fun _ w18 =>
 rsl P T.impl_Answer t4 w18 fun r3 =>
 K (tup [r3]) w18) (
 k3 [] w7)) fun k2 =>
 pu P (oFldA T.impl_Step t3 0) fun t29 =>
 st P (oLoad T.int t29) w6 fun t30 w19 =>
 jn (fun s5 u5 w20 =>
 cd (gs s5 0) (
 jn (fun s6 u6 w21 =>
 jn (fun s7 u7 w22 =>
 pu P (oBuild T.impl_Answer #[]) fun t57 =>
 st P (oStore T.impl_Answer t4 t57) w22 fun _ w23 =>
 rsl P T.impl_Answer t4 w23 fun r4 =>
 K (tup [r4]) w23) fun k7 =>
 pu P (oUn .not t28) fun t42 =>
 cd t42 (
 pu P (oFldA T.impl_Step t3 4) fun t45 =>
 st P (oLoad T.int t45) w21 fun t46 w24 =>
 pu P (oBin .and T.int false true t46 (.int .i64 13631999)) fun t47 =>
 st P (oCall Fn.spec_Mem_parents #[t0, t12, t47]) w24 fun t48 w25 =>
 pu P (oFldA T.impl_Step t3 4) fun t51 =>
 st P (oLoad T.int t51) w25 fun t52 w26 =>
 pu P (oBin .and T.int false true t52 (.int .i64 13631999)) fun t53 =>
 pu P (oBin .or T.int true false (.int .i64 2147483648) t53) fun t54 =>
 pu P (oBuild T.spec_MemNode #[(0, (.bool true)), (1, t54)]) fun t55 =>
 st P (oCall Fn.spec_Mem_add #[t0, t12, t55]) w26 fun t56 w27 =>
 k7 [] w27) (
 k7 [] w21)) fun k6 =>
 gd t28 true w20 (fun K1 => pu P (oFldA T.impl_Step t3 0) fun v => K1 v w20) fun t36 w28 =>
 gd t28 true w28 (fun K2 => st P (oLoad T.int t36) w28 K2) fun t37 w29 =>
 gd t28 true w29 (fun K3 => pu P (oBin .eql T.int false true t37 (.int .i64 3)) fun v => K3 v w29) fun t38 w30 =>
 pu P (oPick t28 t38 (.bool false)) fun t39 =>
 cd t39 (
 pu P (oBuild T.impl_Answer #[(0, (.int .i64 2))]) fun t40 =>
 st P (oStore T.impl_Answer t4 t40) w30 fun _ w31 =>
 rsl P T.impl_Answer t4 w31 fun r5 =>
 K (tup [r5]) w31) (
 k6 [] w30)) (
 pu P (oBin .eql T.int false true t30 (.int .i64 6)) fun t59 =>
 cd t59 (
 jn (fun s8 u8 w32 =>
 pu P (oBuild T.impl_Answer #[]) fun t83 =>
 st P (oStore T.impl_Answer t4 t83) w32 fun _ w33 =>
 rsl P T.impl_Answer t4 w33 fun r6 =>
 K (tup [r6]) w33) fun k8 =>
 st P (oBuildSlice T.sl_string 0 #[]) w20 fun t60 w34 =>
 pu P (oNil t0) fun t62 =>
 pu P (oFldA T.spec_Mem t62 0) fun t63 =>
 st P (oLoad T.sl_string t63) w34 fun t64 w35 =>
 st P (oBuiltin .append #[T.sl_string, T.sl_string] T.sl_string #[false, false] #[t60, t64]) w35 fun t65 w36 =>
 pu P (oBuiltin .len #[T.sl_string] T.int #[false] #[t65]) fun t66 =>
 lp [(.int .i64 0)] w36 fun s9 u9 w37 C1 =>
 pu P (oBin .lss T.int false false (gs s9 0) t66) fun t68 =>
 jn (fun s10 u10 w38 =>
 jn (fun s11 u11 w39 =>
 pu P (oBin .add T.int false true (gs s9 0) (.int .i64 1)) fun t82 =>
 C1 [t82] w39) fun k10 =>
 pu P (oIdxA T.sl_string t65 (gs s9 0)) fun t69 =>
 st P (oLoad T.string t69) w38 fun t70 w40 =>
 pu P (oBin .eql T.string false false t70 t12) fun t73 =>
 gd t73 false w40 (fun K4 => K4 t70 w40) fun t75 w41 =>
 gd t73 false w41 (fun K5 => K5 t12 w41) fun t76 w42 =>
 gd t73 false w42 (fun K6 => st P (oCall Fn.spec_MemBelow #[t75, t76]) w42 K6) fun t77 w43 =>
 pu P (oPick t73 (.bool true) t77) fun t78 =>
 cd t78 (
 st P (oCall Fn.spec_Mem_drop #[t0, t70]) w43 fun t81 w44 =>
 k10 [] w44) (
 k10 [] w43)) fun k9 =>
 cd t68 (
 k9 [] w37) (
 k8 [] w37)) (
 pu P (oBin .eql T.int false true t30 (.int .i64 7)) fun t85 =>
 cd t85 (
 pu P (oFldA T.impl_Step t3 2) fun t88 =>
 st P (oLoad T.string t88) w20 fun t89 w45 =>
 st P (oCall Fn.spec_MemName #[t89]) w45 fun t90 w46 =>
 st P (oCall Fn.spec_Mem_rename #[t0, t12, t90]) w46 fun t91 w47 =>
 st P (oStore T.impl_Answer t4 t91) w47 fun _ w48 =>
 rsl P T.impl_Answer t4 w48 fun r7 =>
 K (tup [r7]) w48) (
 k2 [] w20)))) fun k5 =>
 pu P (oBin .eql T.int false true t30 (.int .i64 3)) fun t32 =>
 cd t32 (
 k5 [t32] w19) (
 pu P (oBin .eql T.int false true t30 (.int .i64 4)) fun t33 =>
 k5 [t33] w19)) fun k1 =>
 pu P (oFldA T.impl_Step t3 0) fun t13 =>
 st P (oLoad T.int t13) w4 fun t14 w49 =>
 pu P (oBin .eql T.int false true t14 (.int .i64 9)) fun t15 =>
 gd t15 true w49 (fun K7 => K7 t12 w49) fun t17 w50 =>
 gd t15 true w50 (fun K8 => pu P (oFldA T.impl_Step t3 1) fun v => K8 v w50) fun t18 w51 =>
 gd t15 true w51 (fun K9 => st P (oLoad T.string t18) w51 K9) fun t19 w52 =>
 gd t15 true w52 (fun K10 => pu P (oBin .neq T.string false false t17 t19) fun v => K10 v w52) fun t20 w53 =>
 pu P (oPick t15 t20 (.bool false)) fun t21 =>
 cd t21 (
 pu P (oBuild T.impl_Answer #[(0, (.int .i64 1))]) fun t22 =>
 st P (oStore T.impl_Answer t4 t22) w53 fun _ w54 =>
 rsl P T.impl_Answer t4 w54 fun r8 =>
 K (tup [r8]) w54) (
 k1 [] w53)
def Tb_spec_Mem_names : Tab := { join := fun n => match n with | 8 => [31] | _ => [], loop := fun n => match n with | 16 => [67] | _ => [] }
theorem S_spec_Mem_names {t0 t1 : Value} {w : World} {K : Value → World → Prop} (h : F_spec_Mem_names t0 t1 w K) : Cl P Fn.spec_Mem_names #[t0, t1] w K :=
  cl_of_eq (T := Tb_spec_Mem_names) (args := [t0, t1]) Tryd.func39 rfl follows_mixed (by kernel_rfl) (Nat.le_of_ble_eq_true (by kernel_rfl)) (by kernel_rfl) h

/-- (*pub-marram/spec.Mem).file -/
def F_spec_Mem_file (t0 t1 t2 : Value) (w : World) (K : Value → World → Prop) : Prop :=
 st P (oBox T.impl_Step t2) w fun t5 w1 =>
 st P (oAlloc T.impl_Answer) w1 fun t6 w2 =>
 pu P (oNil t0) fun t13 =>
 pu P (oFldA T.spec_Mem t13 2) fun t14 =>
 rd P (oLoad T.sl_spec_MemNode t14) w2.drew fun t15 =>
 pu P (oNil t1) fun t17 =>
 pu P (oFldA T.spec_MemHandle t17 0) fun t18 =>
 rd P (oLoad T.int t18) w2.drew fun t19 =>
 pu P (oIdxA T.sl_spec_MemNode t15 t19) fun t20 =>
 jn (fun s1 u1 w3 =>
 jn (fun s2 u2 w4 =>
 jn (fun s3 u3 w5 =>
 jn (fun s4 u4 w6 =>
 jn (fun s5 u5 w7 =>
 jn (fun s6 u6 w8 =>
 jn (fun s7 u7 w9 =>
 pu P (oFldA T.impl_Step t5 6) fun t294 =>
 st P (oLoad T.sl_uint8 t294) w9 fun t295 w10 =>
 pu P (oBuiltin .len #[T.sl_uint8] T.int #[false] #[t295]) fun t296 =>
 pu P (oBuild T.impl_Answer #[(1, t296)]) fun t297 =>
 st P (oStore T.impl_Answer t6 t297) w10 fun _ w11 =>
 rsl P T.impl_Answer t6 w11 fun r1 =>
 K (tup [r1]) w11) fun k7 =>
 pu P (oFldA T.impl_Step t5 0) fun t212 =>
 st P (oLoad T.int t212) w8 fun t213 w12 =>
 pu P (oBin .eql T.int false true t213 (.int .i64 17)) fun t215 =>
 cd t215 (
 pu P (oNil t20) fun t219 =>
 pu P (oFldA T.spec_MemNode t219 2) fun t220 =>
 rd P (oLoad T.sl_uint8 t220) w12.drew fun t221 =>
 pu P (oNil t20) fun t223 =>
 pu P (oFldA T.spec_MemNode t223 2) fun t224 =>
 rd P (oLoad T.sl_uint8 t224) w12.drew fun t225 =>
 pu P (oBuiltin .len #[T.sl_uint8] T.int #[false] #[t225]) fun t226 =>
 pu P (oFldA T.impl_Step t5 7) fun t227 =>
 rd P (oLoad T.int64 t227) w12.drew fun t228 =>
 pu P (oBuiltin .min #[T.int64, T.int64] T.int64 #[false, false] #[t226, t228]) fun t229 =>
 pu P (oSlice T.sl_uint8 t221 none (some t229) none) fun t230 =>
 pu P (oFldA T.impl_Step t5 7) fun t231 =>
 rd P (oLoad T.int64 t231) w12.drew fun t232 =>
 st P (oCall Fn.spec_grown #[t230, t232]) w12.drew fun t233 w13 =>
 pu P (oNil t20) fun t234 =>
 pu P (oFldA T.spec_MemNode t234 2) fun t235 =>
 st P (oStore T.sl_uint8 t235 t233) w13 fun _ w14 =>
 pu P (oNil t20) fun t236 =>
 pu P (oFldA T.spec_MemNode t236 3) fun t237 =>
 st P (oStore T.int64 t237 (.int .i64 0)) w14 fun _ w15 =>
 pu P (oBuild T.impl_Answer #[]) fun t238 =>
 st P (oStore T.impl_Answer t6 t238) w15 fun _ w16 =>
 rsl P T.impl_Answer t6 w16 fun r2 =>
 K (tup [r2]) w16) (
 pu P (oBin .eql T.int false true t213 (.int .i64 14)) fun t240 =>
 cd t240 (
 pu P (oNil t20) fun t244 =>
 pu P (oFldA T.spec_MemNode t244 2) fun t245 =>
 rd P (oLoad T.sl_uint8 t245) w12.drew fun t246 =>
 pu P (oNil t1) fun t248 =>
 pu P (oFldA T.spec_MemHandle t248 1) fun t249 =>
 rd P (oLoad T.int64 t249) w12.drew fun t250 =>
 pu P (oFldA T.impl_Step t5 6) fun t251 =>
 rd P (oLoad T.sl_uint8 t251) w12.drew fun t252 =>
 st P (oCall Fn.spec_overwritten #[t246, t250, t252]) w12.drew fun t253 w17 =>
 pu P (oNil t20) fun t254 =>
 pu P (oFldA T.spec_MemNode t254 2) fun t255 =>
 st P (oStore T.sl_uint8 t255 t253) w17 fun _ w18 =>
 pu P (oNil t20) fun t256 =>
 pu P (oFldA T.spec_MemNode t256 3) fun t257 =>
 st P (oStore T.int64 t257 (.int .i64 0)) w18 fun _ w19 =>
 pu P (oNil t1) fun t259 =>
 pu P (oFldA T.spec_MemHandle t259 1) fun t260 =>
 rd P (oLoad T.int64 t260) w19.drew fun t261 =>
 pu P (oFldA T.impl_Step t5 6) fun t262 =>
 rd P (oLoad T.sl_uint8 t262) w19.drew fun t263 =>
 pu P (oBuiltin .len #[T.sl_uint8] T.int #[false] #[t263]) fun t264 =>
 pu P (oBin .add T.int64 false false t261 t264) fun t265 =>
 pu P (oNil t1) fun t266 =>
 pu P (oFldA T.spec_MemHandle t266 1) fun t267 =>
 st P (oStore T.int64 t267 t265) w19.drew fun _ w20 =>
 k7 [] w20) (
 pu P (oBin .eql T.int false true t213 (.int .i64 15)) fun t269 =>
 cd t269 (
 pu P (oNil t20) fun t273 =>
 pu P (oFldA T.spec_MemNode t273 2) fun t274 =>
 rd P (oLoad T.sl_uint8 t274) w12.drew fun t275 =>
 pu P (oFldA T.impl_Step t5 7) fun t276 =>
 rd P (oLoad T.int64 t276) w12.drew fun t277 =>
 pu P (oFldA T.impl_Step t5 6) fun t278 =>
 rd P (oLoad T.sl_uint8 t278) w12.drew fun t279 =>
 st P (oCall Fn.spec_overwritten #[t275, t277, t279]) w12.drew fun t280 w21 =>
 pu P (oNil t20) fun t281 =>
 pu P (oFldA T.spec_MemNode t281 2) fun t282 =>
 st P (oStore T.sl_uint8 t282 t280) w21 fun _ w22 =>
 pu P (oNil t20) fun t283 =>
 pu P (oFldA T.spec_MemNode t283 3) fun t284 =>
 st P (oStore T.int64 t284 (.int .i64 0)) w22 fun _ w23 =>
 pu P (oFldA T.impl_Step t5 7) fun t286 =>
 st P (oLoad T.int64 t286) w23 fun t287 w24 =>
 pu P (oFldA T.impl_Step t5 6) fun t288 =>
 st P (oLoad T.sl_uint8 t288) w24 fun t289 w25 =>
 pu P (oBuiltin .len #[T.sl_uint8] T.int #[false] #[t289]) fun t290 =>
 pu P (oBin .add T.int64 false false t287 t290) fun t291 =>
 pu P (oNil t1) fun t292 =>
 pu P (oFldA T.spec_MemHandle t292 1) fun t293 =>
 st P (oStore T.int64 t293 t291) w25 fun _ w26 =>
 k7 [] w26) (
 k7 [] w12)))) fun k6 =>
 pu P (oFldA T.impl_Step t5 0) fun t179 =>
 st P (oLoad T.int t179) w7 fun t180 w27 =>
 pu P (oBin .eql T.int false true t180 (.int .i64 14)) fun t181 =>
 gd t181 true w27 (fun K1 => K1 t1 w27) fun t183 w28 =>
 gd t181 true w28 (fun K2 => pu P (oNil t183) fun v => K2 v w28) fun t184 w29 =>
 gd t181 true w29 (fun K3 => pu P (oFldA T.spec_MemHandle t184 1) fun v => K3 v w29) fun t185 w30 =>
 gd t181 true w30 (fun K4 => st P (oLoad T.int64 t185) w30 K4) fun t186 w31 =>
 gd t181 true w31 (fun K5 => pu P (oBin .lss T.int64 false true t186 (.int .i64 0)) fun v => K5 v w31) fun t187 w32 =>
 gd t181 true w32 (fun K6 => K6 t187 w32) fun t188 w33 =>
 gd t188 false w33 (fun K7 => K7 t1 w33) fun t189 w34 =>
 gd t188 false w34 (fun K8 => pu P (oNil t189) fun v => K8 v w34) fun t190 w35 =>
 gd t188 false w35 (fun K9 => pu P (oFldA T.spec_MemHandle t190 1) fun v => K9 v w35) fun t191 w36 =>
 gd t188 false w36 (fun K10 => st P (oLoad T.int64 t191) w36 K10) fun t192 w37 =>
 gd t188 false w37 (fun K11 => pu P (oBin .gtr T.int64 false true t192 (.int .i64 1048576)) fun v => K11 v w37) fun t193 w38 =>
 gd t181 true w38 (fun K12 => pu P (oPick t188 (.bool true) t193) fun v => K12 v w38) fun t194 w39 =>
 pu P (oPick t181 t194 (.bool false)) fun t195 =>
 gd t195 false w39 (fun K13 => pu P (oFldA T.impl_Step t5 0) fun v => K13 v w39) fun t197 w40 =>
 gd t195 false w40 (fun K14 => st P (oLoad T.int t197) w40 K14) fun t198 w41 =>
 gd t195 false w41 (fun K15 => pu P (oBin .neq T.int false true t198 (.int .i64 14)) fun v => K15 v w41) fun t199 w42 =>
 gd t195 false w42 (fun K16 => K16 t199 w42) fun t200 w43 =>
 gd t200 true w43 (fun K17 => pu P (oFldA T.impl_Step t5 7) fun v => K17 v w43) fun t201 w44 =>
 gd t200 true w44 (fun K18 => st P (oLoad T.int64 t201) w44 K18) fun t202 w45 =>
 gd t200 true w45 (fun K19 => pu P (oBin .lss T.int64 false true t202 (.int .i64 0)) fun v => K19 v w45) fun t203 w46 =>
 gd t200 true w46 (fun K20 => K20 t203 w46) fun t204 w47 =>
 gd t204 false w47 (fun K21 => pu P (oFldA T.impl_Step t5 7) fun v => K21 v w47) fun t205 w48 =>
 gd t204 false w48 (fun K22 => st P (oLoad T.int64 t205) w48 K22) fun t206 w49 =>
 gd t204 false w49 (fun K23 => pu P (oBin .gtr T.int64 false true t206 (.int .i64 1048576)) fun v => K23 v w49) fun t207 w50 =>
 gd t200 true w50 (fun K24 => pu P (oPick t204 (.bool true) t207) fun v => K24 v w50) fun t208 w51 =>
 gd t195 false w51 (fun K25 => pu P (oPick t200 t208 (.bool false)) fun v => K25 v w51) fun t209 w52 =>
 pu P (oPick t195 (.bool true) t209) fun t210 =>
 cd t210 (
 pu P (oBuild T.impl_Answer #[(0, (.int .i64 13))]) fun t211 =>
 st P (oStore T.impl_Answer t6 t211) w52 fun _ w53 =>
 rsl P T.impl_Answer t6 w53 fun r3 =>
 K (tup [r3]) w53) (
 k6 [] w52)) fun k5 =>
 pu P (oFldA T.impl_Step t5 0) fun t170 =>
 st P (oLoad T.int t170) w6 fun t171 w54 =>
 pu P (oBin .eql T.int false true t171 (.int .i64 17)) fun t172 =>
 gd t172 true w54 (fun K26 => pu P (oFldA T.impl_Step t5 7) fun v => K26 v w54) fun t174 w55 =>
 gd t172 true w55 (fun K27 => st P (oLoad T.int64 t174) w55 K27) fun t175 w56 =>
 gd t172 true w56 (fun K28 => pu P (oBin .lss T.int64 false true t175 (.int .i64 0)) fun v => K28 v w56) fun t176 w57 =>
 pu P (oPick t172 t176 (.bool false)) fun t177 =>
 cd t177 (
 pu P (oBuild T.impl_Answer #[(0, (.int .i64 7))]) fun t178 =>
 st P (oStore T.impl_Answer t6 t178) w57 fun _ w58 =>
 rsl P T.impl_Answer t6 w58 fun r4 =>
 K (tup [r4]) w58) (
 k5 [] w57)) fun k4 =>
 pu P (oNil t1) fun t158 =>
 pu P (oFldA T.spec_MemHandle t158 4) fun t159 =>
 st P (oLoad T.bool t159) w5 fun t160 w59 =>
 cd t160 (
 jn (fun s8 u8 w60 =>
 pu P (oBuild T.impl_Answer #[(0, (.int .i64 6))]) fun t169 =>
 st P (oStore T.impl_Answer t6 t169) w60 fun _ w61 =>
 rsl P T.impl_Answer t6 w61 fun r5 =>
 K (tup [r5]) w61) fun k8 =>
 pu P (oFldA T.impl_Step t5 0) fun t161 =>
 st P (oLoad T.int t161) w59 fun t162 w62 =>
 pu P (oBin .eql T.int false true t162 (.int .i64 15)) fun t163 =>
 cd t163 (
 pu P (oFldA T.impl_Step t5 7) fun t165 =>
 st P (oLoad T.int64 t165) w62 fun t166 w63 =>
 pu P (oNil t1) fun t167 =>
 pu P (oFldA T.spec_MemHandle t167 1) fun t168 =>
 st P (oStore T.int64 t168 t166) w63 fun _ w64 =>
 k8 [] w64) (
 k8 [] w62)) (
 k4 [] w59)) fun k3 =>
 pu P (oFldA T.impl_Step t5 0) fun t70 =>
 st P (oLoad T.int t70) w4 fun t71 w65 =>
 pu P (oBin .eql T.int false true t71 (.int .i64 12)) fun t73 =>
 cd t73 (
 pu P (oNil t20) fun t76 =>
 pu P (oFldA T.spec_MemNode t76 2) fun t77 =>
 rd P (oLoad T.sl_uint8 t77) w65.drew fun t78 =>
 pu P (oNil t1) fun t80 =>
 pu P (oFldA T.spec_MemHandle t80 1) fun t81 =>
 rd P (oLoad T.int64 t81) w65.drew fun t82 =>
 pu P (oFldA T.impl_Step t5 9) fun t83 =>
 rd P (oLoad T.int t83) w65.drew fun t84 =>
 st P (oCall Fn.spec_readFrom #[t78, t82, t84]) w65.drew fun t85 w66 =>
 pu P (oExtract t85 0) fun t86 =>
 pu P (oExtract t85 1) fun t87 =>
 pu P (oNil t1) fun t89 =>
 pu P (oFldA T.spec_MemHandle t89 1) fun t90 =>
 st P (oLoad T.int64 t90) w66 fun t91 w67 =>
 pu P (oBuiltin .len #[T.sl_uint8] T.int #[false] #[t86]) fun t93 =>
 pu P (oBin .add T.int64 false false t91 t93) fun t94 =>
 pu P (oNil t1) fun t95 =>
 pu P (oFldA T.spec_MemHandle t95 1) fun t96 =>
 st P (oStore T.int64 t96 t94) w67 fun _ w68 =>
 pu P (oBuild T.impl_Answer #[(0, t87), (3, t86)]) fun t99 =>
 st P (oStore T.impl_Answer t6 t99) w68 fun _ w69 =>
 rsl P T.impl_Answer t6 w69 fun r6 =>
 K (tup [r6]) w69) (
 pu P (oBin .eql T.int false true t71 (.int .i64 13)) fun t101 =>
 cd t101 (
 pu P (oNil t20) fun t104 =>
 pu P (oFldA T.spec_MemNode t104 2) fun t105 =>
 rd P (oLoad T.sl_uint8 t105) w65.drew fun t106 =>
 pu P (oFldA T.impl_Step t5 7) fun t107 =>
 rd P (oLoad T.int64 t107) w65.drew fun t108 =>
 pu P (oFldA T.impl_Step t5 9) fun t109 =>
 rd P (oLoad T.int t109) w65.drew fun t110 =>
 st P (oCall Fn.spec_readFrom #[t106, t108, t110]) w65.drew fun t111 w70 =>
 pu P (oExtract t111 0) fun t112 =>
 pu P (oExtract t111 1) fun t113 =>
 pu P (oBuild T.impl_Answer #[(0, t113), (3, t112)]) fun t116 =>
 st P (oStore T.impl_Answer t6 t116) w70 fun _ w71 =>
 rsl P T.impl_Answer t6 w71 fun r7 =>
 K (tup [r7]) w71) (
 pu P (oBin .eql T.int false true t71 (.int .i64 16)) fun t118 =>
 cd t118 (
 jn (fun s9 u9 w72 =>
 pu P (oNil t1) fun t153 =>
 pu P (oFldA T.spec_MemHandle t153 1) fun t154 =>
 st P (oLoad T.int64 t154) w72 fun t155 w73 =>
 pu P (oBuild T.impl_Answer #[(2, t155)]) fun t156 =>
 st P (oStore T.impl_Answer t6 t156) w73 fun _ w74 =>
 rsl P T.impl_Answer t6 w74 fun r8 =>
 K (tup [r8]) w74) fun k9 =>
 pu P (oFldA T.impl_Step t5 8) fun t119 =>
 st P (oLoad T.int t119) w65 fun t120 w75 =>
 pu P (oBin .eql T.int false true t120 (.int .i64 0)) fun t122 =>
 cd t122 (
 pu P (oFldA T.impl_Step t5 7) fun t124 =>
 st P (oLoad T.int64 t124) w75 fun t125 w76 =>
 pu P (oNil t1) fun t126 =>
 pu P (oFldA T.spec_MemHandle t126 1) fun t127 =>
 st P (oStore T.int64 t127 t125) w76 fun _ w77 =>
 k9 [] w77) (
 pu P (oBin .eql T.int false true t120 (.int .i64 1)) fun t129 =>
 cd t129 (
 pu P (oNil t1) fun t131 =>
 pu P (oFldA T.spec_MemHandle t131 1) fun t132 =>
 rd P (oLoad T.int64 t132) w75.drew fun t133 =>
 pu P (oFldA T.impl_Step t5 7) fun t134 =>
 rd P (oLoad T.int64 t134) w75.drew fun t135 =>
 pu P (oBin .add T.int64 false false t133 t135) fun t136 =>
 pu P (oNil t1) fun t137 =>
 pu P (oFldA T.spec_MemHandle t137 1) fun t138 =>
 st P (oStore T.int64 t138 t136) w75.drew fun _ w78 =>
 k9 [] w78) (
 pu P (oBin .eql T.int false true t120 (.int .i64 2)) fun t140 =>
 cd t140 (
 pu P (oNil t20) fun t143 =>
 pu P (oFldA T.spec_MemNode t143 2) fun t144 =>
 rd P (oLoad T.sl_uint8 t144) w75.drew fun t145 =>
 pu P (oBuiltin .len #[T.sl_uint8] T.int #[false] #[t145]) fun t146 =>
 pu P (oFldA T.impl_Step t5 7) fun t147 =>
 rd P (oLoad T.int64 t147) w75.drew fun t148 =>
 pu P (oBin .add T.int64 false false t146 t148) fun t149 =>
 pu P (oNil t1) fun t150 =>
 pu P (oFldA T.spec_MemHandle t150 1) fun t151 =>
 st P (oStore T.int64 t151 t149) w75.drew fun _ w79 =>
 k9 [] w79) (
 k9 [] w75)))) (
 k3 [] w65)))) fun k2 =>
 pu P (oNil t1) fun t66 =>
 pu P (oFldA T.spec_MemHandle t66 3) fun t67 =>
 st P (oLoad T.bool t67) w3 fun t68 w80 =>
 cd t68 (
 pu P (oBuild T.impl_Answer #[(0, (.int .i64 3))]) fun t69 =>
 st P (oStore T.impl_Answer t6 t69) w80 fun _ w81 =>
 rsl P T.impl_Answer t6 w81 fun r9 =>
 K (tup [r9]) w81) (
 k2 [] w80)) fun k1 =>
 pu P (oFldA T.impl_Step t5 0) fun t21 =>
 st P (oLoad T.int t21) w2.drew fun t22 w82 =>
 pu P (oBin .eql T.int false true t22 (.int .i64 18)) fun t24 =>
 cd t24 (
 pu P (oNil t1) fun t26 =>
 pu P (oFldA T.spec_MemHandle t26 3) fun t27 =>
 st P (oStore T.bool t27 (.bool true)) w82 fun _ w83 =>
 jn (fun s10 u10 w84 =>
 pu P (oBuild T.impl_Answer #[]) fun t36 =>
 st P (oStore T.impl_Answer t6 t36) w84 fun _ w85 =>
 rsl P T.impl_Answer t6 w85 fun r10 =>
 K (tup [r10]) w85) fun k10 =>
 pu P (oNil t1) fun t29 =>
 pu P (oFldA T.spec_MemHandle t29 4) fun t30 =>
 st P (oLoad T.bool t30) w83 fun t31 w86 =>
 pu P (oUn .not t31) fun t32 =>
 cd t32 (
 pu P (oNil t20) fun t34 =>
 pu P (oFldA T.spec_MemNode t34 3) fun t35 =>
 st P (oStore T.int64 t35 (.int .i64 0)) w86 fun _ w87 =>
 k10 [] w87) (
 k10 [] w86)) (
 pu P (oBin .eql T.int false true t22 (.int .i64 21)) fun t38 =>
 cd t38 (
 pu P (oNil t1) fun t41 =>
 pu P (oFldA T.spec_MemHandle t41 0) fun t42 =>
 st P (oLoad T.int t42) w82 fun t43 w88 =>
 st P (oCall Fn.spec_Mem_info #[t0, t43]) w88 fun t44 w89 =>
 st P (oBuildSlice T.sl_impl_Info 1 #[(0, t44)]) w89 fun t45 w90 =>
 pu P (oBuild T.impl_Answer #[(5, t45)]) fun t46 =>
 st P (oStore T.impl_Answer t6 t46) w90 fun _ w91 =>
 rsl P T.impl_Answer t6 w91 fun r11 =>
 K (tup [r11]) w91) (
 pu P (oBin .eql T.int false true t22 (.int .i64 22)) fun t48 =>
 cd t48 (
 pu P (oNil t20) fun t50 =>
 pu P (oFldA T.spec_MemNode t50 4) fun t51 =>
 st P (oLoad T.string t51) w82 fun t52 w92 =>
 st P (oBuildSlice T.sl_string 1 #[(0, t52)]) w92 fun t53 w93 =>
 pu P (oBuild T.impl_Answer #[(4, t53)]) fun t54 =>
 st P (oStore T.impl_Answer t6 t54) w93 fun _ w94 =>
 rsl P T.impl_Answer t6 w94 fun r12 =>
 K (tup [r12]) w94) (
 pu P (oBin .eql T.int false true t22 (.int .i64 23)) fun t56 =>
 cd t56 (
 pu P (oBuild T.impl_Answer #[]) fun t57 =>
 st P (oStore T.impl_Answer t6 t57) w82 fun _ w95 =>
 rsl P T.impl_Answer t6 w95 fun r13 =>
 K (tup [r13]) w95) (
 jn (fun s11 u11 w96 =>
 cd (gs s11 0) (
 st P (oLoad T.impl_Step t5) w96 fun t63 w97 =>
 st P (oCall Fn.spec_Mem_list #[t0, t1, t63]) w97 fun t64 w98 =>
 st P (oStore T.impl_Answer t6 t64) w98 fun _ w99 =>
 rsl P T.impl_Answer t6 w99 fun r14 =>
 K (tup [r14]) w99) (
 k1 [] w96)) fun k11 =>
 pu P (oBin .eql T.int false true t22 (.int .i64 19)) fun t59 =>
 cd t59 (
 k11 [t59] w82) (
 pu P (oBin .eql T.int false true t22 (.int .i64 20)) fun t60 =>
 k11 [t60] w82)))))
def Tb_spec_Mem_file : Tab := { join := fun n => match n with | 16 => [58] | _ => [], loop := fun n => match n with | _ => [] }
theorem S_spec_Mem_file {t0 t1 t2 : Value} {w : World} {K : Value → World → Prop} (h : F_spec_Mem_file t0 t1 t2 w K) : Cl P Fn.spec_Mem_file #[t0, t1, t2] w K :=
  cl_of_eq (T := Tb_spec_Mem_file) (args := [t0, t1, t2]) Tryd.func40 rfl follows_mixed (by kernel_rfl) (Nat.le_of_ble_eq_true (by kernel_rfl)) (by kernel_rfl) h

/-- pub-marram/pub/afero/mem.CreateFile -/
def F_mem_CreateFile (t0 : Value) (w : World) (K : Value → World → Prop) : Prop :=
 pu P (oBuild T.mem_FileData #[(0, t0), (4, (.int .u32 268435456))]) fun t4 =>
 st P (oBox T.mem_FileData t4) w fun t5 w1 =>
 K (tup [t5]) w1
def Tb_mem_CreateFile : Tab := { join := fun n => match n with | _ => [], loop := fun n => match n with | _ => [] }
theorem S_mem_CreateFile {t0 : Value} {w : World} {K : Value → World → Prop} (h : F_mem_CreateFile t0 w K) : Cl P Fn.mem_CreateFile #[t0] w K :=
  cl_of_eq (T := Tb_mem_CreateFile) (args := [t0]) Tryd.func41 rfl follows_mixed (by kernel_rfl) (Nat.le_of_ble_eq_true (by kernel_rfl)) (by kernel_rfl) h

/-- (*pub-marram/pub/afero/mem.File).Read -/
def F_mem_File_Read (t0 t1 : Value) (w : World) (K : Value → World → Prop) : Prop :=
 jn (fun s1 u1 w1 =>
 jn (fun s2 u2 w2 =>
 jn (fun s3 u3 w3 =>
 jn (fun s4 u4 w4 =>
 pu P (oNil t0) fun t77 =>
 pu P (oFldA T.mem_File t77 4) fun t78 =>
 rd P (oLoad T.p_mem_FileData t78) w4.drew fun t79 =>
 pu P (oNil t79) fun t80 =>
 pu P (oFldA T.mem_FileData t80 1) fun t81 =>
 rd P (oLoad T.sl_uint8 t81) w4.drew fun t82 =>
 pu P (oNil t0) fun t84 =>
 pu P (oFldA T.mem_File t84 0) fun t85 =>
 rd P (oLoad T.int64 t85) w4.drew fun t86 =>
 pu P (oNil t0) fun t88 =>
 pu P (oFldA T.mem_File t88 0) fun t89 =>
 rd P (oLoad T.int64 t89) w4.drew fun t90 =>
 pu P (oBin .add T.int64 false false t90 (gs s4 0)) fun t92 =>
 pu P (oSlice T.sl_uint8 t82 (some t86) (some t92) none) fun t93 =>
 st P (oBuiltin .copy #[T.sl_uint8, T.sl_uint8] T.int #[false, false] #[t1, t93]) w4.drew fun t94 w5 =>
 pu P (oNil t0) fun t96 =>
 pu P (oFldA T.mem_File t96 0) fun t97 =>
 st P (oLoad T.int64 t97) w5 fun t98 w6 =>
 pu P (oBin .add T.int64 false false t98 (gs s4 0)) fun t100 =>
 pu P (oNil t0) fun t101 =>
 pu P (oFldA T.mem_File t101 0) fun t102 =>
 st P (oStore T.int64 t102 t100) w6 fun _ w7 =>
 K (tup [(gs s4 0), (gs s3 0)]) w7) fun k4 =>
 pu P (oNil t0) fun t45 =>
 pu P (oFldA T.mem_File t45 4) fun t46 =>
 rd P (oLoad T.p_mem_FileData t46) w3.drew fun t47 =>
 pu P (oNil t47) fun t48 =>
 pu P (oFldA T.mem_FileData t48 1) fun t49 =>
 rd P (oLoad T.sl_uint8 t49) w3.drew fun t50 =>
 pu P (oBuiltin .len #[T.sl_uint8] T.int #[false] #[t50]) fun t51 =>
 pu P (oNil t0) fun t53 =>
 pu P (oFldA T.mem_File t53 0) fun t54 =>
 rd P (oLoad T.int64 t54) w3.drew fun t55 =>
 pu P (oBin .sub T.int false false t51 t55) fun t56 =>
 pu P (oBuiltin .len #[T.sl_uint8] T.int #[false] #[t1]) fun t58 =>
 pu P (oBin .geq T.int false false t56 t58) fun t59 =>
 cd t59 (
 pu P (oBuiltin .len #[T.sl_uint8] T.int #[false] #[t1]) fun t61 =>
 k4 [t61] w3.drew) (
 pu P (oNil t0) fun t63 =>
 pu P (oFldA T.mem_File t63 4) fun t64 =>
 rd P (oLoad T.p_mem_FileData t64) w3.drew.drew fun t65 =>
 pu P (oNil t65) fun t66 =>
 pu P (oFldA T.mem_FileData t66 1) fun t67 =>
 rd P (oLoad T.sl_uint8 t67) w3.drew.drew fun t68 =>
 pu P (oBuiltin .len #[T.sl_uint8] T.int #[false] #[t68]) fun t69 =>
 pu P (oNil t0) fun t71 =>
 pu P (oFldA T.mem_File t71 0) fun t72 =>
 rd P (oLoad T.int64 t72) w3.drew.drew fun t73 =>
 pu P (oBin .sub T.int false false t69 t73) fun t74 =>
 k4 [t74] w3.drew.drew)) fun k3 =>
 pu P (oNil t0) fun t31 =>
 pu P (oFldA T.mem_File t31 0) fun t32 =>
 rd P (oLoad T.int64 t32) w2.drew fun t33 =>
 pu P (oNil t0) fun t35 =>
 pu P (oFldA T.mem_File t35 4) fun t36 =>
 rd P (oLoad T.p_mem_FileData t36) w2.drew fun t37 =>
 pu P (oNil t37) fun t38 =>
 pu P (oFldA T.mem_FileData t38 1) fun t39 =>
 rd P (oLoad T.sl_uint8 t39) w2.drew fun t40 =>
 pu P (oBuiltin .len #[T.sl_uint8] T.int #[false] #[t40]) fun t41 =>
 pu P (oBin .gtr T.int false false t33 t41) fun t42 =>
 cd t42 (
 rd P (oLoad T.error (.pointer (some ⟨G.io_ErrUnexpectedEOF, 0, none⟩))) w2.drew.drew fun t43 =>
 K (tup [(.int .i64 0), t43]) w2.drew.drew) (
 k3 [(gs s2 0)] w2.drew)) fun k2 =>
 pu P (oBuiltin .len #[T.sl_uint8] T.int #[false] #[t1]) fun t12 =>
 pu P (oBin .gtr T.int false true t12 (.int .i64 0)) fun t13 =>
 gd t13 true w1.drew (fun K1 => K1 t0 w1.drew) fun t15 w8 =>
 gd t13 true w8 (fun K2 => pu P (oNil t15) fun v => K2 v w8) fun t16 w9 =>
 gd t13 true w9 (fun K3 => pu P (oFldA T.mem_File t16 0) fun v => K3 v w9) fun t17 w10 =>
 gd t13 true w10 (fun K4 => rd P (oLoad T.int64 t17) w10 fun v => K4 v w10) fun t18 w11 =>
 gd t13 true w11 (fun K5 => K5 t0 w11) fun t19 w12 =>
 gd t13 true w12 (fun K6 => pu P (oNil t19) fun v => K6 v w12) fun t20 w13 =>
 gd t13 true w13 (fun K7 => pu P (oFldA T.mem_File t20 4) fun v => K7 v w13) fun t21 w14 =>
 gd t13 true w14 (fun K8 => rd P (oLoad T.p_mem_FileData t21) w14 fun v => K8 v w14) fun t22 w15 =>
 gd t13 true w15 (fun K9 => pu P (oNil t22) fun v => K9 v w15) fun t23 w16 =>
 gd t13 true w16 (fun K10 => pu P (oFldA T.mem_FileData t23 1) fun v => K10 v w16) fun t24 w17 =>
 gd t13 true w17 (fun K11 => rd P (oLoad T.sl_uint8 t24) w17 fun v => K11 v w17) fun t25 w18 =>
 gd t13 true w18 (fun K12 => pu P (oBuiltin .len #[T.sl_uint8] T.int #[false] #[t25]) fun v => K12 v w18) fun t26 w19 =>
 gd t13 true w19 (fun K13 => pu P (oBin .eql T.int false false t18 t26) fun v => K13 v w19) fun t27 w20 =>
 pu P (oPick t13 t27 (.bool false)) fun t28 =>
 cd t28 (
 rd P (oLoad T.error (.pointer (some ⟨G.io_EOF, 0, none⟩))) w20.drew fun t29 =>
 K (tup [(.int .i64 0), t29]) w20.drew) (
 k2 [(gs s1 0)] w20)) fun k1 =>
 pu P (oNil t0) fun t7 =>
 pu P (oFldA T.mem_File t7 2) fun t8 =>
 st P (oLoad T.bool t8) w fun t9 w21 =>
 cd t9 (
 rd P (oLoad T.error (.pointer (some ⟨G.mem_ErrFileClosed, 0, none⟩))) w21.drew fun t10 =>
 K (tup [(.int .i64 0), t10]) w21.drew) (
 k1 [.nilIface] w21)
def Tb_mem_File_Read : Tab := { join := fun n => match n with | 3 => [5] | 5 => [5] | 7 => [5] | 10 => [4] | _ => [], loop := fun n => match n with | _ => [] }
theorem S_mem_File_Read {t0 t1 : Value} {w : World} {K : Value → World → Prop} (h : F_mem_File_Read t0 t1 w K) : Cl P Fn.mem_File_Read #[t0, t1] w K :=
  cl_of_eq (T := Tb_mem_File_Read) (args := [t0, t1]) Tryd.func42 rfl follows_mixed (by kernel_rfl) (Nat.le_of_ble_eq_true (by kernel_rfl)) (by kernel_rfl) h

/-- (*pub-marram/pub/afero/mem.File).ReadAt -/
def F_mem_File_ReadAt (t0 t1 t2 : Value) (w : World) (K : Value → World → Prop) : Prop :=
 pu P (oNil t0) fun t10 =>
 pu P (oFldA T.mem_File t10 0) fun t11 =>
 st P (oLoad T.int64 t11) w fun t12 w1 =>
 pu P (oNil t0) fun t15 =>
 pu P (oFldA T.mem_File t15 0) fun t16 =>
 st P (oStore T.int64 t16 t2) w1 fun _ w2 =>
 st P (oCall Fn.mem_File_Read #[t0, t1]) w2 fun t20 w3 =>
 pu P (oExtract t20 0) fun t21 =>
 pu P (oExtract t20 1) fun t22 =>
 pu P (oNil t0) fun t25 =>
 pu P (oFldA T.mem_File t25 0) fun t26 =>
 st P (oStore T.int64 t26 t12) w3 fun _ w4 =>
 K (tup [t21, t22]) w4
def Tb_mem_File_ReadAt : Tab := { join := fun n => match n with | _ => [], loop := fun n => match n with | _ => [] }
theorem S_mem_File_ReadAt {t0 t1 t2 : Value} {w : World} {K : Value → World → Prop} (h : F_mem_File_ReadAt t0 t1 t2 w K) : Cl P Fn.mem_File_ReadAt #[t0, t1, t2] w K :=
  cl_of_eq (T := Tb_mem_File_ReadAt) (args := [t0, t1, t2]) Tryd.func43 rfl follows_mixed (by kernel_rfl) (Nat.le_of_ble_eq_true (by kernel_rfl)) (by kernel_rfl) h

/-- (*pub-marram/pub/afero/mem.File).Write -/
def F_mem_File_Write (t0 t1 : Value) (w : World) (K : Value → World → Prop) : Prop :=
 jn (fun s1 u1 w1 =>
 jn (fun s2 u2 w2 =>
 pu P (oBuiltin .len #[T.sl_uint8] T.int #[false] #[t1]) fun t30 =>
 pu P (oNil t0) fun t32 =>
 pu P (oFldA T.mem_File t32 0) fun t33 =>
 st P (oLoad T.int64 t33) w2 fun t34 w3 =>
 pu P (oNil t0) fun t37 =>
 pu P (oFldA T.mem_File t37 4) fun t38 =>
 st P (oLoad T.p_mem_FileData t38) w3 fun t39 w4 =>
 pu P (oNil t39) fun t40 =>
 pu P (oFldA T.mem_FileData t40 1) fun t41 =>
 st P (oLoad T.sl_uint8 t41) w4 fun t42 w5 =>
 pu P (oBuiltin .len #[T.sl_uint8] T.int #[false] #[t42]) fun t43 =>
 pu P (oBin .sub T.int64 false false t34 t43) fun t44 =>
 jn (fun s3 u3 w6 =>
 jn (fun s4 u4 w7 =>
 pu P (oNil t0) fun t136 =>
 pu P (oFldA T.mem_File t136 4) fun t137 =>
 st P (oLoad T.p_mem_FileData t137) w7 fun t138 w8 =>
 st P (oCall Fn.mem_setModTime #[t138, (.int .i64 0)]) w8 fun t139 w9 =>
 pu P (oNil t0) fun t141 =>
 pu P (oFldA T.mem_File t141 0) fun t142 =>
 st P (oLoad T.int64 t142) w9 fun t143 w10 =>
 pu P (oBin .add T.int64 false false t143 t30) fun t145 =>
 pu P (oNil t0) fun t146 =>
 pu P (oFldA T.mem_File t146 0) fun t147 =>
 st P (oStore T.int64 t147 t145) w10 fun _ w11 =>
 K (tup [t30, (gs s2 0)]) w11) fun k4 =>
 pu P (oBin .gtr T.int64 false true t44 (.int .i64 0)) fun t69 =>
 cd t69 (
 pu P (oNil t0) fun t71 =>
 pu P (oFldA T.mem_File t71 4) fun t72 =>
 rd P (oLoad T.p_mem_FileData t72) w6.drew fun t73 =>
 pu P (oNil t0) fun t75 =>
 pu P (oFldA T.mem_File t75 4) fun t76 =>
 rd P (oLoad T.p_mem_FileData t76) w6.drew fun t77 =>
 pu P (oNil t77) fun t78 =>
 pu P (oFldA T.mem_FileData t78 1) fun t79 =>
 rd P (oLoad T.sl_uint8 t79) w6.drew fun t80 =>
 st P (oMkSlice T.sl_uint8 t44 t44) w6.drew fun t82 w12 =>
 hold P (oLoad T.sl_uint8 t79) t80 w12 ∧ hold P (oLoad T.p_mem_FileData t76) t77 w12 ∧ hold P (oLoad T.p_mem_FileData t72) t73 w12 ∧ st P (oBuiltin .append #[T.sl_uint8, T.sl_uint8] T.sl_uint8 #[false, false] #[t82, t1]) w12 fun t84 w13 =>
 hold P (oLoad T.sl_uint8 t79) t80 w13 ∧ hold P (oLoad T.p_mem_FileData t76) t77 w13 ∧ hold P (oLoad T.p_mem_FileData t72) t73 w13 ∧ st P (oBuiltin .append #[T.sl_uint8, T.sl_uint8] T.sl_uint8 #[false, false] #[t80, t84]) w13 fun t85 w14 =>
 hold P (oLoad T.p_mem_FileData t72) t73 w14 ∧ pu P (oNil t73) fun t86 =>
 pu P (oFldA T.mem_FileData t86 1) fun t87 =>
 st P (oStore T.sl_uint8 t87 t85) w14 fun _ w15 =>
 pu P (oNil t0) fun t89 =>
 pu P (oFldA T.mem_File t89 4) fun t90 =>
 rd P (oLoad T.p_mem_FileData t90) w15.drew fun t91 =>
 pu P (oNil t0) fun t93 =>
 pu P (oFldA T.mem_File t93 4) fun t94 =>
 rd P (oLoad T.p_mem_FileData t94) w15.drew fun t95 =>
 pu P (oNil t95) fun t96 =>
 pu P (oFldA T.mem_FileData t96 1) fun t97 =>
 rd P (oLoad T.sl_uint8 t97) w15.drew fun t98 =>
 st P (oBuiltin .append #[T.sl_uint8, T.sl_uint8] T.sl_uint8 #[false, false] #[t98, (gs s3 0)]) w15.drew fun t100 w16 =>
 hold P (oLoad T.p_mem_FileData t90) t91 w16 ∧ pu P (oNil t91) fun t101 =>
 pu P (oFldA T.mem_FileData t101 1) fun t102 =>
 st P (oStore T.sl_uint8 t102 t100) w16 fun _ w17 =>
 k4 [] w17) (
 pu P (oNil t0) fun t104 =>
 pu P (oFldA T.mem_File t104 4) fun t105 =>
 rd P (oLoad T.p_mem_FileData t105) w6.drew fun t106 =>
 pu P (oNil t0) fun t108 =>
 pu P (oFldA T.mem_File t108 4) fun t109 =>
 rd P (oLoad T.p_mem_FileData t109) w6.drew fun t110 =>
 pu P (oNil t110) fun t111 =>
 pu P (oFldA T.mem_FileData t111 1) fun t112 =>
 rd P (oLoad T.sl_uint8 t112) w6.drew fun t113 =>
 pu P (oSlice T.sl_uint8 t113 none (some t34) none) fun t115 =>
 st P (oBuiltin .append #[T.sl_uint8, T.sl_uint8] T.sl_uint8 #[false, false] #[t115, t1]) w6.drew fun t117 w18 =>
 hold P (oLoad T.p_mem_FileData t105) t106 w18 ∧ pu P (oNil t106) fun t118 =>
 pu P (oFldA T.mem_FileData t118 1) fun t119 =>
 st P (oStore T.sl_uint8 t119 t117) w18 fun _ w19 =>
 pu P (oNil t0) fun t121 =>
 pu P (oFldA T.mem_File t121 4) fun t122 =>
 rd P (oLoad T.p_mem_FileData t122) w19.drew fun t123 =>
 pu P (oNil t0) fun t125 =>
 pu P (oFldA T.mem_File t125 4) fun t126 =>
 rd P (oLoad T.p_mem_FileData t126) w19.drew fun t127 =>
 pu P (oNil t127) fun t128 =>
 pu P (oFldA T.mem_FileData t128 1) fun t129 =>
 rd P (oLoad T.sl_uint8 t129) w19.drew fun t130 =>
 st P (oBuiltin .append #[T.sl_uint8, T.sl_uint8] T.sl_uint8 #[false, false] #[t130, (gs s3 0)]) w19.drew fun t132 w20 =>
 hold P (oLoad T.p_mem_FileData t122) t123 w20 ∧ pu P (oNil t123) fun t133 =>
 pu P (oFldA T.mem_FileData t133 1) fun t134 =>
 st P (oStore T.sl_uint8 t134 t132) w20 fun _ w21 =>
 k4 [] w21)) fun k3 =>
 pu P (oBin .add T.int false false t30 t34) fun t47 =>
 pu P (oNil t0) fun t49 =>
 pu P (oFldA T.mem_File t49 4) fun t50 =>
 st P (oLoad T.p_mem_FileData t50) w5 fun t51 w22 =>
 pu P (oNil t51) fun t52 =>
 pu P (oFldA T.mem_FileData t52 1) fun t53 =>
 st P (oLoad T.sl_uint8 t53) w22 fun t54 w23 =>
 pu P (oBuiltin .len #[T.sl_uint8] T.int #[false] #[t54]) fun t55 =>
 pu P (oBin .lss T.int false false t47 t55) fun t56 =>
 cd t56 (
 pu P (oNil t0) fun t58 =>
 pu P (oFldA T.mem_File t58 4) fun t59 =>
 st P (oLoad T.p_mem_FileData t59) w23 fun t60 w24 =>
 pu P (oNil t60) fun t61 =>
 pu P (oFldA T.mem_FileData t61 1) fun t62 =>
 st P (oLoad T.sl_uint8 t62) w24 fun t63 w25 =>
 pu P (oBin .add T.int false false t30 t34) fun t66 =>
 pu P (oSlice T.sl_uint8 t63 (some t66) none none) fun t67 =>
 k3 [t67] w25) (
 k3 [(.slice none 0 0)] w23)) fun k2 =>
 pu P (oNil t0) fun t15 =>
 pu P (oFldA T.mem_File t15 3) fun t16 =>
 st P (oLoad T.bool t16) w1 fun t17 w26 =>
 cd t17 (
 pu P (oNil t0) fun t19 =>
 pu P (oFldA T.mem_File t19 4) fun t20 =>
 rd P (oLoad T.p_mem_FileData t20) w26.drew fun t21 =>
 pu P (oNil t21) fun t22 =>
 pu P (oFldA T.mem_FileData t22 0) fun t23 =>
 rd P (oLoad T.string t23) w26.drew fun t24 =>
 st P (oCall Fn.errors_New #[(S [102, 105, 108, 101, 32, 104, 97, 110, 100, 108, 101, 32, 105, 115, 32, 114, 101, 97, 100, 32, 111, 110, 108, 121])]) w26.drew fun t25 w27 =>
 hold P (oLoad T.string t23) t24 w27 ∧ hold P (oLoad T.p_mem_FileData t20) t21 w27 ∧ pu P (oBuild T.os_PathError #[(0, (S [119, 114, 105, 116, 101])), (1, t24), (2, t25)]) fun t26 =>
 st P (oBox T.os_PathError t26) w27 fun t27 w28 =>
 pu P (oMkIface T.p_os_PathError t27) fun t28 =>
 K (tup [(.int .i64 0), t28]) w28) (
 k2 [(gs s1 0)] w26)) fun k1 =>
 pu P (oNil t0) fun t10 =>
 pu P (oFldA T.mem_File t10 2) fun t11 =>
 st P (oLoad T.bool t11) w fun t12 w29 =>
 cd t12 (
 rd P (oLoad T.error (.pointer (some ⟨G.mem_ErrFileClosed, 0, none⟩))) w29.drew fun t13 =>
 K (tup [(.int .i64 0), t13]) w29.drew) (
 k1 [.nilIface] w29)
def Tb_mem_File_Write : Tab := { join := fun n => match n with | 3 => [5] | 5 => [5] | 11 => [8] | _ => [], loop := fun n => match n with | _ => [] }
theorem S_mem_File_Write {t0 t1 : Value} {w : World} {K : Value → World → Prop} (h : F_mem_File_Write t0 t1 w K) : Cl P Fn.mem_File_Write #[t0, t1] w K :=
  cl_of_eq (T := Tb_mem_File_Write) (args := [t0, t1]) Tryd.func44 rfl follows_mixed (by kernel_rfl) (Nat.le_of_ble_eq_true (by kernel_rfl)) (by kernel_rfl) h

/-- (*pub-marram/pub/afero/mem.File).WriteAt -/
def F_mem_File_WriteAt (t0 t1 t2 : Value) (w : World) (K : Value → World → Prop) : Prop :=
 pu P (oNil t0) fun t10 =>
 pu P (oFldA T.mem_File t10 0) fun t11 =>
 st P (oStore T.int64 t11 t2) w fun _ w1 =>
 st P (oCall Fn.mem_File_Write #[t0, t1]) w1 fun t14 w2 =>
 pu P (oExtract t14 0) fun t15 =>
 pu P (oExtract t14 1) fun t16 =>
 K (tup [t15, t16]) w2
def Tb_mem_File_WriteAt : Tab := { join := fun n => match n with | _ => [], loop := fun n => match n with | _ => [] }
theorem S_mem_File_WriteAt {t0 t1 t2 : Value} {w : World} {K : Value → World → Prop} (h : F_mem_File_WriteAt t0 t1 t2 w K) : Cl P Fn.mem_File_WriteAt #[t0, t1, t2] w K :=
  cl_of_eq (T := Tb_mem_File_WriteAt) (args := [t0, t1, t2]) Tryd.func45 rfl follows_mixed (by kernel_rfl) (Nat.le_of_ble_eq_true (by kernel_rfl)) (by kernel_rfl) h

/-- (*pub-marram/pub/afero/mem.File).Seek -/
def F_mem_File_Seek (t0 t1 t2 : Value) (w : World) (K : Value → World → Prop) : Prop :=
 jn (fun s1 u1 w1 =>
 jn (fun s2 u2 w2 =>
 pu P (oNil t0) fun t46 =>
 pu P (oFldA T.mem_File t46 0) fun t47 =>
 st P (oLoad T.int64 t47) w2 fun t48 w3 =>
 K (tup [t48, .nilIface]) w3) fun k2 =>
 pu P (oBin .eql T.int false true t2 (.int .i64 0)) fun t15 =>
 cd t15 (
 pu P (oNil t0) fun t18 =>
 pu P (oFldA T.mem_File t18 0) fun t19 =>
 st P (oStore T.int64 t19 t1) w1 fun _ w4 =>
 k2 [] w4) (
 pu P (oBin .eql T.int false true t2 (.int .i64 1)) fun t21 =>
 cd t21 (
 pu P (oNil t0) fun t23 =>
 pu P (oFldA T.mem_File t23 0) fun t24 =>
 st P (oLoad T.int64 t24) w1 fun t25 w5 =>
 pu P (oBin .add T.int64 false false t25 t1) fun t27 =>
 pu P (oNil t0) fun t28 =>
 pu P (oFldA T.mem_File t28 0) fun t29 =>
 st P (oStore T.int64 t29 t27) w5 fun _ w6 =>
 k2 [] w6) (
 pu P (oBin .eql T.int false true t2 (.int .i64 2)) fun t31 =>
 cd t31 (
 pu P (oNil t0) fun t34 =>
 pu P (oFldA T.mem_File t34 4) fun t35 =>
 st P (oLoad T.p_mem_FileData t35) w1 fun t36 w7 =>
 pu P (oNil t36) fun t37 =>
 pu P (oFldA T.mem_FileData t37 1) fun t38 =>
 st P (oLoad T.sl_uint8 t38) w7 fun t39 w8 =>
 pu P (oBuiltin .len #[T.sl_uint8] T.int #[false] #[t39]) fun t40 =>
 pu P (oBin .add T.int64 false false t40 t1) fun t42 =>
 pu P (oNil t0) fun t43 =>
 pu P (oFldA T.mem_File t43 0) fun t44 =>
 st P (oStore T.int64 t44 t42) w8 fun _ w9 =>
 k2 [] w9) (
 k2 [] w1)))) fun k1 =>
 pu P (oNil t0) fun t9 =>
 pu P (oFldA T.mem_File t9 2) fun t10 =>
 st P (oLoad T.bool t10) w fun t11 w10 =>
 cd t11 (
 rd P (oLoad T.error (.pointer (some ⟨G.mem_ErrFileClosed, 0, none⟩))) w10.drew fun t12 =>
 K (tup [(.int .i64 0), t12]) w10.drew) (
 k1 [] w10)
def Tb_mem_File_Seek : Tab := { join := fun n => match n with | _ => [], loop := fun n => match n with | _ => [] }
theorem S_mem_File_Seek {t0 t1 t2 : Value} {w : World} {K : Value → World → Prop} (h : F_mem_File_Seek t0 t1 t2 w K) : Cl P Fn.mem_File_Seek #[t0, t1, t2] w K :=
  cl_of_eq (T := Tb_mem_File_Seek) (args := [t0, t1, t2]) Tryd.func46 rfl follows_mixed (by kernel_rfl) (Nat.le_of_ble_eq_true (by kernel_rfl)) (by kernel_rfl) h

/-- (*pub-marram/pub/afero/mem.File).Truncate -/
def F_mem_File_Truncate (t0 t1 : Value) (w : World) (K : Value → World → Prop) : Prop :=
 jn (fun s1 u1 w1 =>
 jn (fun s2 u2 w2 =>
 jn (fun s3 u3 w3 =>
 jn (fun s4 u4 w4 =>
 pu P (oNil t0) fun t80 =>
 pu P (oFldA T.mem_File t80 4) fun t81 =>
 st P (oLoad T.p_mem_FileData t81) w4 fun t82 w5 =>
 st P (oCall Fn.mem_setModTime #[t82, (.int .i64 0)]) w5 fun t83 w6 =>
 K (tup [.nilIface]) w6) fun k4 =>
 pu P (oNil t0) fun t31 =>
 pu P (oFldA T.mem_File t31 4) fun t32 =>
 st P (oLoad T.p_mem_FileData t32) w3 fun t33 w7 =>
 pu P (oNil t33) fun t34 =>
 pu P (oFldA T.mem_FileData t34 1) fun t35 =>
 st P (oLoad T.sl_uint8 t35) w7 fun t36 w8 =>
 pu P (oBuiltin .len #[T.sl_uint8] T.int #[false] #[t36]) fun t37 =>
 pu P (oBin .gtr T.int64 false false t1 t37) fun t38 =>
 cd t38 (
 pu P (oNil t0) fun t41 =>
 pu P (oFldA T.mem_File t41 4) fun t42 =>
 st P (oLoad T.p_mem_FileData t42) w8 fun t43 w9 =>
 pu P (oNil t43) fun t44 =>
 pu P (oFldA T.mem_FileData t44 1) fun t45 =>
 st P (oLoad T.sl_uint8 t45) w9 fun t46 w10 =>
 pu P (oBuiltin .len #[T.sl_uint8] T.int #[false] #[t46]) fun t47 =>
 pu P (oBin .sub T.int64 false false t1 t47) fun t48 =>
 pu P (oNil t0) fun t50 =>
 pu P (oFldA T.mem_File t50 4) fun t51 =>
 rd P (oLoad T.p_mem_FileData t51) w10.drew fun t52 =>
 pu P (oNil t0) fun t54 =>
 pu P (oFldA T.mem_File t54 4) fun t55 =>
 rd P (oLoad T.p_mem_FileData t55) w10.drew fun t56 =>
 pu P (oNil t56) fun t57 =>
 pu P (oFldA T.mem_FileData t57 1) fun t58 =>
 rd P (oLoad T.sl_uint8 t58) w10.drew fun t59 =>
 st P (oBuiltin .append #[T.sl_uint8, T.int] T.sl_uint8 #[false, false] #[t59, t48]) w10.drew fun t61 w11 =>
 hold P (oLoad T.p_mem_FileData t51) t52 w11 ∧ pu P (oNil t52) fun t62 =>
 pu P (oFldA T.mem_FileData t62 1) fun t63 =>
 st P (oStore T.sl_uint8 t63 t61) w11 fun _ w12 =>
 k4 [] w12) (
 pu P (oNil t0) fun t65 =>
 pu P (oFldA T.mem_File t65 4) fun t66 =>
 rd P (oLoad T.p_mem_FileData t66) w8.drew fun t67 =>
 pu P (oNil t0) fun t69 =>
 pu P (oFldA T.mem_File t69 4) fun t70 =>
 rd P (oLoad T.p_mem_FileData t70) w8.drew fun t71 =>
 pu P (oNil t71) fun t72 =>
 pu P (oFldA T.mem_FileData t72 1) fun t73 =>
 rd P (oLoad T.sl_uint8 t73) w8.drew fun t74 =>
 pu P (oSlice T.sl_uint8 t74 (some (.int .i64 0)) (some t1) none) fun t76 =>
 pu P (oNil t67) fun t77 =>
 pu P (oFldA T.mem_FileData t77 1) fun t78 =>
 st P (oStore T.sl_uint8 t78 t76) w8.drew fun _ w13 =>
 k4 [] w13)) fun k3 =>
 pu P (oBin .lss T.int64 false true t1 (.int .i64 0)) fun t27 =>
 cd t27 (
 st P (oLoad T.error (.pointer (some ⟨G.mem_ErrOutOfRange, 0, none⟩))) w2 fun t28 w14 =>
 K (tup [t28]) w14) (
 k3 [] w2)) fun k2 =>
 pu P (oNil t0) fun t12 =>
 pu P (oFldA T.mem_File t12 3) fun t13 =>
 st P (oLoad T.bool t13) w1 fun t14 w15 =>
 cd t14 (
 pu P (oNil t0) fun t16 =>
 pu P (oFldA T.mem_File t16 4) fun t17 =>
 rd P (oLoad T.p_mem_FileData t17) w15.drew fun t18 =>
 pu P (oNil t18) fun t19 =>
 pu P (oFldA T.mem_FileData t19 0) fun t20 =>
 rd P (oLoad T.string t20) w15.drew fun t21 =>
 st P (oCall Fn.errors_New #[(S [102, 105, 108, 101, 32, 104, 97, 110, 100, 108, 101, 32, 105, 115, 32, 114, 101, 97, 100, 32, 111, 110, 108, 121])]) w15.drew fun t22 w16 =>
 hold P (oLoad T.string t20) t21 w16 ∧ hold P (oLoad T.p_mem_FileData t17) t18 w16 ∧ pu P (oBuild T.os_PathError #[(0, (S [116, 114, 117, 110, 99, 97, 116, 101])), (1, t21), (2, t22)]) fun t23 =>
 st P (oBox T.os_PathError t23) w16 fun t24 w17 =>
 pu P (oMkIface T.p_os_PathError t24) fun t25 =>
 K (tup [t25]) w17) (
 k2 [] w15)) fun k1 =>
 pu P (oNil t0) fun t7 =>
 pu P (oFldA T.mem_File t7 2) fun t8 =>
 st P (oLoad T.bool t8) w fun t9 w18 =>
 cd t9 (
 st P (oLoad T.error (.pointer (some ⟨G.mem_ErrFileClosed, 0, none⟩))) w18 fun t10 w19 =>
 K (tup [t10]) w19) (
 k1 [] w18)
def Tb_mem_File_Truncate : Tab := { join := fun n => match n with | _ => [], loop := fun n => match n with | _ => [] }
theorem S_mem_File_Truncate {t0 t1 : Value} {w : World} {K : Value → World → Prop} (h : F_mem_File_Truncate t0 t1 w K) : Cl P Fn.mem_File_Truncate #[t0, t1] w K :=
  cl_of_eq (T := Tb_mem_File_Truncate) (args := [t0, t1]) Tryd.func47 rfl follows_mixed (by kernel_rfl) (Nat.le_of_ble_eq_true (by kernel_rfl)) (by kernel_rfl) h

/-- (*pub-marram/pub/afero/mem.File).Close -/
def F_mem_File_Close (t0 : Value) (w : World) (K : Value → World → Prop) : Prop :=
 pu P (oNil t0) fun t4 =>
 pu P (oFldA T.mem_File t4 2) fun t5 =>
 st P (oStore T.bool t5 (.bool true)) w fun _ w1 =>
 jn (fun s1 u1 w2 =>
 K (tup [.nilIface]) w2) fun k1 =>
 pu P (oNil t0) fun t7 =>
 pu P (oFldA T.mem_File t7 3) fun t8 =>
 st P (oLoad T.bool t8) w1 fun t9 w3 =>
 pu P (oUn .not t9) fun t10 =>
 cd t10 (
 pu P (oNil t0) fun t12 =>
 pu P (oFldA T.mem_File t12 4) fun t13 =>
 st P (oLoad T.p_mem_FileData t13) w3 fun t14 w4 =>
 st P (oCall Fn.mem_setModTime #[t14, (.int .i64 0)]) w4 fun t15 w5 =>
 k1 [] w5) (
 k1 [] w3)
def Tb_mem_File_Close : Tab := { join := fun n => match n with | _ => [], loop := fun n => match n with | _ => [] }
theorem S_mem_File_Close {t0 : Value} {w : World} {K : Value → World → Prop} (h : F_mem_File_Close t0 w K) : Cl P Fn.mem_File_Close #[t0] w K :=
  cl_of_eq (T := Tb_mem_File_Close) (args := [t0]) Tryd.func48 rfl follows_mixed (by kernel_rfl) (Nat.le_of_ble_eq_true (by kernel_rfl)) (by kernel_rfl) h

/-- (*pub-marram/pub/afero/mem.File).Readdir -/
def F_mem_File_Readdir (t0 t1 : Value) (w : World) (K : Value → World → Prop) : Prop :=
 jn (fun s1 u1 w1 =>
 pu P (oNil t0) fun t29 =>
 pu P (oFldA T.mem_File t29 4) fun t30 =>
 rd P (oLoad T.p_mem_FileData t30) w1.drew fun t31 =>
 pu P (oNil t31) fun t32 =>
 pu P (oFldA T.mem_FileData t32 2) fun t33 =>
 rd P (oLoad T.mem_DirMap t33) w1.drew fun t34 =>
 pu P (oNil t0) fun t37 =>
 pu P (oFldA T.mem_File t37 1) fun t38 =>
 rd P (oLoad T.int64 t38) w1.drew fun t39 =>
 st P (oCall Fn.mem_DirMap_Files #[t34]) w1.drew fun t35 w2 =>
 hold P (oLoad T.int64 t38) t39 w2 ∧ pu P (oSlice T.sl_p_mem_FileData t35 (some t39) none none) fun t40 =>
 jn (fun s2 u2 w3 =>
 pu P (oNil t0) fun t57 =>
 pu P (oFldA T.mem_File t57 1) fun t58 =>
 st P (oLoad T.int64 t58) w3 fun t59 w4 =>
 pu P (oBin .add T.int64 false false t59 (gs s2 1)) fun t61 =>
 pu P (oNil t0) fun t62 =>
 pu P (oFldA T.mem_File t62 1) fun t63 =>
 st P (oStore T.int64 t63 t61) w4 fun _ w5 =>
 st P (oMkSlice T.sl_p_mem_FileInfo (gs s2 1) (gs s2 1)) w5 fun t65 w6 =>
 jn (fun s3 u3 w7 =>
 K (tup [t65, (gs s2 0)]) w7) fun k3 =>
 pu P (oBuiltin .len #[T.sl_p_mem_FileInfo] T.int #[false] #[t65]) fun t67 =>
 lp [(.int .i64 0)] w6 fun s4 u4 w8 C1 =>
 pu P (oBin .lss T.int false false (gs s4 0) t67) fun t69 =>
 jn (fun s5 u5 w9 =>
 pu P (oIdxA T.sl_p_mem_FileData t40 (gs s4 0)) fun t75 =>
 st P (oLoad T.p_mem_FileData t75) w9 fun t76 w10 =>
 pu P (oBuild T.mem_FileInfo #[(0, t76)]) fun t77 =>
 st P (oBox T.mem_FileInfo t77) w10 fun t78 w11 =>
 pu P (oIdxA T.sl_p_mem_FileInfo t65 (gs s4 0)) fun t79 =>
 st P (oStore T.p_mem_FileInfo t79 t78) w11 fun _ w12 =>
 pu P (oBin .add T.int false true (gs s4 0) (.int .i64 1)) fun t80 =>
 C1 [t80] w12) fun k4 =>
 cd t69 (
 k4 [] w8) (
 k3 [] w8)) fun k2 =>
 pu P (oBin .gtr T.int false true t1 (.int .i64 0)) fun t42 =>
 cd t42 (
 jn (fun s6 u6 w13 =>
 pu P (oBuiltin .len #[T.sl_p_mem_FileData] T.int #[false] #[t40]) fun t51 =>
 pu P (oBin .eql T.int false true t51 (.int .i64 0)) fun t52 =>
 cd t52 (
 st P (oLoad T.error (.pointer (some ⟨G.io_EOF, 0, none⟩))) w13 fun t53 w14 =>
 k2 [t53, (gs s6 0)] w14) (
 k2 [(gs s1 0), (gs s6 0)] w13)) fun k5 =>
 pu P (oBuiltin .len #[T.sl_p_mem_FileData] T.int #[false] #[t40]) fun t44 =>
 pu P (oBin .lss T.int false false t44 t1) fun t46 =>
 cd t46 (
 pu P (oBuiltin .len #[T.sl_p_mem_FileData] T.int #[false] #[t40]) fun t48 =>
 k5 [t48] w2) (
 k5 [t1] w2)) (
 pu P (oBuiltin .len #[T.sl_p_mem_FileData] T.int #[false] #[t40]) fun t55 =>
 k2 [(gs s1 0), t55] w2)) fun k1 =>
 pu P (oNil t0) fun t10 =>
 pu P (oFldA T.mem_File t10 4) fun t11 =>
 st P (oLoad T.p_mem_FileData t11) w fun t12 w15 =>
 pu P (oNil t12) fun t13 =>
 pu P (oFldA T.mem_FileData t13 3) fun t14 =>
 st P (oLoad T.bool t14) w15 fun t15 w16 =>
 pu P (oUn .not t15) fun t16 =>
 cd t16 (
 pu P (oNil t0) fun t18 =>
 pu P (oFldA T.mem_File t18 4) fun t19 =>
 rd P (oLoad T.p_mem_FileData t19) w16.drew fun t20 =>
 pu P (oNil t20) fun t21 =>
 pu P (oFldA T.mem_FileData t21 0) fun t22 =>
 rd P (oLoad T.string t22) w16.drew fun t23 =>
 st P (oCall Fn.errors_New #[(S [110, 111, 116, 32, 97, 32, 100, 105, 114])]) w16.drew fun t24 w17 =>
 hold P (oLoad T.string t22) t23 w17 ∧ hold P (oLoad T.p_mem_FileData t19) t20 w17 ∧ pu P (oBuild T.os_PathError #[(0, (S [114, 101, 97, 100, 100, 105, 114])), (1, t23), (2, t24)]) fun t25 =>
 st P (oBox T.os_PathError t25) w17 fun t26 w18 =>
 pu P (oMkIface T.p_os_PathError t26) fun t27 =>
 K (tup [(.slice none 0 0), t27]) w18) (
 k1 [.nilIface] w16)
def Tb_mem_File_Readdir : Tab := { join := fun n => match n with | 3 => [5] | 9 => [6] | 12 => [5, 6] | _ => [], loop := fun n => match n with | 15 => [68] | _ => [] }
theorem S_mem_File_Readdir {t0 t1 : Value} {w : World} {K : Value → World → Prop} (h : F_mem_File_Readdir t0 t1 w K) : Cl P Fn.mem_File_Readdir #[t0, t1] w K :=
  cl_of_eq (T := Tb_mem_File_Readdir) (args := [t0, t1]) Tryd.func49 rfl follows_mixed (by kernel_rfl) (Nat.le_of_ble_eq_true (by kernel_rfl)) (by kernel_rfl) h

/-- pub-marram/impl.fromInfos -/
def F_impl_fromInfos (t0 : Value) (w : World) (K : Value → World → Prop) : Prop :=
 jn (fun s1 u1 w1 =>
 K (tup [(gs s1 0)]) w1) fun k1 =>
 pu P (oBuiltin .len #[T.sl_p_mem_FileInfo] T.int #[false] #[t0]) fun t7 =>
 lp [(.slice none 0 0), (.int .i64 0)] w fun s2 u2 w2 C1 =>
 pu P (oBin .lss T.int false false (gs s2 1) t7) fun t9 =>
 jn (fun s3 u3 w3 =>
 pu P (oIdxA T.sl_p_mem_FileInfo t0 (gs s2 1)) fun t10 =>
 st P (oLoad T.p_mem_FileInfo t10) w3 fun t11 w4 =>
 st P (oCall Fn.impl_fromInfo #[t11]) w4 fun t14 w5 =>
 st P (oBuildSlice T.sl_impl_Info 1 #[(0, t14)]) w5 fun t15 w6 =>
 st P (oBuiltin .append #[T.sl_impl_Info, T.sl_impl_Info] T.sl_impl_Info #[false, false] #[(gs s2 0), t15]) w6 fun t16 w7 =>
 pu P (oBin .add T.int false true (gs s2 1) (.int .i64 1)) fun t17 =>
 C1 [t16, t17] w7) fun k2 =>
 cd t9 (
 k2 [] w2) (
 k1 [(gs s2 0)] w2)
def Tb_impl_fromInfos : Tab := { join := fun n => match n with | 7 => [3] | _ => [], loop := fun n => match n with | 3 => [3, 8] | _ => [] }
theorem S_impl_fromInfos {t0 : Value} {w : World} {K : Value → World → Prop} (h : F_impl_fromInfos t0 w K) : Cl P Fn.impl_fromInfos #[t0] w K :=
  cl_of_eq (T := Tb_impl_fromInfos) (args := [t0]) Tryd.func50 rfl follows_mixed (by kernel_rfl) (Nat.le_of_ble_eq_true (by kernel_rfl)) (by kernel_rfl) h

/-- (*pub-marram/pub/afero/mem.File).Readdirnames -/
def F_mem_File_Readdirnames (t0 t1 : Value) (w : World) (K : Value → World → Prop) : Prop :=
 st P (oCall Fn.mem_File_Readdir #[t0, t1]) w fun t12 w1 =>
 pu P (oExtract t12 0) fun t13 =>
 pu P (oExtract t12 1) fun t14 =>
 pu P (oBuiltin .len #[T.sl_p_mem_FileInfo] T.int #[false] #[t13]) fun t16 =>
 st P (oMkSlice T.sl_string t16 t16) w1 fun t17 w2 =>
 jn (fun s1 u1 w3 =>
 K (tup [t17, t14]) w3) fun k1 =>
 pu P (oBuiltin .len #[T.sl_p_mem_FileInfo] T.int #[false] #[t13]) fun t19 =>
 lp [(.int .i64 0)] w2 fun s2 u2 w4 C1 =>
 pu P (oBin .lss T.int false false (gs s2 0) t19) fun t21 =>
 jn (fun s3 u3 w5 =>
 pu P (oIdxA T.sl_p_mem_FileInfo t13 (gs s2 0)) fun t23 =>
 st P (oLoad T.p_mem_FileInfo t23) w5 fun t24 w6 =>
 st P (oCall Fn.mem_FileInfo_Name #[t24]) w6 fun t29 w7 =>
 st P (oCall Fn.path_Split #[t29]) w7 fun t30 w8 =>
 pu P (oExtract t30 0) fun t31 =>
 pu P (oExtract t30 1) fun t32 =>
 pu P (oIdxA T.sl_string t17 (gs s2 0)) fun t33 =>
 st P (oStore T.string t33 t32) w8 fun _ w9 =>
 pu P (oBin .add T.int false true (gs s2 0) (.int .i64 1)) fun t34 =>
 C1 [t34] w9) fun k2 =>
 cd t21 (
 k2 [] w4) (
 k1 [] w4)
def Tb_mem_File_Readdirnames : Tab := { join := fun n => match n with | _ => [], loop := fun n => match n with | 4 => [20] | _ => [] }
theorem S_mem_File_Readdirnames {t0 t1 : Value} {w : World} {K : Value → World → Prop} (h : F_mem_File_Readdirnames t0 t1 w K) : Cl P Fn.mem_File_Readdirnames #[t0, t1] w K :=
  cl_of_eq (T := Tb_mem_File_Readdirnames) (args := [t0, t1]) Tryd.func51 rfl follows_mixed (by kernel_rfl) (Nat.le_of_ble_eq_true (by kernel_rfl)) (by kernel_rfl) h

/-- (*pub-marram/pub/afero/mem.File).Stat -/
def F_mem_File_Stat (t0 : Value) (w : World) (K : Value → World → Prop) : Prop :=
 pu P (oNil t0) fun t5 =>
 pu P (oFldA T.mem_File t5 4) fun t6 =>
 st P (oLoad T.p_mem_FileData t6) w fun t7 w1 =>
 pu P (oBuild T.mem_FileInfo #[(0, t7)]) fun t8 =>
 st P (oBox T.mem_FileInfo t8) w1 fun t9 w2 =>
 K (tup [t9, .nilIface]) w2
def Tb_mem_File_Stat : Tab := { join := fun n => match n with | _ => [], loop := fun n => match n with | _ => [] }
theorem S_mem_File_Stat {t0 : Value} {w : World} {K : Value → World → Prop} (h : F_mem_File_Stat t0 w K) : Cl P Fn.mem_File_Stat #[t0] w K :=
  cl_of_eq (T := Tb_mem_File_Stat) (args := [t0]) Tryd.func52 rfl follows_mixed (by kernel_rfl) (Nat.le_of_ble_eq_true (by kernel_rfl)) (by kernel_rfl) h

/-- (*pub-marram/pub/afero/mem.File).Name -/
def F_mem_File_Name (t0 : Value) (w : World) (K : Value → World → Prop) : Prop :=
 pu P (oNil t0) fun t4 =>
 pu P (oFldA T.mem_File t4 4) fun t5 =>
 st P (oLoad T.p_mem_FileData t5) w fun t6 w1 =>
 st P (oCall Fn.mem_FileData_Name #[t6]) w1 fun t7 w2 =>
 K (tup [t7]) w2
def Tb_mem_File_Name : Tab := { join := fun n => match n with | _ => [], loop := fun n => match n with | _ => [] }
theorem S_mem_File_Name {t0 : Value} {w : World} {K : Value → World → Prop} (h : F_mem_File_Name t0 w K) : Cl P Fn.mem_File_Name #[t0] w K :=
  cl_of_eq (T := Tb_mem_File_Name) (args := [t0]) Tryd.func53 rfl follows_mixed (by kernel_rfl) (Nat.le_of_ble_eq_true (by kernel_rfl)) (by kernel_rfl) h

/-- (*pub-marram/pub/afero/mem.File).Sync -/
def F_mem_File_Sync (t0 : Value) (w : World) (K : Value → World → Prop) : Prop :=
 K (tup [.nilIface]) w
def Tb_mem_File_Sync : Tab := { join := fun n => match n with | _ => [], loop := fun n => match n with | _ => [] }
theorem S_mem_File_Sync {t0 : Value} {w : World} {K : Value → World → Prop} (h : F_mem_File_Sync t0 w K) : Cl P Fn.mem_File_Sync #[t0] w K :=
  cl_of_eq (T := Tb_mem_File_Sync) (args := [t0]) Tryd.func54 rfl follows_mixed (by kernel_rfl) (Nat.le_of_ble_eq_true (by kernel_rfl)) (by kernel_rfl) h

/-- pub-marram/impl.kind -/
def F_impl_kind (t0 : Value) (w : World) (K : Value → World → Prop) : Prop :=
 jn (fun s1 u1 w1 =>
 jn (fun s2 u2 w2 =>
 K (tup [(.int .i64 13)]) w2) fun k2 =>
 pu P (oBin .eql T.error false true (gs s1 0) .nilIface) fun t39 =>
 cd t39 (
 K (tup [(.int .i64 0)]) w1) (
 jn (fun s3 u3 w3 =>
 cd (gs s3 0) (
 K (tup [(.int .i64 1)]) w3) (
 st P (oLoad T.error (.pointer (some ⟨G.os_ErrExist, 0, none⟩))) w3 fun t46 w4 =>
 st P (oBin .eql T.error false false (gs s1 0) t46) w4 fun t47 w5 =>
 cd t47 (
 K (tup [(.int .i64 2)]) w5) (
 st P (oLoad T.error (.pointer (some ⟨G.mem_ErrFileClosed, 0, none⟩))) w5 fun t49 w6 =>
 st P (oBin .eql T.error false false (gs s1 0) t49) w6 fun t50 w7 =>
 cd t50 (
 K (tup [(.int .i64 3)]) w7) (
 st P (oLoad T.error (.pointer (some ⟨G.io_EOF, 0, none⟩))) w7 fun t52 w8 =>
 st P (oBin .eql T.error false false (gs s1 0) t52) w8 fun t53 w9 =>
 cd t53 (
 K (tup [(.int .i64 4)]) w9) (
 st P (oLoad T.error (.pointer (some ⟨G.io_ErrUnexpectedEOF, 0, none⟩))) w9 fun t55 w10 =>
 st P (oBin .eql T.error false false (gs s1 0) t55) w10 fun t56 w11 =>
 cd t56 (
 K (tup [(.int .i64 5)]) w11) (
 st P (oLoad T.error (.pointer (some ⟨G.mem_ErrOutOfRange, 0, none⟩))) w11 fun t58 w12 =>
 st P (oBin .eql T.error false false (gs s1 0) t58) w12 fun t59 w13 =>
 cd t59 (
 K (tup [(.int .i64 7)]) w13) (
 st P (oLoad T.error (.pointer (some ⟨G.os_ENOTDIR, 0, none⟩))) w13 fun t61 w14 =>
 st P (oBin .eql T.error false false (gs s1 0) t61) w14 fun t62 w15 =>
 cd t62 (
 K (tup [(.int .i64 8)]) w15) (
 st P (oLoad T.error (.pointer (some ⟨G.os_EPERM, 0, none⟩))) w15 fun t64 w16 =>
 st P (oBin .eql T.error false false (gs s1 0) t64) w16 fun t65 w17 =>
 cd t65 (
 K (tup [(.int .i64 9)]) w17) (
 st P (oLoad T.error (.pointer (some ⟨G.os_EBADFD, 0, none⟩))) w17 fun t67 w18 =>
 st P (oBin .eql T.error false false (gs s1 0) t67) w18 fun t68 w19 =>
 cd t68 (
 K (tup [(.int .i64 10)]) w19) (
 st P (oLoad T.error (.pointer (some ⟨G.os_EIO, 0, none⟩))) w19 fun t70 w20 =>
 st P (oBin .eql T.error false false (gs s1 0) t70) w20 fun t71 w21 =>
 cd t71 (
 K (tup [(.int .i64 11)]) w21) (
 k2 [] w21))))))))))) fun k3 =>
 st P (oLoad T.error (.pointer (some ⟨G.os_ErrNotExist, 0, none⟩))) w1 fun t41 w22 =>
 st P (oBin .eql T.error false false (gs s1 0) t41) w22 fun t42 w23 =>
 cd t42 (
 k3 [t42] w23) (
 st P (oLoad T.error (.pointer (some ⟨G.os_ENOENT, 0, none⟩))) w23 fun t43 w24 =>
 st P (oBin .eql T.error false false (gs s1 0) t43) w24 fun t44 w25 =>
 k3 [t44] w25))) fun k1 =>
 pu P (oAssert t0 T.error T.p_os_PathError true) fun t7 =>
 pu P (oExtract t7 0) fun t8 =>
 pu P (oExtract t7 1) fun t9 =>
 cd t9 (
 pu P (oNil t8) fun t12 =>
 pu P (oFldA T.os_PathError t12 2) fun t13 =>
 st P (oLoad T.error t13) w fun t14 w26 =>
 jn (fun s4 u4 w27 =>
 cd (gs s4 0) (
 pu P (oNil t8) fun t34 =>
 pu P (oFldA T.os_PathError t34 2) fun t35 =>
 st P (oLoad T.error t35) w27 fun t36 w28 =>
 k1 [t36] w28) (
 jn (fun s5 u5 w29 =>
 K (tup [(.int .i64 13)]) w29) fun k5 =>
 pu P (oNil t8) fun t16 =>
 pu P (oFldA T.os_PathError t16 0) fun t17 =>
 st P (oLoad T.string t17) w27 fun t18 w30 =>
 pu P (oBin .eql T.string false true t18 (S [114, 101, 97, 100, 100, 105, 114])) fun t20 =>
 cd t20 (
 K (tup [(.int .i64 8)]) w30) (
 jn (fun s6 u6 w31 =>
 cd (gs s6 0) (
 K (tup [(.int .i64 6)]) w31) (
 k5 [] w31)) fun k6 =>
 pu P (oBin .eql T.string false true t18 (S [116, 114, 117, 110, 99, 97, 116, 101])) fun t22 =>
 cd t22 (
 k6 [t22] w30) (
 pu P (oBin .eql T.string false true t18 (S [119, 114, 105, 116, 101])) fun t23 =>
 k6 [t23] w30)))) fun k4 =>
 st P (oLoad T.error (.pointer (some ⟨G.os_ErrNotExist, 0, none⟩))) w26 fun t25 w32 =>
 st P (oBin .eql T.error false false t14 t25) w32 fun t26 w33 =>
 cd t26 (
 k4 [t26] w33) (
 st P (oLoad T.error (.pointer (some ⟨G.os_ErrExist, 0, none⟩))) w33 fun t27 w34 =>
 st P (oBin .eql T.error false false t14 t27) w34 fun t28 w35 =>
 cd t28 (
 k4 [t28] w35) (
 st P (oLoad T.error (.pointer (some ⟨G.os_ENOTDIR, 0, none⟩))) w35 fun t29 w36 =>
 st P (oBin .eql T.error false false t14 t29) w36 fun t30 w37 =>
 cd t30 (
 k4 [t30] w37) (
 st P (oLoad T.error (.pointer (some ⟨G.os_ENOENT, 0, none⟩))) w37 fun t31 w38 =>
 st P (oBin .eql T.error false false t14 t31) w38 fun t32 w39 =>
 k4 [t32] w39)))) (
 k1 [t0] w)
def Tb_impl_kind : Tab := { join := fun n => match n with | 9 => [21] | 15 => [24] | 16 => [0] | 21 => [40] | _ => [], loop := fun n => match n with | _ => [] }
theorem S_impl_kind {t0 : Value} {w : World} {K : Value → World → Prop} (h : F_impl_kind t0 w K) : Cl P Fn.impl_kind #[t0] w K :=
  cl_of_eq (T := Tb_impl_kind) (args := [t0]) Tryd.func55 rfl follows_mixed (by kernel_rfl) (Nat.le_of_ble_eq_true (by kernel_rfl)) (by kernel_rfl) h

/-- (*pub-marram/spec.Mem).add -/
def F_spec_Mem_add (t0 t1 t2 : Value) (w : World) (K : Value → World → Prop) : Prop :=
 st P (oBox T.spec_MemNode t2) w fun t5 w1 =>
 pu P (oFldA T.spec_MemNode t5 4) fun t8 =>
 st P (oStore T.string t8 t1) w1 fun _ w2 =>
 pu P (oNil t0) fun t11 =>
 pu P (oFldA T.spec_Mem t11 2) fun t12 =>
 rd P (oLoad T.sl_spec_MemNode t12) w2.drew fun t13 =>
 rd P (oLoad T.spec_MemNode t5) w2.drew fun t14 =>
 st P (oBuildSlice T.sl_spec_MemNode 1 #[(0, t14)]) w2.drew fun t15 w3 =>
 hold P (oLoad T.sl_spec_MemNode t12) t13 w3 ∧ st P (oBuiltin .append #[T.sl_spec_MemNode, T.sl_spec_MemNode] T.sl_spec_MemNode #[false, false] #[t13, t15]) w3 fun t16 w4 =>
 pu P (oNil t0) fun t17 =>
 pu P (oFldA T.spec_Mem t17 2) fun t18 =>
 st P (oStore T.sl_spec_MemNode t18 t16) w4 fun _ w5 =>
 pu P (oNil t0) fun t22 =>
 pu P (oFldA T.spec_Mem t22 2) fun t23 =>
 st P (oLoad T.sl_spec_MemNode t23) w5 fun t24 w6 =>
 pu P (oBuiltin .len #[T.sl_spec_MemNode] T.int #[false] #[t24]) fun t25 =>
 pu P (oBin .sub T.int false true t25 (.int .i64 1)) fun t26 =>
 st P (oCall Fn.spec_Mem_put #[t0, t1, t26]) w6 fun t27 w7 =>
 pu P (oNil t0) fun t29 =>
 pu P (oFldA T.spec_Mem t29 2) fun t30 =>
 st P (oLoad T.sl_spec_MemNode t30) w7 fun t31 w8 =>
 pu P (oBuiltin .len #[T.sl_spec_MemNode] T.int #[false] #[t31]) fun t32 =>
 pu P (oBin .sub T.int false true t32 (.int .i64 1)) fun t33 =>
 K (tup [t33]) w8
def Tb_spec_Mem_add : Tab := { join := fun n => match n with | _ => [], loop := fun n => match n with | _ => [] }
theorem S_spec_Mem_add {t0 t1 t2 : Value} {w : World} {K : Value → World → Prop} (h : F_spec_Mem_add t0 t1 t2 w K) : Cl P Fn.spec_Mem_add #[t0, t1, t2] w K :=
  cl_of_eq (T := Tb_spec_Mem_add) (args := [t0, t1, t2]) Tryd.func56 rfl follows_mixed (by kernel_rfl) (Nat.le_of_ble_eq_true (by kernel_rfl)) (by kernel_rfl) h

/-- (*pub-marram/spec.Pair).onHandle · FORKS 1 -/
def F_spec_Pair_onHandle (t0 t1 : Value) (w : World) (K : Value → World → Prop) : Prop :=
 st P (oBox T.impl_Step t1) w fun t3 w1 =>
 st P (oAlloc T.impl_Answer) w1 fun t4 w2 =>
 jn (fun s1 u1 w3 =>
 st P (oCall Fn.spec_failed #[(.int .i64 13)]) w3 fun t66 w4 =>
 st P (oStore T.impl_Answer t4 t66) w4 fun _ w5 =>
 rsl P T.impl_Answer t4 w5 fun r1 =>
 K (tup [r1]) w5) fun k1 =>
 pu P (oNil t0) fun t7 =>
 pu P (oFldA T.spec_Pair t7 2) fun t8 =>
 rd P (oLoad T.map_int_int t8) w2.drew fun t9 =>
 pu P (oFldA T.impl_Step t3 5) fun t10 =>
 rd P (oLoad T.int t10) w2.drew fun t11 =>
 rd P (oLookup T.map_int_int t9 t11 false) w2.drew fun t12 =>
 pu P (oBin .eql T.int false true t12 (.int .i64 1)) fun t14 =>
 cd t14 (
 pu P (oNil t0) fun t16 =>
 pu P (oFldA T.spec_Pair t16 0) fun t17 =>
 rd P (oLoad T.p_spec_Mem t17) w2.drew.drew fun t18 =>
 pu P (oFldA T.impl_Step t3 5) fun t19 =>
 rd P (oLoad T.int t19) w2.drew.drew fun t20 =>
 rd P (oLoad T.impl_Step t3) w2.drew.drew fun t21 =>
 st P (oCall Fn.spec_Mem_Do #[t18, t20, t21]) w2.drew.drew fun t22 w6 =>
 st P (oStore T.impl_Answer t4 t22) w6 fun _ w7 =>
 rsl P T.impl_Answer t4 w7 fun r2 =>
 K (tup [r2]) w7) (
 pu P (oBin .eql T.int false true t12 (.int .i64 2)) fun t24 =>
 cd t24 (
 pu P (oNil t0) fun t26 =>
 pu P (oFldA T.spec_Pair t26 1) fun t27 =>
 rd P (oLoad T.p_spec_Mem t27) w2.drew.drew fun t28 =>
 pu P (oFldA T.impl_Step t3 5) fun t29 =>
 rd P (oLoad T.int t29) w2.drew.drew fun t30 =>
 rd P (oLoad T.impl_Step t3) w2.drew.drew fun t31 =>
 st P (oCall Fn.spec_Mem_Do #[t28, t30, t31]) w2.drew.drew fun t32 w8 =>
 st P (oStore T.impl_Answer t4 t32) w8 fun _ w9 =>
 rsl P T.impl_Answer t4 w9 fun r3 =>
 K (tup [r3]) w9) (
 pu P (oBin .eql T.int false true t12 (.int .i64 3)) fun t34 =>
 cd t34 (
 jn (fun s2 u2 w10 =>
 pu P (oNil t0) fun t47 =>
 pu P (oFldA T.spec_Pair t47 1) fun t48 =>
 rd P (oLoad T.p_spec_Mem t48) w10.drew fun t49 =>
 pu P (oFldA T.impl_Step t3 5) fun t50 =>
 rd P (oLoad T.int t50) w10.drew fun t51 =>
 rd P (oLoad T.impl_Step t3) w10.drew fun t52 =>
 (st P (oCall Fn.spec_Mem_Do #[t49, t51, t52]) w10.drew fun t53 w11 =>
 st P (oAlloc T.impl_Answer) w11 fun t5 w12 =>
 st P (oStore T.impl_Answer t5 t53) w12 fun _ w13 =>
 jn (fun s3 u3 w14 =>
 st P (oLoad T.impl_Answer t5) w14 fun t65 w15 =>
 st P (oStore T.impl_Answer t4 t65) w15 fun _ w16 =>
 rsl P T.impl_Answer t4 w16 fun r4 =>
 K (tup [r4]) w16) fun k3 =>
 pu P (oFldA T.impl_Step t3 0) fun t54 =>
 st P (oLoad T.int t54) w13 fun t55 w17 =>
 pu P (oBin .eql T.int false true t55 (.int .i64 18)) fun t56 =>
 cd t56 (
 pu P (oNil t0) fun t58 =>
 pu P (oFldA T.spec_Pair t58 0) fun t59 =>
 rd P (oLoad T.p_spec_Mem t59) w17.drew fun t60 =>
 pu P (oFldA T.impl_Step t3 5) fun t61 =>
 rd P (oLoad T.int t61) w17.drew fun t62 =>
 rd P (oLoad T.impl_Step t3) w17.drew fun t63 =>
 st P (oCall Fn.spec_Mem_Do #[t60, t62, t63]) w17.drew fun t64 w18 =>
 k3 [] w18) (
 k3 [] w17)) ∧ (st P (oAlloc T.impl_Answer) w10.drew fun t5_2 w19 =>
 hold P (oLoad T.impl_Step t3) t52 w19 ∧ hold P (oLoad T.int t50) t51 w19 ∧ hold P (oLoad T.p_spec_Mem t48) t49 w19 ∧ st P (oCall Fn.spec_Mem_Do #[t49, t51, t52]) w19 fun t53_2 w20 =>
 st P (oStore T.impl_Answer t5_2 t53_2) w20 fun _ w21 =>
 jn (fun s4 u4 w22 =>
 st P (oLoad T.impl_Answer t5_2) w22 fun t65_2 w23 =>
 st P (oStore T.impl_Answer t4 t65_2) w23 fun _ w24 =>
 rsl P T.impl_Answer t4 w24 fun r5 =>
 K (tup [r5]) w24) fun k4 =>
 pu P (oFldA T.impl_Step t3 0) fun t54_2 =>
 st P (oLoad T.int t54_2) w21 fun t55_2 w25 =>
 pu P (oBin .eql T.int false true t55_2 (.int .i64 18)) fun t56_2 =>
 cd t56_2 (
 pu P (oNil t0) fun t58_2 =>
 pu P (oFldA T.spec_Pair t58_2 0) fun t59_2 =>
 rd P (oLoad T.p_spec_Mem t59_2) w25.drew fun t60_2 =>
 pu P (oFldA T.impl_Step t3 5) fun t61_2 =>
 rd P (oLoad T.int t61_2) w25.drew fun t62_2 =>
 rd P (oLoad T.impl_Step t3) w25.drew fun t63_2 =>
 st P (oCall Fn.spec_Mem_Do #[t60_2, t62_2, t63_2]) w25.drew fun t64_2 w26 =>
 k4 [] w26) (
 k4 [] w25))) fun k2 =>
 pu P (oFldA T.impl_Step t3 0) fun t35 =>
 st P (oLoad T.int t35) w2.drew fun t36 w27 =>
 pu P (oBin .eql T.int false true t36 (.int .i64 19)) fun t37 =>
 gd t37 false w27 (fun K1 => pu P (oFldA T.impl_Step t3 0) fun v => K1 v w27) fun t39 w28 =>
 gd t37 false w28 (fun K2 => st P (oLoad T.int t39) w28 K2) fun t40 w29 =>
 gd t37 false w29 (fun K3 => pu P (oBin .eql T.int false true t40 (.int .i64 20)) fun v => K3 v w29) fun t41 w30 =>
 pu P (oPick t37 (.bool true) t41) fun t42 =>
 cd t42 (
 st P (oLoad T.impl_Step t3) w30 fun t44 w31 =>
 st P (oCall Fn.spec_Pair_woven #[t0, t44]) w31 fun t45 w32 =>
 st P (oStore T.impl_Answer t4 t45) w32 fun _ w33 =>
 rsl P T.impl_Answer t4 w33 fun r6 =>
 K (tup [r6]) w33) (
 k2 [] w30)) (
 k1 [] w2.drew)))
def Tb_spec_Pair_onHandle : Tab := { join := fun n => match n with | _ => [], loop := fun n => match n with | _ => [] }
theorem S_spec_Pair_onHandle {t0 t1 : Value} {w : World} {K : Value → World → Prop} (h : F_spec_Pair_onHandle t0 t1 w K) : Cl P Fn.spec_Pair_onHandle #[t0, t1] w K :=
  cl_of_eq (T := Tb_spec_Pair_onHandle) (args := [t0, t1]) Tryd.func57 rfl follows_mixed (by kernel_rfl) (Nat.le_of_ble_eq_true (by kernel_rfl)) (by kernel_rfl) h

/-- (*pub-marram/pub/afero.UnionFile).Read -/
def F_afero_UnionFile_Read (t0 t1 : Value) (w : World) (K : Value → World → Prop) : Prop :=
 jn (fun s1 u1 w1 =>
 jn (fun s2 u2 w2 =>
 rd P (oLoad T.error (.pointer (some ⟨G.os_EBADFD, 0, none⟩))) w2.drew fun t65 =>
 K (tup [(.int .i64 0), t65]) w2.drew) fun k2 =>
 pu P (oNil t0) fun t53 =>
 pu P (oFldA T.afero_UnionFile t53 0) fun t54 =>
 st P (oLoad T.p_mem_File t54) w1 fun t55 w3 =>
 pu P (oBin .neq T.p_mem_File false true t55 (.pointer none)) fun t56 =>
 cd t56 (
 pu P (oNil t0) fun t58 =>
 pu P (oFldA T.afero_UnionFile t58 0) fun t59 =>
 st P (oLoad T.p_mem_File t59) w3 fun t60 w4 =>
 st P (oCall Fn.mem_File_Read #[t60, t1]) w4 fun t62 w5 =>
 pu P (oExtract t62 0) fun t63 =>
 pu P (oExtract t62 1) fun t64 =>
 K (tup [t63, t64]) w5) (
 k2 [] w3)) fun k1 =>
 pu P (oNil t0) fun t11 =>
 pu P (oFldA T.afero_UnionFile t11 1) fun t12 =>
 st P (oLoad T.p_mem_File t12) w fun t13 w6 =>
 pu P (oBin .neq T.p_mem_File false true t13 (.pointer none)) fun t14 =>
 cd t14 (
 pu P (oNil t0) fun t17 =>
 pu P (oFldA T.afero_UnionFile t17 1) fun t18 =>
 st P (oLoad T.p_mem_File t18) w6 fun t19 w7 =>
 st P (oCall Fn.mem_File_Read #[t19, t1]) w7 fun t21 w8 =>
 pu P (oExtract t21 0) fun t22 =>
 pu P (oExtract t21 1) fun t23 =>
 jn (fun s3 u3 w9 =>
 K (tup [t22, (gs s3 0)]) w9) fun k3 =>
 pu P (oBin .eql T.error false true t23 .nilIface) fun t25 =>
 gd t25 false w8 (fun K1 => K1 t23 w8) fun t27 w10 =>
 gd t25 false w10 (fun K2 => st P (oLoad T.error (.pointer (some ⟨G.io_EOF, 0, none⟩))) w10 K2) fun t28 w11 =>
 gd t25 false w11 (fun K3 => st P (oBin .eql T.error false false t27 t28) w11 K3) fun t29 w12 =>
 pu P (oPick t25 (.bool true) t29) fun t30 =>
 gd t30 true w12 (fun K4 => K4 t0 w12) fun t32 w13 =>
 gd t30 true w13 (fun K5 => pu P (oNil t32) fun v => K5 v w13) fun t33 w14 =>
 gd t30 true w14 (fun K6 => pu P (oFldA T.afero_UnionFile t33 0) fun v => K6 v w14) fun t34 w15 =>
 gd t30 true w15 (fun K7 => st P (oLoad T.p_mem_File t34) w15 K7) fun t35 w16 =>
 gd t30 true w16 (fun K8 => pu P (oBin .neq T.p_mem_File false true t35 (.pointer none)) fun v => K8 v w16) fun t36 w17 =>
 pu P (oPick t30 t36 (.bool false)) fun t37 =>
 cd t37 (
 pu P (oNil t0) fun t40 =>
 pu P (oFldA T.afero_UnionFile t40 0) fun t41 =>
 st P (oLoad T.p_mem_File t41) w17 fun t42 w18 =>
 st P (oCall Fn.mem_File_Seek #[t42, t22, (.int .i64 1)]) w18 fun t44 w19 =>
 pu P (oExtract t44 0) fun t45 =>
 pu P (oExtract t44 1) fun t46 =>
 pu P (oBin .neq T.error false true t46 .nilIface) fun t48 =>
 cd t48 (
 k3 [t46] w19) (
 k3 [t23] w19)) (
 k3 [t23] w17)) (
 k1 [] w6)
def Tb_afero_UnionFile_Read : Tab := { join := fun n => match n with | 7 => [7] | _ => [], loop := fun n => match n with | _ => [] }
theorem S_afero_UnionFile_Read {t0 t1 : Value} {w : World} {K : Value → World → Prop} (h : F_afero_UnionFile_Read t0 t1 w K) : Cl P Fn.afero_UnionFile_Read #[t0, t1] w K :=
  cl_of_eq (T := Tb_afero_UnionFile_Read) (args := [t0, t1]) Tryd.func58 rfl follows_mixed (by kernel_rfl) (Nat.le_of_ble_eq_true (by kernel_rfl)) (by kernel_rfl) h

/-- (*pub-marram/pub/afero.UnionFile).ReadAt -/
def F_afero_UnionFile_ReadAt (t0 t1 t2 : Value) (w : World) (K : Value → World → Prop) : Prop :=
 jn (fun s1 u1 w1 =>
 jn (fun s2 u2 w2 =>
 rd P (oLoad T.error (.pointer (some ⟨G.os_EBADFD, 0, none⟩))) w2.drew fun t66 =>
 K (tup [(.int .i64 0), t66]) w2.drew) fun k2 =>
 pu P (oNil t0) fun t53 =>
 pu P (oFldA T.afero_UnionFile t53 0) fun t54 =>
 st P (oLoad T.p_mem_File t54) w1 fun t55 w3 =>
 pu P (oBin .neq T.p_mem_File false true t55 (.pointer none)) fun t56 =>
 cd t56 (
 pu P (oNil t0) fun t58 =>
 pu P (oFldA T.afero_UnionFile t58 0) fun t59 =>
 st P (oLoad T.p_mem_File t59) w3 fun t60 w4 =>
 st P (oCall Fn.mem_File_ReadAt #[t60, t1, t2]) w4 fun t63 w5 =>
 pu P (oExtract t63 0) fun t64 =>
 pu P (oExtract t63 1) fun t65 =>
 K (tup [t64, t65]) w5) (
 k2 [] w3)) fun k1 =>
 pu P (oNil t0) fun t11 =>
 pu P (oFldA T.afero_UnionFile t11 1) fun t12 =>
 st P (oLoad T.p_mem_File t12) w fun t13 w6 =>
 pu P (oBin .neq T.p_mem_File false true t13 (.pointer none)) fun t14 =>
 cd t14 (
 pu P (oNil t0) fun t17 =>
 pu P (oFldA T.afero_UnionFile t17 1) fun t18 =>
 st P (oLoad T.p_mem_File t18) w6 fun t19 w7 =>
 st P (oCall Fn.mem_File_ReadAt #[t19, t1, t2]) w7 fun t22 w8 =>
 pu P (oExtract t22 0) fun t23 =>
 pu P (oExtract t22 1) fun t24 =>
 jn (fun s3 u3 w9 =>
 K (tup [t23, (gs s3 0)]) w9) fun k3 =>
 pu P (oBin .eql T.error false true t24 .nilIface) fun t26 =>
 gd t26 false w8 (fun K1 => K1 t24 w8) fun t28 w10 =>
 gd t26 false w10 (fun K2 => st P (oLoad T.error (.pointer (some ⟨G.io_EOF, 0, none⟩))) w10 K2) fun t29 w11 =>
 gd t26 false w11 (fun K3 => st P (oBin .eql T.error false false t28 t29) w11 K3) fun t30 w12 =>
 pu P (oPick t26 (.bool true) t30) fun t31 =>
 gd t31 true w12 (fun K4 => K4 t0 w12) fun t33 w13 =>
 gd t31 true w13 (fun K5 => pu P (oNil t33) fun v => K5 v w13) fun t34 w14 =>
 gd t31 true w14 (fun K6 => pu P (oFldA T.afero_UnionFile t34 0) fun v => K6 v w14) fun t35 w15 =>
 gd t31 true w15 (fun K7 => st P (oLoad T.p_mem_File t35) w15 K7) fun t36 w16 =>
 gd t31 true w16 (fun K8 => pu P (oBin .neq T.p_mem_File false true t36 (.pointer none)) fun v => K8 v w16) fun t37 w17 =>
 pu P (oPick t31 t37 (.bool false)) fun t38 =>
 cd t38 (
 pu P (oNil t0) fun t41 =>
 pu P (oFldA T.afero_UnionFile t41 0) fun t42 =>
 st P (oLoad T.p_mem_File t42) w17 fun t43 w18 =>
 pu P (oBin .add T.int64 false false t2 t23) fun t46 =>
 st P (oCall Fn.mem_File_Seek #[t43, t46, (.int .i64 0)]) w18 fun t47 w19 =>
 pu P (oExtract t47 0) fun t48 =>
 pu P (oExtract t47 1) fun t49 =>
 k3 [t49] w19) (
 k3 [t24] w17)) (
 k1 [] w6)
def Tb_afero_UnionFile_ReadAt : Tab := { join := fun n => match n with | 5 => [9] | _ => [], loop := fun n => match n with | _ => [] }
theorem S_afero_UnionFile_ReadAt {t0 t1 t2 : Value} {w : World} {K : Value → World → Prop} (h : F_afero_UnionFile_ReadAt t0 t1 t2 w K) : Cl P Fn.afero_UnionFile_ReadAt #[t0, t1, t2] w K :=
  cl_of_eq (T := Tb_afero_UnionFile_ReadAt) (args := [t0, t1, t2]) Tryd.func59 rfl follows_mixed (by kernel_rfl) (Nat.le_of_ble_eq_true (by kernel_rfl)) (by kernel_rfl) h

/-- (*pub-marram/pub/afero.UnionFile).Write -/
def F_afero_UnionFile_Write (t0 t1 : Value) (w : World) (K : Value → World → Prop) : Prop :=
 jn (fun s1 u1 w1 =>
 jn (fun s2 u2 w2 =>
 rd P (oLoad T.error (.pointer (some ⟨G.os_EBADFD, 0, none⟩))) w2.drew fun t53 =>
 K (tup [(.int .i64 0), t53]) w2.drew) fun k2 =>
 pu P (oNil t0) fun t41 =>
 pu P (oFldA T.afero_UnionFile t41 0) fun t42 =>
 st P (oLoad T.p_mem_File t42) w1 fun t43 w3 =>
 pu P (oBin .neq T.p_mem_File false true t43 (.pointer none)) fun t44 =>
 cd t44 (
 pu P (oNil t0) fun t46 =>
 pu P (oFldA T.afero_UnionFile t46 0) fun t47 =>
 st P (oLoad T.p_mem_File t47) w3 fun t48 w4 =>
 st P (oCall Fn.mem_File_Write #[t48, t1]) w4 fun t50 w5 =>
 pu P (oExtract t50 0) fun t51 =>
 pu P (oExtract t50 1) fun t52 =>
 K (tup [t51, t52]) w5) (
 k2 [] w3)) fun k1 =>
 pu P (oNil t0) fun t7 =>
 pu P (oFldA T.afero_UnionFile t7 1) fun t8 =>
 st P (oLoad T.p_mem_File t8) w fun t9 w6 =>
 pu P (oBin .neq T.p_mem_File false true t9 (.pointer none)) fun t10 =>
 cd t10 (
 pu P (oNil t0) fun t13 =>
 pu P (oFldA T.afero_UnionFile t13 1) fun t14 =>
 st P (oLoad T.p_mem_File t14) w6 fun t15 w7 =>
 st P (oCall Fn.mem_File_Write #[t15, t1]) w7 fun t17 w8 =>
 pu P (oExtract t17 0) fun t18 =>
 pu P (oExtract t17 1) fun t19 =>
 jn (fun s3 u3 w9 =>
 K (tup [t18, (gs s3 0)]) w9) fun k3 =>
 pu P (oBin .eql T.error false true t19 .nilIface) fun t21 =>
 gd t21 true w8 (fun K1 => K1 t0 w8) fun t23 w10 =>
 gd t21 true w10 (fun K2 => pu P (oNil t23) fun v => K2 v w10) fun t24 w11 =>
 gd t21 true w11 (fun K3 => pu P (oFldA T.afero_UnionFile t24 0) fun v => K3 v w11) fun t25 w12 =>
 gd t21 true w12 (fun K4 => st P (oLoad T.p_mem_File t25) w12 K4) fun t26 w13 =>
 gd t21 true w13 (fun K5 => pu P (oBin .neq T.p_mem_File false true t26 (.pointer none)) fun v => K5 v w13) fun t27 w14 =>
 pu P (oPick t21 t27 (.bool false)) fun t28 =>
 cd t28 (
 pu P (oNil t0) fun t31 =>
 pu P (oFldA T.afero_UnionFile t31 0) fun t32 =>
 st P (oLoad T.p_mem_File t32) w14 fun t33 w15 =>
 st P (oCall Fn.mem_File_Write #[t33, t1]) w15 fun t35 w16 =>
 pu P (oExtract t35 0) fun t36 =>
 pu P (oExtract t35 1) fun t37 =>
 k3 [t37] w16) (
 k3 [t19] w14)) (
 k1 [] w6)
def Tb_afero_UnionFile_Write : Tab := { join := fun n => match n with | 5 => [5] | _ => [], loop := fun n => match n with | _ => [] }
theorem S_afero_UnionFile_Write {t0 t1 : Value} {w : World} {K : Value → World → Prop} (h : F_afero_UnionFile_Write t0 t1 w K) : Cl P Fn.afero_UnionFile_Write #[t0, t1] w K :=
  cl_of_eq (T := Tb_afero_UnionFile_Write) (args := [t0, t1]) Tryd.func60 rfl follows_mixed (by kernel_rfl) (Nat.le_of_ble_eq_true (by kernel_rfl)) (by kernel_rfl) h

/-- (*pub-marram/pub/afero.UnionFile).WriteAt -/
def F_afero_UnionFile_WriteAt (t0 t1 t2 : Value) (w : World) (K : Value → World → Prop) : Prop :=
 jn (fun s1 u1 w1 =>
 jn (fun s2 u2 w2 =>
 rd P (oLoad T.error (.pointer (some ⟨G.os_EBADFD, 0, none⟩))) w2.drew fun t58 =>
 K (tup [(.int .i64 0), t58]) w2.drew) fun k2 =>
 pu P (oNil t0) fun t45 =>
 pu P (oFldA T.afero_UnionFile t45 0) fun t46 =>
 st P (oLoad T.p_mem_File t46) w1 fun t47 w3 =>
 pu P (oBin .neq T.p_mem_File false true t47 (.pointer none)) fun t48 =>
 cd t48 (
 pu P (oNil t0) fun t50 =>
 pu P (oFldA T.afero_UnionFile t50 0) fun t51 =>
 st P (oLoad T.p_mem_File t51) w3 fun t52 w4 =>
 st P (oCall Fn.mem_File_WriteAt #[t52, t1, t2]) w4 fun t55 w5 =>
 pu P (oExtract t55 0) fun t56 =>
 pu P (oExtract t55 1) fun t57 =>
 K (tup [t56, t57]) w5) (
 k2 [] w3)) fun k1 =>
 pu P (oNil t0) fun t9 =>
 pu P (oFldA T.afero_UnionFile t9 1) fun t10 =>
 st P (oLoad T.p_mem_File t10) w fun t11 w6 =>
 pu P (oBin .neq T.p_mem_File false true t11 (.pointer none)) fun t12 =>
 cd t12 (
 pu P (oNil t0) fun t15 =>
 pu P (oFldA T.afero_UnionFile t15 1) fun t16 =>
 st P (oLoad T.p_mem_File t16) w6 fun t17 w7 =>
 st P (oCall Fn.mem_File_WriteAt #[t17, t1, t2]) w7 fun t20 w8 =>
 pu P (oExtract t20 0) fun t21 =>
 pu P (oExtract t20 1) fun t22 =>
 jn (fun s3 u3 w9 =>
 K (tup [t21, (gs s3 0)]) w9) fun k3 =>
 pu P (oBin .eql T.error false true t22 .nilIface) fun t24 =>
 gd t24 true w8 (fun K1 => K1 t0 w8) fun t26 w10 =>
 gd t24 true w10 (fun K2 => pu P (oNil t26) fun v => K2 v w10) fun t27 w11 =>
 gd t24 true w11 (fun K3 => pu P (oFldA T.afero_UnionFile t27 0) fun v => K3 v w11) fun t28 w12 =>
 gd t24 true w12 (fun K4 => st P (oLoad T.p_mem_File t28) w12 K4) fun t29 w13 =>
 gd t24 true w13 (fun K5 => pu P (oBin .neq T.p_mem_File false true t29 (.pointer none)) fun v => K5 v w13) fun t30 w14 =>
 pu P (oPick t24 t30 (.bool false)) fun t31 =>
 cd t31 (
 pu P (oNil t0) fun t34 =>
 pu P (oFldA T.afero_UnionFile t34 0) fun t35 =>
 st P (oLoad T.p_mem_File t35) w14 fun t36 w15 =>
 st P (oCall Fn.mem_File_WriteAt #[t36, t1, t2]) w15 fun t39 w16 =>
 pu P (oExtract t39 0) fun t40 =>
 pu P (oExtract t39 1) fun t41 =>
 k3 [t41] w16) (
 k3 [t22] w14)) (
 k1 [] w6)
def Tb_afero_UnionFile_WriteAt : Tab := { join := fun n => match n with | 5 => [7] | _ => [], loop := fun n => match n with | _ => [] }
theorem S_afero_UnionFile_WriteAt {t0 t1 t2 : Value} {w : World} {K : Value → World → Prop} (h : F_afero_UnionFile_WriteAt t0 t1 t2 w K) : Cl P Fn.afero_UnionFile_WriteAt #[t0, t1, t2] w K :=
  cl_of_eq (T := Tb_afero_UnionFile_WriteAt) (args := [t0, t1, t2]) Tryd.func61 rfl follows_mixed (by kernel_rfl) (Nat.le_of_ble_eq_true (by kernel_rfl)) (by kernel_rfl) h

/-- (*pub-marram/pub/afero.UnionFile).Seek -/
def F_afero_UnionFile_Seek (t0 t1 t2 : Value) (w : World) (K : Value → World → Prop) : Prop :=
 jn (fun s1 u1 w1 =>
 jn (fun s2 u2 w2 =>
 rd P (oLoad T.error (.pointer (some ⟨G.os_EBADFD, 0, none⟩))) w2.drew fun t63 =>
 K (tup [(.int .i64 0), t63]) w2.drew) fun k2 =>
 pu P (oNil t0) fun t50 =>
 pu P (oFldA T.afero_UnionFile t50 0) fun t51 =>
 st P (oLoad T.p_mem_File t51) w1 fun t52 w3 =>
 pu P (oBin .neq T.p_mem_File false true t52 (.pointer none)) fun t53 =>
 cd t53 (
 pu P (oNil t0) fun t55 =>
 pu P (oFldA T.afero_UnionFile t55 0) fun t56 =>
 st P (oLoad T.p_mem_File t56) w3 fun t57 w4 =>
 st P (oCall Fn.mem_File_Seek #[t57, t1, t2]) w4 fun t60 w5 =>
 pu P (oExtract t60 0) fun t61 =>
 pu P (oExtract t60 1) fun t62 =>
 K (tup [t61, t62]) w5) (
 k2 [] w3)) fun k1 =>
 pu P (oNil t0) fun t9 =>
 pu P (oFldA T.afero_UnionFile t9 1) fun t10 =>
 st P (oLoad T.p_mem_File t10) w fun t11 w6 =>
 pu P (oBin .neq T.p_mem_File false true t11 (.pointer none)) fun t12 =>
 cd t12 (
 pu P (oNil t0) fun t15 =>
 pu P (oFldA T.afero_UnionFile t15 1) fun t16 =>
 st P (oLoad T.p_mem_File t16) w6 fun t17 w7 =>
 st P (oCall Fn.mem_File_Seek #[t17, t1, t2]) w7 fun t20 w8 =>
 pu P (oExtract t20 0) fun t21 =>
 pu P (oExtract t20 1) fun t22 =>
 jn (fun s3 u3 w9 =>
 K (tup [t21, (gs s3 0)]) w9) fun k3 =>
 pu P (oBin .eql T.error false true t22 .nilIface) fun t24 =>
 gd t24 false w8 (fun K1 => K1 t22 w8) fun t26 w10 =>
 gd t24 false w10 (fun K2 => st P (oLoad T.error (.pointer (some ⟨G.io_EOF, 0, none⟩))) w10 K2) fun t27 w11 =>
 gd t24 false w11 (fun K3 => st P (oBin .eql T.error false false t26 t27) w11 K3) fun t28 w12 =>
 pu P (oPick t24 (.bool true) t28) fun t29 =>
 gd t29 true w12 (fun K4 => K4 t0 w12) fun t31 w13 =>
 gd t29 true w13 (fun K5 => pu P (oNil t31) fun v => K5 v w13) fun t32 w14 =>
 gd t29 true w14 (fun K6 => pu P (oFldA T.afero_UnionFile t32 0) fun v => K6 v w14) fun t33 w15 =>
 gd t29 true w15 (fun K7 => st P (oLoad T.p_mem_File t33) w15 K7) fun t34 w16 =>
 gd t29 true w16 (fun K8 => pu P (oBin .neq T.p_mem_File false true t34 (.pointer none)) fun v => K8 v w16) fun t35 w17 =>
 pu P (oPick t29 t35 (.bool false)) fun t36 =>
 cd t36 (
 pu P (oNil t0) fun t39 =>
 pu P (oFldA T.afero_UnionFile t39 0) fun t40 =>
 st P (oLoad T.p_mem_File t40) w17 fun t41 w18 =>
 st P (oCall Fn.mem_File_Seek #[t41, t1, t2]) w18 fun t44 w19 =>
 pu P (oExtract t44 0) fun t45 =>
 pu P (oExtract t44 1) fun t46 =>
 k3 [t46] w19) (
 k3 [t22] w17)) (
 k1 [] w6)
def Tb_afero_UnionFile_Seek : Tab := { join := fun n => match n with | 5 => [7] | _ => [], loop := fun n => match n with | _ => [] }
theorem S_afero_UnionFile_Seek {t0 t1 t2 : Value} {w : World} {K : Value → World → Prop} (h : F_afero_UnionFile_Seek t0 t1 t2 w K) : Cl P Fn.afero_UnionFile_Seek #[t0, t1, t2] w K :=
  cl_of_eq (T := Tb_afero_UnionFile_Seek) (args := [t0, t1, t2]) Tryd.func62 rfl follows_mixed (by kernel_rfl) (Nat.le_of_ble_eq_true (by kernel_rfl)) (by kernel_rfl) h

/-- (*pub-marram/pub/afero.UnionFile).Truncate -/
def F_afero_UnionFile_Truncate (t0 t1 : Value) (w : World) (K : Value → World → Prop) : Prop :=
 jn (fun s1 u1 w1 =>
 jn (fun s2 u2 w2 =>
 st P (oLoad T.error (.pointer (some ⟨G.os_EBADFD, 0, none⟩))) w2 fun t43 w3 =>
 K (tup [t43]) w3) fun k2 =>
 pu P (oNil t0) fun t33 =>
 pu P (oFldA T.afero_UnionFile t33 0) fun t34 =>
 st P (oLoad T.p_mem_File t34) w1 fun t35 w4 =>
 pu P (oBin .neq T.p_mem_File false true t35 (.pointer none)) fun t36 =>
 cd t36 (
 pu P (oNil t0) fun t38 =>
 pu P (oFldA T.afero_UnionFile t38 0) fun t39 =>
 st P (oLoad T.p_mem_File t39) w4 fun t40 w5 =>
 st P (oCall Fn.mem_File_Truncate #[t40, t1]) w5 fun t42 w6 =>
 K (tup [t42]) w6) (
 k2 [] w4)) fun k1 =>
 pu P (oNil t0) fun t6 =>
 pu P (oFldA T.afero_UnionFile t6 1) fun t7 =>
 st P (oLoad T.p_mem_File t7) w fun t8 w7 =>
 pu P (oBin .neq T.p_mem_File false true t8 (.pointer none)) fun t9 =>
 cd t9 (
 pu P (oNil t0) fun t11 =>
 pu P (oFldA T.afero_UnionFile t11 1) fun t12 =>
 st P (oLoad T.p_mem_File t12) w7 fun t13 w8 =>
 st P (oCall Fn.mem_File_Truncate #[t13, t1]) w8 fun t15 w9 =>
 jn (fun s3 u3 w10 =>
 K (tup [(gs s3 0)]) w10) fun k3 =>
 pu P (oBin .eql T.error false true t15 .nilIface) fun t17 =>
 gd t17 true w9 (fun K1 => K1 t0 w9) fun t19 w11 =>
 gd t17 true w11 (fun K2 => pu P (oNil t19) fun v => K2 v w11) fun t20 w12 =>
 gd t17 true w12 (fun K3 => pu P (oFldA T.afero_UnionFile t20 0) fun v => K3 v w12) fun t21 w13 =>
 gd t17 true w13 (fun K4 => st P (oLoad T.p_mem_File t21) w13 K4) fun t22 w14 =>
 gd t17 true w14 (fun K5 => pu P (oBin .neq T.p_mem_File false true t22 (.pointer none)) fun v => K5 v w14) fun t23 w15 =>
 pu P (oPick t17 t23 (.bool false)) fun t24 =>
 cd t24 (
 pu P (oNil t0) fun t26 =>
 pu P (oFldA T.afero_UnionFile t26 0) fun t27 =>
 st P (oLoad T.p_mem_File t27) w15 fun t28 w16 =>
 st P (oCall Fn.mem_File_Truncate #[t28, t1]) w16 fun t30 w17 =>
 k3 [t30] w17) (
 k3 [t15] w15)) (
 k1 [] w7)
def Tb_afero_UnionFile_Truncate : Tab := { join := fun n => match n with | 5 => [4] | _ => [], loop := fun n => match n with | _ => [] }
theorem S_afero_UnionFile_Truncate {t0 t1 : Value} {w : World} {K : Value → World → Prop} (h : F_afero_UnionFile_Truncate t0 t1 w K) : Cl P Fn.afero_UnionFile_Truncate #[t0, t1] w K :=
  cl_of_eq (T := Tb_afero_UnionFile_Truncate) (args := [t0, t1]) Tryd.func63 rfl follows_mixed (by kernel_rfl) (Nat.le_of_ble_eq_true (by kernel_rfl)) (by kernel_rfl) h

/-- (*pub-marram/pub/afero.UnionFile).Close -/
def F_afero_UnionFile_Close (t0 : Value) (w : World) (K : Value → World → Prop) : Prop :=
 jn (fun s1 u1 w1 =>
 jn (fun s2 u2 w2 =>
 st P (oLoad T.error (.pointer (some ⟨G.os_EBADFD, 0, none⟩))) w2 fun t23 w3 =>
 K (tup [t23]) w3) fun k2 =>
 pu P (oNil t0) fun t14 =>
 pu P (oFldA T.afero_UnionFile t14 1) fun t15 =>
 st P (oLoad T.p_mem_File t15) w1 fun t16 w4 =>
 pu P (oBin .neq T.p_mem_File false true t16 (.pointer none)) fun t17 =>
 cd t17 (
 pu P (oNil t0) fun t19 =>
 pu P (oFldA T.afero_UnionFile t19 1) fun t20 =>
 st P (oLoad T.p_mem_File t20) w4 fun t21 w5 =>
 st P (oCall Fn.mem_File_Close #[t21]) w5 fun t22 w6 =>
 K (tup [t22]) w6) (
 k2 [] w4)) fun k1 =>
 pu P (oNil t0) fun t4 =>
 pu P (oFldA T.afero_UnionFile t4 0) fun t5 =>
 st P (oLoad T.p_mem_File t5) w fun t6 w7 =>
 pu P (oBin .neq T.p_mem_File false true t6 (.pointer none)) fun t7 =>
 cd t7 (
 pu P (oNil t0) fun t9 =>
 pu P (oFldA T.afero_UnionFile t9 0) fun t10 =>
 st P (oLoad T.p_mem_File t10) w7 fun t11 w8 =>
 st P (oCall Fn.mem_File_Close #[t11]) w8 fun t12 w9 =>
 k1 [] w9) (
 k1 [] w7)
def Tb_afero_UnionFile_Close : Tab := { join := fun n => match n with | _ => [], loop := fun n => match n with | _ => [] }
theorem S_afero_UnionFile_Close {t0 : Value} {w : World} {K : Value → World → Prop} (h : F_afero_UnionFile_Close t0 w K) : Cl P Fn.afero_UnionFile_Close #[t0] w K :=
  cl_of_eq (T := Tb_afero_UnionFile_Close) (args := [t0]) Tryd.func64 rfl follows_mixed (by kernel_rfl) (Nat.le_of_ble_eq_true (by kernel_rfl)) (by kernel_rfl) h

/-- (*pub-marram/pub/afero.UnionFile).Readdir -/
def F_afero_UnionFile_Readdir (t0 t1 : Value) (w : World) (K : Value → World → Prop) : Prop :=
 jn (fun s1 u1 w1 =>
 pu P (oNil t0) fun t67 =>
 pu P (oFldA T.afero_UnionFile t67 3) fun t68 =>
 rd P (oLoad T.sl_p_mem_FileInfo t68) w1.drew fun t69 =>
 pu P (oNil t0) fun t71 =>
 pu P (oFldA T.afero_UnionFile t71 2) fun t72 =>
 rd P (oLoad T.int t72) w1.drew fun t73 =>
 pu P (oSlice T.sl_p_mem_FileInfo t69 (some t73) none none) fun t74 =>
 jn (fun s2 u2 w2 =>
 jn (fun s3 u3 w3 =>
 jn (fun s4 u4 w4 =>
 pu P (oNil t0) fun t89 =>
 pu P (oFldA T.afero_UnionFile t89 2) fun t90 =>
 st P (oLoad T.int t90) w4 fun t91 w5 =>
 pu P (oBin .add T.int false false t91 (gs s4 0)) fun t93 =>
 pu P (oNil t0) fun t94 =>
 pu P (oFldA T.afero_UnionFile t94 2) fun t95 =>
 st P (oStore T.int t95 t93) w5 fun _ w6 =>
 pu P (oSlice T.sl_p_mem_FileInfo t74 none (some (gs s4 0)) none) fun t98 =>
 K (tup [t98, .nilIface]) w6) fun k4 =>
 pu P (oBuiltin .len #[T.sl_p_mem_FileInfo] T.int #[false] #[t74]) fun t84 =>
 pu P (oBin .gtr T.int false false t1 t84) fun t85 =>
 cd t85 (
 pu P (oBuiltin .len #[T.sl_p_mem_FileInfo] T.int #[false] #[t74]) fun t87 =>
 k4 [t87] w3) (
 k4 [t1] w3)) fun k3 =>
 pu P (oBuiltin .len #[T.sl_p_mem_FileInfo] T.int #[false] #[t74]) fun t79 =>
 pu P (oBin .eql T.int false true t79 (.int .i64 0)) fun t80 =>
 cd t80 (
 rd P (oLoad T.error (.pointer (some ⟨G.io_EOF, 0, none⟩))) w2.drew fun t81 =>
 K (tup [(.slice none 0 0), t81]) w2.drew) (
 k3 [] w2)) fun k2 =>
 pu P (oBin .leq T.int false true t1 (.int .i64 0)) fun t76 =>
 cd t76 (
 K (tup [t74, .nilIface]) w1.drew) (
 k2 [] w1.drew)) fun k1 =>
 pu P (oNil t0) fun t12 =>
 pu P (oFldA T.afero_UnionFile t12 2) fun t13 =>
 st P (oLoad T.int t13) w fun t14 w7 =>
 pu P (oBin .eql T.int false true t14 (.int .i64 0)) fun t15 =>
 cd t15 (
 jn (fun s5 u5 w8 =>
 jn (fun s6 u6 w9 =>
 st P (oCall Fn.afero_defaultUnionMergeDirsFn #[(gs s5 0), (gs s6 0)]) w9 fun t51 w10 =>
 pu P (oExtract t51 0) fun t52 =>
 pu P (oExtract t51 1) fun t53 =>
 jn (fun s7 u7 w11 =>
 pu P (oNil t0) fun t59 =>
 pu P (oFldA T.afero_UnionFile t59 3) fun t60 =>
 st P (oLoad T.sl_p_mem_FileInfo t60) w11 fun t61 w12 =>
 st P (oBuiltin .append #[T.sl_p_mem_FileInfo, T.sl_p_mem_FileInfo] T.sl_p_mem_FileInfo #[false, false] #[t61, t52]) w12 fun t63 w13 =>
 pu P (oNil t0) fun t64 =>
 pu P (oFldA T.afero_UnionFile t64 3) fun t65 =>
 st P (oStore T.sl_p_mem_FileInfo t65 t63) w13 fun _ w14 =>
 k1 [] w14) fun k7 =>
 pu P (oBin .neq T.error false true t53 .nilIface) fun t55 =>
 cd t55 (
 K (tup [(.slice none 0 0), t53]) w10) (
 k7 [] w10)) fun k6 =>
 pu P (oNil t0) fun t33 =>
 pu P (oFldA T.afero_UnionFile t33 0) fun t34 =>
 st P (oLoad T.p_mem_File t34) w8 fun t35 w15 =>
 pu P (oBin .neq T.p_mem_File false true t35 (.pointer none)) fun t36 =>
 cd t36 (
 pu P (oNil t0) fun t39 =>
 pu P (oFldA T.afero_UnionFile t39 0) fun t40 =>
 st P (oLoad T.p_mem_File t40) w15 fun t41 w16 =>
 st P (oCall Fn.mem_File_Readdir #[t41, (.int .i64 (-1))]) w16 fun t42 w17 =>
 pu P (oExtract t42 0) fun t43 =>
 pu P (oExtract t42 1) fun t44 =>
 pu P (oBin .neq T.error false true t44 .nilIface) fun t46 =>
 cd t46 (
 K (tup [(.slice none 0 0), t44]) w17) (
 k6 [t43] w17)) (
 k6 [(.slice none 0 0)] w15)) fun k5 =>
 pu P (oNil t0) fun t17 =>
 pu P (oFldA T.afero_UnionFile t17 1) fun t18 =>
 st P (oLoad T.p_mem_File t18) w7 fun t19 w18 =>
 pu P (oBin .neq T.p_mem_File false true t19 (.pointer none)) fun t20 =>
 cd t20 (
 pu P (oNil t0) fun t23 =>
 pu P (oFldA T.afero_UnionFile t23 1) fun t24 =>
 st P (oLoad T.p_mem_File t24) w18 fun t25 w19 =>
 st P (oCall Fn.mem_File_Readdir #[t25, (.int .i64 (-1))]) w19 fun t26 w20 =>
 pu P (oExtract t26 0) fun t27 =>
 pu P (oExtract t26 1) fun t28 =>
 pu P (oBin .neq T.error false true t28 .nilIface) fun t30 =>
 cd t30 (
 K (tup [(.slice none 0 0), t28]) w20) (
 k5 [t27] w20)) (
 k5 [(.slice none 0 0)] w18)) (
 k1 [] w7)
def Tb_afero_UnionFile_Readdir : Tab := { join := fun n => match n with | 7 => [6] | 12 => [7] | 23 => [1] | _ => [], loop := fun n => match n with | _ => [] }
theorem S_afero_UnionFile_Readdir {t0 t1 : Value} {w : World} {K : Value → World → Prop} (h : F_afero_UnionFile_Readdir t0 t1 w K) : Cl P Fn.afero_UnionFile_Readdir #[t0, t1] w K :=
  cl_of_eq (T := Tb_afero_UnionFile_Readdir) (args := [t0, t1]) Tryd.func65 rfl follows_mixed (by kernel_rfl) (Nat.le_of_ble_eq_true (by kernel_rfl)) (by kernel_rfl) h

end Go.Proofs.YteblpejgenehfaaDoor.X
