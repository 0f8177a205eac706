/- The functions' own texts over values, each held against the loaded code by the kernel. Laid by a program of this session. No condition. -/
import Derived.Test.YtdilealdddbhnaaXN
set_option linter.unusedVariables false
set_option maxRecDepth 100000
namespace Go.Proofs.Ytdilealdddbhnaa.X
open Go Go.X Go.Proofs

/-- (*pub-marram/pub/afero/mem.FileInfo).IsDir -/
def F_mem_FileInfo_IsDir (t0 : Value) (w : World) (K : Value → World → Prop) : Prop :=
 pu P (oNil t0) fun t4 =>
 pu P (oFldA T.mem_FileInfo t4 0) fun t5 =>
 st P (oLoad T.p_mem_FileData t5) w fun t6 w1 =>
 pu P (oNil t6) fun t7 =>
 pu P (oFldA T.mem_FileData t7 3) fun t8 =>
 st P (oLoad T.bool t8) w1 fun t9 w2 =>
 K (tup [t9]) w2
def Tb_mem_FileInfo_IsDir : Tab := { join := fun n => match n with | _ => [], loop := fun n => match n with | _ => [] }
theorem S_mem_FileInfo_IsDir {t0 : Value} {w : World} {K : Value → World → Prop} (h : F_mem_FileInfo_IsDir t0 w K) : Cl P Fn.mem_FileInfo_IsDir #[t0] w K :=
  cl_of_eq (T := Tb_mem_FileInfo_IsDir) (args := [t0]) Try.func74 rfl follows_mixed (by kernel_rfl) (Nat.le_of_ble_eq_true (by kernel_rfl)) (by kernel_rfl) h

/-- (*pub-marram/pub/afero/mem.FileInfo).ModTime -/
def F_mem_FileInfo_ModTime (t0 : Value) (w : World) (K : Value → World → Prop) : Prop :=
 pu P (oNil t0) fun t4 =>
 pu P (oFldA T.mem_FileInfo t4 0) fun t5 =>
 st P (oLoad T.p_mem_FileData t5) w fun t6 w1 =>
 pu P (oNil t6) fun t7 =>
 pu P (oFldA T.mem_FileData t7 5) fun t8 =>
 st P (oLoad T.int64 t8) w1 fun t9 w2 =>
 K (tup [t9]) w2
def Tb_mem_FileInfo_ModTime : Tab := { join := fun n => match n with | _ => [], loop := fun n => match n with | _ => [] }
theorem S_mem_FileInfo_ModTime {t0 : Value} {w : World} {K : Value → World → Prop} (h : F_mem_FileInfo_ModTime t0 w K) : Cl P Fn.mem_FileInfo_ModTime #[t0] w K :=
  cl_of_eq (T := Tb_mem_FileInfo_ModTime) (args := [t0]) Try.func75 rfl follows_mixed (by kernel_rfl) (Nat.le_of_ble_eq_true (by kernel_rfl)) (by kernel_rfl) h

/-- path.Clean -/
def F_path_Clean (t0 : Value) (w : World) (K : Value → World → Prop) : Prop :=
 jn (fun s1 u1 w1 =>
 pu P (oIdx T.string t0 (.int .i64 0)) fun t11 =>
 pu P (oBin .eql T.uint8 false true t11 (.int .u8 47)) fun t12 =>
 pu P (oBuiltin .len #[T.string] T.int #[false] #[t0]) fun t14 =>
 pu P (oBuild T.path_lazybuf #[(0, t0)]) fun t16 =>
 st P (oAlloc T.path_lazybuf) w1 fun t5 w2 =>
 st P (oStore T.path_lazybuf t5 t16) w2 fun _ w3 =>
 jn (fun s2 u2 w4 =>
 jn (fun s3 u3 w5 =>
 jn (fun s4 u4 w6 =>
 st P (oCall Fn.path_lazybuf_string #[t5]) w6 fun t144 w7 =>
 K (tup [t144]) w7) fun k4 =>
 pu P (oFldA T.path_lazybuf t5 2) fun t141 =>
 st P (oLoad T.int t141) w5 fun t142 w8 =>
 pu P (oBin .eql T.int false true t142 (.int .i64 0)) fun t143 =>
 cd t143 (
 K (tup [(S [46])]) w8) (
 k4 [] w8)) fun k3 =>
 lp [(gs s2 0), (gs s2 1)] w4 fun s5 u5 w9 C1 =>
 jn (fun s6 u6 w10 =>
 pu P (oIdx T.string t0 (gs s5 0)) fun t56 =>
 pu P (oBin .eql T.uint8 false true t56 (.int .u8 47)) fun t57 =>
 cd t57 (
 pu P (oBin .add T.int false true (gs s5 0) (.int .i64 1)) fun t59 =>
 C1 [t59, (gs s5 1)] w10) (
 pu P (oIdx T.string t0 (gs s5 0)) fun t63 =>
 pu P (oBin .eql T.uint8 false true t63 (.int .u8 46)) fun t64 =>
 gd t64 true w10 (fun K1 => K1 (gs s5 0) w10) fun t66 w11 =>
 gd t64 true w11 (fun K2 => pu P (oBin .add T.int false true t66 (.int .i64 1)) fun v => K2 v w11) fun t67 w12 =>
 gd t64 true w12 (fun K3 => K3 t14 w12) fun t68 w13 =>
 gd t64 true w13 (fun K4 => pu P (oBin .eql T.int false false t67 t68) fun v => K4 v w13) fun t69 w14 =>
 gd t64 true w14 (fun K5 => K5 t69 w14) fun t70 w15 =>
 gd t70 false w15 (fun K6 => K6 t0 w15) fun t71 w16 =>
 gd t70 false w16 (fun K7 => K7 (gs s5 0) w16) fun t72 w17 =>
 gd t70 false w17 (fun K8 => pu P (oBin .add T.int false true t72 (.int .i64 1)) fun v => K8 v w17) fun t73 w18 =>
 gd t70 false w18 (fun K9 => pu P (oIdx T.string t71 t73) fun v => K9 v w18) fun t74 w19 =>
 gd t70 false w19 (fun K10 => pu P (oBin .eql T.uint8 false true t74 (.int .u8 47)) fun v => K10 v w19) fun t75 w20 =>
 gd t64 true w20 (fun K11 => pu P (oPick t70 (.bool true) t75) fun v => K11 v w20) fun t76 w21 =>
 pu P (oPick t64 t76 (.bool false)) fun t77 =>
 cd t77 (
 pu P (oBin .add T.int false true (gs s5 0) (.int .i64 1)) fun t79 =>
 C1 [t79, (gs s5 1)] w21) (
 pu P (oIdx T.string t0 (gs s5 0)) fun t83 =>
 pu P (oBin .eql T.uint8 false true t83 (.int .u8 46)) fun t84 =>
 gd t84 true w21 (fun K12 => K12 t0 w21) fun t86 w22 =>
 gd t84 true w22 (fun K13 => K13 (gs s5 0) w22) fun t87 w23 =>
 gd t84 true w23 (fun K14 => pu P (oBin .add T.int false true t87 (.int .i64 1)) fun v => K14 v w23) fun t88 w24 =>
 gd t84 true w24 (fun K15 => pu P (oIdx T.string t86 t88) fun v => K15 v w24) fun t89 w25 =>
 gd t84 true w25 (fun K16 => pu P (oBin .eql T.uint8 false true t89 (.int .u8 46)) fun v => K16 v w25) fun t90 w26 =>
 pu P (oPick t84 t90 (.bool false)) fun t91 =>
 gd t91 true w26 (fun K17 => K17 (gs s5 0) w26) fun t93 w27 =>
 gd t91 true w27 (fun K18 => pu P (oBin .add T.int false true t93 (.int .i64 2)) fun v => K18 v w27) fun t94 w28 =>
 gd t91 true w28 (fun K19 => K19 t14 w28) fun t95 w29 =>
 gd t91 true w29 (fun K20 => pu P (oBin .eql T.int false false t94 t95) fun v => K20 v w29) fun t96 w30 =>
 gd t91 true w30 (fun K21 => K21 t96 w30) fun t97 w31 =>
 gd t97 false w31 (fun K22 => K22 t0 w31) fun t98 w32 =>
 gd t97 false w32 (fun K23 => K23 (gs s5 0) w32) fun t99 w33 =>
 gd t97 false w33 (fun K24 => pu P (oBin .add T.int false true t99 (.int .i64 2)) fun v => K24 v w33) fun t100 w34 =>
 gd t97 false w34 (fun K25 => pu P (oIdx T.string t98 t100) fun v => K25 v w34) fun t101 w35 =>
 gd t97 false w35 (fun K26 => pu P (oBin .eql T.uint8 false true t101 (.int .u8 47)) fun v => K26 v w35) fun t102 w36 =>
 gd t91 true w36 (fun K27 => pu P (oPick t97 (.bool true) t102) fun v => K27 v w36) fun t103 w37 =>
 pu P (oPick t91 t103 (.bool false)) fun t104 =>
 cd t104 (
 pu P (oBin .add T.int false true (gs s5 0) (.int .i64 2)) fun t106 =>
 pu P (oFldA T.path_lazybuf t5 2) fun t108 =>
 st P (oLoad T.int t108) w37 fun t109 w38 =>
 pu P (oBin .gtr T.int false false t109 (gs s5 1)) fun t111 =>
 cd t111 (
 pu P (oFldA T.path_lazybuf t5 2) fun t112 =>
 st P (oLoad T.int t112) w38 fun t113 w39 =>
 pu P (oBin .sub T.int false true t113 (.int .i64 1)) fun t114 =>
 pu P (oFldA T.path_lazybuf t5 2) fun t115 =>
 st P (oStore T.int t115 t114) w39 fun _ w40 =>
 lp [] w40 fun s7 u7 w41 C2 =>
 jn (fun s8 u8 w42 =>
 pu P (oFldA T.path_lazybuf t5 2) fun t126 =>
 st P (oLoad T.int t126) w42 fun t127 w43 =>
 pu P (oBin .sub T.int false true t127 (.int .i64 1)) fun t128 =>
 pu P (oFldA T.path_lazybuf t5 2) fun t129 =>
 st P (oStore T.int t129 t128) w43 fun _ w44 =>
 C2 [] w44) fun k6 =>
 pu P (oFldA T.path_lazybuf t5 2) fun t116 =>
 st P (oLoad T.int t116) w41 fun t117 w45 =>
 pu P (oBin .gtr T.int false false t117 (gs s5 1)) fun t119 =>
 gd t119 true w45 (fun K28 => pu P (oFldA T.path_lazybuf t5 2) fun v => K28 v w45) fun t121 w46 =>
 gd t119 true w46 (fun K29 => st P (oLoad T.int t121) w46 K29) fun t122 w47 =>
 gd t119 true w47 (fun K30 => st P (oCall Fn.path_lazybuf_index #[t5, t122]) w47 K30) fun t123 w48 =>
 gd t119 true w48 (fun K31 => pu P (oBin .neq T.uint8 false true t123 (.int .u8 47)) fun v => K31 v w48) fun t124 w49 =>
 pu P (oPick t119 t124 (.bool false)) fun t125 =>
 cd t125 (
 k6 [] w49) (
 C1 [t106, (gs s5 1)] w49)) (
 pu P (oUn .not t12) fun t132 =>
 cd t132 (
 jn (fun s9 u9 w50 =>
 st P (oCall Fn.path_lazybuf_append #[t5, (.int .u8 46)]) w50 fun t137 w51 =>
 st P (oCall Fn.path_lazybuf_append #[t5, (.int .u8 46)]) w51 fun t138 w52 =>
 pu P (oFldA T.path_lazybuf t5 2) fun t139 =>
 st P (oLoad T.int t139) w52 fun t140 w53 =>
 C1 [t106, t140] w53) fun k7 =>
 pu P (oFldA T.path_lazybuf t5 2) fun t133 =>
 st P (oLoad T.int t133) w38 fun t134 w54 =>
 pu P (oBin .gtr T.int false true t134 (.int .i64 0)) fun t135 =>
 cd t135 (
 st P (oCall Fn.path_lazybuf_append #[t5, (.int .u8 47)]) w54 fun t136 w55 =>
 k7 [] w55) (
 k7 [] w54)) (
 C1 [t106, (gs s5 1)] w38))) (
 jn (fun s10 u10 w56 =>
 lp [(gs s5 0)] w56 fun s11 u11 w57 C3 =>
 jn (fun s12 u12 w58 =>
 pu P (oIdx T.string t0 (gs s11 0)) fun t51 =>
 st P (oCall Fn.path_lazybuf_append #[t5, t51]) w58 fun t52 w59 =>
 pu P (oBin .add T.int false true (gs s11 0) (.int .i64 1)) fun t48 =>
 C3 [t48] w59) fun k9 =>
 pu P (oBin .lss T.int false false (gs s11 0) t14) fun t40 =>
 gd t40 true w57 (fun K32 => K32 t0 w57) fun t42 w60 =>
 gd t40 true w60 (fun K33 => K33 (gs s11 0) w60) fun t43 w61 =>
 gd t40 true w61 (fun K34 => pu P (oIdx T.string t42 t43) fun v => K34 v w61) fun t44 w62 =>
 gd t40 true w62 (fun K35 => pu P (oBin .neq T.uint8 false true t44 (.int .u8 47)) fun v => K35 v w62) fun t45 w63 =>
 pu P (oPick t40 t45 (.bool false)) fun t46 =>
 cd t46 (
 k9 [] w63) (
 C1 [(gs s11 0), (gs s5 1)] w63)) fun k8 =>
 gd t12 true w37 (fun K36 => pu P (oFldA T.path_lazybuf t5 2) fun v => K36 v w37) fun t24 w64 =>
 gd t12 true w64 (fun K37 => st P (oLoad T.int t24) w64 K37) fun t25 w65 =>
 gd t12 true w65 (fun K38 => pu P (oBin .neq T.int false true t25 (.int .i64 1)) fun v => K38 v w65) fun t26 w66 =>
 pu P (oPick t12 t26 (.bool false)) fun t27 =>
 gd t27 false w66 (fun K39 => K39 t12 w66) fun t29 w67 =>
 gd t27 false w67 (fun K40 => pu P (oUn .not t29) fun v => K40 v w67) fun t30 w68 =>
 gd t27 false w68 (fun K41 => K41 t30 w68) fun t31 w69 =>
 gd t31 true w69 (fun K42 => pu P (oFldA T.path_lazybuf t5 2) fun v => K42 v w69) fun t32 w70 =>
 gd t31 true w70 (fun K43 => st P (oLoad T.int t32) w70 K43) fun t33 w71 =>
 gd t31 true w71 (fun K44 => pu P (oBin .neq T.int false true t33 (.int .i64 0)) fun v => K44 v w71) fun t34 w72 =>
 gd t27 false w72 (fun K45 => pu P (oPick t31 t34 (.bool false)) fun v => K45 v w72) fun t35 w73 =>
 pu P (oPick t27 (.bool true) t35) fun t36 =>
 cd t36 (
 st P (oCall Fn.path_lazybuf_append #[t5, (.int .u8 47)]) w73 fun t37 w74 =>
 k8 [] w74) (
 k8 [] w73))))) fun k5 =>
 pu P (oBin .lss T.int false false (gs s5 0) t14) fun t21 =>
 cd t21 (
 k5 [] w9) (
 k3 [] w9)) fun k2 =>
 cd t12 (
 st P (oCall Fn.path_lazybuf_append #[t5, (.int .u8 47)]) w3 fun t18 w75 =>
 k2 [(.int .i64 1), (.int .i64 1)] w75) (
 k2 [(.int .i64 0), (.int .i64 0)] w3)) fun k1 =>
 pu P (oBin .eql T.string false true t0 (S [])) fun t9 =>
 cd t9 (
 K (tup [(S [46])]) w) (
 k1 [] w)
def Tb_path_Clean : Tab := { join := fun n => match n with | 10 => [6, 7] | _ => [], loop := fun n => match n with | 10 => [6, 7] | 13 => [6] | _ => [] }
theorem S_path_Clean {t0 : Value} {w : World} {K : Value → World → Prop} (h : F_path_Clean t0 w K) : Cl P Fn.path_Clean #[t0] w K :=
  cl_of_eq (T := Tb_path_Clean) (args := [t0]) Try.func76 rfl follows_mixed (by kernel_rfl) (Nat.le_of_ble_eq_true (by kernel_rfl)) (by kernel_rfl) h

/-- internal/stringslite.IndexByte -/
def F_stringslite_IndexByte (t0 t1 : Value) (w : World) (K : Value → World → Prop) : Prop :=
 st P (oCall Fn.bytealg_IndexByteString #[t0, t1]) w fun t7 w1 =>
 K (tup [t7]) w1
def Tb_stringslite_IndexByte : Tab := { join := fun n => match n with | _ => [], loop := fun n => match n with | _ => [] }
theorem S_stringslite_IndexByte {t0 t1 : Value} {w : World} {K : Value → World → Prop} (h : F_stringslite_IndexByte t0 t1 w K) : Cl P Fn.stringslite_IndexByte #[t0, t1] w K :=
  cl_of_eq (T := Tb_stringslite_IndexByte) (args := [t0, t1]) Try.func77 rfl follows_mixed (by kernel_rfl) (Nat.le_of_ble_eq_true (by kernel_rfl)) (by kernel_rfl) h

/-- pub-marram/pub/afero.zzIndexAny -/
def F_afero_zzIndexAny (t0 t1 : Value) (w : World) (K : Value → World → Prop) : Prop :=
 jn (fun s1 u1 w1 =>
 K (tup [(.int .i64 (-1))]) w1) fun k1 =>
 st P (oRange T.string t0) w fun t10 w2 =>
 lp [] w2 fun s2 u2 w3 C1 =>
 st P (oNext t10 true T.ty_2e38e77b) w3 fun t11 w4 =>
 pu P (oExtract t11 0) fun t12 =>
 jn (fun s3 u3 w5 =>
 pu P (oExtract t11 1) fun t13 =>
 pu P (oExtract t11 2) fun t14 =>
 st P (oRange T.string t1) w5 fun t16 w6 =>
 lp [] w6 fun s4 u4 w7 C2 =>
 st P (oNext t16 true T.ty_2e38e77b) w7 fun t17 w8 =>
 pu P (oExtract t17 0) fun t18 =>
 jn (fun s5 u5 w9 =>
 pu P (oExtract t17 2) fun t19 =>
 pu P (oBin .eql T.int32 false false t14 t19) fun t22 =>
 cd t22 (
 K (tup [t13]) w9) (
 C2 [] w9)) fun k3 =>
 cd t18 (
 k3 [] w8) (
 C1 [] w8)) fun k2 =>
 cd t12 (
 k2 [] w4) (
 k1 [] w4)
def Tb_afero_zzIndexAny : Tab := { join := fun n => match n with | _ => [], loop := fun n => match n with | _ => [] }
theorem S_afero_zzIndexAny {t0 t1 : Value} {w : World} {K : Value → World → Prop} (h : F_afero_zzIndexAny t0 t1 w K) : Cl P Fn.afero_zzIndexAny #[t0, t1] w K :=
  cl_of_eq (T := Tb_afero_zzIndexAny) (args := [t0, t1]) Try.func78 rfl follows_mixed (by kernel_rfl) (Nat.le_of_ble_eq_true (by kernel_rfl)) (by kernel_rfl) h

/-- path.Split -/
def F_path_Split (t0 : Value) (w : World) (K : Value → World → Prop) : Prop :=
 st P (oCall Fn.bytealg_LastIndexByteString #[t0, (.int .u8 47)]) w fun t6 w1 =>
 pu P (oBin .add T.int false true t6 (.int .i64 1)) fun t9 =>
 pu P (oSlice T.string t0 none (some t9) none) fun t10 =>
 pu P (oBin .add T.int false true t6 (.int .i64 1)) fun t13 =>
 pu P (oSlice T.string t0 (some t13) none none) fun t14 =>
 K (tup [t10, t14]) w1.drew
def Tb_path_Split : Tab := { join := fun n => match n with | _ => [], loop := fun n => match n with | _ => [] }
theorem S_path_Split {t0 : Value} {w : World} {K : Value → World → Prop} (h : F_path_Split t0 w K) : Cl P Fn.path_Split #[t0] w K :=
  cl_of_eq (T := Tb_path_Split) (args := [t0]) Try.func79 rfl follows_mixed (by kernel_rfl) (Nat.le_of_ble_eq_true (by kernel_rfl)) (by kernel_rfl) h

/-- (*path.lazybuf).append -/
def F_path_lazybuf_append (t0 t1 : Value) (w : World) (K : Value → World → Prop) : Prop :=
 jn (fun s1 u1 w1 =>
 pu P (oNil t0) fun t63 =>
 pu P (oFldA T.path_lazybuf t63 1) fun t64 =>
 rd P (oLoad T.sl_uint8 t64) w1.drew fun t65 =>
 pu P (oNil t0) fun t67 =>
 pu P (oFldA T.path_lazybuf t67 2) fun t68 =>
 rd P (oLoad T.int t68) w1.drew fun t69 =>
 pu P (oIdxA T.sl_uint8 t65 t69) fun t71 =>
 st P (oStore T.uint8 t71 t1) w1.drew fun _ w2 =>
 pu P (oNil t0) fun t73 =>
 pu P (oFldA T.path_lazybuf t73 2) fun t74 =>
 st P (oLoad T.int t74) w2 fun t75 w3 =>
 pu P (oBin .add T.int false true t75 (.int .i64 1)) fun t76 =>
 pu P (oNil t0) fun t77 =>
 pu P (oFldA T.path_lazybuf t77 2) fun t78 =>
 st P (oStore T.int t78 t76) w3 fun _ w4 =>
 K (tup []) w4) fun k1 =>
 pu P (oNil t0) fun t5 =>
 pu P (oFldA T.path_lazybuf t5 1) fun t6 =>
 st P (oLoad T.sl_uint8 t6) w fun t7 w5 =>
 pu P (oBin .eql T.sl_uint8 false true t7 (.slice none 0 0)) fun t8 =>
 cd t8 (
 jn (fun s2 u2 w6 =>
 pu P (oNil t0) fun t41 =>
 pu P (oFldA T.path_lazybuf t41 0) fun t42 =>
 st P (oLoad T.string t42) w6 fun t43 w7 =>
 pu P (oBuiltin .len #[T.string] T.int #[false] #[t43]) fun t44 =>
 st P (oMkSlice T.sl_uint8 t44 t44) w7 fun t45 w8 =>
 pu P (oNil t0) fun t46 =>
 pu P (oFldA T.path_lazybuf t46 1) fun t47 =>
 st P (oStore T.sl_uint8 t47 t45) w8 fun _ w9 =>
 pu P (oNil t0) fun t49 =>
 pu P (oFldA T.path_lazybuf t49 1) fun t50 =>
 rd P (oLoad T.sl_uint8 t50) w9.drew fun t51 =>
 pu P (oNil t0) fun t53 =>
 pu P (oFldA T.path_lazybuf t53 0) fun t54 =>
 rd P (oLoad T.string t54) w9.drew fun t55 =>
 pu P (oNil t0) fun t57 =>
 pu P (oFldA T.path_lazybuf t57 2) fun t58 =>
 rd P (oLoad T.int t58) w9.drew fun t59 =>
 pu P (oSlice T.string t55 none (some t59) none) fun t60 =>
 st P (oBuiltin .copy #[T.sl_uint8, T.string] T.int #[false, false] #[t51, t60]) w9.drew fun t61 w10 =>
 k1 [] w10) fun k2 =>
 pu P (oNil t0) fun t10 =>
 pu P (oFldA T.path_lazybuf t10 2) fun t11 =>
 rd P (oLoad T.int t11) w5.drew fun t12 =>
 pu P (oNil t0) fun t14 =>
 pu P (oFldA T.path_lazybuf t14 0) fun t15 =>
 rd P (oLoad T.string t15) w5.drew fun t16 =>
 pu P (oBuiltin .len #[T.string] T.int #[false] #[t16]) fun t17 =>
 pu P (oBin .lss T.int false false t12 t17) fun t18 =>
 gd t18 true w5.drew (fun K1 => K1 t0 w5.drew) fun t20 w11 =>
 gd t18 true w11 (fun K2 => pu P (oNil t20) fun v => K2 v w11) fun t21 w12 =>
 gd t18 true w12 (fun K3 => pu P (oFldA T.path_lazybuf t21 0) fun v => K3 v w12) fun t22 w13 =>
 gd t18 true w13 (fun K4 => rd P (oLoad T.string t22) w13 fun v => K4 v w13) fun t23 w14 =>
 gd t18 true w14 (fun K5 => K5 t0 w14) fun t24 w15 =>
 gd t18 true w15 (fun K6 => pu P (oNil t24) fun v => K6 v w15) fun t25 w16 =>
 gd t18 true w16 (fun K7 => pu P (oFldA T.path_lazybuf t25 2) fun v => K7 v w16) fun t26 w17 =>
 gd t18 true w17 (fun K8 => rd P (oLoad T.int t26) w17 fun v => K8 v w17) fun t27 w18 =>
 gd t18 true w18 (fun K9 => pu P (oIdx T.string t23 t27) fun v => K9 v w18) fun t28 w19 =>
 gd t18 true w19 (fun K10 => K10 t1 w19) fun t29 w20 =>
 gd t18 true w20 (fun K11 => pu P (oBin .eql T.uint8 false false t28 t29) fun v => K11 v w20) fun t30 w21 =>
 pu P (oPick t18 t30 (.bool false)) fun t31 =>
 cd t31 (
 pu P (oNil t0) fun t33 =>
 pu P (oFldA T.path_lazybuf t33 2) fun t34 =>
 st P (oLoad T.int t34) w21 fun t35 w22 =>
 pu P (oBin .add T.int false true t35 (.int .i64 1)) fun t36 =>
 pu P (oNil t0) fun t37 =>
 pu P (oFldA T.path_lazybuf t37 2) fun t38 =>
 st P (oStore T.int t38 t36) w22 fun _ w23 =>
 K (tup []) w23) (
 k2 [] w21)) (
 k1 [] w5)
def Tb_path_lazybuf_append : Tab := { join := fun n => match n with | _ => [], loop := fun n => match n with | _ => [] }
theorem S_path_lazybuf_append {t0 t1 : Value} {w : World} {K : Value → World → Prop} (h : F_path_lazybuf_append t0 t1 w K) : Cl P Fn.path_lazybuf_append #[t0, t1] w K :=
  cl_of_eq (T := Tb_path_lazybuf_append) (args := [t0, t1]) Try.func80 rfl follows_mixed (by kernel_rfl) (Nat.le_of_ble_eq_true (by kernel_rfl)) (by kernel_rfl) h

/-- (*path.lazybuf).index -/
def F_path_lazybuf_index (t0 t1 : Value) (w : World) (K : Value → World → Prop) : Prop :=
 jn (fun s1 u1 w1 =>
 pu P (oNil t0) fun t18 =>
 pu P (oFldA T.path_lazybuf t18 0) fun t19 =>
 st P (oLoad T.string t19) w1 fun t20 w2 =>
 pu P (oIdx T.string t20 t1) fun t22 =>
 K (tup [t22]) w2) fun k1 =>
 pu P (oNil t0) fun t6 =>
 pu P (oFldA T.path_lazybuf t6 1) fun t7 =>
 st P (oLoad T.sl_uint8 t7) w fun t8 w3 =>
 pu P (oBin .neq T.sl_uint8 false true t8 (.slice none 0 0)) fun t9 =>
 cd t9 (
 pu P (oNil t0) fun t11 =>
 pu P (oFldA T.path_lazybuf t11 1) fun t12 =>
 st P (oLoad T.sl_uint8 t12) w3 fun t13 w4 =>
 pu P (oIdxA T.sl_uint8 t13 t1) fun t15 =>
 st P (oLoad T.uint8 t15) w4 fun t16 w5 =>
 K (tup [t16]) w5) (
 k1 [] w3)
def Tb_path_lazybuf_index : Tab := { join := fun n => match n with | _ => [], loop := fun n => match n with | _ => [] }
theorem S_path_lazybuf_index {t0 t1 : Value} {w : World} {K : Value → World → Prop} (h : F_path_lazybuf_index t0 t1 w K) : Cl P Fn.path_lazybuf_index #[t0, t1] w K :=
  cl_of_eq (T := Tb_path_lazybuf_index) (args := [t0, t1]) Try.func81 rfl follows_mixed (by kernel_rfl) (Nat.le_of_ble_eq_true (by kernel_rfl)) (by kernel_rfl) h

/-- (*path.lazybuf).string -/
def F_path_lazybuf_string (t0 : Value) (w : World) (K : Value → World → Prop) : Prop :=
 jn (fun s1 u1 w1 =>
 pu P (oNil t0) fun t18 =>
 pu P (oFldA T.path_lazybuf t18 1) fun t19 =>
 rd P (oLoad T.sl_uint8 t19) w1.drew fun t20 =>
 pu P (oNil t0) fun t22 =>
 pu P (oFldA T.path_lazybuf t22 2) fun t23 =>
 rd P (oLoad T.int t23) w1.drew fun t24 =>
 pu P (oSlice T.sl_uint8 t20 none (some t24) none) fun t25 =>
 rd P (oConv T.sl_uint8 T.string t25) w1.drew fun t26 =>
 K (tup [t26]) w1.drew) fun k1 =>
 pu P (oNil t0) fun t4 =>
 pu P (oFldA T.path_lazybuf t4 1) fun t5 =>
 st P (oLoad T.sl_uint8 t5) w fun t6 w2 =>
 pu P (oBin .eql T.sl_uint8 false true t6 (.slice none 0 0)) fun t7 =>
 cd t7 (
 pu P (oNil t0) fun t9 =>
 pu P (oFldA T.path_lazybuf t9 0) fun t10 =>
 rd P (oLoad T.string t10) w2.drew fun t11 =>
 pu P (oNil t0) fun t13 =>
 pu P (oFldA T.path_lazybuf t13 2) fun t14 =>
 rd P (oLoad T.int t14) w2.drew fun t15 =>
 pu P (oSlice T.string t11 none (some t15) none) fun t16 =>
 K (tup [t16]) w2.drew) (
 k1 [] w2)
def Tb_path_lazybuf_string : Tab := { join := fun n => match n with | _ => [], loop := fun n => match n with | _ => [] }
theorem S_path_lazybuf_string {t0 : Value} {w : World} {K : Value → World → Prop} (h : F_path_lazybuf_string t0 w K) : Cl P Fn.path_lazybuf_string #[t0] w K :=
  cl_of_eq (T := Tb_path_lazybuf_string) (args := [t0]) Try.func82 rfl follows_mixed (by kernel_rfl) (Nat.le_of_ble_eq_true (by kernel_rfl)) (by kernel_rfl) h

/-- internal/bytealg.LastIndexByteString -/
def F_bytealg_LastIndexByteString (t0 t1 : Value) (w : World) (K : Value → World → Prop) : Prop :=
 jn (fun s1 u1 w1 =>
 K (tup [(.int .i64 (-1))]) w1) fun k1 =>
 pu P (oBuiltin .len #[T.string] T.int #[false] #[t0]) fun t7 =>
 pu P (oBin .sub T.int false true t7 (.int .i64 1)) fun t8 =>
 lp [t8] w fun s2 u2 w2 C1 =>
 jn (fun s3 u3 w3 =>
 jn (fun s4 u4 w4 =>
 pu P (oBin .sub T.int false true (gs s2 0) (.int .i64 1)) fun t12 =>
 C1 [t12] w4) fun k3 =>
 pu P (oIdx T.string t0 (gs s2 0)) fun t15 =>
 pu P (oBin .eql T.uint8 false false t15 t1) fun t17 =>
 cd t17 (
 K (tup [(gs s2 0)]) w3) (
 k3 [] w3)) fun k2 =>
 pu P (oBin .geq T.int false true (gs s2 0) (.int .i64 0)) fun t10 =>
 cd t10 (
 k2 [] w2) (
 k1 [] w2)
def Tb_bytealg_LastIndexByteString : Tab := { join := fun n => match n with | _ => [], loop := fun n => match n with | 2 => [5] | _ => [] }
theorem S_bytealg_LastIndexByteString {t0 t1 : Value} {w : World} {K : Value → World → Prop} (h : F_bytealg_LastIndexByteString t0 t1 w K) : Cl P Fn.bytealg_LastIndexByteString #[t0, t1] w K :=
  cl_of_eq (T := Tb_bytealg_LastIndexByteString) (args := [t0, t1]) Try.func84 rfl follows_mixed (by kernel_rfl) (Nat.le_of_ble_eq_true (by kernel_rfl)) (by kernel_rfl) h

end Go.Proofs.Ytdilealdddbhnaa.X
