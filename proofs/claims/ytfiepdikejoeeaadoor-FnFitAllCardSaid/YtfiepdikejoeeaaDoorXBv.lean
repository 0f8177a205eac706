/- Laws on numbers without sign as rows of bits. No condition. -/
import Derived.Test.YtfiepdikejoeeaaDoorXApp
set_option linter.unusedVariables false
set_option linter.unusedSimpArgs false
namespace Go.X
open Go Go.RowKit
section
variable {P : Program} (K : Value → Prop)

/-- A number of 32 bits. -/
def V32 (x : BitVec 32) : Value := .int .u32 (x.toNat : Int)
theorem V32_of (i : Int) (h0 : 0 ≤ i) (h1 : i < 4294967296) : Value.int .u32 i = V32 (BitVec.ofNat 32 i.toNat) := by
  unfold V32
  congr 1
  rw [BitVec.toNat_ofNat, Nat.mod_eq_of_lt (by omega)]
  omega
theorem wrap_bv32 (m : Nat) : IntKind.u32.wrap (m : Int) = ((BitVec.ofNat 32 m).toNat : Int) := by
  rw [BitVec.toNat_ofNat]
  simp [IntKind.wrap, IntKind.bits, IntKind.signed]
theorem ofInt_bv32 (x : BitVec 32) : BitVec.ofInt IntKind.u32.bits (x.toNat : Int) = x := by
  show BitVec.ofInt 32 (x.toNat : Int) = x
  rw [BitVec.ofInt_natCast]; simp
theorem bits32 (op : BinOp) (r : BitVec 32) : (Value.int .u32 (IntKind.u32.wrap (r.toNat : Int))) = V32 r := by
  rw [wrap_bv32]; simp [V32]
@[go_sem] theorem xorV32 (t : TypeId) (cx cy : Bool) (x y : BitVec 32) : pu P (oBin .xor t cx cy (V32 x) (V32 y)) K = K (V32 (x ^^^ y)) :=
  bin_int K (by
    simp only [binOp, Op.intBits]
    rw [if_neg (by simp), rp_pure, ofInt_bv32, ofInt_bv32]
    exact congrArg some (bits32 .xor (x ^^^ y)))
@[go_sem] theorem orV32 (t : TypeId) (cx cy : Bool) (x y : BitVec 32) : pu P (oBin .or t cx cy (V32 x) (V32 y)) K = K (V32 (x ||| y)) :=
  bin_int K (by
    simp only [binOp, Op.intBits]
    rw [if_neg (by simp), rp_pure, ofInt_bv32, ofInt_bv32]
    exact congrArg some (bits32 .or (x ||| y)))
@[go_sem] theorem andV32 (t : TypeId) (cx cy : Bool) (x y : BitVec 32) : pu P (oBin .and t cx cy (V32 x) (V32 y)) K = K (V32 (x &&& y)) :=
  bin_int K (by
    simp only [binOp, Op.intBits]
    rw [if_neg (by simp), rp_pure, ofInt_bv32, ofInt_bv32]
    exact congrArg some (bits32 .and (x &&& y)))
@[go_sem] theorem shlV32 (t : TypeId) (cx cy : Bool) (j : IntKind) (x : BitVec 32) (y : Int) (h0 : 0 ≤ y) (h1 : y ≤ 32) : pu P (oBin .shl t cx cy (V32 x) (.int j y)) K = K (V32 (x <<< y.toNat)) :=
  bin_int K (by
    simp only [binOp, Op.shift]
    rw [if_neg (by omega), rp_pure, Nat.min_eq_left (show y.toNat ≤ IntKind.u32.bits from show y.toNat ≤ 32 by omega)]
    congr 1
    rw [show ((x.toNat : Int) * 2 ^ y.toNat) = ((x.toNat * 2 ^ y.toNat : Nat) : Int) by simp, wrap_bv32]
    unfold V32
    congr 2
    rw [BitVec.toNat_shiftLeft, BitVec.toNat_ofNat, Nat.shiftLeft_eq])
@[go_sem] theorem shrV32 (t : TypeId) (cx cy : Bool) (j : IntKind) (x : BitVec 32) (y : Int) (h0 : 0 ≤ y) (h1 : y ≤ 32) : pu P (oBin .shr t cx cy (V32 x) (.int j y)) K = K (V32 (x >>> y.toNat)) :=
  bin_int K (by
    simp only [binOp, Op.shift]
    rw [if_neg (by omega), rp_pure, Nat.min_eq_left (show y.toNat ≤ IntKind.u32.bits from show y.toNat ≤ 32 by omega)]
    congr 1
    unfold V32
    congr 1
    rw [BitVec.toNat_ushiftRight, Nat.shiftRight_eq_div_pow, Int.fdiv_eq_ediv_of_nonneg _ (by exact Int.le_of_lt (Int.pow_pos (by decide)))]
    simp)
@[go_sem] theorem eqV32 (t : TypeId) (cx cy : Bool) (x y : BitVec 32) : pu P (oBin .eql t cx cy (V32 x) (V32 y)) K = K (.bool (decide (x = y))) :=
  (oEql K t cx cy .u32 x.toNat y.toNat).trans (by
    congr 2
    by_cases h : x = y
    · simp [h]
    · have : ¬ (x.toNat : Int) = y.toNat := fun e => h (BitVec.eq_of_toNat_eq (by omega))
      simp [h, this])

/-- A number of 64 bits. -/
def V64 (x : BitVec 64) : Value := .int .u64 (x.toNat : Int)
theorem V64_of (i : Int) (h0 : 0 ≤ i) (h1 : i < 18446744073709551616) : Value.int .u64 i = V64 (BitVec.ofNat 64 i.toNat) := by
  unfold V64
  congr 1
  rw [BitVec.toNat_ofNat, Nat.mod_eq_of_lt (by omega)]
  omega
theorem wrap_bv64 (m : Nat) : IntKind.u64.wrap (m : Int) = ((BitVec.ofNat 64 m).toNat : Int) := by
  rw [BitVec.toNat_ofNat]
  simp [IntKind.wrap, IntKind.bits, IntKind.signed]
theorem ofInt_bv64 (x : BitVec 64) : BitVec.ofInt IntKind.u64.bits (x.toNat : Int) = x := by
  show BitVec.ofInt 64 (x.toNat : Int) = x
  rw [BitVec.ofInt_natCast]; simp
theorem bits64 (op : BinOp) (r : BitVec 64) : (Value.int .u64 (IntKind.u64.wrap (r.toNat : Int))) = V64 r := by
  rw [wrap_bv64]; simp [V64]
@[go_sem] theorem xorV64 (t : TypeId) (cx cy : Bool) (x y : BitVec 64) : pu P (oBin .xor t cx cy (V64 x) (V64 y)) K = K (V64 (x ^^^ y)) :=
  bin_int K (by
    simp only [binOp, Op.intBits]
    rw [if_neg (by simp), rp_pure, ofInt_bv64, ofInt_bv64]
    exact congrArg some (bits64 .xor (x ^^^ y)))
@[go_sem] theorem orV64 (t : TypeId) (cx cy : Bool) (x y : BitVec 64) : pu P (oBin .or t cx cy (V64 x) (V64 y)) K = K (V64 (x ||| y)) :=
  bin_int K (by
    simp only [binOp, Op.intBits]
    rw [if_neg (by simp), rp_pure, ofInt_bv64, ofInt_bv64]
    exact congrArg some (bits64 .or (x ||| y)))
@[go_sem] theorem andV64 (t : TypeId) (cx cy : Bool) (x y : BitVec 64) : pu P (oBin .and t cx cy (V64 x) (V64 y)) K = K (V64 (x &&& y)) :=
  bin_int K (by
    simp only [binOp, Op.intBits]
    rw [if_neg (by simp), rp_pure, ofInt_bv64, ofInt_bv64]
    exact congrArg some (bits64 .and (x &&& y)))
@[go_sem] theorem shlV64 (t : TypeId) (cx cy : Bool) (j : IntKind) (x : BitVec 64) (y : Int) (h0 : 0 ≤ y) (h1 : y ≤ 64) : pu P (oBin .shl t cx cy (V64 x) (.int j y)) K = K (V64 (x <<< y.toNat)) :=
  bin_int K (by
    simp only [binOp, Op.shift]
    rw [if_neg (by omega), rp_pure, Nat.min_eq_left (show y.toNat ≤ IntKind.u64.bits from show y.toNat ≤ 64 by omega)]
    congr 1
    rw [show ((x.toNat : Int) * 2 ^ y.toNat) = ((x.toNat * 2 ^ y.toNat : Nat) : Int) by simp, wrap_bv64]
    unfold V64
    congr 2
    rw [BitVec.toNat_shiftLeft, BitVec.toNat_ofNat, Nat.shiftLeft_eq])
@[go_sem] theorem shrV64 (t : TypeId) (cx cy : Bool) (j : IntKind) (x : BitVec 64) (y : Int) (h0 : 0 ≤ y) (h1 : y ≤ 64) : pu P (oBin .shr t cx cy (V64 x) (.int j y)) K = K (V64 (x >>> y.toNat)) :=
  bin_int K (by
    simp only [binOp, Op.shift]
    rw [if_neg (by omega), rp_pure, Nat.min_eq_left (show y.toNat ≤ IntKind.u64.bits from show y.toNat ≤ 64 by omega)]
    congr 1
    unfold V64
    congr 1
    rw [BitVec.toNat_ushiftRight, Nat.shiftRight_eq_div_pow, Int.fdiv_eq_ediv_of_nonneg _ (by exact Int.le_of_lt (Int.pow_pos (by decide)))]
    simp)
@[go_sem] theorem eqV64 (t : TypeId) (cx cy : Bool) (x y : BitVec 64) : pu P (oBin .eql t cx cy (V64 x) (V64 y)) K = K (.bool (decide (x = y))) :=
  (oEql K t cx cy .u64 x.toNat y.toNat).trans (by
    congr 2
    by_cases h : x = y
    · simp [h]
    · have : ¬ (x.toNat : Int) = y.toNat := fun e => h (BitVec.eq_of_toNat_eq (by omega))
      simp [h, this])

/-- A number of 16 bits. -/
def V16 (x : BitVec 16) : Value := .int .u16 (x.toNat : Int)
theorem V16_of (i : Int) (h0 : 0 ≤ i) (h1 : i < 65536) : Value.int .u16 i = V16 (BitVec.ofNat 16 i.toNat) := by
  unfold V16
  congr 1
  rw [BitVec.toNat_ofNat, Nat.mod_eq_of_lt (by omega)]
  omega
theorem wrap_bv16 (m : Nat) : IntKind.u16.wrap (m : Int) = ((BitVec.ofNat 16 m).toNat : Int) := by
  rw [BitVec.toNat_ofNat]
  simp [IntKind.wrap, IntKind.bits, IntKind.signed]
theorem ofInt_bv16 (x : BitVec 16) : BitVec.ofInt IntKind.u16.bits (x.toNat : Int) = x := by
  show BitVec.ofInt 16 (x.toNat : Int) = x
  rw [BitVec.ofInt_natCast]; simp
theorem bits16 (op : BinOp) (r : BitVec 16) : (Value.int .u16 (IntKind.u16.wrap (r.toNat : Int))) = V16 r := by
  rw [wrap_bv16]; simp [V16]
@[go_sem] theorem xorV16 (t : TypeId) (cx cy : Bool) (x y : BitVec 16) : pu P (oBin .xor t cx cy (V16 x) (V16 y)) K = K (V16 (x ^^^ y)) :=
  bin_int K (by
    simp only [binOp, Op.intBits]
    rw [if_neg (by simp), rp_pure, ofInt_bv16, ofInt_bv16]
    exact congrArg some (bits16 .xor (x ^^^ y)))
@[go_sem] theorem orV16 (t : TypeId) (cx cy : Bool) (x y : BitVec 16) : pu P (oBin .or t cx cy (V16 x) (V16 y)) K = K (V16 (x ||| y)) :=
  bin_int K (by
    simp only [binOp, Op.intBits]
    rw [if_neg (by simp), rp_pure, ofInt_bv16, ofInt_bv16]
    exact congrArg some (bits16 .or (x ||| y)))
@[go_sem] theorem andV16 (t : TypeId) (cx cy : Bool) (x y : BitVec 16) : pu P (oBin .and t cx cy (V16 x) (V16 y)) K = K (V16 (x &&& y)) :=
  bin_int K (by
    simp only [binOp, Op.intBits]
    rw [if_neg (by simp), rp_pure, ofInt_bv16, ofInt_bv16]
    exact congrArg some (bits16 .and (x &&& y)))
@[go_sem] theorem shlV16 (t : TypeId) (cx cy : Bool) (j : IntKind) (x : BitVec 16) (y : Int) (h0 : 0 ≤ y) (h1 : y ≤ 16) : pu P (oBin .shl t cx cy (V16 x) (.int j y)) K = K (V16 (x <<< y.toNat)) :=
  bin_int K (by
    simp only [binOp, Op.shift]
    rw [if_neg (by omega), rp_pure, Nat.min_eq_left (show y.toNat ≤ IntKind.u16.bits from show y.toNat ≤ 16 by omega)]
    congr 1
    rw [show ((x.toNat : Int) * 2 ^ y.toNat) = ((x.toNat * 2 ^ y.toNat : Nat) : Int) by simp, wrap_bv16]
    unfold V16
    congr 2
    rw [BitVec.toNat_shiftLeft, BitVec.toNat_ofNat, Nat.shiftLeft_eq])
@[go_sem] theorem shrV16 (t : TypeId) (cx cy : Bool) (j : IntKind) (x : BitVec 16) (y : Int) (h0 : 0 ≤ y) (h1 : y ≤ 16) : pu P (oBin .shr t cx cy (V16 x) (.int j y)) K = K (V16 (x >>> y.toNat)) :=
  bin_int K (by
    simp only [binOp, Op.shift]
    rw [if_neg (by omega), rp_pure, Nat.min_eq_left (show y.toNat ≤ IntKind.u16.bits from show y.toNat ≤ 16 by omega)]
    congr 1
    unfold V16
    congr 1
    rw [BitVec.toNat_ushiftRight, Nat.shiftRight_eq_div_pow, Int.fdiv_eq_ediv_of_nonneg _ (by exact Int.le_of_lt (Int.pow_pos (by decide)))]
    simp)
@[go_sem] theorem eqV16 (t : TypeId) (cx cy : Bool) (x y : BitVec 16) : pu P (oBin .eql t cx cy (V16 x) (V16 y)) K = K (.bool (decide (x = y))) :=
  (oEql K t cx cy .u16 x.toNat y.toNat).trans (by
    congr 2
    by_cases h : x = y
    · simp [h]
    · have : ¬ (x.toNat : Int) = y.toNat := fun e => h (BitVec.eq_of_toNat_eq (by omega))
      simp [h, this])

/-- A number of 8 bits. -/
def V8 (x : BitVec 8) : Value := .int .u8 (x.toNat : Int)
theorem V8_of (i : Int) (h0 : 0 ≤ i) (h1 : i < 256) : Value.int .u8 i = V8 (BitVec.ofNat 8 i.toNat) := by
  unfold V8
  congr 1
  rw [BitVec.toNat_ofNat, Nat.mod_eq_of_lt (by omega)]
  omega
theorem wrap_bv8 (m : Nat) : IntKind.u8.wrap (m : Int) = ((BitVec.ofNat 8 m).toNat : Int) := by
  rw [BitVec.toNat_ofNat]
  simp [IntKind.wrap, IntKind.bits, IntKind.signed]
theorem ofInt_bv8 (x : BitVec 8) : BitVec.ofInt IntKind.u8.bits (x.toNat : Int) = x := by
  show BitVec.ofInt 8 (x.toNat : Int) = x
  rw [BitVec.ofInt_natCast]; simp
theorem bits8 (op : BinOp) (r : BitVec 8) : (Value.int .u8 (IntKind.u8.wrap (r.toNat : Int))) = V8 r := by
  rw [wrap_bv8]; simp [V8]
@[go_sem] theorem xorV8 (t : TypeId) (cx cy : Bool) (x y : BitVec 8) : pu P (oBin .xor t cx cy (V8 x) (V8 y)) K = K (V8 (x ^^^ y)) :=
  bin_int K (by
    simp only [binOp, Op.intBits]
    rw [if_neg (by simp), rp_pure, ofInt_bv8, ofInt_bv8]
    exact congrArg some (bits8 .xor (x ^^^ y)))
@[go_sem] theorem orV8 (t : TypeId) (cx cy : Bool) (x y : BitVec 8) : pu P (oBin .or t cx cy (V8 x) (V8 y)) K = K (V8 (x ||| y)) :=
  bin_int K (by
    simp only [binOp, Op.intBits]
    rw [if_neg (by simp), rp_pure, ofInt_bv8, ofInt_bv8]
    exact congrArg some (bits8 .or (x ||| y)))
@[go_sem] theorem andV8 (t : TypeId) (cx cy : Bool) (x y : BitVec 8) : pu P (oBin .and t cx cy (V8 x) (V8 y)) K = K (V8 (x &&& y)) :=
  bin_int K (by
    simp only [binOp, Op.intBits]
    rw [if_neg (by simp), rp_pure, ofInt_bv8, ofInt_bv8]
    exact congrArg some (bits8 .and (x &&& y)))
@[go_sem] theorem shlV8 (t : TypeId) (cx cy : Bool) (j : IntKind) (x : BitVec 8) (y : Int) (h0 : 0 ≤ y) (h1 : y ≤ 8) : pu P (oBin .shl t cx cy (V8 x) (.int j y)) K = K (V8 (x <<< y.toNat)) :=
  bin_int K (by
    simp only [binOp, Op.shift]
    rw [if_neg (by omega), rp_pure, Nat.min_eq_left (show y.toNat ≤ IntKind.u8.bits from show y.toNat ≤ 8 by omega)]
    congr 1
    rw [show ((x.toNat : Int) * 2 ^ y.toNat) = ((x.toNat * 2 ^ y.toNat : Nat) : Int) by simp, wrap_bv8]
    unfold V8
    congr 2
    rw [BitVec.toNat_shiftLeft, BitVec.toNat_ofNat, Nat.shiftLeft_eq])
@[go_sem] theorem shrV8 (t : TypeId) (cx cy : Bool) (j : IntKind) (x : BitVec 8) (y : Int) (h0 : 0 ≤ y) (h1 : y ≤ 8) : pu P (oBin .shr t cx cy (V8 x) (.int j y)) K = K (V8 (x >>> y.toNat)) :=
  bin_int K (by
    simp only [binOp, Op.shift]
    rw [if_neg (by omega), rp_pure, Nat.min_eq_left (show y.toNat ≤ IntKind.u8.bits from show y.toNat ≤ 8 by omega)]
    congr 1
    unfold V8
    congr 1
    rw [BitVec.toNat_ushiftRight, Nat.shiftRight_eq_div_pow, Int.fdiv_eq_ediv_of_nonneg _ (by exact Int.le_of_lt (Int.pow_pos (by decide)))]
    simp)
@[go_sem] theorem eqV8 (t : TypeId) (cx cy : Bool) (x y : BitVec 8) : pu P (oBin .eql t cx cy (V8 x) (V8 y)) K = K (.bool (decide (x = y))) :=
  (oEql K t cx cy .u8 x.toNat y.toNat).trans (by
    congr 2
    by_cases h : x = y
    · simp [h]
    · have : ¬ (x.toNat : Int) = y.toNat := fun e => h (BitVec.eq_of_toNat_eq (by omega))
      simp [h, this])
theorem convV32_64 {s d : TypeId} (hs : P.underlying s = some (.int .u32)) (hd : P.underlying d = some (.int .u64)) (x : BitVec 32) : pu P (oConv s d (V32 x)) K = K (V64 (x.setWidth 64)) :=
  (oConvI K hs hd).trans (by
    first | (congr 1; done) | (congr 1; rw [wrap_bv64]; done) | (congr 1; rw [wrap_bv64]; unfold V64; simp))
theorem convV32_16 {s d : TypeId} (hs : P.underlying s = some (.int .u32)) (hd : P.underlying d = some (.int .u16)) (x : BitVec 32) : pu P (oConv s d (V32 x)) K = K (V16 (x.setWidth 16)) :=
  (oConvI K hs hd).trans (by
    first | (congr 1; done) | (congr 1; rw [wrap_bv16]; done) | (congr 1; rw [wrap_bv16]; unfold V16; simp))
theorem convV32_8 {s d : TypeId} (hs : P.underlying s = some (.int .u32)) (hd : P.underlying d = some (.int .u8)) (x : BitVec 32) : pu P (oConv s d (V32 x)) K = K (V8 (x.setWidth 8)) :=
  (oConvI K hs hd).trans (by
    first | (congr 1; done) | (congr 1; rw [wrap_bv8]; done) | (congr 1; rw [wrap_bv8]; unfold V8; simp))
theorem convV64_32 {s d : TypeId} (hs : P.underlying s = some (.int .u64)) (hd : P.underlying d = some (.int .u32)) (x : BitVec 64) : pu P (oConv s d (V64 x)) K = K (V32 (x.setWidth 32)) :=
  (oConvI K hs hd).trans (by
    first | (congr 1; done) | (congr 1; rw [wrap_bv32]; done) | (congr 1; rw [wrap_bv32]; unfold V32; simp))
theorem convV64_16 {s d : TypeId} (hs : P.underlying s = some (.int .u64)) (hd : P.underlying d = some (.int .u16)) (x : BitVec 64) : pu P (oConv s d (V64 x)) K = K (V16 (x.setWidth 16)) :=
  (oConvI K hs hd).trans (by
    first | (congr 1; done) | (congr 1; rw [wrap_bv16]; done) | (congr 1; rw [wrap_bv16]; unfold V16; simp))
theorem convV64_8 {s d : TypeId} (hs : P.underlying s = some (.int .u64)) (hd : P.underlying d = some (.int .u8)) (x : BitVec 64) : pu P (oConv s d (V64 x)) K = K (V8 (x.setWidth 8)) :=
  (oConvI K hs hd).trans (by
    first | (congr 1; done) | (congr 1; rw [wrap_bv8]; done) | (congr 1; rw [wrap_bv8]; unfold V8; simp))
theorem convV16_32 {s d : TypeId} (hs : P.underlying s = some (.int .u16)) (hd : P.underlying d = some (.int .u32)) (x : BitVec 16) : pu P (oConv s d (V16 x)) K = K (V32 (x.setWidth 32)) :=
  (oConvI K hs hd).trans (by
    first | (congr 1; done) | (congr 1; rw [wrap_bv32]; done) | (congr 1; rw [wrap_bv32]; unfold V32; simp))
theorem convV16_64 {s d : TypeId} (hs : P.underlying s = some (.int .u16)) (hd : P.underlying d = some (.int .u64)) (x : BitVec 16) : pu P (oConv s d (V16 x)) K = K (V64 (x.setWidth 64)) :=
  (oConvI K hs hd).trans (by
    first | (congr 1; done) | (congr 1; rw [wrap_bv64]; done) | (congr 1; rw [wrap_bv64]; unfold V64; simp))
theorem convV16_8 {s d : TypeId} (hs : P.underlying s = some (.int .u16)) (hd : P.underlying d = some (.int .u8)) (x : BitVec 16) : pu P (oConv s d (V16 x)) K = K (V8 (x.setWidth 8)) :=
  (oConvI K hs hd).trans (by
    first | (congr 1; done) | (congr 1; rw [wrap_bv8]; done) | (congr 1; rw [wrap_bv8]; unfold V8; simp))
theorem convV8_32 {s d : TypeId} (hs : P.underlying s = some (.int .u8)) (hd : P.underlying d = some (.int .u32)) (x : BitVec 8) : pu P (oConv s d (V8 x)) K = K (V32 (x.setWidth 32)) :=
  (oConvI K hs hd).trans (by
    first | (congr 1; done) | (congr 1; rw [wrap_bv32]; done) | (congr 1; rw [wrap_bv32]; unfold V32; simp))
theorem convV8_64 {s d : TypeId} (hs : P.underlying s = some (.int .u8)) (hd : P.underlying d = some (.int .u64)) (x : BitVec 8) : pu P (oConv s d (V8 x)) K = K (V64 (x.setWidth 64)) :=
  (oConvI K hs hd).trans (by
    first | (congr 1; done) | (congr 1; rw [wrap_bv64]; done) | (congr 1; rw [wrap_bv64]; unfold V64; simp))
theorem convV8_16 {s d : TypeId} (hs : P.underlying s = some (.int .u8)) (hd : P.underlying d = some (.int .u16)) (x : BitVec 8) : pu P (oConv s d (V8 x)) K = K (V16 (x.setWidth 16)) :=
  (oConvI K hs hd).trans (by
    first | (congr 1; done) | (congr 1; rw [wrap_bv16]; done) | (congr 1; rw [wrap_bv16]; unfold V16; simp))
theorem byt_V (b : UInt8) : byt b = V8 b.toBitVec := rfl
end
end Go.X
