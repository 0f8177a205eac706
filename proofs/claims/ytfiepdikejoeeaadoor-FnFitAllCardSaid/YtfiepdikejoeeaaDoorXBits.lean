/- Laws on bits: whole numbers not below 0 as Lean's natural numbers. No condition. -/
import Derived.Test.YtfiepdikejoeeaaDoorXMem
set_option linter.unusedVariables false
set_option linter.unusedSimpArgs false
namespace Go.X
open Go
section
variable {P : Program} (K : Value → Prop)

theorem bv_nat (n : Nat) {x : Int} (h0 : 0 ≤ x) (h1 : x < 2 ^ n) : (BitVec.ofInt n x).toNat = x.toNat := by
  obtain ⟨a, rfl⟩ := Int.eq_ofNat_of_zero_le h0
  rw [BitVec.ofInt_natCast, BitVec.toNat_ofNat]
  have : a < 2 ^ n := by exact_mod_cast h1
  rw [Nat.mod_eq_of_lt this]; rfl

theorem wr_u64 (n : Nat) (h : n < 2 ^ 64) : IntKind.u64.wrap (n : Int) = n := w_u64 (by omega) (by omega)
theorem wr_u32 (n : Nat) (h : n < 2 ^ 32) : IntKind.u32.wrap (n : Int) = n := w_u32 (by omega) (by omega)
theorem wr_u16 (n : Nat) (h : n < 2 ^ 16) : IntKind.u16.wrap (n : Int) = n := w_u16 (by omega) (by omega)
theorem wr_u8 (n : Nat) (h : n < 2 ^ 8) : IntKind.u8.wrap (n : Int) = n := w_u8 (by omega) (by omega)
theorem wr_i64 (n : Nat) (h : n < 2 ^ 63) : IntKind.i64.wrap (n : Int) = n := w_i64 (by omega) (by omega)
@[go_sem] theorem oand_u64 (t : TypeId) (cx cy : Bool) (x y : Int) (h0 : 0 ≤ x) (h1 : x ≤ 18446744073709551615) (h2 : 0 ≤ y) (h3 : y ≤ 18446744073709551615) :
    pu P (oBin .and t cx cy (.int .u64 x) (.int .u64 y)) K = K (.int .u64 ((x.toNat &&& y.toNat : Nat) : Int)) :=
  bin_int K (by
    simp only [binOp, Op.intBits, BitVec.toNat_and]
    rw [if_neg (by simp), rp_pure]
    rw [bv_nat IntKind.u64.bits h0 (show x < 2 ^ 64 by omega), bv_nat IntKind.u64.bits h2 (show y < 2 ^ 64 by omega), wr_u64 _ (Nat.and_lt_two_pow _ (by omega))])
@[go_sem] theorem oor_u64 (t : TypeId) (cx cy : Bool) (x y : Int) (h0 : 0 ≤ x) (h1 : x ≤ 18446744073709551615) (h2 : 0 ≤ y) (h3 : y ≤ 18446744073709551615) :
    pu P (oBin .or t cx cy (.int .u64 x) (.int .u64 y)) K = K (.int .u64 ((x.toNat ||| y.toNat : Nat) : Int)) :=
  bin_int K (by
    simp only [binOp, Op.intBits, BitVec.toNat_or]
    rw [if_neg (by simp), rp_pure]
    rw [bv_nat IntKind.u64.bits h0 (show x < 2 ^ 64 by omega), bv_nat IntKind.u64.bits h2 (show y < 2 ^ 64 by omega), wr_u64 _ (Nat.or_lt_two_pow (by omega) (by omega))])
@[go_sem] theorem oxor_u64 (t : TypeId) (cx cy : Bool) (x y : Int) (h0 : 0 ≤ x) (h1 : x ≤ 18446744073709551615) (h2 : 0 ≤ y) (h3 : y ≤ 18446744073709551615) :
    pu P (oBin .xor t cx cy (.int .u64 x) (.int .u64 y)) K = K (.int .u64 ((x.toNat ^^^ y.toNat : Nat) : Int)) :=
  bin_int K (by
    simp only [binOp, Op.intBits, BitVec.toNat_xor]
    rw [if_neg (by simp), rp_pure]
    rw [bv_nat IntKind.u64.bits h0 (show x < 2 ^ 64 by omega), bv_nat IntKind.u64.bits h2 (show y < 2 ^ 64 by omega), wr_u64 _ (Nat.xor_lt_two_pow (by omega) (by omega))])
@[go_sem] theorem oand_u32 (t : TypeId) (cx cy : Bool) (x y : Int) (h0 : 0 ≤ x) (h1 : x ≤ 4294967295) (h2 : 0 ≤ y) (h3 : y ≤ 4294967295) :
    pu P (oBin .and t cx cy (.int .u32 x) (.int .u32 y)) K = K (.int .u32 ((x.toNat &&& y.toNat : Nat) : Int)) :=
  bin_int K (by
    simp only [binOp, Op.intBits, BitVec.toNat_and]
    rw [if_neg (by simp), rp_pure]
    rw [bv_nat IntKind.u32.bits h0 (show x < 2 ^ 32 by omega), bv_nat IntKind.u32.bits h2 (show y < 2 ^ 32 by omega), wr_u32 _ (Nat.and_lt_two_pow _ (by omega))])
@[go_sem] theorem oor_u32 (t : TypeId) (cx cy : Bool) (x y : Int) (h0 : 0 ≤ x) (h1 : x ≤ 4294967295) (h2 : 0 ≤ y) (h3 : y ≤ 4294967295) :
    pu P (oBin .or t cx cy (.int .u32 x) (.int .u32 y)) K = K (.int .u32 ((x.toNat ||| y.toNat : Nat) : Int)) :=
  bin_int K (by
    simp only [binOp, Op.intBits, BitVec.toNat_or]
    rw [if_neg (by simp), rp_pure]
    rw [bv_nat IntKind.u32.bits h0 (show x < 2 ^ 32 by omega), bv_nat IntKind.u32.bits h2 (show y < 2 ^ 32 by omega), wr_u32 _ (Nat.or_lt_two_pow (by omega) (by omega))])
@[go_sem] theorem oxor_u32 (t : TypeId) (cx cy : Bool) (x y : Int) (h0 : 0 ≤ x) (h1 : x ≤ 4294967295) (h2 : 0 ≤ y) (h3 : y ≤ 4294967295) :
    pu P (oBin .xor t cx cy (.int .u32 x) (.int .u32 y)) K = K (.int .u32 ((x.toNat ^^^ y.toNat : Nat) : Int)) :=
  bin_int K (by
    simp only [binOp, Op.intBits, BitVec.toNat_xor]
    rw [if_neg (by simp), rp_pure]
    rw [bv_nat IntKind.u32.bits h0 (show x < 2 ^ 32 by omega), bv_nat IntKind.u32.bits h2 (show y < 2 ^ 32 by omega), wr_u32 _ (Nat.xor_lt_two_pow (by omega) (by omega))])
@[go_sem] theorem oand_u16 (t : TypeId) (cx cy : Bool) (x y : Int) (h0 : 0 ≤ x) (h1 : x ≤ 65535) (h2 : 0 ≤ y) (h3 : y ≤ 65535) :
    pu P (oBin .and t cx cy (.int .u16 x) (.int .u16 y)) K = K (.int .u16 ((x.toNat &&& y.toNat : Nat) : Int)) :=
  bin_int K (by
    simp only [binOp, Op.intBits, BitVec.toNat_and]
    rw [if_neg (by simp), rp_pure]
    rw [bv_nat IntKind.u16.bits h0 (show x < 2 ^ 16 by omega), bv_nat IntKind.u16.bits h2 (show y < 2 ^ 16 by omega), wr_u16 _ (Nat.and_lt_two_pow _ (by omega))])
@[go_sem] theorem oor_u16 (t : TypeId) (cx cy : Bool) (x y : Int) (h0 : 0 ≤ x) (h1 : x ≤ 65535) (h2 : 0 ≤ y) (h3 : y ≤ 65535) :
    pu P (oBin .or t cx cy (.int .u16 x) (.int .u16 y)) K = K (.int .u16 ((x.toNat ||| y.toNat : Nat) : Int)) :=
  bin_int K (by
    simp only [binOp, Op.intBits, BitVec.toNat_or]
    rw [if_neg (by simp), rp_pure]
    rw [bv_nat IntKind.u16.bits h0 (show x < 2 ^ 16 by omega), bv_nat IntKind.u16.bits h2 (show y < 2 ^ 16 by omega), wr_u16 _ (Nat.or_lt_two_pow (by omega) (by omega))])
@[go_sem] theorem oxor_u16 (t : TypeId) (cx cy : Bool) (x y : Int) (h0 : 0 ≤ x) (h1 : x ≤ 65535) (h2 : 0 ≤ y) (h3 : y ≤ 65535) :
    pu P (oBin .xor t cx cy (.int .u16 x) (.int .u16 y)) K = K (.int .u16 ((x.toNat ^^^ y.toNat : Nat) : Int)) :=
  bin_int K (by
    simp only [binOp, Op.intBits, BitVec.toNat_xor]
    rw [if_neg (by simp), rp_pure]
    rw [bv_nat IntKind.u16.bits h0 (show x < 2 ^ 16 by omega), bv_nat IntKind.u16.bits h2 (show y < 2 ^ 16 by omega), wr_u16 _ (Nat.xor_lt_two_pow (by omega) (by omega))])
@[go_sem] theorem oand_u8 (t : TypeId) (cx cy : Bool) (x y : Int) (h0 : 0 ≤ x) (h1 : x ≤ 255) (h2 : 0 ≤ y) (h3 : y ≤ 255) :
    pu P (oBin .and t cx cy (.int .u8 x) (.int .u8 y)) K = K (.int .u8 ((x.toNat &&& y.toNat : Nat) : Int)) :=
  bin_int K (by
    simp only [binOp, Op.intBits, BitVec.toNat_and]
    rw [if_neg (by simp), rp_pure]
    rw [bv_nat IntKind.u8.bits h0 (show x < 2 ^ 8 by omega), bv_nat IntKind.u8.bits h2 (show y < 2 ^ 8 by omega), wr_u8 _ (Nat.and_lt_two_pow _ (by omega))])
@[go_sem] theorem oor_u8 (t : TypeId) (cx cy : Bool) (x y : Int) (h0 : 0 ≤ x) (h1 : x ≤ 255) (h2 : 0 ≤ y) (h3 : y ≤ 255) :
    pu P (oBin .or t cx cy (.int .u8 x) (.int .u8 y)) K = K (.int .u8 ((x.toNat ||| y.toNat : Nat) : Int)) :=
  bin_int K (by
    simp only [binOp, Op.intBits, BitVec.toNat_or]
    rw [if_neg (by simp), rp_pure]
    rw [bv_nat IntKind.u8.bits h0 (show x < 2 ^ 8 by omega), bv_nat IntKind.u8.bits h2 (show y < 2 ^ 8 by omega), wr_u8 _ (Nat.or_lt_two_pow (by omega) (by omega))])
@[go_sem] theorem oxor_u8 (t : TypeId) (cx cy : Bool) (x y : Int) (h0 : 0 ≤ x) (h1 : x ≤ 255) (h2 : 0 ≤ y) (h3 : y ≤ 255) :
    pu P (oBin .xor t cx cy (.int .u8 x) (.int .u8 y)) K = K (.int .u8 ((x.toNat ^^^ y.toNat : Nat) : Int)) :=
  bin_int K (by
    simp only [binOp, Op.intBits, BitVec.toNat_xor]
    rw [if_neg (by simp), rp_pure]
    rw [bv_nat IntKind.u8.bits h0 (show x < 2 ^ 8 by omega), bv_nat IntKind.u8.bits h2 (show y < 2 ^ 8 by omega), wr_u8 _ (Nat.xor_lt_two_pow (by omega) (by omega))])
@[go_sem] theorem oand_i64 (t : TypeId) (cx cy : Bool) (x y : Int) (h0 : 0 ≤ x) (h1 : x ≤ 9223372036854775807) (h2 : 0 ≤ y) (h3 : y ≤ 9223372036854775807) :
    pu P (oBin .and t cx cy (.int .i64 x) (.int .i64 y)) K = K (.int .i64 ((x.toNat &&& y.toNat : Nat) : Int)) :=
  bin_int K (by
    simp only [binOp, Op.intBits, BitVec.toNat_and]
    rw [if_neg (by simp), rp_pure]
    rw [bv_nat IntKind.i64.bits h0 (show x < 2 ^ 64 by omega), bv_nat IntKind.i64.bits h2 (show y < 2 ^ 64 by omega), wr_i64 _ (Nat.and_lt_two_pow _ (by omega))])
@[go_sem] theorem oor_i64 (t : TypeId) (cx cy : Bool) (x y : Int) (h0 : 0 ≤ x) (h1 : x ≤ 9223372036854775807) (h2 : 0 ≤ y) (h3 : y ≤ 9223372036854775807) :
    pu P (oBin .or t cx cy (.int .i64 x) (.int .i64 y)) K = K (.int .i64 ((x.toNat ||| y.toNat : Nat) : Int)) :=
  bin_int K (by
    simp only [binOp, Op.intBits, BitVec.toNat_or]
    rw [if_neg (by simp), rp_pure]
    rw [bv_nat IntKind.i64.bits h0 (show x < 2 ^ 64 by omega), bv_nat IntKind.i64.bits h2 (show y < 2 ^ 64 by omega), wr_i64 _ (Nat.or_lt_two_pow (by omega) (by omega))])
@[go_sem] theorem oxor_i64 (t : TypeId) (cx cy : Bool) (x y : Int) (h0 : 0 ≤ x) (h1 : x ≤ 9223372036854775807) (h2 : 0 ≤ y) (h3 : y ≤ 9223372036854775807) :
    pu P (oBin .xor t cx cy (.int .i64 x) (.int .i64 y)) K = K (.int .i64 ((x.toNat ^^^ y.toNat : Nat) : Int)) :=
  bin_int K (by
    simp only [binOp, Op.intBits, BitVec.toNat_xor]
    rw [if_neg (by simp), rp_pure]
    rw [bv_nat IntKind.i64.bits h0 (show x < 2 ^ 64 by omega), bv_nat IntKind.i64.bits h2 (show y < 2 ^ 64 by omega), wr_i64 _ (Nat.xor_lt_two_pow (by omega) (by omega))])
@[go_sem] theorem oShl_u64 (t : TypeId) (cx cy : Bool) (j : IntKind) (x y : Int) (h0 : 0 ≤ y) (h1 : y ≤ 64) :
    pu P (oBin .shl t cx cy (.int .u64 x) (.int j y)) K = K (.int .u64 (IntKind.u64.wrap (x * 2 ^ y.toNat))) :=
  bin_int K (by
    simp only [binOp, Op.shift]
    rw [if_neg (by omega), rp_pure, Nat.min_eq_left (show y.toNat ≤ IntKind.u64.bits from show y.toNat ≤ 64 by omega)])
@[go_sem] theorem oShr_u64 (t : TypeId) (cx cy : Bool) (j : IntKind) (x y : Int) (h0 : 0 ≤ y) (h1 : y ≤ 64) (h2 : 0 ≤ x) :
    pu P (oBin .shr t cx cy (.int .u64 x) (.int j y)) K = K (.int .u64 (x / 2 ^ y.toNat)) :=
  bin_int K (by
    simp only [binOp, Op.shift]
    rw [if_neg (by omega), rp_pure, Nat.min_eq_left (show y.toNat ≤ IntKind.u64.bits from show y.toNat ≤ 64 by omega)]
    congr 2
    exact Int.fdiv_eq_ediv_of_nonneg _ (by exact Int.le_of_lt (Int.pow_pos (by decide))))
@[go_sem] theorem oShl_u32 (t : TypeId) (cx cy : Bool) (j : IntKind) (x y : Int) (h0 : 0 ≤ y) (h1 : y ≤ 32) :
    pu P (oBin .shl t cx cy (.int .u32 x) (.int j y)) K = K (.int .u32 (IntKind.u32.wrap (x * 2 ^ y.toNat))) :=
  bin_int K (by
    simp only [binOp, Op.shift]
    rw [if_neg (by omega), rp_pure, Nat.min_eq_left (show y.toNat ≤ IntKind.u32.bits from show y.toNat ≤ 32 by omega)])
@[go_sem] theorem oShr_u32 (t : TypeId) (cx cy : Bool) (j : IntKind) (x y : Int) (h0 : 0 ≤ y) (h1 : y ≤ 32) (h2 : 0 ≤ x) :
    pu P (oBin .shr t cx cy (.int .u32 x) (.int j y)) K = K (.int .u32 (x / 2 ^ y.toNat)) :=
  bin_int K (by
    simp only [binOp, Op.shift]
    rw [if_neg (by omega), rp_pure, Nat.min_eq_left (show y.toNat ≤ IntKind.u32.bits from show y.toNat ≤ 32 by omega)]
    congr 2
    exact Int.fdiv_eq_ediv_of_nonneg _ (by exact Int.le_of_lt (Int.pow_pos (by decide))))
@[go_sem] theorem oShl_u16 (t : TypeId) (cx cy : Bool) (j : IntKind) (x y : Int) (h0 : 0 ≤ y) (h1 : y ≤ 16) :
    pu P (oBin .shl t cx cy (.int .u16 x) (.int j y)) K = K (.int .u16 (IntKind.u16.wrap (x * 2 ^ y.toNat))) :=
  bin_int K (by
    simp only [binOp, Op.shift]
    rw [if_neg (by omega), rp_pure, Nat.min_eq_left (show y.toNat ≤ IntKind.u16.bits from show y.toNat ≤ 16 by omega)])
@[go_sem] theorem oShr_u16 (t : TypeId) (cx cy : Bool) (j : IntKind) (x y : Int) (h0 : 0 ≤ y) (h1 : y ≤ 16) (h2 : 0 ≤ x) :
    pu P (oBin .shr t cx cy (.int .u16 x) (.int j y)) K = K (.int .u16 (x / 2 ^ y.toNat)) :=
  bin_int K (by
    simp only [binOp, Op.shift]
    rw [if_neg (by omega), rp_pure, Nat.min_eq_left (show y.toNat ≤ IntKind.u16.bits from show y.toNat ≤ 16 by omega)]
    congr 2
    exact Int.fdiv_eq_ediv_of_nonneg _ (by exact Int.le_of_lt (Int.pow_pos (by decide))))
@[go_sem] theorem oShl_u8 (t : TypeId) (cx cy : Bool) (j : IntKind) (x y : Int) (h0 : 0 ≤ y) (h1 : y ≤ 8) :
    pu P (oBin .shl t cx cy (.int .u8 x) (.int j y)) K = K (.int .u8 (IntKind.u8.wrap (x * 2 ^ y.toNat))) :=
  bin_int K (by
    simp only [binOp, Op.shift]
    rw [if_neg (by omega), rp_pure, Nat.min_eq_left (show y.toNat ≤ IntKind.u8.bits from show y.toNat ≤ 8 by omega)])
@[go_sem] theorem oShr_u8 (t : TypeId) (cx cy : Bool) (j : IntKind) (x y : Int) (h0 : 0 ≤ y) (h1 : y ≤ 8) (h2 : 0 ≤ x) :
    pu P (oBin .shr t cx cy (.int .u8 x) (.int j y)) K = K (.int .u8 (x / 2 ^ y.toNat)) :=
  bin_int K (by
    simp only [binOp, Op.shift]
    rw [if_neg (by omega), rp_pure, Nat.min_eq_left (show y.toNat ≤ IntKind.u8.bits from show y.toNat ≤ 8 by omega)]
    congr 2
    exact Int.fdiv_eq_ediv_of_nonneg _ (by exact Int.le_of_lt (Int.pow_pos (by decide))))
@[go_sem] theorem oShl_i64 (t : TypeId) (cx cy : Bool) (j : IntKind) (x y : Int) (h0 : 0 ≤ y) (h1 : y ≤ 64) :
    pu P (oBin .shl t cx cy (.int .i64 x) (.int j y)) K = K (.int .i64 (IntKind.i64.wrap (x * 2 ^ y.toNat))) :=
  bin_int K (by
    simp only [binOp, Op.shift]
    rw [if_neg (by omega), rp_pure, Nat.min_eq_left (show y.toNat ≤ IntKind.i64.bits from show y.toNat ≤ 64 by omega)])
@[go_sem] theorem oShr_i64 (t : TypeId) (cx cy : Bool) (j : IntKind) (x y : Int) (h0 : 0 ≤ y) (h1 : y ≤ 64) (h2 : 0 ≤ x) :
    pu P (oBin .shr t cx cy (.int .i64 x) (.int j y)) K = K (.int .i64 (x / 2 ^ y.toNat)) :=
  bin_int K (by
    simp only [binOp, Op.shift]
    rw [if_neg (by omega), rp_pure, Nat.min_eq_left (show y.toNat ≤ IntKind.i64.bits from show y.toNat ≤ 64 by omega)]
    congr 2
    exact Int.fdiv_eq_ediv_of_nonneg _ (by exact Int.le_of_lt (Int.pow_pos (by decide))))

theorem and_pow (x i : Nat) : x &&& 2 ^ i = x / 2 ^ i % 2 * 2 ^ i := by
  apply Nat.eq_of_testBit_eq
  intro j
  rw [Nat.testBit_and, Nat.testBit_two_pow]
  by_cases h : i = j
  · subst h
    have hm : x / 2 ^ i % 2 = 0 ∨ x / 2 ^ i % 2 = 1 := by omega
    rw [Nat.testBit_eq_decide_div_mod_eq]
    rcases hm with hm | hm <;> simp [hm]
  · have hm : x / 2 ^ i % 2 = 0 ∨ x / 2 ^ i % 2 = 1 := by omega
    rcases hm with hm | hm
    · simp [h, hm]
    · simp [h, hm, Nat.testBit_two_pow]
theorem and_low (x i : Nat) : x &&& (2 ^ i - 1) = x % 2 ^ i := Nat.and_two_pow_sub_one_eq_mod x i
theorem or_add (i : Nat) {x y : Nat} (hx : x < 2 ^ i) (hy : y % 2 ^ i = 0) : x ||| y = x + y := by
  have e : y = 2 ^ i * (y / 2 ^ i) := by have := Nat.div_add_mod y (2 ^ i); omega
  rw [Nat.or_comm, e, ← Nat.two_pow_add_eq_or_of_lt hx (y / 2 ^ i), Nat.add_comm]
end
end Go.X
