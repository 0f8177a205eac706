/- Laws on arrays, parts of slices and copies. No condition. -/
import Derived.Test.YtfiepdikejoeeaaDoorXBv
set_option linter.unusedVariables false
set_option linter.unusedSimpArgs false
namespace Go.X
open Go Go.RowKit
section
variable {P : Program} (K : Value → World → Prop) (w : World)

theorem bv_andNot3 (x : BitVec 64) : x &&& ~~~(3#64) = x >>> 2 <<< 2 := by
  apply BitVec.eq_of_getLsbD_eq
  intro i hi
  rw [BitVec.getLsbD_and, BitVec.getLsbD_not, BitVec.getLsbD_shiftLeft, BitVec.getLsbD_ushiftRight]
  by_cases h : i < 2
  · have : i = 0 ∨ i = 1 := by omega
    rcases this with rfl | rfl <;> simp
  · have h3 : (3#64).getLsbD i = false := by
      rw [BitVec.getLsbD_ofNat]
      have : Nat.testBit 3 i = false := Nat.testBit_lt_two_pow (Nat.lt_of_lt_of_le (show 3 < 2 ^ 2 by decide) (Nat.pow_le_pow_right (by decide) (by omega)))
      simp [this]
    rw [h3]
    simp [hi, h]
    rw [show 2 + (i - 2) = i by omega]
    exact (BitVec.getLsbD_eq_getElem hi).symm
theorem oAndNot3 (L : Value → Prop) (t : TypeId) (cx cy : Bool) (n : Nat) (hn : n ≤ 9223372036854775807) : pu P (oBin .andNot t cx cy (.int .i64 n) (.int .i64 3)) L = L (.int .i64 (n / 4 * 4 : Nat)) :=
  bin_int L (by
    simp only [binOp, Op.intBits]
    rw [if_neg (by simp), rp_pure]
    congr 2
    have e : (BitVec.ofInt IntKind.i64.bits (n : Int) &&& ~~~BitVec.ofInt IntKind.i64.bits 3).toNat = n / 4 * 4 := by
      show (BitVec.ofInt 64 (n : Int) &&& ~~~BitVec.ofInt 64 3).toNat = _
      rw [BitVec.ofInt_natCast, show BitVec.ofInt 64 3 = 3#64 from rfl, bv_andNot3, BitVec.toNat_shiftLeft, BitVec.toNat_ushiftRight, BitVec.toNat_ofNat, Nat.shiftLeft_eq, Nat.shiftRight_eq_div_pow, Nat.mod_eq_of_lt (show n < 2 ^ 64 by omega), Nat.mod_eq_of_lt (show n / 2 ^ 2 * 2 ^ 2 < 2 ^ 64 by omega)]
    rw [e]
    exact wr_i64 _ (by omega))
theorem oSlice_lo (L : Value → Prop) {tB tE : TypeId} {size : Nat} (h2 : P.underlying tB = some (.slice tE)) (hs : (P.info? tE).map (·.size) = some size) {b o n m : Nat} {k : IntKind} {lo : Int} (a0 : 0 ≤ lo) (a1 : lo ≤ n) (a2 : n ≤ m) :
    pu P (oSlice tB (sl b o n m) (some (.int k lo)) none none) L = L (sl b (if m = lo.toNat then o else o + lo.toNat * size) (n - lo.toNat) (m - lo.toNat)) :=
  pu_v' (by
    simp only [Instr.sliceAt, Instr.slice, Instr.sliceBounds]
    simp [rp_bind, rp_underlying h2, rp_sliceBound k lo n _ a0 a1, rp_size hs, rp_map]
    split <;> simp [Addr.add_lit, rp_map, rp_size hs])
theorem oSlice_hi (L : Value → Prop) {tB tE : TypeId} {size : Nat} (h2 : P.underlying tB = some (.slice tE)) (hs : (P.info? tE).map (·.size) = some size) {b o n m : Nat} {j : IntKind} {hi : Int} (a1 : 0 ≤ hi) (a2 : hi ≤ m) :
    pu P (oSlice tB (sl b o n m) none (some (.int j hi)) none) L = L (sl b o hi.toNat m) :=
  pu_v' (by
    simp only [Instr.sliceAt, Instr.slice, Instr.sliceBounds]
    simp [rp_bind, rp_underlying h2, rp_sliceBound j hi m _ a1 a2, rp_size hs, rp_map]
    intro h; simp [Addr.add_lit])
theorem oSlice_arr (L : Value → Prop) {tA tE : TypeId} {n size : Nat} (h2 : P.underlying tA = some (.array n tE)) (hs : (P.info? tE).map (·.size) = some size) (b o : Nat) :
    pu P (oSlice tA (pt b o) none none none) L = L (sl b o n n) :=
  pu_v' (by
    simp only [Instr.sliceAt, Instr.sliceBounds]
    simp [rp_bind, rp_underlying h2, rp_size hs, Instr.sureAddr, rp_map]
    intro h; simp [Addr.add_lit])
/-- As many cells are copied as there are of both. -/
theorem oCopy {tB tE : TypeId} {cs : Array Bool} {ty : TypeId} (h2 : P.underlying tB = some (.slice tE)) (hs : (P.info? tE).map (·.size) = some 1) {b o m b' o' m' n n' : Nat} {l0 : List Value} {t : TypeId} {l : List UInt8} (hb : bk w b = some (CB l0 t)) (hn : n' = l.length) (hle : l.length ≤ n) (ho : o + l.length ≤ l0.length) (r : rowB w b' o' l) :
    st P (oBuiltin .copy #[tB, tB] ty cs #[sl b o n m, sl b' o' n' m']) w K = K (.int .i64 l.length) (setb w b (CB (l0.take o ++ l.map byt ++ l0.drop (o + l.length)) t)) := by
  subst hn
  refine st_eq_value (run_v' ?_)
  have hmin : Nat.min l.length n = l.length := Nat.min_eq_left hle
  have hf : (Builtin.firstCells 1 l.length (sl b' o' l.length m')).run P w = .ok (l.map byt).toArray w :=
    run_firstCells_some w 1 l.length ⟨b', o', none⟩ l.length m' (l.map byt) (by simp) (fun j u hj => by
      have hjl : j < l.length := by have := (List.getElem?_eq_some_iff.1 hj).1; simpa using this
      have hc := rowB_cell r hjl
      rw [Addr.add_lit, cell?_eq, hc]
      simp [hjl] at hj; rw [← hj])
  have hst := run_storeCells_cells (P := P) b o (l.map byt) 0 w (fun j hj => by
      rw [cell?_eq, hb]
      show (l0.toArray[o + 0 + j]?).isSome = true
      simp at hj
      simp; omega) (fun j hj => by
      rw [frozen?_eq, hb]
      show (decide (0 ≤ o + 0 + j) && decide (o + 0 + j < 0)) = false
      simp) (fun u hu => by
      obtain ⟨b, _, rfl⟩ := List.mem_map.1 hu
      rfl)
  cases hie : P.info? tE with
  | none => rw [hie] at hs; cases hs
  | some ie =>
  rw [hie] at hs
  simp only [Option.map_some, Option.some.injEq] at hs
  simp only [Nat.add_zero] at hst
  have hset := setCells_eq b (e := t) (fz := (0, 0)) (l.map byt) o w l0 hb (by simpa using ho)
  simp only [List.length_map] at hset
  simp [Builtin.copy_, run_underlying h2, sizeOf, typeInfo, hie, hs, Builtin.lenOf, hmin, hf, hst, hset, goInt]
end
end Go.X
