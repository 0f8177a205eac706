/- Arrays and structs by value, taken apart. No condition. -/
import Derived.Test.YtdilealdddbhnaaDoorXOwn
set_option linter.unusedVariables false
set_option linter.unusedSimpArgs false
namespace Go.X
open Go Go.RowKit
section
variable {P : Program} {K : Value → Prop}
theorem rp_partN {t : TypeId} {d : TypeDesc} {n : Nat} {l : List Value} {off : Nat} (h : P.underlying t = some d) (hd : d.isRow = true) (hn : (P.info? t).map (·.size) = some n) : rp P (part t l.toArray off) = some (AG ((l.drop off).take n)) := by
  have hagg : rp P (isAgg t) = some true := by
    unfold isAgg
    rw [rp_bind, rp_underlying h]
    cases d <;> simp_all [TypeDesc.isRow]
  simp [part, rp_bind, hagg, rp_map, rp_size hn, AG, List.extract_toArray, List.extract]
theorem oIdx_arrN {tA tE : TypeId} {d : TypeDesc} {m size : Nat} (h : P.underlying tA = some (.array m tE)) (he : P.underlying tE = some d) (hd : d.isRow = true) (hn : (P.info? tE).map (·.size) = some size) (l : List Value) (k : IntKind) (i : Int) (h0 : 0 ≤ i) (h1 : i < m) :
    pu P (oIdx tA (AG l) (.int k i)) K = K (AG ((l.drop (i.toNat * size)).take size)) :=
  pu_v' (by
    simp only [Instr.index]
    simp [rp_bind, rp_underlying h, asIntOf, h0, h1, rp_size hn, AG, rp_partN he hd hn])
theorem oIdx_arr1 {tA tE : TypeId} {d : TypeDesc} {m : Nat} (h : P.underlying tA = some (.array m tE)) (he : P.underlying tE = some d) (hd : d.isRow = false) (hn : (P.info? tE).map (·.size) = some 1) (l : List Value) (k : IntKind) (i : Int) (h0 : 0 ≤ i) (h1 : i < m) (hl : l.length = m) :
    pu P (oIdx tA (AG l) (.int k i)) K = K (l.getD i.toNat undef) :=
  pu_v' (by
    have hi : i.toNat < l.length := by omega
    simp only [Instr.index]
    simp [rp_bind, rp_underlying h, asIntOf, h0, h1, rp_size hn, AG]
    rw [rp_part1 he hd (v := l.getD i.toNat undef) (by simp [List.getD, hi])]
    simp [List.getD])
end
end Go.X
