/- Arrays and structs by value, taken apart. No condition. -/
import Derived.Test.YtfiepdikejoeeaaDoorXOwn
import Derived.Great.BuildSlice
set_option linter.unusedVariables false
set_option linter.unusedSimpArgs false
namespace Go.X
open Go Go.RowKit
section
variable {P : Program} {K : Value → Prop}
theorem rp_partN {t : TypeId} {d : TypeDesc} {n : Nat} {l : List Value} {off : Nat} (h : P.underlying t = some d) (hd : d.isRow = true) (hn : (P.info? t).map (·.size) = some n) : rp P (part t l.toArray off) = some (AG ((l.drop off).take n)) := by
  have hagg : rp P (isAgg t) = some true := by
    unfold isAgg
    rw [rp_bind, rp_underlying h]
    cases d <;> simp_all [TypeDesc.isRow]
  simp [part, rp_bind, hagg, rp_map, rp_size hn, AG, List.extract_toArray, List.extract]
theorem oIdx_arrN {tA tE : TypeId} {d : TypeDesc} {m size : Nat} (h : P.underlying tA = some (.array m tE)) (he : P.underlying tE = some d) (hd : d.isRow = true) (hn : (P.info? tE).map (·.size) = some size) (l : List Value) (k : IntKind) (i : Int) (h0 : 0 ≤ i) (h1 : i < m) :
    pu P (oIdx tA (AG l) (.int k i)) K = K (AG ((l.drop (i.toNat * size)).take size)) :=
  pu_v' (by
    simp only [Instr.index]
    simp [rp_bind, rp_underlying h, asIntOf, h0, h1, rp_size hn, AG, rp_partN he hd hn])
theorem oIdx_arr1 {tA tE : TypeId} {d : TypeDesc} {m : Nat} (h : P.underlying tA = some (.array m tE)) (he : P.underlying tE = some d) (hd : d.isRow = false) (hn : (P.info? tE).map (·.size) = some 1) (l : List Value) (k : IntKind) (i : Int) (h0 : 0 ≤ i) (h1 : i < m) (hl : l.length = m) :
    pu P (oIdx tA (AG l) (.int k i)) K = K (l.getD i.toNat undef) :=
  pu_v' (by
    have hi : i.toNat < l.length := by omega
    simp only [Instr.index]
    simp [rp_bind, rp_underlying h, asIntOf, h0, h1, rp_size hn, AG]
    rw [rp_part1 he hd (v := l.getD i.toNat undef) (by simp [List.getD, hi])]
    simp [List.getD])
theorem fill_congr (f g : Nat → Option (Nat × Nat)) : ∀ (ps : List (Nat × Value)) (cs : Array Value), (∀ p ∈ ps, f p.1 = g p.1) → Instr.fill f cs ps = Instr.fill g cs ps
  | [], _, _ => rfl
  | (i, v) :: r, cs, h => by
    have e := h (i, v) (List.mem_cons_self ..)
    simp only at e
    unfold Instr.fill
    rw [e]
    split
    · rfl
    · split
      · rfl
      · exact fill_congr f g r _ fun p hp => h p (List.mem_cons_of_mem _ hp)
/-- Where the elements of a slice of this size lie. -/
def plS (n size : Nat) : List (Nat × Nat) := (List.range n).map fun i => (i * size, size)
/-- A slice written out, of elements of whatever size. -/
theorem oBuildSliceM {L : Value → World → Prop} {w : World} {tB tE : TypeId} {z : Value} {size n : Nat} (h2 : P.underlying tB = some (.slice tE)) (hi : (P.info? tE).map (fun i => (i.zero, i.size)) = some (some z, size)) (hsmall : ¬ n * size > 2 ^ 24) (hpos : ¬ n * size = 0)
    {zs : List Value} (hzs : (List.range (n * size)).map (z.cells[· % z.cells.size]!) = zs) {ps : Array (Nat × Value)} {out : List Value} (h : fillL (plS n size) zs ps.toList = some out) (hps : (ps.toList.all fun p => decide (p.1 < n)) = true) :
    st P (oBuildSlice tB n ps) w L = L (sl w.heap.size 0 n n) (w.alloc (CB out tE)) := by
  cases hie : P.info? tE with
  | none => rw [hie] at hi; cases hi
  | some ie =>
  rw [hie] at hi
  simp only [Option.map_some, Option.some.injEq, Prod.mk.injEq] at hi
  obtain ⟨hz, hs⟩ := hi
  refine st_eq_value (run_v' (run_buildSlice w tB tE n ps out.toArray ie z h2 hie hz (by rw [hs]; exact hsmall) (by rw [hs]; exact hpos) ?_))
  rw [hs]
  have hz2 : ((Array.range (n * size)).map (z.cells[· % z.cells.size]!)) = zs.toArray := by rw [← hzs]; apply Array.toList_inj.1; simp
  have e := fill_eq _ _ _ _ h
  rw [hz2]
  rw [← e]
  refine (fill_congr _ _ _ _ fun p hp => ?_).symm
  have := List.all_eq_true.1 hps p hp
  have hlt : p.1 < n := by simpa using this
  simp [plS, hlt]
end
end Go.X
