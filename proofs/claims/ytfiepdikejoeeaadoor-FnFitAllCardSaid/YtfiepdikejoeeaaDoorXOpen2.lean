/- What comes in, opened: slices of bytes in cells, slices of structs, slices of numbers. No condition. -/
import Derived.Test.YtfiepdikejoeeaaDoorXBuf
import Derived.Test.YtfiepdikejoeeaaDoorXOpen
import Derived.ChangeArms
set_option linter.unusedVariables false
set_option linter.unusedSimpArgs false
namespace Go.X
open Go Go.RowKit Go.WideShapes Go.Deep
section
variable {H : Type} {enc : TypeId × Value → H} {P : Program} {W : World}
/-- A slice of whatever, opened: its elements' cells. -/
theorem open_elems {t e : TypeId} {size fuel : Nat} {cs : List Value} {x : DataW H × List MemPlace} (ht : P.underlying t = some (.slice e)) (hc : P.cellsOf e = size) (h0 : 0 < size) (h : DataW.trod enc P W 0 (fun _ => true) true fuel t cs = some x) :
    (∃ a cap, cs = [.slice a 0 cap]) ∨ ∃ b o n cap, cs = [sl b o n cap] ∧ n ≤ cap ∧ cap ≤ maxLen ∧ b < W.heap.size ∧ n ≠ 0 ∧ ∃ m, ∀ i, i < n → ∃ c y, rowOf (bk W b) (o + i * size) size = some c ∧ DataW.trod enc P W 0 (fun _ => true) true m e c = some y := by
  rcases open_slice ht h with ⟨h1, _⟩ | ⟨a, n, cap, m, k, D, Pl, rfl, _, h2, h3, h4, _, h5⟩
  · exact .inl ⟨none, 0, h1⟩
  · by_cases hn : n = 0
    · subst hn; exact .inl ⟨_, _, rfl⟩
    simp only [if_true] at h4
    subst h4
    obtain ⟨c0, hc0, _⟩ := h5 0 (by omega)
    obtain ⟨_, hl0, hg0⟩ := World.cells?_some hc0
    rw [hc] at hl0
    have h00 := hg0 0 (by omega)
    have hne : c0[0]? ≠ none := by rw [List.getElem?_eq_getElem (by omega)]; simp
    have hspot : a.spot = none := by
      cases hs : a.spot with
      | none => rfl
      | some s =>
        exfalso
        have hs2 : ((a.add (0 * P.cellsOf e)).add 0).spot = some s := by
          rw [Nat.zero_mul]
          exact hs
        unfold World.cell? at h00
        rw [hs2] at h00
        split at h00
        · simp at h00; rw [h00] at hl0; simp at hl0; omega
        · exact hne h00.symm
    obtain ⟨b, o, sp⟩ := a
    simp only at hspot
    subst hspot
    have row : ∀ i, i < n → ∃ c y, rowOf (bk W b) (o + i * size) size = some c ∧ DataW.trod enc P W 0 (fun _ => true) true k e c = some y := fun i hi => by
      obtain ⟨c, hc1, hc2⟩ := h5 i (by omega)
      obtain ⟨_, hl, hg⟩ := World.cells?_some hc1
      rw [hc] at hl hg
      refine ⟨c, _, ?_, hc2⟩
      have cell : ∀ j, j < size → cellOf (bk W b) (o + i * size + j) = c[j]? := fun j hj => by
        have := hg j hj
        rw [Addr.add_lit, Addr.add_lit, cell?_eq] at this
        exact this
      have hz := cell (size - 1) (by omega)
      have hlt : c[size - 1]? ≠ none := by rw [List.getElem?_eq_getElem (by omega)]; simp
      unfold cellOf at hz
      split at hz
      · rename_i cc tt fz hb
        rw [hb] at cell ⊢
        simp only [rowOf]
        have hlast : o + i * size + (size - 1) < cc.size := by
          refine Nat.lt_of_not_le fun hle => hlt ?_
          rw [← hz, Array.getElem?_eq_none hle]
        rw [if_pos (by omega)]
        congr 1
        apply List.ext_getElem?
        intro j
        by_cases hj : j < size
        · rw [List.getElem?_take_of_lt hj, List.getElem?_drop]
          have : cc[o + i * size + j]? = c[j]? := cell j hj
          rw [Array.getElem?_toList, this]
        · rw [List.getElem?_eq_none (by simp; omega), List.getElem?_eq_none (by omega)]
      · exact absurd hz.symm hlt
    refine .inr ⟨b, o, n, _, rfl, h2, h3, ?_, hn, k, row⟩
    obtain ⟨c, y, hr, _⟩ := row 0 (by omega)
    obtain ⟨c', t', fz, e1, _⟩ := rowOf_inv hr
    exact bk_lt e1
/-- A slice of bytes in a cell. -/
theorem open_bytes_cell {t e : TypeId} {fuel : Nat} {cs : List Value} {x : DataW H × List MemPlace} (ht : P.underlying t = some (.slice e)) (he : P.underlying e = some (.int .u8)) (hc : P.cellsOf e = 1) (h : DataW.trod enc P W 0 (fun _ => true) true fuel t cs = some x) :
    ∃ v l, cs = [v] ∧ BS W v l ∧ l.length ≤ maxLen := by
  rcases open_elems ht hc (by omega) h with ⟨a, cap, rfl⟩ | ⟨b, o, n, cap, rfl, h1, h2, h3, h4, m, h5⟩
  · exact ⟨_, [], rfl, .inl ⟨rfl, _, _, rfl⟩, by simp⟩
  · have hx : ∀ i, i < n → ∃ z : UInt8, rowOf (bk W b) (o + i) 1 = some [byt z] := fun i hi => by
      obtain ⟨c, y, e1, e2⟩ := h5 i hi
      obtain ⟨q, rfl, _, e3⟩ := DataW.trod_int he e2
      simp only [Lit.wf, Bool.and_eq_true, decide_eq_true_eq] at e3
      have z0 : 0 ≤ q := e3.1
      have z1 : q ≤ 255 := e3.2
      refine ⟨UInt8.ofNat q.toNat, ?_⟩
      rw [Nat.mul_one] at e1
      rw [e1, byt]
      congr 3
      simp
      omega
    have hlist : ∃ l : List UInt8, l.length = n ∧ ∀ i (hi : i < l.length), rowOf (bk W b) (o + i) 1 = some [byt l[i]] := by
      refine ⟨(List.range n).map fun i => match rowOf (bk W b) (o + i) 1 with | some [.int _ q] => UInt8.ofNat q.toNat | _ => 0, by simp, fun i hi => ?_⟩
      obtain ⟨z, hz⟩ := hx i (by simpa using hi)
      simp only [List.getElem_map, List.getElem_range, hz, byt]
      simp
    obtain ⟨l, hl, hV⟩ := hlist
    subst hl
    refine ⟨_, l, rfl, .inr ⟨b, o, cap, rfl, h1, ?_, h3⟩, by omega⟩
    have cell : ∀ i (hi : i < l.length), cellOf (bk W b) (o + i) = some (byt l[i]) := fun i hi => by
      have hr := hV i hi
      obtain ⟨c, tt, fz, e1, e2, e3⟩ := rowOf_inv hr
      rw [e1]
      show c[o + i]? = _
      have := congrArg (·[0]?) e3
      simp only [List.getElem?_take_of_lt (show 0 < 1 by omega), List.getElem?_drop, Nat.add_zero, Array.getElem?_toList] at this
      simpa using this
    unfold rowB
    have hlast := hV (l.length - 1) (by omega)
    obtain ⟨c, tt, fz, e1, e2, e3⟩ := rowOf_inv hlast
    rw [e1] at cell ⊢
    simp only [rowOf]
    have e2' : o + (l.length - 1) + 1 ≤ c.size := e2
    rw [if_pos (by omega)]
    congr 1
    apply List.ext_getElem?
    intro i
    by_cases hi : i < l.length
    · rw [List.getElem?_take_of_lt hi, List.getElem?_drop, Array.getElem?_toList]
      have : c[o + i]? = some (byt l[i]) := cell i hi
      rw [this]
      simp [hi]
    · rw [List.getElem?_eq_none (by simp; omega), List.getElem?_eq_none (by simp; omega)]
end
end Go.X
