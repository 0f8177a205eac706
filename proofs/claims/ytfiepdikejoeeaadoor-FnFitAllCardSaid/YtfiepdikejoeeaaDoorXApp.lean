/- Laws on slices of bytes: as values with what they hold. No condition. -/
import Derived.Test.YtfiepdikejoeeaaDoorXStr
import Derived.Deep.Upon
set_option linter.unusedVariables false
set_option linter.unusedSimpArgs false
namespace Go.X
open Go Go.RowKit
section
variable {P : Program} (K : Value → World → Prop) (w : World)

/-- A slice of these bytes. -/
def BS (w : World) (v : Value) (l : List UInt8) : Prop :=
  (l = [] ∧ ∃ a cap, v = .slice a 0 cap) ∨ ∃ b o cap, v = sl b o l.length cap ∧ l.length ≤ cap ∧ rowB w b o l ∧ b < w.heap.size
theorem BS_old {w w' : World} {v : Value} {l : List UInt8} {B : Nat} (h : BS w v l) (hb : Below B w w') (hB : w.heap.size ≤ B) : BS w' v l := by
  rcases h with h | ⟨b, o, cap, h1, h2, h3, h4⟩
  · exact .inl h
  · exact .inr ⟨b, o, cap, h1, h2, rowB_old h3 hb (by omega), Nat.lt_of_lt_of_le h4 hb.size⟩
theorem BS_slice {w : World} {v : Value} {l : List UInt8} (h : BS w v l) : ∃ a cap, v = .slice a l.length cap := by
  rcases h with ⟨rfl, a, cap, h⟩ | ⟨b, o, cap, h1, _⟩
  · exact ⟨a, cap, h⟩
  · exact ⟨_, cap, h1⟩
theorem oBuildSlice0 {tB tE : TypeId} {n : Nat} (h2 : P.underlying tB = some (.slice tE)) (hi : (P.info? tE).map (·.size) = some n) :
    st P (oBuildSlice tB 0 #[]) w K = K (sl w.heap.size 0 0 0) (w.alloc (CB [] tE)) := by
  cases hie : P.info? tE with
  | none => rw [hie] at hi; cases hi
  | some ie =>
  exact st_eq_value (run_v' (by
    have hr : Array.range 0 = #[] := rfl
    simp [Instr.buildSlice, run_underlying h2, sizeOf, typeInfo, hie, Instr.fill, newRow, hr]))
theorem src_BS {w : World} {v : Value} {l : List UInt8} {tB tE : TypeId} (h2 : P.underlying tB = some (.slice tE)) (h : BS w v l) (hl : l ≠ []) : Src P 1 tB v l.length (l.map byt) w := by
  rcases h with ⟨rfl, _⟩ | ⟨b, o, cap, rfl, h4, h5, h6⟩
  · exact absurd rfl hl
  · exact Src.ofSlice w h2 ⟨b, o, none⟩ l.length cap (l.map byt) (by simp) (fun j u hj => by
      have hjl : j < l.length := by have := (List.getElem?_eq_some_iff.1 hj).1; simpa using this
      have hc := rowB_cell h5 hjl
      rw [Addr.add_lit, cell?_eq, hc]
      simp [hjl] at hj; rw [← hj]) (fun u hu => by
      obtain ⟨b, _, rfl⟩ := List.mem_map.1 hu
      rfl)
theorem oAppend_empty {tB tE : TypeId} {z : Value} {cs : Array Bool} {a0 : Option Addr} (h2 : P.underlying tB = some (.slice tE)) (hi : (P.info? tE).map (fun i => (i.zero, i.size, i.bytes)) = some (some z, 1, 1)) {v1 : Value} {l : List UInt8} (hv : BS w v1 l) (hl : l.length ≤ 281474976710656)
    (h : ∀ v' w', Below w.heap.size w w' → BS w' v' l → K v' w') : st P (oBuiltin .append #[tB, tB] tB cs #[.slice a0 0 0, v1]) w K := by
  cases hie : P.info? tE with
  | none => rw [hie] at hi; cases hi
  | some ie =>
  rw [hie] at hi
  simp only [Option.map_some, Option.some.injEq, Prod.mk.injEq] at hi
  obtain ⟨hz, hs, hb⟩ := hi
  by_cases e : l = []
  · subst e
    obtain ⟨a, cap, rfl⟩ := BS_slice hv
    have hr : (Builtin.append_ #[tB, tB] tB #[.slice a0 0 0, .slice a 0 cap]).run P w = .ok (.slice a0 0 0) w := by
      cases a0 <;> cases a <;> simp [Builtin.append_, run_underlying h2, sizeOf, typeInfo, hie, Builtin.lenOf, Builtin.firstCells, loadCells, loadCellsFrom, storeCells]
    have e1 : st P (oBuiltin .append #[tB, tB] tB cs #[.slice a0 0 0, .slice a 0 cap]) w K = K (.slice a0 0 0) w := st_eq_value (run_v' hr)
    rw [show (([] : List UInt8).length) = 0 from rfl, e1]
    exact h _ _ (Below.refl _ _) (.inl ⟨rfl, _, _, rfl⟩)
  · have hsrc : Src P ie.size tB v1 l.length (l.map byt) w := by rw [hs]; exact src_BS h2 hv e
    have hpos : 0 < l.length := List.length_pos_iff.2 e
    have hr := run_append_grow_src (P := P) w tB tB tB tE ie z h2 hie hz a0 0 0 [] (by cases a0 <;> simp [Builtin.firstCells, loadCells, loadCellsFrom]) v1 l.length (l.map byt) hsrc (by omega) (by omega) (by
      rw [hb]; simp only [Builtin.nextslicecap]; rw [if_pos (by omega)]; omega)
    have e1 : st P (oBuiltin .append #[tB, tB] tB cs #[.slice a0 0 0, v1]) w K = _ := st_eq_value (K := K) (run_v' hr)
    rw [e1]
    simp only [Nat.zero_add, List.nil_append]
    refine h _ _ ((Below.refl _ _).drew.alloc (Nat.le_refl _) _) (.inr ⟨_, _, _, rfl, ?_, ?_, ?_⟩)
    · exact grownCap_ge w _ _ _
    · unfold rowB
      rw [bk_alloc_eq w.drew _ w.heap.size rfl]
      simp only [rowOf]
      rw [if_pos (by simp)]
      congr 1
      simp [List.take_append_of_le_length, List.take_of_length_le]
    · simp only [go_sem]; omega
end
end Go.X
