/- What comes in, opened: a slice of bytes. No condition. -/
import Derived.Test.YtfiepdikejoeeaaDoorXArr
import Derived.Deep.Slices
import Derived.WideShapes
import Derived.SizedLaws
set_option linter.unusedVariables false
set_option linter.unusedSimpArgs false
namespace Go.X
open Go Go.RowKit Go.WideShapes Go.Deep
section
variable {H : Type} {enc : TypeId × Value → H} {P : Program} {W : World}
theorem open_bytes {r : Reach} {b0 : Nat} {t e : TypeId} {v : Value} {d : DataW H} {p : List MemPlace} (ht : P.underlying t = some (.slice e)) (he : P.underlying e = some (.int .u8)) (hc : P.cellsOf e = 1)
    (hv : Value.okWide P W r b0 t v) (h : DataW.Trod enc P W 0 (fun _ => true) true t v d p) : ∃ l : List UInt8, BS W v l ∧ (l = [] ∨ ∃ es sp, d = .slice es sp ∧ es.length = l.length) := by
  obtain ⟨a, n, cap, rfl⟩ := okWide_slice ht hv
  obtain ⟨fuel, hf⟩ := h
  rcases open_slice1 ht hc hf with ⟨h1, h2⟩ | ⟨a', len, cap', m, k, V, D, Pl, h1, h2, h3, h4, h5, h6, h7⟩
  · simp [Value.cells] at h1
    obtain ⟨rfl, rfl, rfl⟩ := h1
    exact ⟨[], .inl ⟨rfl, _, _, rfl⟩, .inl rfl⟩
  · simp [Value.cells] at h1
    obtain ⟨rfl, rfl, rfl⟩ := h1
    simp only [if_true] at h5
    subst h5
    by_cases hn : n = 0
    · subst hn
      exact ⟨[], .inl ⟨rfl, _, _, rfl⟩, .inl rfl⟩
    · have hx : ∀ i, i < n → ∃ b : UInt8, V i = byt b := fun i hi => by
        obtain ⟨q, e1, _, e3⟩ := DataW.trod_int he (h7 i (by omega)).2
        simp only [List.cons.injEq, and_true] at e1
        simp only [Lit.wf, Bool.and_eq_true, decide_eq_true_eq] at e3
        have z0 : 0 ≤ q := e3.1
        have z1 : q ≤ 255 := e3.2
        refine ⟨UInt8.ofNat q.toNat, ?_⟩
        rw [e1, byt]
        congr 1
        simp
        omega
      have hspot : a'.spot = none := by
        have h0 := (h7 0 (by omega)).1
        rw [show a'.add 0 = a' from rfl] at h0
        unfold World.cell? at h0
        split at h0
        · cases hs : a'.spot with
          | none => rfl
          | some s => rw [hs] at h0; simp at h0
        · cases h0
      obtain ⟨b, o, sp⟩ := a'
      simp only at hspot
      subst hspot
      have hlist : ∃ l : List UInt8, l.length = n ∧ ∀ i (hi : i < l.length), V i = byt l[i] := by
        refine ⟨(List.range n).map fun i => match V i with | .int _ q => UInt8.ofNat q.toNat | _ => 0, by simp, fun i hi => ?_⟩
        have hi' : i < n := by simpa using hi
        obtain ⟨x, hx⟩ := hx i hi'
        simp only [List.getElem_map, List.getElem_range, hx, byt]
        simp
      obtain ⟨l, hl, hV⟩ := hlist
      subst hl
      refine ⟨l, .inr ⟨b, o, _, rfl, h3, ?_, ?_⟩, .inr ⟨_, _, congrArg Prod.fst h6, ?_⟩⟩
      · have hcell : ∀ i (hi : i < l.length), cellOf (bk W b) (o + i) = some (byt l[i]) := fun i hi => by
          have := (h7 i (by omega)).1
          rw [Addr.add_lit, cell?_eq, hV i hi] at this
          exact this
        unfold rowB
        have h0 := hcell 0 (by omega)
        unfold cellOf at h0
        split at h0
        · rename_i c tt fz hb
          rw [hb] at hcell ⊢
          simp only [rowOf]
          have hlast := hcell (l.length - 1) (by omega)
          have hlt : o + (l.length - 1) < c.size := by
            have : c[o + (l.length - 1)]? = some _ := hlast
            exact (Array.getElem?_eq_some_iff.1 this).1
          rw [if_pos (by omega)]
          congr 1
          apply List.ext_getElem?
          intro i
          by_cases hi : i < l.length
          · rw [List.getElem?_take_of_lt hi, List.getElem?_drop]
            have : c[o + i]? = some (byt l[i]) := hcell i hi
            rw [Array.getElem?_toList, this]
            simp [hi]
          · rw [List.getElem?_eq_none (by simp; omega), List.getElem?_eq_none (by simp; omega)]
        · cases h0
      · have h0 := (h7 0 (by omega)).1
        rw [show (Addr.mk b o none).add 0 = ⟨b, o, none⟩ from rfl] at h0
        rw [cell?_eq] at h0
        unfold cellOf at h0
        split at h0
        · rename_i hb; exact bk_lt hb
        · cases h0
      · simp
end
end Go.X
