/- Attributes put into two rooms, the first one that has room: plain lists. No program in sight; no condition. -/
import Derived.Test.YtfiepdikejoeeaaDoorXLaws
set_option linter.unusedVariables false
set_option linter.unusedSimpArgs false
namespace Go.X
namespace Fit
structure St where
  I : List Nat
  O : List Nat
  a : Nat
  b : Nat
def step (n i : Nat) (s : St) : St := if n ≤ s.a then ⟨s.I ++ [i], s.O, s.a - n, s.b⟩ else ⟨s.I, s.O ++ [i], s.a, s.b - n⟩
def st (ns : List Nat) : Nat → St
  | 0 => ⟨[], [], 96, 4060⟩
  | i + 1 => step (ns.getD i 0) i (st ns i)
/-- All fit up to i. -/
def fits (ns : List Nat) (i : Nat) : Prop := ∀ j, j < i → ns.getD j 0 ≤ (st ns j).a ∨ ns.getD j 0 ≤ (st ns j).b
theorem st_lens (ns : List Nat) : ∀ i, (st ns i).I.length + (st ns i).O.length = i
  | 0 => rfl
  | i + 1 => by
    have := st_lens ns i
    simp only [st, step]
    split <;> simp <;> omega
theorem pre (ns : List Nat) (i : Nat) : ∀ k, (∃ x, (st ns (i + k)).I = (st ns i).I ++ x ∧ ∀ j ∈ x, i ≤ j ∧ j < i + k) ∧ (∃ y, (st ns (i + k)).O = (st ns i).O ++ y ∧ ∀ j ∈ y, i ≤ j ∧ j < i + k)
  | 0 => ⟨⟨[], by simp, fun j h => by cases h⟩, [], by simp, fun j h => by cases h⟩
  | k + 1 => by
    obtain ⟨⟨x, hx, hx2⟩, y, hy, hy2⟩ := pre ns i k
    rw [show i + (k + 1) = (i + k) + 1 by omega]
    simp only [st, step]
    split
    · refine ⟨⟨x ++ [i + k], by simp [hx], fun j hj => ?_⟩, y, hy, fun j hj => by have := hy2 j hj; omega⟩
      rcases List.mem_append.1 hj with h | h
      · have := hx2 j h; omega
      · simp at h; omega
    · refine ⟨⟨x, hx, fun j hj => by have := hx2 j hj; omega⟩, y ++ [i + k], by simp [hy], fun j hj => ?_⟩
      rcases List.mem_append.1 hj with h | h
      · have := hy2 j h; omega
      · simp at h; omega
/-- What comes next. -/
theorem next_in (ns : List Nat) {i N : Nat} (h : i < N) (hn : ns.getD i 0 ≤ (st ns i).a) : ∃ x, (st ns N).I.drop (st ns i).I.length = i :: x ∧ (st ns N).I.drop (st ns (i + 1)).I.length = x ∧ (st ns N).O.drop (st ns (i + 1)).O.length = (st ns N).O.drop (st ns i).O.length ∧ (st ns (i + 1)).a = (st ns i).a - ns.getD i 0 := by
  obtain ⟨⟨x, hx, _⟩, _⟩ := pre ns (i + 1) (N - (i + 1))
  rw [show i + 1 + (N - (i + 1)) = N by omega] at hx
  have e : (st ns (i + 1)).I = (st ns i).I ++ [i] := by simp only [st, step]; rw [if_pos hn]
  have e2 : (st ns (i + 1)).O = (st ns i).O := by simp only [st, step]; rw [if_pos hn]
  have e3 : (st ns (i + 1)).a = (st ns i).a - ns.getD i 0 := by simp only [st, step]; rw [if_pos hn]
  refine ⟨x, ?_, ?_, by rw [e2], e3⟩
  · rw [hx, e, List.append_assoc, List.drop_left]; rfl
  · rw [hx, List.drop_left]
theorem next_out (ns : List Nat) {i N : Nat} (h : i < N) (hn : ¬ ns.getD i 0 ≤ (st ns i).a) : ∃ y, (st ns N).O.drop (st ns i).O.length = i :: y ∧ (st ns N).O.drop (st ns (i + 1)).O.length = y ∧ (st ns N).I.drop (st ns (i + 1)).I.length = (st ns N).I.drop (st ns i).I.length ∧ (st ns (i + 1)).a = (st ns i).a ∧ ∀ j ∈ (st ns N).I.drop (st ns i).I.length, i < j ∧ j < N := by
  obtain ⟨⟨x, hx, hx2⟩, y, hy, _⟩ := pre ns (i + 1) (N - (i + 1))
  rw [show i + 1 + (N - (i + 1)) = N by omega] at hx hy hx2
  have e : (st ns (i + 1)).O = (st ns i).O ++ [i] := by simp only [st, step]; rw [if_neg hn]
  have e2 : (st ns (i + 1)).I = (st ns i).I := by simp only [st, step]; rw [if_neg hn]
  have e3 : (st ns (i + 1)).a = (st ns i).a := by simp only [st, step]; rw [if_neg hn]
  refine ⟨y, ?_, ?_, by rw [e2], e3, ?_⟩
  · rw [hy, e, List.append_assoc, List.drop_left]; rfl
  · rw [hy, List.drop_left]
  · rw [hx, e2, List.drop_left]
    intro j hj
    have := hx2 j hj
    omega
theorem mem_lt (ns : List Nat) (i : Nat) : (∀ j ∈ (st ns i).I, j < i) ∧ ∀ j ∈ (st ns i).O, j < i := by
  obtain ⟨⟨x, hx, hx2⟩, y, hy, hy2⟩ := pre ns 0 i
  rw [Nat.zero_add] at hx hy
  constructor
  · intro j hj; rw [hx] at hj; have := hx2 j (by simpa [st] using hj); omega
  · intro j hj; rw [hy] at hj; have := hy2 j (by simpa [st] using hj); omega
theorem sums (ns : List Nat) : ∀ i, fits ns i → (((st ns i).I.map fun j => ns.getD j 0).sum + (st ns i).a = 96) ∧ (((st ns i).O.map fun j => ns.getD j 0).sum + (st ns i).b = 4060)
  | 0, _ => ⟨rfl, rfl⟩
  | i + 1, h => by
    obtain ⟨h1, h2⟩ := sums ns i fun j hj => h j (by omega)
    have hi := h i (by omega)
    simp only [st, step]
    split
    · refine ⟨?_, h2⟩
      simp only [List.map_append, List.sum_append, List.map_cons, List.map_nil, List.sum_cons, List.sum_nil]
      omega
    · refine ⟨h1, ?_⟩
      simp only [List.map_append, List.sum_append, List.map_cons, List.map_nil, List.sum_cons, List.sum_nil]
      omega
theorem drop_all (ns : List Nat) (N : Nat) : (st ns N).I.drop (st ns N).I.length = [] ∧ (st ns N).O.drop (st ns N).O.length = [] := ⟨List.drop_length, List.drop_length⟩
end Fit
end Go.X
