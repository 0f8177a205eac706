/- What comes in, opened: steps, numbers. No condition. -/
import Derived.Test.YteblpejgenehfaaDoorScr
import Derived.Test.YteblpejgenehfaaDoorXOpen2
set_option linter.unusedVariables false
set_option linter.unusedSimpArgs false
set_option maxRecDepth 100000
namespace Go.Proofs.YteblpejgenehfaaDoor.X
open Go Go.X Go.Proofs Go.RowKit Go.WideShapes

/-- A number that fits. -/
abbrev i64 (n : Int) : Prop := -9223372036854775808 ≤ n ∧ n ≤ 9223372036854775807
/-- A step whose numbers and texts fit. -/
structure Stp.fit (q : Stp) : Prop where
  op : i64 q.op
  flag : i64 q.flag
  perm : i64 q.perm
  h : i64 q.h
  off : i64 q.off
  wh : i64 q.wh
  n : i64 q.n
  name : q.name.length ≤ maxLen
  other : q.other.length ≤ maxLen
  data : q.data.length ≤ maxLen
section
variable {H : Type} {enc : TypeId × Value → H} {W : World}
theorem open_i64 {t : TypeId} {fuel : Nat} {cs : List Value} {x : DataW H × List MemPlace} (ht : P.underlying t = some (.int .i64)) (h : DataW.trod enc P W 0 (fun _ => true) true fuel t cs = some x) : ∃ n, cs = [.int .i64 n] ∧ i64 n := by
  obtain ⟨n, e, _, w⟩ := DataW.trod_int ht h
  simp only [Lit.wf, Bool.and_eq_true, decide_eq_true_eq] at w
  exact ⟨n, e, w.1, w.2⟩
theorem open_S {t : TypeId} {fuel : Nat} {cs : List Value} {x : DataW H × List MemPlace} (ht : P.underlying t = some .string) (h : DataW.trod enc P W 0 (fun _ => true) true fuel t cs = some x) : ∃ l, cs = [S l] ∧ l.length ≤ maxLen := by
  obtain ⟨s, e, _, w⟩ := DataW.trod_string ht h
  exact ⟨s.data.toList, e, w⟩
theorem choose_list {α β : Type} (R : α → β → Prop) (d : β) : ∀ (l : List α), (∀ a ∈ l, ∃ b, R a b) → ∃ m : List β, m.length = l.length ∧ ∀ i (h1 : i < l.length) (h2 : i < m.length), R l[i] m[i]
  | [], _ => ⟨[], rfl, fun i h => absurd h (by simp)⟩
  | a :: r, h => by
    obtain ⟨b, hb⟩ := h a (List.mem_cons_self ..)
    obtain ⟨m, e, hm⟩ := choose_list R d r fun x hx => h x (List.mem_cons_of_mem _ hx)
    refine ⟨b :: m, by simp [e], fun i h1 h2 => ?_⟩
    cases i with
    | zero => exact hb
    | succ i => exact hm i (by simpa using h1) (by simpa using h2)
theorem choose_range {β : Type} (R : Nat → β → Prop) : ∀ (n : Nat), (∀ i, i < n → ∃ b, R i b) → ∃ m : List β, m.length = n ∧ ∀ i (h : i < m.length), R i m[i]
  | 0, _ => ⟨[], rfl, fun i h => absurd h (by simp)⟩
  | n + 1, h => by
    obtain ⟨m, e, hm⟩ := choose_range R n fun i hi => h i (by omega)
    obtain ⟨b, hb⟩ := h n (by omega)
    refine ⟨m ++ [b], by simp [e], fun i hi => ?_⟩
    by_cases q : i < m.length
    · rw [List.getElem_append_left q]; exact hm i q
    · have : i = m.length := by simp at hi; omega
      subst this
      rw [List.getElem_append_right (by omega)]
      simp only [Nat.sub_self, List.getElem_cons_zero]
      rw [e]; exact hb
theorem open_step {fuel : Nat} {c : List Value} {x : DataW H × List MemPlace} (h : DataW.trod enc P W 0 (fun _ => true) true fuel T.impl_Step c = some x) : ∃ q : Stp, c = q.cells ∧ q.fit ∧ BS W q.v q.data := by
  obtain ⟨xs, n, _, _, hl, hlen, hf⟩ := DataW.trod_struct Tryd.underlying27 h
  have hl : c.length = 10 := hl
  match c, hl with
  | [c0, c1, c2, c3, c4, c5, c6, c7, c8, c9], _ =>
    have g : ∀ i, i < 10 → ∃ y, xs[i]? = some y := fun i hi => ⟨xs[i]'(by rw [hlen]; exact hi), List.getElem?_eq_getElem _⟩
    obtain ⟨y0, z0⟩ := g 0 (by omega)
    obtain ⟨y1, z1⟩ := g 1 (by omega)
    obtain ⟨y2, z2⟩ := g 2 (by omega)
    obtain ⟨y3, z3⟩ := g 3 (by omega)
    obtain ⟨y4, z4⟩ := g 4 (by omega)
    obtain ⟨y5, z5⟩ := g 5 (by omega)
    obtain ⟨y6, z6⟩ := g 6 (by omega)
    obtain ⟨y7, z7⟩ := g 7 (by omega)
    obtain ⟨y8, z8⟩ := g 8 (by omega)
    obtain ⟨y9, z9⟩ := g 9 (by omega)
    obtain ⟨n0, e0, w0⟩ := open_i64 U.int ((hf 0 _ rfl).trans z0)
    obtain ⟨l1, e1, w1⟩ := open_S U.string ((hf 1 _ rfl).trans z1)
    obtain ⟨l2, e2, w2⟩ := open_S U.string ((hf 2 _ rfl).trans z2)
    obtain ⟨n3, e3, w3⟩ := open_i64 U.int ((hf 3 _ rfl).trans z3)
    obtain ⟨n4, e4, w4⟩ := open_i64 U.int ((hf 4 _ rfl).trans z4)
    obtain ⟨n5, e5, w5⟩ := open_i64 U.int ((hf 5 _ rfl).trans z5)
    obtain ⟨v6, l6, e6, b6, w6⟩ := open_bytes_cell U.sl_uint8 U.uint8 (by kernel_rfl) ((hf 6 _ rfl).trans z6)
    obtain ⟨n7, e7, w7⟩ := open_i64 U.int64 ((hf 7 _ rfl).trans z7)
    obtain ⟨n8, e8, w8⟩ := open_i64 U.int ((hf 8 _ rfl).trans z8)
    obtain ⟨n9, e9, w9⟩ := open_i64 U.int ((hf 9 _ rfl).trans z9)
    replace e0 : [c0] = [.int .i64 n0] := e0
    replace e1 : [c1] = [S l1] := e1
    replace e2 : [c2] = [S l2] := e2
    replace e3 : [c3] = [.int .i64 n3] := e3
    replace e4 : [c4] = [.int .i64 n4] := e4
    replace e5 : [c5] = [.int .i64 n5] := e5
    replace e6 : [c6] = [v6] := e6
    replace e7 : [c7] = [.int .i64 n7] := e7
    replace e8 : [c8] = [.int .i64 n8] := e8
    replace e9 : [c9] = [.int .i64 n9] := e9
    obtain rfl : c0 = .int .i64 n0 := by injection e0
    obtain rfl : c1 = S l1 := by injection e1
    obtain rfl : c2 = S l2 := by injection e2
    obtain rfl : c3 = .int .i64 n3 := by injection e3
    obtain rfl : c4 = .int .i64 n4 := by injection e4
    obtain rfl : c5 = .int .i64 n5 := by injection e5
    obtain rfl : c6 = v6 := by injection e6
    obtain rfl : c7 = .int .i64 n7 := by injection e7
    obtain rfl : c8 = .int .i64 n8 := by injection e8
    obtain rfl : c9 = .int .i64 n9 := by injection e9
    exact ⟨⟨n0, l1, l2, n3, n4, n5, _, l6, n7, n8, n9⟩, rfl, ⟨w0, w3, w4, w5, w7, w8, w9, w1, w2, w6⟩, b6⟩
theorem open_steps {r : Reach} {b0 : Nat} {v : Value} {d : DataW H} {p : List MemPlace} (hv : Value.okWide P W r b0 T.sl_impl_Step v) (h : DataW.Trod enc P W 0 (fun _ => true) true T.sl_impl_Step v d p) : ∃ qs : List Stp, StepsAt W v qs ∧ (∀ q ∈ qs, q.fit) ∧ qs.length ≤ maxLen := by
  obtain ⟨a, n, cap, rfl⟩ := okWide_slice U.sl_impl_Step hv
  obtain ⟨fuel, hf⟩ := h
  have hf : DataW.trod enc P W 0 (fun _ => true) true fuel T.sl_impl_Step [.slice a n cap] = some (d, p) := hf
  rcases open_elems (size := 10) U.sl_impl_Step (by kernel_rfl) (by omega) hf with ⟨a', cap', e⟩ | ⟨b, o, n', cap', e, h1, h2, h3, h4, m, h5⟩
  · injection e with e
    rw [e]
    exact ⟨[], ⟨fun q hq => (by cases hq), .inl ⟨rfl, a', cap', rfl⟩⟩, fun q hq => (by cases hq), by simp⟩
  · injection e with e
    rw [e]
    obtain ⟨qs, hl, hq⟩ := choose_range (fun i (q : Stp) => rowOf (bk W b) (o + i * 10) 10 = some q.cells ∧ q.fit ∧ BS W q.v q.data) n' fun i hi => by
      obtain ⟨c, y, e1, e2⟩ := h5 i hi
      obtain ⟨q, rfl, q1, q2⟩ := open_step e2
      exact ⟨q, e1, q1, q2⟩
    subst hl
    refine ⟨qs, ⟨fun q hm => ?_, .inr ⟨b, o, cap', rfl, h3, fun i hi => (hq i hi).1⟩⟩, fun q hm => ?_, by omega⟩
    · obtain ⟨i, hi, rfl⟩ := List.getElem_of_mem hm
      exact (hq i hi).2.2
    · obtain ⟨i, hi, rfl⟩ := List.getElem_of_mem hm
      exact (hq i hi).2.1
end
end Go.Proofs.YteblpejgenehfaaDoor.X
