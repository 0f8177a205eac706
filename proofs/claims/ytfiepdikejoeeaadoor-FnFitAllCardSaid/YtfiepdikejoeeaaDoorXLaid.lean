/- What the listed package variables hold, out of the row's condition. No condition of its own. -/
import Derived.Test.YtfiepdikejoeeaaDoorXDeep
import Derived.LaidMore
import Derived.OpenShut
import Derived.ChangeArms
import Derived.Stop.LaidErr
set_option linter.unusedVariables false
set_option linter.unusedSimpArgs false
namespace Go.X
open Go Go.RowKit Go.ChangeShapes
section
variable {P : Program} {W : World}
theorem laid_block {r : List (String × DataW Unit)} {n : String} {d : DataW Unit} {g t : Nat} (h : laidMet P ((n, d) :: r) W) (hg : P.globalNamed n = some g) (ht : (P.globals[g]?).map (·.type) = some t) (h0 : ∀ fuel cs x, DataW.trod (fun _ => ()) P W 0 (fun _ => true) false fuel t cs = some x → cs ≠ []) :
    ∃ l tt fuel p, bk W g = some (CB l tt) ∧ DataW.trod (fun _ => ()) P W 0 (fun _ => true) false fuel t l = some (d, p) := by
  obtain ⟨ps, ⟨g0, t0, cs0, f0, p0, q0, hg0, ht0, hv0, hd0, _, e0⟩, _, hrows⟩ := h
  obtain rfl := Option.some.inj (hg.symm.trans hg0)
  obtain rfl := Option.some.inj (ht.symm.trans ht0)
  subst e0
  obtain ⟨l⟩ := cs0
  have hne : l ≠ [] := h0 _ _ _ hd0
  have hpos : 0 < l.length := List.length_pos_iff.2 hne
  obtain ⟨⟨c, tt, hb⟩, _⟩ := hrows g 0 (by
    refine List.mem_append_left _ (List.mem_append_left _ ?_)
    simp only [MemPlace.row, List.size_toArray, List.mem_map, List.mem_range]
    exact ⟨0, hpos, by simp⟩)
  have e : W.var? P n = some l.toArray := hv0
  simp only [World.var?, hg, Option.bind_some, hb] at e
  cases e
  exact ⟨l, tt, f0, p0, hb, hd0⟩
theorem trod_pairs {H : Type} {enc : TypeId × Value → H} {sp : Nat → Bool} {hd : Bool} {base fuel : Nat} {t e : TypeId} {f0 f1 : Field} {k : IntKind} {l : List Value} {n : Nat} {pl : List MemPlace} (ps : List (Int × List UInt8))
    (ht : P.underlying t = some (.array n e)) (he : P.underlying e = some (.struct #[f0, f1])) (o0 : f0.offset = 0) (o1 : f1.offset = 1) (c0 : P.cellsOf f0.type = 1) (c1 : P.cellsOf f1.type = 1) (ce : P.cellsOf e = 2) (ct : P.cellsOf t = n * 2)
    (u0 : P.underlying f0.type = some (.int k)) (u1 : P.underlying f1.type = some .string)
    (h : DataW.trod enc P W base sp hd fuel t l = some (.agg (ps.map fun p => .agg [.lit (.int k p.1), .lit (.string p.2)]), pl)) : l = ps.flatMap fun p => [.int k p.1, S p.2] := by
  obtain ⟨xs, m, _, hx, hl, hn, hf⟩ := DataW.trod_array ht h
  injection hx with hx _
  injection hx with hx
  have hlen : ps.length = n := by rw [← hn]; have := congrArg List.length hx; simpa using this
  have key : ∀ i, i ≤ n → l.take (i * 2) = (ps.take i).flatMap fun p => [.int k p.1, S p.2] := by
    intro i
    induction i with
    | zero => intro _; simp
    | succ i ih =>
      intro hi
      have hi2 : i < ps.length := by omega
      rw [show (i + 1) * 2 = i * 2 + 2 by omega, List.take_add, ih (by omega), List.take_succ_eq_append_getElem hi2, List.flatMap_append]
      congr 1
      have hxi : i < xs.length := by omega
      have q := hf i (by omega)
      rw [ce, List.getElem?_eq_getElem hxi] at q
      obtain ⟨y0, y1, m2, hy, hl2, q0, q1⟩ := trod_struct2 he q
      rw [o0, c0] at q0
      rw [o1, c1] at q1
      obtain ⟨n0, e0, z0, _⟩ := DataW.trod_int u0 q0
      obtain ⟨s1, e1, z1, _⟩ := DataW.trod_string u1 q1
      have hxx : (xs[i]).1 = .agg [.lit (.int k ps[i].1), .lit (.string ps[i].2)] := by
        have := congrArg (fun z : List (DataW H) => z[i]?) hx
        simp only [List.getElem?_map, List.getElem?_eq_getElem hxi, List.getElem?_eq_getElem hi2, Option.map_some] at this
        exact (Option.some.inj this).symm
      rw [hy] at hxx
      injection hxx with hxx
      rw [z0, z1] at hxx
      simp only [List.cons.injEq, and_true, DataW.lit.injEq, Lit.int.injEq, Lit.string.injEq, true_and] at hxx
      generalize ((l.drop (i * 2)).take 2) = c at *
      match c, hl2 with
      | [a, b], _ =>
        simp only [List.drop_zero, List.take_succ_cons, List.take_zero, List.drop_succ_cons] at e0 e1
        simp only [List.cons.injEq, and_true] at e0 e1
        subst e0 e1
        simp only [List.flatMap_cons, List.flatMap_nil, List.append_nil]
        rw [hxx.1, ← hxx.2]
        rfl
      | [], hh => rw [ce] at hh; cases hh
      | [_], hh => rw [ce] at hh; cases hh
      | _ :: _ :: _ :: _, hh => rw [ce] at hh; simp at hh
  have := key n (Nat.le_refl _)
  rw [List.take_of_length_le (by rw [hl, ct]; omega), List.take_of_length_le (by omega)] at this
  exact this
end
end Go.X
