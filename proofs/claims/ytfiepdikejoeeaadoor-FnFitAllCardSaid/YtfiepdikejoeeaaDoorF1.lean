/- Attributes as they lie in memory, and as they come in. No condition. -/
import Derived.Test.YtfiepdikejoeeaaDoorXU
import Derived.Test.YtfiepdikejoeeaaDoorXOwn
import Derived.Test.YtfiepdikejoeeaaDoorXFp
import Derived.Test.YtfiepdikejoeeaaDoorXOpen2
import Derived.Test.YtfiepdikejoeeaaDoorXDeep
import Derived.Test.YtfiepdikejoeeaaDoorXF0
set_option linter.unusedVariables false
set_option linter.unusedSimpArgs false
set_option maxRecDepth 100000
namespace Go.Proofs.YtfiepdikejoeeaaDoor.X
open Go Go.X Go.Proofs Go.RowKit Go.WideShapes

/-- An attribute: its name, its bytes, and the slice of them. -/
abbrev Atr := List UInt8 × List UInt8 × Value
def atrC (x : Atr) : List Value := [S x.1, x.2.2]
def AtsAt (w : World) (v : Value) (l : List Atr) : Prop :=
  (∀ x ∈ l, BS w x.2.2 x.2.1) ∧ ((l = [] ∧ ∃ a cap, v = .slice a 0 cap) ∨ ∃ b o cap, v = sl b o l.length cap ∧ l.length ≤ cap ∧ b < w.heap.size ∧ ∀ i (h : i < l.length), rowOf (bk w b) (o + i * 2) 2 = some (atrC l[i]))
theorem AtsAt.old {w w' : World} {v : Value} {l : List Atr} (h : AtsAt w v l) (hb : Below w.heap.size w w') : AtsAt w' v l := by
  refine ⟨fun x hx => BS_old (h.1 x hx) hb (Nat.le_refl _), ?_⟩
  rcases h.2 with h | ⟨b, o, cap, h1, h0, h2, h3⟩
  · exact .inl h
  · exact .inr ⟨b, o, cap, h1, h0, Nat.lt_of_lt_of_le h2 hb.size, fun i g => by rw [bel_bk hb h2]; exact h3 i g⟩
theorem AtsAt.slice {w : World} {v : Value} {l : List Atr} (h : AtsAt w v l) : ∃ a cap, v = .slice a l.length cap := by
  rcases h.2 with ⟨h, a, cap, e⟩ | ⟨b, o, cap, e, _⟩
  · exact ⟨a, cap, by rw [e, h]; rfl⟩
  · exact ⟨_, _, e⟩
theorem AtsAt.idx {w : World} {v : Value} {l : List Atr} {tB tE : TypeId} (h : AtsAt w v l) (h2 : P.underlying tB = some (.slice tE)) (hs : (P.info? tE).map (·.size) = some 2) {i : Nat} (hi : i < l.length) :
    ∃ b o, rowOf (bk w b) o 2 = some (atrC l[i]) ∧ b < w.heap.size ∧ ∀ L : Value → Prop, pu P (oIdxA tB v (.int .i64 i)) L = L (pt b o) := by
  rcases h.2 with ⟨h, _⟩ | ⟨b, o, cap, rfl, _, hb, hr⟩
  · rw [h] at hi; exact absurd hi (by simp)
  · refine ⟨b, o + i * 2, hr i hi, hb, fun L => ?_⟩
    rw [oIdxA_sl (size := 2) L h2 hs (by omega) (by omega), Int.toNat_natCast]
/-- Without the first one. -/
theorem AtsAt.rest {w : World} {v : Value} {x : Atr} {l : List Atr} {tB tE : TypeId} (h : AtsAt w v (x :: l)) (h2 : P.underlying tB = some (.slice tE)) (hs : (P.info? tE).map (·.size) = some 2) :
    ∃ v', AtsAt w v' l ∧ ∀ (k : IntKind) (L : Value → Prop), pu P (oSlice tB v (some (.int k 1)) none none) L = L v' := by
  rcases h.2 with ⟨h, _⟩ | ⟨b, o, cap, rfl, hc, hb, hr⟩
  · cases h
  · have hc : l.length + 1 ≤ cap := hc
    refine ⟨sl b (if cap = (1 : Int).toNat then o else o + (1 : Int).toNat * 2) ((x :: l).length - (1 : Int).toNat) (cap - (1 : Int).toNat), ⟨fun y hy => h.1 y (List.mem_cons_of_mem _ hy), ?_⟩, fun k L => oSlice_lo (size := 2) L h2 hs (by omega) (by simp only [List.length_cons]; omega) hc⟩
    have e1 : (1 : Int).toNat = 1 := rfl
    rw [e1, List.length_cons, Nat.add_sub_cancel]
    by_cases e : cap = 1
    · have : l = [] := List.length_eq_zero_iff.1 (by omega)
      subst this
      exact .inl ⟨rfl, _, _, rfl⟩
    · rw [if_neg e]
      refine .inr ⟨b, o + 1 * 2, cap - 1, rfl, by omega, hb, fun i hi => ?_⟩
      have := hr (i + 1) (by simp; omega)
      rw [show o + 1 * 2 + i * 2 = o + (i + 1) * 2 by omega, this]
      rfl
theorem AtsAt.own {w : World} {B : Nat} {e : TypeId} {v : Value} {l : List Atr} {n : Nat} (o : w.ownsRow B e 2 v n (l.flatMap atrC)) (hn : l.length = n) (hb : ∀ x ∈ l, BS w x.2.2 x.2.1) : AtsAt w v l := by
  refine ⟨hb, ?_⟩
  by_cases hn0 : n = 0
  · subst hn0
    obtain ⟨a, cap, rfl⟩ := own_slice o
    exact .inl ⟨List.length_eq_zero_iff.1 hn, a, cap, rfl⟩
  · obtain ⟨b, cap, cur, rfl, h1, h2, h3, h4, h5, h6⟩ := own_row o hn0
    refine .inr ⟨b, 0, cap, by rw [hn], by omega, h3, fun i g1 => ?_⟩
    have fl : ∀ (l : List Atr) (j : Nat) (hj : j < l.length), ((l.flatMap atrC).drop (j * 2)).take 2 = atrC l[j] := fun l => by
      induction l with
      | nil => intro j hj; exact absurd hj (by simp)
      | cons q l ih =>
        intro j hj
        cases j with
        | zero => rfl
        | succ j =>
          rw [List.flatMap_cons, show (j + 1) * 2 = j * 2 + 2 by omega]
          exact ih j (by simpa using hj)
    rw [h4, rowOf_CB _ _ _ _ (by omega), Nat.zero_add, ← fl l i g1, ← h6, List.drop_take, List.take_take, Nat.min_eq_left (by omega)]
section
variable {H : Type} {enc : TypeId × Value → H} {W : World}
theorem open_S {t : TypeId} {fuel : Nat} {cs : List Value} {x : DataW H × List MemPlace} (ht : P.underlying t = some .string) (h : DataW.trod enc P W 0 (fun _ => true) true fuel t cs = some x) : ∃ l, cs = [S l] ∧ l.length ≤ maxLen := by
  obtain ⟨s, e, _, w⟩ := DataW.trod_string ht h
  exact ⟨s.data.toList, e, w⟩
theorem choose_range {β : Type} (R : Nat → β → Prop) : ∀ (n : Nat), (∀ i, i < n → ∃ b, R i b) → ∃ m : List β, m.length = n ∧ ∀ i (h : i < m.length), R i m[i]
  | 0, _ => ⟨[], rfl, fun i h => absurd h (by simp)⟩
  | n + 1, h => by
    obtain ⟨m, e, hm⟩ := choose_range R n fun i hi => h i (by omega)
    obtain ⟨b, hb⟩ := h n (by omega)
    refine ⟨m ++ [b], by simp [e], fun i hi => ?_⟩
    by_cases q : i < m.length
    · rw [List.getElem_append_left q]; exact hm i q
    · have : i = m.length := by simp at hi; omega
      subst this
      rw [List.getElem_append_right (by omega)]
      simp only [Nat.sub_self, List.getElem_cons_zero]
      rw [e]; exact hb
theorem open_atr {fuel : Nat} {c : List Value} {x : DataW H × List MemPlace} (h : DataW.trod enc P W 0 (fun _ => true) true fuel T.impl_Xattr c = some x) : ∃ q : Atr, c = atrC q ∧ BS W q.2.2 q.2.1 ∧ q.1.length ≤ maxLen ∧ q.2.1.length ≤ maxLen := by
  obtain ⟨xs, n, _, _, hl, hlen, hf⟩ := DataW.trod_struct Tryd.underlying31 h
  have hl : c.length = 2 := hl
  match c, hl with
  | [c0, c1], _ =>
    have g : ∀ i, i < 2 → ∃ y, xs[i]? = some y := fun i hi => ⟨xs[i]'(by rw [hlen]; exact hi), List.getElem?_eq_getElem _⟩
    obtain ⟨y0, z0⟩ := g 0 (by omega)
    obtain ⟨y1, z1⟩ := g 1 (by omega)
    obtain ⟨l0, e0, w0⟩ := open_S U.string ((hf 0 _ rfl).trans z0)
    obtain ⟨v1, l1, e1, b1, w1⟩ := open_bytes_cell U.sl_uint8 U.uint8 (by kernel_rfl) ((hf 1 _ rfl).trans z1)
    replace e0 : [c0] = [S l0] := e0
    replace e1 : [c1] = [v1] := e1
    obtain rfl : c0 = S l0 := by injection e0
    obtain rfl : c1 = v1 := by injection e1
    exact ⟨(l0, l1, c1), rfl, b1, w0, w1⟩
theorem open_atrs {r : Reach} {b0 : Nat} {v : Value} {d : DataW H} {p : List MemPlace} (hv : Value.okWide P W r b0 T.sl_impl_Xattr v) (h : DataW.Trod enc P W 0 (fun _ => true) true T.sl_impl_Xattr v d p) : ∃ l : List Atr, AtsAt W v l ∧ (∀ x ∈ l, x.1.length ≤ maxLen ∧ x.2.1.length ≤ maxLen) ∧ l.length ≤ maxLen := by
  obtain ⟨a, n, cap, rfl⟩ := okWide_slice U.sl_impl_Xattr hv
  obtain ⟨fuel, hf⟩ := h
  have hf : DataW.trod enc P W 0 (fun _ => true) true fuel T.sl_impl_Xattr [.slice a n cap] = some (d, p) := hf
  rcases open_elems (size := 2) U.sl_impl_Xattr (by kernel_rfl) (by omega) hf with ⟨a', cap', e⟩ | ⟨b, o, n', cap', e, h1, h2, h3, h4, m, h5⟩
  · injection e with e
    rw [e]
    exact ⟨[], ⟨fun x hx => (by cases hx), .inl ⟨rfl, a', cap', rfl⟩⟩, fun q hq => (by cases hq), by simp⟩
  · injection e with e
    rw [e]
    obtain ⟨l, hl, hq⟩ := choose_range (fun i (q : Atr) => rowOf (bk W b) (o + i * 2) 2 = some (atrC q) ∧ BS W q.2.2 q.2.1 ∧ q.1.length ≤ maxLen ∧ q.2.1.length ≤ maxLen) n' fun i hi => by
      obtain ⟨c, y, e1, e2⟩ := h5 i hi
      obtain ⟨q, rfl, q1, q2, q3⟩ := open_atr e2
      exact ⟨q, e1, q1, q2, q3⟩
    subst hl
    refine ⟨l, ⟨fun x hx => ?_, .inr ⟨b, o, cap', rfl, by omega, h3, fun i hi => (hq i hi).1⟩⟩, fun x hx => ?_, by omega⟩
    · obtain ⟨i, hi, rfl⟩ := List.getElem_of_mem hx
      exact (hq i hi).2.1
    · obtain ⟨i, hi, rfl⟩ := List.getElem_of_mem hx
      exact ⟨(hq i hi).2.2.1, (hq i hi).2.2.2⟩
end
end Go.Proofs.YtfiepdikejoeeaaDoor.X
