/- Laws on slices that are made and grow. No condition. -/
import Derived.Test.YtfiepdikejoeeaaDoorXOpen
import Derived.Laws.AppendOwn
set_option linter.unusedVariables false
set_option linter.unusedSimpArgs false
namespace Go.X
open Go Go.RowKit
section
variable {P : Program} (K : Value → World → Prop) (w : World)

theorem own_nil (w : World) (B : Nat) (e : TypeId) (size : Nat) : w.ownsRow B e size (.slice none 0 0) 0 [] := ⟨by simp, .inl ⟨rfl, rfl⟩⟩
theorem own_old {w w' : World} {B C : Nat} {e : TypeId} {size : Nat} {v : Value} {n : Nat} {xs : List Value} (h : w.ownsRow B e size v n xs) (hb : Below C w w') (hC : w.heap.size ≤ C) : w'.ownsRow B e size v n xs := by
  refine ⟨h.1, ?_⟩
  rcases h.2 with h | ⟨g, cap, cur, h1, h2, h3, h4⟩
  · exact .inl h
  · refine .inr ⟨g, cap, cur, h1, h2, ?_, h4⟩
    have hg : g < w.heap.size := (Array.getElem?_eq_some_iff.1 h3).1
    rw [hb.block g (by omega)]; exact h3
theorem own_bel {w w' : World} {B : Nat} {e : TypeId} {size : Nat} {v : Value} {n : Nat} {xs : List Value} (h : w.ownsRow B e size v n xs) (hg : w.grownBy w' v.ownBlock) (hB : B ≤ w.heap.size) : Below B w w' :=
  (Below.refl B w).grown hg hB fun k hk => (h.lt k hk).1
theorem own_slice {w : World} {B : Nat} {e : TypeId} {size : Nat} {v : Value} {n : Nat} {xs : List Value} (h : w.ownsRow B e size v n xs) : ∃ a cap, v = .slice a n cap := by
  rcases h.2 with ⟨rfl, rfl⟩ | ⟨g, cap, cur, rfl, _⟩
  · exact ⟨_, _, rfl⟩
  · exact ⟨_, _, rfl⟩
/-- What an owned slice holds, as a row. -/
theorem own_row {w : World} {B : Nat} {e : TypeId} {size : Nat} {v : Value} {n : Nat} {xs : List Value} (h : w.ownsRow B e size v n xs) (hn : n ≠ 0) : ∃ b cap cur, v = sl b 0 n cap ∧ n ≤ cap ∧ B ≤ b ∧ b < w.heap.size ∧ bk w b = some (CB cur e) ∧ cur.length = cap * size ∧ cur.take (n * size) = xs := by
  rcases h.2 with ⟨_, h0⟩ | ⟨g, cap, cur, rfl, h1, h2, h3, h4, h5, h6⟩
  · exact absurd h0 hn
  · exact ⟨g, cap, cur.toList, rfl, h3, h1, (Array.getElem?_eq_some_iff.1 h2).1, by unfold bk; rw [h2], by simpa using h5, h6⟩

theorem oAppend_own {t e : TypeId} {z : Value} {size bytes : Nat} {cs : Array Bool} {ty : TypeId} (ht : P.underlying t = some (.slice e)) (hi : (P.info? e).map (fun i => (i.zero, i.size, i.bytes)) = some (some z, size, bytes)) (hzs : z.cells.size = size) (hsz : 0 < size)
    {B : Nat} {v : Value} {n : Nat} {xs : List Value} (hown : w.ownsRow B e size v n xs) {b o m c : Nat} {news : List Value} (hl : news.length = m * size) (r : rowOf (bk w b) o news.length = some news) (h1 : ∀ u ∈ news, u.oneCell' = true)
    (h63 : n + m ≤ maxLen) (hbytes : (n + m) * bytes ≤ 140737488355328) (hbase : B ≤ w.heap.size)
    (h : ∀ v' w', w'.ownsRow B e size v' (n + m) (xs ++ news) → Below B w w' → K v' w') : st P (oBuiltin .append #[t, t] ty cs #[v, sl b o m c]) w K := by
  cases hie : P.info? e with
  | none => rw [hie] at hi; cases hi
  | some i =>
  rw [hie] at hi
  simp only [Option.map_some, Option.some.injEq, Prod.mk.injEq] at hi
  obtain ⟨hz, hs, hb⟩ := hi
  obtain ⟨c', t', fz, e1, e2, e3⟩ := rowOf_inv r
  have hnews : ∀ j u, news[j]? = some u → w.cell? ((⟨b, o, none⟩ : Addr).add j) = some u := fun j u hj => by
    have hjl := (List.getElem?_eq_some_iff.1 hj).1
    rw [Addr.add_lit, cell?_eq, e1]
    show c'[o + j]? = _
    rw [← e3, List.getElem?_take_of_lt hjl, List.getElem?_drop, Array.getElem?_toList] at hj
    exact hj
  obtain ⟨v', w', hr, hown', hg, _⟩ := run_append_own (P := P) w B t ty e i z size bytes ht hie hz hs hb hzs hsz v n xs hown ⟨b, o, none⟩ m c news hl hnews h1 h63 hbytes hbase
  have := st_eq_value (K := K) (run_v' hr)
  rw [show st P (oBuiltin .append #[t, t] ty cs #[v, sl b o m c]) w K = K v' w' from this]
  exact h _ _ hown' (own_bel hown hg hbase)
theorem oBuildSliceN {tB tE : TypeId} {z : Value} {size : Nat} (h2 : P.underlying tB = some (.slice tE)) (hi : (P.info? tE).map (fun i => (i.zero, i.size)) = some (some z, size)) (h0 : 0 < size) (h24 : size ≤ 16777216) {l : List Value} (hl : l.length = size) :
    st P (oBuildSlice tB 1 #[(0, AG l)]) w K = K (sl w.heap.size 0 1 1) (w.alloc (CB l tE)) := by
  cases hie : P.info? tE with
  | none => rw [hie] at hi; cases hi
  | some ie =>
  rw [hie] at hi
  simp only [Option.map_some, Option.some.injEq, Prod.mk.injEq] at hi
  obtain ⟨hz, hs⟩ := hi
  refine st_eq_value (run_v' (run_buildSlice w tB tE 1 _ l.toArray ie z h2 hie hz (by rw [hs]; omega) (by rw [hs]; omega) ?_))
  rw [hs]
  have hsz : (Array.map (fun x => z.cells[x % z.cells.size]!) (Array.range (1 * size))).size = size := by simp
  generalize Array.map (fun x => z.cells[x % z.cells.size]!) (Array.range (1 * size)) = zs at hsz ⊢
  have hc : (AG l).cells = l.toArray := rfl
  have hok : (decide (l.toArray.size ≠ size) || decide (0 * size + l.toArray.size > zs.size)) = false := by simp [hl, hsz]
  simp only [Instr.fill, hc, hok, Bool.false_eq_true, if_false]
  have e : (l.toArray.zipIdx.foldl (fun cs (x : Value × Nat) => cs.setIfInBounds (0 * size + x.2) x.1) zs) = l.toArray := by
    apply Array.toList_inj.1
    have := foldl_set (0 * size) l 0 zs (by simp [hl, hsz])
    rw [← Array.foldl_toList]
    simp only [Array.toList_zipIdx]
    rw [this]
    have hz0 : zs.toList.length = size := by simpa using hsz
    simp [List.drop_eq_nil_of_le, hl, hz0]
  exact congrArg some e
end
end Go.X
