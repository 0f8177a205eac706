/- FnFitAll: which attributes are fair. No condition. -/
import Derived.Test.YtfiepdikejoeeaaDoorF5
set_option linter.unusedVariables false
set_option linter.unusedSimpArgs false
set_option maxRecDepth 100000
namespace Go.Proofs.YtfiepdikejoeeaaDoor.X
open Go Go.X Go.Proofs Go.RowKit

section
variable {w : World} {K : Value → World → Prop}
theorem fits8_spec {x : Atr} (hv : BS w x.2.2 x.2.1) (hk : ∀ b w', (b = true → x.1.length ≤ 2147483647) → Below w.heap.size w w' → K (.bool b) w') : Cl P Fn.laws_zzFits8 #[AG [S x.1, x.2.2]] w K := by
  apply S_laws_zzFits8
  unfold F_laws_zzFits8
  obtain ⟨a, cap, hvv⟩ := BS_slice hv
  have one : x.2.2.oneCell' = true := by rw [hvv]; rfl
  rw [oBox_agg]
  have h0 : bk (w.alloc (CB [S x.1, x.2.2] T.impl_Xattr)) w.heap.size = some (CB [S x.1, x.2.2] T.impl_Xattr) := bk_alloc_eq _ _ _ rfl
  have BB : Below w.heap.size w (w.alloc (CB [S x.1, x.2.2] T.impl_Xattr)) := Below.alloc (Below.refl _ _) (Nat.le_refl _) _
  generalize w.alloc (CB [S x.1, x.2.2] T.impl_Xattr) = w1 at *
  refine jn_with (fun t w' => w' = w1 ∧ x.1.length ≤ 2147483647) ?_ ?_
  · rintro t e w2 ⟨rfl, hlen⟩
    refine jn_with (fun t w' => w' = w2) ?_ ?_
    · rintro t e w3 rfl
      exact hk _ _ (fun _ => hlen) BB
    · by_cases c : (2147483647 : Int) < x.2.1.length
      · simp (disch := first | omega | (simp only [size_setb, size_alloc', size_drew'] <;> omega) | (simp (disch := first | omega | (simp only [size_setb, size_alloc', size_drew'] <;> omega) | fail) only [go_sem, h0, hvv]; done) | fail) only [go_sem, dec_t, dec_f, w_u32, w_u64, w_u16, w_u8, w_i64, Int.reduceToNat, Int.reducePow, Nat.reducePow, h0, hvv]
        exact hk _ _ (fun h => by cases h) BB
      · simp (disch := first | omega | (simp only [size_setb, size_alloc', size_drew'] <;> omega) | (simp (disch := first | omega | (simp only [size_setb, size_alloc', size_drew'] <;> omega) | fail) only [go_sem, h0, hvv]; done) | fail) only [go_sem, dec_t, dec_f, w_u32, w_u64, w_u16, w_u8, w_i64, Int.reduceToNat, Int.reducePow, Nat.reducePow, h0, hvv]
  · by_cases c : (2147483647 : Int) < x.1.length
    · simp (disch := first | omega | (simp only [size_setb, size_alloc', size_drew'] <;> omega) | (simp (disch := first | omega | (simp only [size_setb, size_alloc', size_drew'] <;> omega) | fail) only [go_sem, h0]; done) | fail) only [go_sem, dec_t, dec_f, w_u32, w_u64, w_u16, w_u8, w_i64, Int.reduceToNat, Int.reducePow, Nat.reducePow, h0]
      exact hk _ _ (fun h => by cases h) BB
    · simp (disch := first | omega | (simp only [size_setb, size_alloc', size_drew'] <;> omega) | (simp (disch := first | omega | (simp only [size_setb, size_alloc', size_drew'] <;> omega) | fail) only [go_sem, h0]; done) | fail) only [go_sem, dec_t, dec_f, w_u32, w_u64, w_u16, w_u8, w_i64, Int.reduceToNat, Int.reducePow, Nat.reducePow, h0]
      exact ⟨trivial, by omega⟩
theorem fits7_spec {v : Value} {l : List Atr} (h : AtsAt w v l) (hk : ∀ b w', (b = true → ∀ x ∈ l, x.1.length ≤ 2147483647) → Below w.heap.size w w' → K (.bool b) w') : Cl P Fn.laws_zzFits7 #[v] w K := by
  apply S_laws_zzFits7
  unfold F_laws_zzFits7
  obtain ⟨a, cap, rfl⟩ := h.slice
  by_cases c : (2147483647 : Int) < l.length
  · refine jn_with (fun _ _ => False) (fun _ _ _ h => h.elim) ?_
    simp (disch := first | omega | (simp only [size_setb, size_alloc', size_drew'] <;> omega) | (simp (disch := first | omega | (simp only [size_setb, size_alloc', size_drew'] <;> omega) | fail) only [go_sem]; done) | fail) only [go_sem, dec_t, dec_f, w_u32, w_u64, w_u16, w_u8, w_i64, Int.reduceToNat, Int.reducePow, Nat.reducePow]
    exact hk _ _ (fun h => by cases h) (Below.refl _ _)
  refine jn_with (fun t w' => w' = w) ?_ (by simp (disch := first | omega | (simp only [size_setb, size_alloc', size_drew'] <;> omega) | (simp (disch := first | omega | (simp only [size_setb, size_alloc', size_drew'] <;> omega) | fail) only [go_sem]; done) | fail) only [go_sem, dec_t, dec_f, w_u32, w_u64, w_u16, w_u8, w_i64, Int.reduceToNat, Int.reducePow, Nat.reducePow])
  rintro t e w1 rfl
  refine jn_with (fun t w' => (∀ x ∈ l, x.1.length ≤ 2147483647) ∧ Below w1.heap.size w1 w') ?_ ?_
  · rintro t e w2 ⟨hall, b2⟩
    exact hk _ _ (fun _ => hall) b2
  simp (disch := first | omega | (simp only [size_setb, size_alloc', size_drew'] <;> omega) | (simp (disch := first | omega | (simp only [size_setb, size_alloc', size_drew'] <;> omega) | fail) only [go_sem]; done) | fail) only [go_sem, dec_t, dec_f, w_u32, w_u64, w_u16, w_u8, w_i64, Int.reduceToNat, Int.reducePow, Nat.reducePow]
  refine lp_intro (fun t w' => Below w1.heap.size w1 w' ∧ ∃ i : Nat, t = [.int .i64 i] ∧ i ≤ l.length ∧ ∀ j (hj : j < l.length), j < i → l[j].1.length ≤ 2147483647) (fun t _ => l.length - (RowKit.intOf (gs t 0)).toNat) ⟨Below.refl _ _, 0, rfl, by omega, fun j _ h => absurd h (by omega)⟩ ?_
  rintro t e w2 ⟨b2, i, rfl, hi, hall⟩
  by_cases g : (i : Int) < l.length
  · have hix : i < l.length := by omega
    simp (disch := first | omega | (simp only [size_setb, size_alloc', size_drew'] <;> omega) | (simp (disch := first | omega | (simp only [size_setb, size_alloc', size_drew'] <;> omega) | fail) only [go_sem]; done) | fail) only [go_sem, dec_t, dec_f, w_u32, w_u64, w_u16, w_u8, w_i64, Int.reduceToNat, Int.reducePow, Nat.reducePow]
    refine jn_with (fun t w' => t = [] ∧ w' = w2) ?_ ⟨rfl, rfl⟩
    rintro t e w3 ⟨rfl, rfl⟩
    have hq2 := h.old b2
    obtain ⟨b, o, hrow, hb, ix⟩ := hq2.idx U.sl_impl_Xattr (by kernel_rfl) hix
    have hv := hq2.1 l[i] (List.getElem_mem hix)
    obtain ⟨x, hx⟩ : ∃ x, x = l[i] := ⟨_, rfl⟩
    rw [← hx] at hrow hv
    obtain ⟨ax, cx, ex⟩ := BS_slice hv
    have one : x.2.2.oneCell' = true := by rw [ex]; rfl
    have hrow : rowOf (bk w3 b) o 2 = some [S x.1, x.2.2] := hrow
    have z := b2.size
    refine jn_with (fun t w' => t = [] ∧ x.1.length ≤ 2147483647 ∧ Below w1.heap.size w1 w') ?_ ?_
    · rintro t e w4 ⟨rfl, hxl, b4⟩
      refine ⟨⟨b4, i + 1, rfl, by omega, fun j hj hji => ?_⟩, ?_⟩
      · by_cases q : j < i
        · exact hall j hj q
        · obtain rfl : j = i := by omega
          rw [← hx]; exact hxl
      simp only [RowKit.intOf]
      omega
    · simp (disch := first | omega | (simp only [size_setb, size_alloc', size_drew'] <;> omega) | (simp (disch := first | omega | (simp only [size_setb, size_alloc', size_drew'] <;> omega) | fail) only [go_sem, ix, hrow, one]; done) | fail) only [go_sem, dec_t, dec_f, w_u32, w_u64, w_u16, w_u8, w_i64, Int.reduceToNat, Int.reducePow, Nat.reducePow, ix, hrow, one]
      obtain ⟨wA, hwA⟩ : ∃ wA, wA = setb (w3.alloc (CB [S [], .slice none 0 0] T.impl_Xattr)) w3.heap.size (CB [S x.1, x.2.2] T.impl_Xattr) := ⟨_, rfl⟩
      rw [← hwA]
      have BA : Below w3.heap.size w3 wA := by rw [hwA]; repeat (first | exact Below.refl _ _ | assumption | refine bel_setb ?_ (by first | exact Nat.le_refl _ | omega | (simp only [go_sem] <;> omega)) _ | refine Below.alloc ?_ (by first | exact Nat.le_refl _ | omega | (simp only [go_sem]; omega)) _ | refine Below.drew ?_)
      refine fits8_spec (BS_old hv BA (Nat.le_refl _)) fun bb w4 hbb b4 => ?_
      have B4 := (b2.trans (BA.mono z)).trans (b4.mono (by have := BA.size; omega))
      cases bb with
      | true =>
        simp (disch := first | omega | (simp only [size_setb, size_alloc', size_drew'] <;> omega) | (simp (disch := first | omega | (simp only [size_setb, size_alloc', size_drew'] <;> omega) | fail) only [go_sem]; done) | fail) only [go_sem, dec_t, dec_f, w_u32, w_u64, w_u16, w_u8, w_i64, Int.reduceToNat, Int.reducePow, Nat.reducePow]
        exact ⟨trivial, hbb rfl, B4⟩
      | false =>
        simp (disch := first | omega | (simp only [size_setb, size_alloc', size_drew'] <;> omega) | (simp (disch := first | omega | (simp only [size_setb, size_alloc', size_drew'] <;> omega) | fail) only [go_sem]; done) | fail) only [go_sem, dec_t, dec_f, w_u32, w_u64, w_u16, w_u8, w_i64, Int.reduceToNat, Int.reducePow, Nat.reducePow]
        exact hk _ _ (fun h => by cases h) B4
  · have e1 : i = l.length := by omega
    subst e1
    simp (disch := first | omega | (simp only [size_setb, size_alloc', size_drew'] <;> omega) | (simp (disch := first | omega | (simp only [size_setb, size_alloc', size_drew'] <;> omega) | fail) only [go_sem]; done) | fail) only [go_sem, dec_t, dec_f, w_u32, w_u64, w_u16, w_u8, w_i64, Int.reduceToNat, Int.reducePow, Nat.reducePow]
    refine jn_with (fun _ _ => False) (fun _ _ _ h => h.elim) ?_
    exact ⟨fun x hx => by obtain ⟨j, hj, rfl⟩ := List.getElem_of_mem hx; exact hall j hj hj, b2⟩
/-- What is asked of attributes. -/
structure FairA (l : List Atr) : Prop where
  len : l.length ≤ 40
  each : ∀ x ∈ l, (cmpL preL x.1).2.length ≤ 255 ∧ x.2.1.length ≤ 4096
  diff : ∀ i j (hi : i < l.length) (hj : j < i), l[i].1 ≠ l[j].1
theorem AtsAt.front {v : Value} {l : List Atr} {tB tE : TypeId} (h : AtsAt w v l) (h2 : P.underlying tB = some (.slice tE)) (hs : (P.info? tE).map (·.size) = some 2) {i : Nat} (hi : i ≤ l.length) :
    ∃ v', AtsAt w v' (l.take i) ∧ ∀ (k : IntKind) (L : Value → Prop), pu P (oSlice tB v none (some (.int k i)) none) L = L v' := by
  rcases h.2 with ⟨rfl, a, cap, rfl⟩ | ⟨b, o, cap, rfl, hc, hb, hr⟩
  · obtain rfl : i = 0 := by simpa using hi
    have hx : rp P (sizeOf tE) = some 2 := rp_size hs
    refine ⟨.slice a 0 cap, ⟨fun y hy => by simp at hy, .inl ⟨rfl, _, _, rfl⟩⟩, fun j L => ?_⟩
    cases a with
    | none =>
      exact pu_v' (by
        simp only [Instr.sliceAt, Instr.slice, Instr.sliceBounds]
        simp [rp_bind, rp_map, rp_underlying h2, rp_sliceBound j 0 cap _ (by omega) (by omega), hx])
    | some ad =>
      exact pu_v' (by
        simp only [Instr.sliceAt, Instr.slice, Instr.sliceBounds]
        simp [rp_bind, rp_map, rp_underlying h2, rp_sliceBound j 0 cap _ (by omega) (by omega), hx]
        intro h
        simp [Addr.add])
  · refine ⟨sl b o i cap, ⟨fun y hy => h.1 y (List.mem_of_mem_take hy), ?_⟩, fun k L => by rw [oSlice_hi (size := 2) L h2 hs (by omega) (by omega), Int.toNat_natCast]⟩
    by_cases e : i = 0
    · subst e
      exact .inl ⟨by simp, some ⟨b, o, none⟩, cap, rfl⟩
    · have el : (l.take i).length = i := by simp; omega
      refine .inr ⟨b, o, cap, by rw [el], by omega, hb, fun j hj => ?_⟩
      rw [List.getElem_take]
      exact hr j (by omega)
theorem fair_spec {v : Value} {l : List Atr} (h : AtsAt w v l) (hn : ∀ x ∈ l, x.1.length ≤ 140737488351232) (hk : ∀ b w', (b = true → FairA l) → Below w.heap.size w w' → K (.bool b) w') : Cl P Fn.laws_attributesFair #[v] w K := by
  apply S_laws_attributesFair
  unfold F_laws_attributesFair
  obtain ⟨a, cap, ev⟩ := h.slice
  by_cases c : (40 : Int) < l.length
  · refine jn_with (fun _ _ => False) (fun _ _ _ h => h.elim) ?_
    rw [ev]
    simp (disch := first | omega | (simp only [size_setb, size_alloc', size_drew'] <;> omega) | (simp (disch := first | omega | (simp only [size_setb, size_alloc', size_drew'] <;> omega) | fail) only [go_sem]; done) | fail) only [go_sem, dec_t, dec_f, w_u32, w_u64, w_u16, w_u8, w_i64, Int.reduceToNat, Int.reducePow, Nat.reducePow]
    exact hk _ _ (fun h => by cases h) (Below.refl _ _)
  refine jn_with (fun t w' => w' = w) ?_ (by rw [ev]; simp (disch := first | omega | (simp only [size_setb, size_alloc', size_drew'] <;> omega) | (simp (disch := first | omega | (simp only [size_setb, size_alloc', size_drew'] <;> omega) | fail) only [go_sem]; done) | fail) only [go_sem, dec_t, dec_f, w_u32, w_u64, w_u16, w_u8, w_i64, Int.reduceToNat, Int.reducePow, Nat.reducePow])
  rintro t e w1 rfl
  refine jn_with (fun t w' => FairA l ∧ Below w1.heap.size w1 w') ?_ ?_
  · rintro t e w2 ⟨f2, b2⟩
    exact hk _ _ (fun _ => f2) b2
  rw [ev, V.len_sl_impl_Xattr, ← ev]
  refine lp_intro (fun t w' => Below w1.heap.size w1 w' ∧ ∃ i : Nat, t = [.int .i64 i] ∧ i ≤ l.length ∧ (∀ j (hj : j < l.length), j < i → (cmpL preL l[j].1).2.length ≤ 255 ∧ l[j].2.1.length ≤ 4096) ∧ ∀ j k (hj : j < l.length) (hk : k < j), j < i → l[j].1 ≠ l[k].1) (fun t _ => l.length - (RowKit.intOf (gs t 0)).toNat) ⟨Below.refl _ _, 0, rfl, by omega, fun j _ h => absurd h (by omega), fun j k _ _ h => absurd h (by omega)⟩ ?_
  rintro t e w2 ⟨b2, i, rfl, hi, hea, hdi⟩
  by_cases g : (i : Int) < l.length
  · have hix : i < l.length := by omega
    simp (disch := first | omega | (simp only [size_setb, size_alloc', size_drew'] <;> omega) | (simp (disch := first | omega | (simp only [size_setb, size_alloc', size_drew'] <;> omega) | fail) only [go_sem]; done) | fail) only [go_sem, dec_t, dec_f, w_u32, w_u64, w_u16, w_u8, w_i64, Int.reduceToNat, Int.reducePow, Nat.reducePow]
    refine jn_with (fun t w' => t = [] ∧ w' = w2) ?_ ⟨rfl, rfl⟩
    rintro t e w3 ⟨rfl, rfl⟩
    have hq2 := h.old b2
    obtain ⟨b, o, hrow, hb, ix⟩ := hq2.idx U.sl_impl_Xattr (by kernel_rfl) hix
    have hv := hq2.1 l[i] (List.getElem_mem hix)
    have hnx := hn l[i] (List.getElem_mem hix)
    obtain ⟨x, hx⟩ : ∃ x, x = l[i] := ⟨_, rfl⟩
    rw [← hx] at hrow hv hnx
    obtain ⟨ax, cx, ex⟩ := BS_slice hv
    have one : x.2.2.oneCell' = true := by rw [ex]; rfl
    have hrow : rowOf (bk w3 b) o 2 = some [S x.1, x.2.2] := hrow
    have z := b2.size
    refine jn_with (fun t w' => t = [] ∧ Below w1.heap.size w1 w' ∧ (cmpL preL x.1).2.length ≤ 255 ∧ x.2.1.length ≤ 4096 ∧ ∀ k (hk : k < i), x.1 ≠ l[k].1) ?_ ?_
    · rintro t e w4 ⟨rfl, b4, q1, q2, q3⟩
      refine ⟨⟨b4, i + 1, rfl, by omega, fun j hj hji => ?_, fun j k hj hk hji => ?_⟩, ?_⟩
      · by_cases q : j < i
        · exact hea j hj q
        · obtain rfl : j = i := by omega
          rw [← hx]; exact ⟨q1, q2⟩
      · by_cases q : j < i
        · exact hdi j k hj hk q
        · obtain rfl : j = i := by omega
          rw [← hx]; exact q3 k hk
      · simp only [RowKit.intOf]
        omega
    · simp (disch := first | omega | (simp only [size_setb, size_alloc', size_drew'] <;> omega) | (simp (disch := first | omega | (simp only [size_setb, size_alloc', size_drew'] <;> omega) | fail) only [go_sem, ix, hrow, one]; done) | fail) only [go_sem, dec_t, dec_f, w_u32, w_u64, w_u16, w_u8, w_i64, Int.reduceToNat, Int.reducePow, Nat.reducePow, ix, hrow, one]
      obtain ⟨w4, e4⟩ : ∃ w4, w4 = setb (w3.alloc (CB [S [], .slice none 0 0] T.impl_Xattr)) w3.heap.size (CB [S x.1, x.2.2] T.impl_Xattr) := ⟨_, rfl⟩
      have B4 : Below w3.heap.size w3 w4 := by rw [e4]; repeat (first | exact Below.refl _ _ | assumption | refine bel_setb ?_ (by first | exact Nat.le_refl _ | omega | (simp only [go_sem] <;> omega)) _ | refine Below.alloc ?_ (by first | exact Nat.le_refl _ | omega | (simp only [go_sem]; omega)) _ | refine Below.drew ?_)
      have r4 : bk w4 w3.heap.size = some (CB [S x.1, x.2.2] T.impl_Xattr) := by rw [e4]; exact bk_setb_eq _ _ _ _ rfl (by simp only [go_sem]; omega)
      have z4 : w4.heap.size = w3.heap.size + 1 := by rw [e4]; simp only [go_sem]
      rw [← e4]
      clear e4
      refine prefixed_spec hnx fun m w5 b5 => ?_
      have r5 : bk w5 w3.heap.size = some (CB [S x.1, x.2.2] T.impl_Xattr) := (bel_bk b5 (by omega)).trans r4
      have B5 := (b2.trans (B4.mono z)).trans (b5.mono (by omega))
      have z5 := b5.size
      have hcl := (cmp_len x.1).1
      generalize (cmpL preL x.1).2 = r at *
      simp (disch := first | omega | (simp only [size_setb, size_alloc', size_drew'] <;> omega) | (simp (disch := first | omega | (simp only [size_setb, size_alloc', size_drew'] <;> omega) | fail) only [go_sem]; done) | fail) only [go_sem, dec_t, dec_f, w_u32, w_u64, w_u16, w_u8, w_i64, Int.reduceToNat, Int.reducePow, Nat.reducePow]
      refine jn_with (fun t w' => w' = w5 ∧ r.length ≤ 255 ∧ x.2.1.length ≤ 4096) ?_ ?_
      rotate_left
      · by_cases c1 : r = []
        · simp (disch := first | omega | (simp only [size_setb, size_alloc', size_drew'] <;> omega) | (simp (disch := first | omega | (simp only [size_setb, size_alloc', size_drew'] <;> omega) | fail) only [go_sem, c1, decide_true]; done) | fail) only [go_sem, dec_t, dec_f, w_u32, w_u64, w_u16, w_u8, w_i64, Int.reduceToNat, Int.reducePow, Nat.reducePow, c1, decide_true]
          exact hk _ _ (fun h => by cases h) B5
        · by_cases c2 : (255 : Int) < r.length
          · simp (disch := first | omega | (simp only [size_setb, size_alloc', size_drew'] <;> omega) | (simp (disch := first | omega | (simp only [size_setb, size_alloc', size_drew'] <;> omega) | fail) only [go_sem, c1, decide_false]; done) | fail) only [go_sem, dec_t, dec_f, w_u32, w_u64, w_u16, w_u8, w_i64, Int.reduceToNat, Int.reducePow, Nat.reducePow, c1, decide_false]
            exact hk _ _ (fun h => by cases h) B5
          · by_cases c3 : (4096 : Int) < x.2.1.length
            · simp (disch := first | omega | (simp only [size_setb, size_alloc', size_drew'] <;> omega) | (simp (disch := first | omega | (simp only [size_setb, size_alloc', size_drew'] <;> omega) | fail) only [go_sem, c1, decide_false, r5, ex]; done) | fail) only [go_sem, dec_t, dec_f, w_u32, w_u64, w_u16, w_u8, w_i64, Int.reduceToNat, Int.reducePow, Nat.reducePow, c1, decide_false, r5, ex]
              exact hk _ _ (fun h => by cases h) B5
            · simp (disch := first | omega | (simp only [size_setb, size_alloc', size_drew'] <;> omega) | (simp (disch := first | omega | (simp only [size_setb, size_alloc', size_drew'] <;> omega) | fail) only [go_sem, c1, decide_false, r5, ex]; done) | fail) only [go_sem, dec_t, dec_f, w_u32, w_u64, w_u16, w_u8, w_i64, Int.reduceToNat, Int.reducePow, Nat.reducePow, c1, decide_false, r5, ex]
              exact ⟨trivial, by omega, by omega⟩
      rintro t e w6 ⟨rfl, q1, q2⟩
      obtain ⟨vf, hf, sf⟩ := (h.old B5).front U.sl_impl_Xattr (by kernel_rfl) (i := i) (by omega)
      rw [sf]
      obtain ⟨af, cf, ef⟩ := hf.slice
      have elf : (l.take i).length = i := by simp; omega
      rw [elf] at ef
      rw [ef, V.len_sl_impl_Xattr, ← ef]
      refine lp_intro (fun t w' => Below w6.heap.size w6 w' ∧ ∃ k : Nat, t = [.int .i64 k] ∧ k ≤ i ∧ ∀ j (hj : j < k), x.1 ≠ (l.getD j A0).1) (fun t _ => i - (RowKit.intOf (gs t 0)).toNat) ⟨Below.refl _ _, 0, rfl, by omega, fun j h => absurd h (by omega)⟩ ?_
      rintro t e w7 ⟨b7, k, rfl, hki, hkd⟩
      by_cases gk : (k : Int) < i
      · simp (disch := first | omega | (simp only [size_setb, size_alloc', size_drew'] <;> omega) | (simp (disch := first | omega | (simp only [size_setb, size_alloc', size_drew'] <;> omega) | fail) only [go_sem]; done) | fail) only [go_sem, dec_t, dec_f, w_u32, w_u64, w_u16, w_u8, w_i64, Int.reduceToNat, Int.reducePow, Nat.reducePow]
        refine jn_with (fun t w' => t = [] ∧ w' = w7) ?_ ⟨rfl, rfl⟩
        rintro t e w8 ⟨rfl, rfl⟩
        have z7 := b7.size
        obtain ⟨b', o', hrow', hb', ix'⟩ := (hf.old b7).idx U.sl_impl_Xattr (by kernel_rfl) (i := k) (by omega)
        have hv' := (hf.old b7).1 _ (List.getElem_mem (by omega : k < (l.take i).length))
        rw [List.getElem_take] at hrow' hv'
        have hyd : l.getD k A0 = l[k]'(by omega) := by rw [List.getD_eq_getElem?_getD, List.getElem?_eq_getElem (by omega)]; rfl
        generalize l[k]'(by omega) = y at *
        obtain ⟨ay, cy, ey⟩ := BS_slice hv'
        have oney : y.2.2.oneCell' = true := by rw [ey]; rfl
        have hrow' : rowOf (bk w8 b') o' 2 = some [S y.1, y.2.2] := hrow'
        have r8 : bk w8 w3.heap.size = some (CB [S x.1, x.2.2] T.impl_Xattr) := (bel_bk b7 (by omega)).trans r5
        refine jn_with (fun t w' => t = [] ∧ Below w6.heap.size w6 w' ∧ x.1 ≠ y.1) ?_ ?_
        · rintro t e w9 ⟨rfl, b9, hne⟩
          refine ⟨⟨b9, k + 1, rfl, by omega, fun j hj => ?_⟩, ?_⟩
          · by_cases q : j < k
            · exact hkd j q
            · obtain rfl : j = k := by omega
              rw [hyd]; exact hne
          · simp only [RowKit.intOf]
            omega
        · simp (disch := first | omega | (simp only [size_setb, size_alloc', size_drew'] <;> omega) | (simp (disch := first | omega | (simp only [size_setb, size_alloc', size_drew'] <;> omega) | fail) only [go_sem, ix', hrow', oney, r8]; done) | fail) only [go_sem, dec_t, dec_f, w_u32, w_u64, w_u16, w_u8, w_i64, Int.reduceToNat, Int.reducePow, Nat.reducePow, ix', hrow', oney, r8]
          have BB : Below w6.heap.size w6 (setb (w8.alloc (CB [S [], .slice none 0 0] T.impl_Xattr)) w8.heap.size (CB [S y.1, y.2.2] T.impl_Xattr)) := by repeat (first | exact Below.refl _ _ | assumption | refine bel_setb ?_ (by first | exact Nat.le_refl _ | omega | (simp only [go_sem] <;> omega)) _ | refine Below.alloc ?_ (by first | exact Nat.le_refl _ | omega | (simp only [go_sem]; omega)) _ | refine Below.drew ?_)
          by_cases c : x.1 = y.1
          · simp (disch := first | omega | (simp only [size_setb, size_alloc', size_drew'] <;> omega) | (simp (disch := first | omega | (simp only [size_setb, size_alloc', size_drew'] <;> omega) | fail) only [go_sem, c, decide_true]; done) | fail) only [go_sem, dec_t, dec_f, w_u32, w_u64, w_u16, w_u8, w_i64, Int.reduceToNat, Int.reducePow, Nat.reducePow, c, decide_true]
            exact hk _ _ (fun h => by cases h) (B5.trans (BB.mono (by have := B5.size; omega)))
          · simp (disch := first | omega | (simp only [size_setb, size_alloc', size_drew'] <;> omega) | (simp (disch := first | omega | (simp only [size_setb, size_alloc', size_drew'] <;> omega) | fail) only [go_sem, c, decide_false]; done) | fail) only [go_sem, dec_t, dec_f, w_u32, w_u64, w_u16, w_u8, w_i64, Int.reduceToNat, Int.reducePow, Nat.reducePow, c, decide_false]
            exact ⟨trivial, BB, c⟩
      · have ek : k = i := by omega
        subst ek
        simp (disch := first | omega | (simp only [size_setb, size_alloc', size_drew'] <;> omega) | (simp (disch := first | omega | (simp only [size_setb, size_alloc', size_drew'] <;> omega) | fail) only [go_sem]; done) | fail) only [go_sem, dec_t, dec_f, w_u32, w_u64, w_u16, w_u8, w_i64, Int.reduceToNat, Int.reducePow, Nat.reducePow]
        refine jn_with (fun _ _ => False) (fun _ _ _ h => h.elim) ?_
        refine ⟨trivial, B5.trans (b7.mono (by have := B5.size; omega)), q1, q2, fun j hj => ?_⟩
        have := hkd j hj
        rwa [List.getD_eq_getElem?_getD, List.getElem?_eq_getElem (by omega)] at this
  · have e1 : i = l.length := by omega
    subst e1
    simp (disch := first | omega | (simp only [size_setb, size_alloc', size_drew'] <;> omega) | (simp (disch := first | omega | (simp only [size_setb, size_alloc', size_drew'] <;> omega) | fail) only [go_sem]; done) | fail) only [go_sem, dec_t, dec_f, w_u32, w_u64, w_u16, w_u8, w_i64, Int.reduceToNat, Int.reducePow, Nat.reducePow]
    refine jn_with (fun _ _ => False) (fun _ _ _ h => h.elim) ?_
    exact ⟨⟨by omega, fun x hx => by obtain ⟨j, hj, rfl⟩ := List.getElem_of_mem hx; exact hea j hj hj, fun j k hj hk => hdi j k hj hk hj⟩, b2⟩
end
end Go.Proofs.YtfiepdikejoeeaaDoor.X
