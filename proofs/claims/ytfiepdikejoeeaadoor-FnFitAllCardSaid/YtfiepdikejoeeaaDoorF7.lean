/- FnFitAll. No condition beside the form's own. -/
import Derived.Test.YtfiepdikejoeeaaDoorF6
set_option linter.unusedVariables false
set_option linter.unusedSimpArgs false
set_option maxRecDepth 100000
namespace Go.Proofs.YtfiepdikejoeeaaDoor.X
open Go Go.X Go.Proofs Go.RowKit

theorem fit_cell {ob : Option Obj} {p n : Nat} {l : List Value} (h : rowOf ob p n = some l) {q : Nat} (hq : q < n) : cellOf ob (p + q) = l[q]? := by
  obtain ⟨c, t, fz, rfl, h2, h3⟩ := rowOf_inv h
  simp only [cellOf]
  rw [← h3, List.getElem?_take_of_lt hq, List.getElem?_drop, Array.getElem?_toList]
theorem rms_pick (l : List Atr) : ∀ (js : List Nat), (∀ j ∈ js, j < l.length) → rms (pick l js) = js.map fun j => (rms l).getD j 0
  | [], _ => rfl
  | j :: js, h => by
    have ih := rms_pick l js fun k hk => h k (List.mem_cons_of_mem _ hk)
    have hj := h j (List.mem_cons_self ..)
    rw [List.map_cons, rms_at hj, ← ih]
    simp only [pick, rms, List.map_cons, List.getD_eq_getElem?_getD, List.getElem?_eq_getElem hj, Option.getD_some]
theorem pick_cons (l : List Atr) {j : Nat} (hj : j < l.length) (js : List Nat) : pick l (j :: js) = l[j] :: pick l js := by
  simp only [pick, List.map_cons, List.getD_eq_getElem?_getD, List.getElem?_eq_getElem hj, Option.getD_some]
section
variable {w : World}
set_option maxHeartbeats 2000000 in
theorem FnFitAll_law {v : Value} {l : List Atr} (h : AtsAt w v l) (hw : ∀ x ∈ l, x.1.length ≤ maxLen ∧ x.2.1.length ≤ maxLen) (hp : Pre w) :
    Cl P Fn.laws_FnFitAll #[v] w fun v w' => v = .bool true ∧ Below w.heap.size w w' := by
  apply S_laws_FnFitAll
  unfold F_laws_FnFitAll
  refine jn_with (fun t w' => (∀ x ∈ l, x.1.length ≤ 2147483647) ∧ Below w.heap.size w w') ?_ ?_
  rotate_left
  · simp (disch := first | omega | (simp only [size_setb, size_alloc', size_drew'] <;> omega) | (simp (disch := first | omega | (simp only [size_setb, size_alloc', size_drew'] <;> omega) | fail) only [go_sem]; done) | fail) only [go_sem, dec_t, dec_f, w_u32, w_u64, w_u16, w_u8, w_i64, Int.reduceToNat, Int.reducePow, Nat.reducePow]
    refine fits7_spec h fun b w1 hb b1 => ?_
    cases b with
    | true => simp (disch := first | omega | (simp only [size_setb, size_alloc', size_drew'] <;> omega) | (simp (disch := first | omega | (simp only [size_setb, size_alloc', size_drew'] <;> omega) | fail) only [go_sem]; done) | fail) only [go_sem, dec_t, dec_f, w_u32, w_u64, w_u16, w_u8, w_i64, Int.reduceToNat, Int.reducePow, Nat.reducePow]; exact ⟨hb rfl, b1⟩
    | false => simp (disch := first | omega | (simp only [size_setb, size_alloc', size_drew'] <;> omega) | (simp (disch := first | omega | (simp only [size_setb, size_alloc', size_drew'] <;> omega) | fail) only [go_sem]; done) | fail) only [go_sem, dec_t, dec_f, w_u32, w_u64, w_u16, w_u8, w_i64, Int.reduceToNat, Int.reducePow, Nat.reducePow]; exact ⟨trivial, b1⟩
  rintro t e w1 ⟨hnn, B1⟩
  have hn : ∀ x ∈ l, x.1.length ≤ 140737488351232 := fun x hx => by have := hnn x hx; omega
  unfold J_laws_FnFitAll_9
  refine jn_with (fun t w' => FairA l ∧ Below w.heap.size w w') ?_ ?_
  rotate_left
  · simp (disch := first | omega | (simp only [size_setb, size_alloc', size_drew'] <;> omega) | (simp (disch := first | omega | (simp only [size_setb, size_alloc', size_drew'] <;> omega) | fail) only [go_sem]; done) | fail) only [go_sem, dec_t, dec_f, w_u32, w_u64, w_u16, w_u8, w_i64, Int.reduceToNat, Int.reducePow, Nat.reducePow]
    refine fair_spec (h.old B1) hn fun b w2 hb b2 => ?_
    have B2 := B1.trans (b2.mono B1.size)
    cases b with
    | true => simp (disch := first | omega | (simp only [size_setb, size_alloc', size_drew'] <;> omega) | (simp (disch := first | omega | (simp only [size_setb, size_alloc', size_drew'] <;> omega) | fail) only [go_sem]; done) | fail) only [go_sem, dec_t, dec_f, w_u32, w_u64, w_u16, w_u8, w_i64, Int.reduceToNat, Int.reducePow, Nat.reducePow]; exact ⟨hb rfl, B2⟩
    | false => simp (disch := first | omega | (simp only [size_setb, size_alloc', size_drew'] <;> omega) | (simp (disch := first | omega | (simp only [size_setb, size_alloc', size_drew'] <;> omega) | fail) only [go_sem]; done) | fail) only [go_sem, dec_t, dec_f, w_u32, w_u64, w_u16, w_u8, w_i64, Int.reduceToNat, Int.reducePow, Nat.reducePow]; exact ⟨trivial, B2⟩
  rintro t e w2 ⟨fair, B2⟩
  have hl := fair.len
  have hd : ∀ x ∈ l, x.2.1.length ≤ 4096 := fun x hx => (fair.each x hx).2
  unfold J_laws_FnFitAll_8
  simp (disch := first | omega | (simp only [size_setb, size_alloc', size_drew'] <;> omega) | (simp (disch := first | omega | (simp only [size_setb, size_alloc', size_drew'] <;> omega) | fail) only [go_sem]; done) | fail) only [go_sem, dec_t, dec_f, w_u32, w_u64, w_u16, w_u8, w_i64, Int.reduceToNat, Int.reducePow, Nat.reducePow]
  refine fit_spec (h.old B2) (hp.below B2) hl hn hd fun va vb w3 i hi fit ha hb b3 => ?_
  have B3 := B2.trans (b3.mono B2.size)
  obtain ⟨a1, c1, e1⟩ := ha.slice
  obtain ⟨a2, c2, e2⟩ := hb.slice
  obtain ⟨a0, c0, e0⟩ := h.slice
  have li := Fit.st_lens (rms l) i
  obtain ⟨m1, m2⟩ := Fit.mem_lt (rms l) i
  have pl : ∀ js, (pick l js).length = js.length := fun js => by simp [pick]
  simp (disch := first | omega | (simp only [size_setb, size_alloc', size_drew'] <;> omega) | (simp (disch := first | omega | (simp only [size_setb, size_alloc', size_drew'] <;> omega) | fail) only [go_sem]; done) | fail) only [go_sem, dec_t, dec_f, w_u32, w_u64, w_u16, w_u8, w_i64, Int.reduceToNat, Int.reducePow, Nat.reducePow]
  rcases Decidable.em (i = l.length) with c | c
  rotate_left
  · refine jn_with (fun _ _ => False) (fun _ _ _ h => h.elim) ?_
    simp (disch := first | omega | (simp only [size_setb, size_alloc', size_drew'] <;> omega) | (simp (disch := first | omega | (simp only [size_setb, size_alloc', size_drew'] <;> omega) | fail) only [go_sem, decide_eq_false c]; done) | fail) only [go_sem, dec_t, dec_f, w_u32, w_u64, w_u16, w_u8, w_i64, Int.reduceToNat, Int.reducePow, Nat.reducePow, decide_eq_false c]
    unfold J_laws_FnFitAll_7
    rw [pl] at e1 e2
    rw [e1, e2, e0]
    simp (disch := first | omega | (simp only [size_setb, size_alloc', size_drew'] <;> omega) | (simp (disch := first | omega | (simp only [size_setb, size_alloc', size_drew'] <;> omega) | fail) only [go_sem]; done) | fail) only [go_sem, dec_t, dec_f, w_u32, w_u64, w_u16, w_u8, w_i64, Int.reduceToNat, Int.reducePow, Nat.reducePow]
    exact ⟨by first | (simp; omega) | simp | omega, B3⟩
  subst c
  refine jn_with (fun t w' => w' = w3) ?_ (by simp (disch := first | omega | (simp only [size_setb, size_alloc', size_drew'] <;> omega) | (simp (disch := first | omega | (simp only [size_setb, size_alloc', size_drew'] <;> omega) | fail) only [go_sem, decide_true]; done) | fail) only [go_sem, dec_t, dec_f, w_u32, w_u64, w_u16, w_u8, w_i64, Int.reduceToNat, Int.reducePow, Nat.reducePow, decide_true])
  rintro t e w4 rfl
  unfold J_laws_FnFitAll_6
  obtain ⟨s1, s2⟩ := Fit.sums (rms l) _ fit
  rw [← rms_pick l _ m1] at s1
  rw [← rms_pick l _ m2] at s2
  refine jn_with (fun t w' => Below w4.heap.size w4 w') ?_ ?_
  rotate_left
  · simp (disch := first | omega | (simp only [size_setb, size_alloc', size_drew'] <;> omega) | (simp (disch := first | omega | (simp only [size_setb, size_alloc', size_drew'] <;> omega) | fail) only [go_sem]; done) | fail) only [go_sem, dec_t, dec_f, w_u32, w_u64, w_u16, w_u8, w_i64, Int.reduceToNat, Int.reducePow, Nat.reducePow]
    refine attributes_spec ha (by rw [pl]; omega) fun v' w5 ha5 b5 => ?_
    have B5 := b5
    refine rooms_spec ha5 (by rw [pl]; omega) (fun x hx => ⟨hn x (pick_mem m1 x hx), (fair.each x (pick_mem m1 x hx)).1⟩) (fun x hx => hd x (pick_mem m1 x hx)) fun w6 b6 => ?_
    have B6 := B5.trans (b6.mono B5.size)
    simp (disch := first | omega | (simp only [size_setb, size_alloc', size_drew'] <;> omega) | (simp (disch := first | omega | (simp only [size_setb, size_alloc', size_drew'] <;> omega) | fail) only [go_sem]; done) | fail) only [go_sem, dec_t, dec_f, w_u32, w_u64, w_u16, w_u8, w_i64, Int.reduceToNat, Int.reducePow, Nat.reducePow]
    refine attributes_spec ((hb.old b5).old b6) (by rw [pl]; omega) fun v2 w7 ha7 b7 => ?_
    have B7 := B6.trans (b7.mono B6.size)
    refine rooms_spec ha7 (by rw [pl]; omega) (fun x hx => ⟨hn x (pick_mem m2 x hx), (fair.each x (pick_mem m2 x hx)).1⟩) (fun x hx => hd x (pick_mem m2 x hx)) fun w8 b8 => ?_
    have B8 := B7.trans (b8.mono B7.size)
    simp (disch := first | omega | (simp only [size_setb, size_alloc', size_drew'] <;> omega) | (simp (disch := first | omega | (simp only [size_setb, size_alloc', size_drew'] <;> omega) | fail) only [go_sem]; done) | fail) only [go_sem, dec_t, dec_f, w_u32, w_u64, w_u16, w_u8, w_i64, Int.reduceToNat, Int.reducePow, Nat.reducePow]
    exact B8
  rintro t e w5 b5
  have B5 := B3.trans (b5.mono B3.size)
  have ha5 := ha.old b5
  have hb5 := hb.old b5
  unfold J_laws_FnFitAll_5
  refine jn_with (fun t w' => ∃ v1 v2, t = [v1, v2] ∧ AtsAt w' v1 [] ∧ AtsAt w' v2 [] ∧ Below w.heap.size w w') ?_ ?_
  · rintro t e w6 ⟨v1, v2, rfl, q1, q2, B6⟩
    unfold J_laws_FnFitAll_1
    obtain ⟨x1, y1, rfl⟩ := q1.slice
    obtain ⟨x2, y2, rfl⟩ := q2.slice
    simp (disch := first | omega | (simp only [size_setb, size_alloc', size_drew'] <;> omega) | (simp (disch := first | omega | (simp only [size_setb, size_alloc', size_drew'] <;> omega) | fail) only [go_sem, List.length_nil]; done) | fail) only [go_sem, dec_t, dec_f, w_u32, w_u64, w_u16, w_u8, w_i64, Int.reduceToNat, Int.reducePow, Nat.reducePow, List.length_nil]
    exact ⟨trivial, B6⟩
  rw [e0, V.len_sl_impl_Xattr, ← e0]
  refine lp_intro (fun t w' => ∃ (i : Nat) (v1 v2 : Value), t = [v1, v2, .int .i64 (Fit.st (rms l) i).a, .int .i64 i] ∧ i ≤ l.length ∧ AtsAt w' v1 (pick l ((Fit.st (rms l) l.length).I.drop (Fit.st (rms l) i).I.length)) ∧ AtsAt w' v2 (pick l ((Fit.st (rms l) l.length).O.drop (Fit.st (rms l) i).O.length)) ∧ Below w.heap.size w w') (fun t _ => l.length - (RowKit.intOf (gs t 3)).toNat) ⟨0, va, vb, rfl, by omega, ha5, hb5, B5⟩ ?_
  rintro t e w6 ⟨i, v1, v2, rfl, hi, h1, h2, B6⟩
  by_cases g : (i : Int) < l.length
  · have hix : i < l.length := by omega
    have hR := rms_at hix
    have hx0 := h.old B6
    obtain ⟨b, o, hrow, hbx, ix⟩ := hx0.idx U.sl_impl_Xattr (by kernel_rfl) hix
    have hv := hx0.1 l[i] (List.getElem_mem hix)
    have hnx := hn l[i] (List.getElem_mem hix)
    have hdx := hd l[i] (List.getElem_mem hix)
    have hrx := (fair.each l[i] (List.getElem_mem hix)).1
    have hdiff := fair.diff
    have hpc := pick_cons l hix
    have hab := st_ab (rms l) i
    simp (disch := first | omega | (simp only [size_setb, size_alloc', size_drew'] <;> omega) | (simp (disch := first | omega | (simp only [size_setb, size_alloc', size_drew'] <;> omega) | fail) only [go_sem]; done) | fail) only [go_sem, dec_t, dec_f, w_u32, w_u64, w_u16, w_u8, w_i64, Int.reduceToNat, Int.reducePow, Nat.reducePow]
    refine jn_with (fun t w' => t = [] ∧ w' = w6) ?_ ⟨rfl, rfl⟩
    rintro t e w7 ⟨rfl, rfl⟩
    unfold J_laws_FnFitAll_4
    obtain ⟨x, hx⟩ : ∃ x, x = l[i] := ⟨_, rfl⟩
    rw [← hx] at hrow hv hnx hdx hrx hR hpc
    have hrow : rowOf (bk w7 b) o 2 = some [S x.1, x.2.2] := hrow
    obtain ⟨ax, cx, ex⟩ := BS_slice hv
    have one : x.2.2.oneCell' = true := by rw [ex]; rfl
    refine jn_with (fun t w' => ∃ u1 u2, t = [u1, u2, .int .i64 (Fit.st (rms l) (i + 1)).a] ∧ AtsAt w' u1 (pick l ((Fit.st (rms l) l.length).I.drop (Fit.st (rms l) (i + 1)).I.length)) ∧ AtsAt w' u2 (pick l ((Fit.st (rms l) l.length).O.drop (Fit.st (rms l) (i + 1)).O.length)) ∧ Below w.heap.size w w') ?_ ?_
    · rintro t e w8 ⟨u1, u2, rfl, q1, q2, B8⟩
      unfold J_laws_FnFitAll_2
      simp (disch := first | omega | (simp only [size_setb, size_alloc', size_drew'] <;> omega) | (simp (disch := first | omega | (simp only [size_setb, size_alloc', size_drew'] <;> omega) | fail) only [go_sem]; done) | fail) only [go_sem, dec_t, dec_f, w_u32, w_u64, w_u16, w_u8, w_i64, Int.reduceToNat, Int.reducePow, Nat.reducePow]
      refine ⟨⟨i + 1, u1, u2, by simp, by omega, q1, q2, B8⟩, ?_⟩
      simp only [RowKit.intOf]
      omega
    simp (disch := first | omega | (simp only [size_setb, size_alloc', size_drew'] <;> omega) | (simp (disch := first | omega | (simp only [size_setb, size_alloc', size_drew'] <;> omega) | fail) only [go_sem, ix, hrow, one]; done) | fail) only [go_sem, dec_t, dec_f, w_u32, w_u64, w_u16, w_u8, w_i64, Int.reduceToNat, Int.reducePow, Nat.reducePow, ix, hrow, one]
    obtain ⟨w8, e8⟩ : ∃ w8, w8 = setb (w7.alloc (CB [S [], .slice none 0 0] T.impl_Xattr)) w7.heap.size (CB [S x.1, x.2.2] T.impl_Xattr) := ⟨_, rfl⟩
    have b8 : Below w7.heap.size w7 w8 := by rw [e8]; repeat (first | exact Below.refl _ _ | assumption | refine bel_setb ?_ (by first | exact Nat.le_refl _ | omega | (simp only [go_sem] <;> omega)) _ | refine Below.alloc ?_ (by first | exact Nat.le_refl _ | omega | (simp only [go_sem]; omega)) _ | refine Below.drew ?_)
    have r8 : bk w8 w7.heap.size = some (CB [S x.1, x.2.2] T.impl_Xattr) := by rw [e8]; exact bk_setb_eq _ _ _ _ rfl (by simp only [go_sem]; omega)
    have z8 : w8.heap.size = w7.heap.size + 1 := by rw [e8]; simp only [go_sem]
    rw [← e8]
    clear e8
    rw [oBuildSliceN (size := 2) (z := AG [S [], .slice none 0 0]) _ _ U.sl_impl_Xattr (by kernel_rfl) (by omega) (by omega) (l := [S x.1, x.2.2]) rfl]
    obtain ⟨w9, e9⟩ : ∃ w9, w9 = w8.alloc (CB [S x.1, x.2.2] T.impl_Xattr) := ⟨_, rfl⟩
    have b9 : Below w8.heap.size w8 w9 := by rw [e9]; repeat (first | exact Below.refl _ _ | assumption | refine bel_setb ?_ (by first | exact Nat.le_refl _ | omega | (simp only [go_sem] <;> omega)) _ | refine Below.alloc ?_ (by first | exact Nat.le_refl _ | omega | (simp only [go_sem]; omega)) _ | refine Below.drew ?_)
    have r9 : bk w9 w8.heap.size = some (CB [S x.1, x.2.2] T.impl_Xattr) := by rw [e9]; exact bk_alloc_eq _ _ _ rfl
    have z9 : w9.heap.size = w8.heap.size + 1 := by rw [e9]; simp only [go_sem]
    rw [← e9]
    clear e9
    have B79 : Below w7.heap.size w7 w9 := b8.trans (b9.mono (by omega))
    have one9 : AtsAt w9 (sl w8.heap.size 0 1 1) [x] := by
      refine ⟨fun y hy => ?_, .inr ⟨_, 0, 1, rfl, by simp, by omega, fun j hj => ?_⟩⟩
      · simp at hy; subst hy; exact BS_old hv B79 (Nat.le_refl _)
      · simp at hj; subst hj; rw [r9]; rfl
    refine attributes_spec one9 (by simp) fun v' w10 hx10 b10 => ?_
    refine rooms_spec hx10 (by simp) (fun y hy => by simp at hy; subst hy; exact ⟨hnx, hrx⟩) (fun y hy => by simp at hy; subst hy; exact hdx) fun w11 b11 => ?_
    have ers : (rms [x]).sum = rm x.1 x.2.1 := by simp [rms]
    rw [ers]
    have b11' : Below w11.heap.size w11 w11.drew := by repeat (first | exact Below.refl _ _ | assumption | refine bel_setb ?_ (by first | exact Nat.le_refl _ | omega | (simp only [go_sem] <;> omega)) _ | refine Below.alloc ?_ (by first | exact Nat.le_refl _ | omega | (simp only [go_sem]; omega)) _ | refine Below.drew ?_)
    have B711 : Below w7.heap.size w7 w11.drew := ((B79.trans (b10.mono (by omega))).trans (b11.mono (by have := b10.size; omega))).trans (b11'.mono (by have := b10.size; have := b11.size; omega))
    have r11 : bk w11.drew w7.heap.size = some (CB [S x.1, x.2.2] T.impl_Xattr) := (bel_bk b11' (by have := b10.size; have := b11.size; omega)).trans ((bel_bk b11 (by have := b10.size; omega)).trans ((bel_bk b10 (by omega)).trans ((bel_bk b9 (by omega)).trans r8)))
    generalize w11.drew = w12 at *
    have h1' := h1.old B711
    have h2' := h2.old B711
    have B12 := B6.trans (B711.mono B6.size)
    have hxb := BS_old hv B711 (Nat.le_refl _)
    have cvx : ∀ M : Value → Prop, rd P (oConv T.sl_uint8 T.string x.2.2) w12 M = M (S x.2.1) := fun M => rdConvBS U.string U.sl_uint8 U.uint8 hxb
    obtain ⟨a3, c3, e3⟩ := h1'.slice
    obtain ⟨a4, c4, e4⟩ := h2'.slice
    by_cases c : rm x.1 x.2.1 ≤ (Fit.st (rms l) i).a
    · obtain ⟨y, n1, n2, n3, n4⟩ := Fit.next_in (rms l) hix (by rw [hR]; exact c)
      rw [n1, hpc] at h1' e3
      obtain ⟨b', o', hrow', _, ix'⟩ := h1'.idx U.sl_impl_Xattr (by kernel_rfl) (i := 0) (by simp)
      obtain ⟨vr, hr, sr⟩ := h1'.rest U.sl_impl_Xattr (by kernel_rfl)
      have hrow' : rowOf (bk w12 b') o' 2 = some [S x.1, x.2.2] := hrow'
      have hc0 : cellOf (bk w12 b') o' = some (S x.1) := fit_cell hrow' (q := 0) (by omega)
      have hc1 : cellOf (bk w12 b') (o' + 1) = some x.2.2 := fit_cell hrow' (q := 1) (by omega)
      rw [e3, V.len_sl_impl_Xattr, ← e3, List.length_cons]
      have c0 : (((pick l y).length + 1 : Nat) : Int) > 0 := by omega
      have ix' : ∀ L : Value → Prop, pu P (oIdxA T.sl_impl_Xattr v1 (.int .i64 0)) L = L (pt b' o') := ix'
      simp (disch := first | omega | (simp only [size_setb, size_alloc', size_drew'] <;> omega) | (simp (disch := first | omega | (simp only [size_setb, size_alloc', size_drew'] <;> omega) | fail) only [go_sem, c0, ix', hc0, hc1, r11, cvx, decide_true, sr]; done) | fail) only [go_sem, dec_t, dec_f, w_u32, w_u64, w_u16, w_u8, w_i64, Int.reduceToNat, Int.reducePow, Nat.reducePow, c0, ix', hc0, hc1, r11, cvx, decide_true, sr]
      refine ⟨vr, v2, ?_, by rw [n2]; exact hr, by rw [n3]; exact h2', B12⟩
      rw [n4, hR, Int.ofNat_sub c]
    · obtain ⟨y, n1, n2, n3, n4, n5⟩ := Fit.next_out (rms l) hix (by rw [hR]; exact c)
      have second : ∀ (Q : Value → World → Prop), J_laws_FnFitAll_3 [v1, v2, .int .i64 (Fit.st (rms l) i).a, .int .i64 i] w12 (pt w7.heap.size 0) (.int .i64 (rm x.1 x.2.1)) (fun t w' => ∃ u1 u2, t = [u1, u2, .int .i64 (Fit.st (rms l) (i + 1)).a] ∧ AtsAt w' u1 (pick l ((Fit.st (rms l) l.length).I.drop (Fit.st (rms l) (i + 1)).I.length)) ∧ AtsAt w' u2 (pick l ((Fit.st (rms l) l.length).O.drop (Fit.st (rms l) (i + 1)).O.length)) ∧ Below w.heap.size w w') Q := fun Q => by
        unfold J_laws_FnFitAll_3
        rw [n1, hpc] at h2' e4
        have b12' : Below w12.heap.size w12 w12.drew := by repeat (first | exact Below.refl _ _ | assumption | refine bel_setb ?_ (by first | exact Nat.le_refl _ | omega | (simp only [go_sem] <;> omega)) _ | refine Below.alloc ?_ (by first | exact Nat.le_refl _ | omega | (simp only [go_sem]; omega)) _ | refine Below.drew ?_)
        have rr : bk w12.drew w7.heap.size = some (CB [S x.1, x.2.2] T.impl_Xattr) := r11
        have h1'' := h1'.old b12'
        have h2'' := h2'.old b12'
        have cvx' : ∀ M : Value → Prop, rd P (oConv T.sl_uint8 T.string x.2.2) w12.drew M = M (S x.2.1) := fun M => rdConvBS U.string U.sl_uint8 U.uint8 (BS_old hxb b12' (Nat.le_refl _))
        have B13 := B12.trans (b12'.mono B12.size)
        generalize w12.drew = w13 at *
        obtain ⟨b', o', hrow', _, ix'⟩ := h2''.idx U.sl_impl_Xattr (by kernel_rfl) (i := 0) (by simp)
        obtain ⟨vr, hr, sr⟩ := h2''.rest U.sl_impl_Xattr (by kernel_rfl)
        have hrow' : rowOf (bk w13 b') o' 2 = some [S x.1, x.2.2] := hrow'
        have hc0 : cellOf (bk w13 b') o' = some (S x.1) := fit_cell hrow' (q := 0) (by omega)
        have hc1 : cellOf (bk w13 b') (o' + 1) = some x.2.2 := fit_cell hrow' (q := 1) (by omega)
        have ix' : ∀ L : Value → Prop, pu P (oIdxA T.sl_impl_Xattr v2 (.int .i64 0)) L = L (pt b' o') := ix'
        have c0 : (((pick l y).length + 1 : Nat) : Int) > 0 := by omega
        have c2 : ((rm x.1 x.2.1 : Nat) : Int) > ((Fit.st (rms l) i).a : Nat) := by omega
        show pu P (oBuiltin .len #[T.sl_impl_Xattr] T.int #[false] #[v2]) _
        rw [e4, V.len_sl_impl_Xattr, ← e4, List.length_cons]
        simp (disch := first | omega | (simp only [size_setb, size_alloc', size_drew'] <;> omega) | (simp (disch := first | omega | (simp only [size_setb, size_alloc', size_drew'] <;> omega) | fail) only [go_sem, c0, ix', hc0, hc1, rr, cvx', decide_true, sr, c2]; done) | fail) only [go_sem, dec_t, dec_f, w_u32, w_u64, w_u16, w_u8, w_i64, Int.reduceToNat, Int.reducePow, Nat.reducePow, c0, ix', hc0, hc1, rr, cvx', decide_true, sr, c2]
        refine ⟨v1, vr, ?_, by rw [n3]; exact h1'', by rw [n2]; exact hr, B13⟩
        rw [n4]
      rw [e3, V.len_sl_impl_Xattr, ← e3]
      rw [pl]
      cases hI : (Fit.st (rms l) l.length).I.drop (Fit.st (rms l) i).I.length with
      | nil =>
        simp (disch := first | omega | (simp only [size_setb, size_alloc', size_drew'] <;> omega) | (simp (disch := first | omega | (simp only [size_setb, size_alloc', size_drew'] <;> omega) | fail) only [go_sem, List.length_nil, decide_false]; done) | fail) only [go_sem, dec_t, dec_f, w_u32, w_u64, w_u16, w_u8, w_i64, Int.reduceToNat, Int.reducePow, Nat.reducePow, List.length_nil, decide_false]
        exact second _
      | cons j js =>
        obtain ⟨m3, m4⟩ := n5 j (by rw [hI]; exact List.mem_cons_self ..)
        have hne := hdiff j i m4 m3
        rw [hI, pick_cons l m4] at h1'
        obtain ⟨b', o', hrow', _, ix'⟩ := h1'.idx U.sl_impl_Xattr (by kernel_rfl) (i := 0) (by simp)
        have hrow' : rowOf (bk w12 b') o' 2 = some [S l[j].1, l[j].2.2] := hrow'
        have hc0 : cellOf (bk w12 b') o' = some (S l[j].1) := fit_cell hrow' (q := 0) (by omega)
        have hc1 : cellOf (bk w12 b') (o' + 1) = some l[j].2.2 := fit_cell hrow' (q := 1) (by omega)
        have ix' : ∀ L : Value → Prop, pu P (oIdxA T.sl_impl_Xattr v1 (.int .i64 0)) L = L (pt b' o') := ix'
        have c0 : ((js.length + 1 : Nat) : Int) > 0 := by omega
        rw [← hx] at hne
        rw [List.length_cons]
        simp (disch := first | omega | (simp only [size_setb, size_alloc', size_drew'] <;> omega) | (simp (disch := first | omega | (simp only [size_setb, size_alloc', size_drew'] <;> omega) | fail) only [go_sem, c0, ix', hc0, hc1, r11, decide_true, hne, decide_false]; done) | fail) only [go_sem, dec_t, dec_f, w_u32, w_u64, w_u16, w_u8, w_i64, Int.reduceToNat, Int.reducePow, Nat.reducePow, c0, ix', hc0, hc1, r11, decide_true, hne, decide_false]
        exact second _
  · have e1 : i = l.length := by omega
    subst e1
    simp (disch := first | omega | (simp only [size_setb, size_alloc', size_drew'] <;> omega) | (simp (disch := first | omega | (simp only [size_setb, size_alloc', size_drew'] <;> omega) | fail) only [go_sem]; done) | fail) only [go_sem, dec_t, dec_f, w_u32, w_u64, w_u16, w_u8, w_i64, Int.reduceToNat, Int.reducePow, Nat.reducePow]
    refine jn_with (fun _ _ => False) (fun _ _ _ h => h.elim) ?_
    obtain ⟨d1, d2⟩ := Fit.drop_all (rms l) l.length
    rw [d1] at h1
    rw [d2] at h2
    exact ⟨v1, v2, rfl, h1, h2, B6⟩
end
theorem FnFitAll_walk {r : List (String × DataW Unit)} (v : Value) (l : List Atr) (w : World) (h : AtsAt w v l ∧ (∀ x ∈ l, x.1.length ≤ maxLen ∧ x.2.1.length ≤ maxLen) ∧ l.length ≤ maxLen) (hL : laidMet P (("pub-marram/pub/hcsshim/ext4/inner/compactext4.xattrPrefixes", preD) :: r) w) :
    Cl P Fn.laws_FnFitAll #[v] w fun v w' => v = .bool true ∧ Below w.heap.size w w' := FnFitAll_law h.1 h.2.1 (pre_of hL)
end Go.Proofs.YtfiepdikejoeeaaDoor.X
