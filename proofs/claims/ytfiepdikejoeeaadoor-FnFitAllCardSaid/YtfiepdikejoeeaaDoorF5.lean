/- Attributes: fitted, told, counted. No condition. -/
import Derived.Test.YtfiepdikejoeeaaDoorF4
set_option linter.unusedVariables false
set_option linter.unusedSimpArgs false
set_option maxRecDepth 100000
namespace Go.Proofs.YtfiepdikejoeeaaDoor.X
open Go Go.X Go.Proofs Go.RowKit

section
variable {w : World} {K : Value → World → Prop}
/-- Some of them, by their places. -/
def pick (l : List Atr) (js : List Nat) : List Atr := js.map fun j => l.getD j A0
theorem pick_flat (l : List Atr) (js : List Nat) (j : Nat) (hj : j < l.length) : (pick l (js ++ [j])).flatMap atrC = (pick l js).flatMap atrC ++ [S l[j].1, l[j].2.2] := by
  rw [pick, List.map_append, List.flatMap_append, List.map_cons, List.map_nil, List.flatMap_cons, List.flatMap_nil, List.append_nil, List.getD_eq_getElem?_getD, List.getElem?_eq_getElem hj]
  rfl
theorem pick_mem {l : List Atr} {js : List Nat} (hj : ∀ j ∈ js, j < l.length) : ∀ x ∈ pick l js, x ∈ l := fun x hx => by
  obtain ⟨j, h1, rfl⟩ := List.mem_map.1 hx
  rw [List.getD_eq_getElem?_getD, List.getElem?_eq_getElem (hj j h1)]
  exact List.getElem_mem _
/-- One step of the loop that takes by places. -/
theorem pick_loop {v vj : Value} {l : List Atr} {js : List Nat} (h : AtsAt w v l) (hj : VS emI w vj js) (hl : ∀ j ∈ js, j < l.length) (hn : js.length ≤ 40) {R : List Value → World → Prop} (hk : ∀ v' w', AtsAt w' v' (pick l js) → Below w.heap.size w w' → R [v'] w') :
    lp [.slice none 0 0, .int .i64 0] w fun s3 u3 w5 C1 =>
      pu P (oBin .lss T.int false false (gs s3 1) (.int .i64 js.length)) fun t43 =>
      jn (fun s4 u4 w6 =>
      pu P (oIdxA T.sl_int vj (gs s3 1)) fun t44 =>
      st P (oLoad T.int t44) w6 fun t45 w7 =>
      pu P (oIdxA T.sl_impl_Xattr v t45) fun t49 =>
      st P (oLoad T.impl_Xattr t49) w7 fun t50 w8 =>
      st P (oBuildSlice T.sl_impl_Xattr 1 #[(0, t50)]) w8 fun t51 w9 =>
      st P (oBuiltin .append #[T.sl_impl_Xattr, T.sl_impl_Xattr] T.sl_impl_Xattr #[false, false] #[(gs s3 0), t51]) w9 fun t52 w10 =>
      pu P (oBin .add T.int false true (gs s3 1) (.int .i64 1)) fun t53 =>
      C1 [t52, t53] w10) fun k3 =>
      cd t43 (k3 [] w5) (R [(gs s3 0)] w5) := by
  refine lp_intro (fun t w' => ∃ (i : Nat) (v1 : Value), t = [v1, .int .i64 i] ∧ i ≤ js.length ∧ w'.ownsRow w.heap.size T.impl_Xattr 2 v1 i ((pick l (js.take i)).flatMap atrC) ∧ Below w.heap.size w w') (fun t _ => 41 - (RowKit.intOf (gs t 1)).toNat) ⟨0, _, rfl, by omega, own_nil _ _ _ _, Below.refl _ _⟩ ?_
  rintro t e w1 ⟨i, v1, rfl, hi, o1, b1⟩
  by_cases g : (i : Int) < js.length
  · have hix : i < js.length := by omega
    simp (disch := first | omega | (simp only [size_setb, size_alloc', size_drew'] <;> omega) | (simp (disch := first | omega | (simp only [size_setb, size_alloc', size_drew'] <;> omega) | fail) only [go_sem]; done) | fail) only [go_sem, dec_t, dec_f, w_u32, w_u64, w_u16, w_u8, w_i64, Int.reduceToNat, Int.reducePow, Nat.reducePow]
    refine jn_with (fun t w' => t = [] ∧ w' = w1) ?_ ⟨rfl, rfl⟩
    rintro t e w2 ⟨rfl, rfl⟩
    have htk : js.take (i + 1) = js.take i ++ [js[i]] := by rw [List.take_succ_eq_append_getElem hix]
    have hjl := hl js[i] (List.getElem_mem hix)
    obtain ⟨bj, oj, _, _, hcj, ixj⟩ := (hj.old b1).idx U.sl_int (by kernel_rfl) hix
    have hcj : cellOf (bk w2 bj) oj = some (.int .i64 (js[i] : Int)) := hcj
    generalize js[i] = j at *
    have h1 := h.old b1
    obtain ⟨b, o, hrow, hb, ix⟩ := h1.idx U.sl_impl_Xattr (by kernel_rfl) hjl
    have hpf := pick_flat l (js.take i) j hjl
    have hv := h1.1 l[j] (List.getElem_mem hjl)
    generalize l[j] = x at *
    obtain ⟨ax, cx, ex⟩ := BS_slice hv
    have one : x.2.2.oneCell' = true := by rw [ex]; rfl
    have hrow : rowOf (bk w2 b) o 2 = some [S x.1, x.2.2] := hrow
    simp (disch := first | omega | (simp only [size_setb, size_alloc', size_drew'] <;> omega) | (simp (disch := first | omega | (simp only [size_setb, size_alloc', size_drew'] <;> omega) | fail) only [go_sem, ixj, hcj, ix, hrow, one]; done) | fail) only [go_sem, dec_t, dec_f, w_u32, w_u64, w_u16, w_u8, w_i64, Int.reduceToNat, Int.reducePow, Nat.reducePow, ixj, hcj, ix, hrow, one]
    have z1 := b1.size
    refine putN (size := 2) (z := AG [S [], .slice none 0 0]) (bytes := 40) U.sl_impl_Xattr (by kernel_rfl) rfl (by omega) (by omega) (by omega) rfl (fun u hu => ?_) o1 (by omega) z1 fun v' w3 o3 k3 n3 => ?_
    · simp only [List.mem_cons, List.not_mem_nil, or_false] at hu
      rcases hu with rfl | rfl
      · rfl
      · exact one
    · refine ⟨⟨i + 1, v', by simp, by omega, ?_, b1.trans (k3.below (fun k hk e => by have := own_in o1 k e; omega) z1)⟩, ?_⟩
      · rw [htk, hpf]; exact o3
      · simp only [RowKit.intOf]
        omega
  · have e1 : i = js.length := by omega
    subst e1
    rw [List.take_length] at o1
    simp (disch := first | omega | (simp only [size_setb, size_alloc', size_drew'] <;> omega) | (simp (disch := first | omega | (simp only [size_setb, size_alloc', size_drew'] <;> omega) | fail) only [go_sem]; done) | fail) only [go_sem, dec_t, dec_f, w_u32, w_u64, w_u16, w_u8, w_i64, Int.reduceToNat, Int.reducePow, Nat.reducePow]
    refine jn_with (fun _ _ => False) (fun _ _ _ h => h.elim) ?_
    exact hk v1 w1 (AtsAt.own o1 (by simp [pick]) fun x hx => BS_old (h.1 x (pick_mem hl x hx)) b1 (Nat.le_refl _)) b1
theorem fit_spec {v : Value} {l : List Atr} (h : AtsAt w v l) (hp : Pre w) (hl : l.length ≤ 40) (hn : ∀ x ∈ l, x.1.length ≤ 140737488351232) (hd : ∀ x ∈ l, x.2.1.length ≤ 4096)
    (hk : ∀ va vb w' i, i ≤ l.length → Fit.fits (rms l) i → AtsAt w' va (pick l (Fit.st (rms l) i).I) → AtsAt w' vb (pick l (Fit.st (rms l) i).O) → Below w.heap.size w w' → K (tup [va, vb, .bool (decide (i = l.length))]) w') : Cl P Fn.impl_FitXattrs #[v] w K := by
  apply S_impl_FitXattrs
  unfold F_impl_FitXattrs
  simp (disch := first | omega | (simp only [size_setb, size_alloc', size_drew'] <;> omega) | (simp (disch := first | omega | (simp only [size_setb, size_alloc', size_drew'] <;> omega) | fail) only [go_sem]; done) | fail) only [go_sem, dec_t, dec_f, w_u32, w_u64, w_u16, w_u8, w_i64, Int.reduceToNat, Int.reducePow, Nat.reducePow]
  refine split_spec h hl hd fun v1 v2 vs w1 q1 q2 q3 b1 => ?_
  simp (disch := first | omega | (simp only [size_setb, size_alloc', size_drew'] <;> omega) | (simp (disch := first | omega | (simp only [size_setb, size_alloc', size_drew'] <;> omega) | fail) only [go_sem]; done) | fail) only [go_sem, dec_t, dec_f, w_u32, w_u64, w_u16, w_u8, w_i64, Int.reduceToNat, Int.reducePow, Nat.reducePow]
  refine doorFit_spec q1 q2 q3 (hp.below b1) hl hn hd fun vi vb w2 i hi fit hvi hvb b2 => ?_
  have B2 := b1.trans (b2.mono b1.size)
  obtain ⟨m1, m2⟩ := Fit.mem_lt (rms l) i
  have li := Fit.st_lens (rms l) i
  obtain ⟨ai, ci, ei⟩ := hvi.slice
  obtain ⟨ab, cb, eb⟩ := hvb.slice
  simp (disch := first | omega | (simp only [size_setb, size_alloc', size_drew'] <;> omega) | (simp (disch := first | omega | (simp only [size_setb, size_alloc', size_drew'] <;> omega) | fail) only [go_sem]; done) | fail) only [go_sem, dec_t, dec_f, w_u32, w_u64, w_u16, w_u8, w_i64, Int.reduceToNat, Int.reducePow, Nat.reducePow]
  refine jn_with (fun t w' => ∃ va, t = [va] ∧ AtsAt w' va (pick l (Fit.st (rms l) i).I) ∧ Below w2.heap.size w2 w') ?_ ?_
  rotate_left
  · rw [ei, V.len_sl_int, ← ei]
    exact pick_loop (h.old B2) hvi (fun j hj => by have := m1 j hj; omega) (by omega) (R := fun t w' => ∃ va, t = [va] ∧ AtsAt w' va (pick l (Fit.st (rms l) i).I) ∧ Below w2.heap.size w2 w') fun v' w' a b => ⟨v', rfl, a, b⟩
  rintro t e w3 ⟨va, rfl, a3, b3⟩
  refine jn_with (fun t w' => ∃ vc, t = [vc] ∧ AtsAt w' vc (pick l (Fit.st (rms l) i).O) ∧ Below w3.heap.size w3 w') ?_ ?_
  rotate_left
  · rw [eb, V.len_sl_int, ← eb]
    exact pick_loop ((h.old B2).old b3) (hvb.old b3) (fun j hj => by have := m2 j hj; omega) (by omega) (R := fun t w' => ∃ va, t = [va] ∧ AtsAt w' va (pick l (Fit.st (rms l) i).O) ∧ Below w3.heap.size w3 w') fun v' w' a b => ⟨v', rfl, a, b⟩
  rintro t e w4 ⟨vc, rfl, a4, b4⟩
  have z2 := B2.size
  have z3 := b3.size
  exact hk va vc w4 i hi fit (a3.old b4) a4 ((B2.trans (b3.mono z2)).trans (b4.mono (by omega)))
theorem attributes_spec {v : Value} {l : List Atr} (h : AtsAt w v l) (hl : l.length ≤ 40) (hk : ∀ v' w', AtsAt w' v' l → Below w.heap.size w w' → K v' w') : Cl P Fn.laws_attributes #[v] w K := by
  apply S_laws_attributes
  unfold F_laws_attributes
  obtain ⟨av, cv, ev⟩ := h.slice
  refine jn_with (fun t w' => ∃ v', t = [v'] ∧ AtsAt w' v' l ∧ Below w.heap.size w w') ?_ ?_
  · rintro t e w1 ⟨v1, rfl, a1, a4⟩
    exact hk v1 w1 a1 a4
  rw [ev, V.len_sl_impl_Xattr, ← ev]
  refine lp_intro (fun t w' => ∃ (i : Nat) (v1 : Value), t = [v1, .int .i64 i] ∧ i ≤ l.length ∧ w'.ownsRow w.heap.size T.spec_Xattr 2 v1 i ((l.take i).flatMap atrC) ∧ Below w.heap.size w w') (fun t _ => 41 - (RowKit.intOf (gs t 1)).toNat) ⟨0, _, rfl, by omega, own_nil _ _ _ _, Below.refl _ _⟩ ?_
  rintro t e w1 ⟨i, v1, rfl, hi, o1, b1⟩
  by_cases g : (i : Int) < l.length
  · have hix : i < l.length := by omega
    simp (disch := first | omega | (simp only [size_setb, size_alloc', size_drew'] <;> omega) | (simp (disch := first | omega | (simp only [size_setb, size_alloc', size_drew'] <;> omega) | fail) only [go_sem]; done) | fail) only [go_sem, dec_t, dec_f, w_u32, w_u64, w_u16, w_u8, w_i64, Int.reduceToNat, Int.reducePow, Nat.reducePow]
    refine jn_with (fun t w' => t = [] ∧ w' = w1) ?_ ⟨rfl, rfl⟩
    rintro t e w2 ⟨rfl, rfl⟩
    have htk : (l.take (i + 1)).flatMap atrC = (l.take i).flatMap atrC ++ [S l[i].1, l[i].2.2] := by rw [List.take_succ_eq_append_getElem hix, List.flatMap_append]; rfl
    have h1 := h.old b1
    obtain ⟨b, o, hrow, hb, ix⟩ := h1.idx U.sl_impl_Xattr (by kernel_rfl) hix
    have hv := h1.1 l[i] (List.getElem_mem hix)
    generalize l[i] = x at *
    obtain ⟨ax, cx, ex⟩ := BS_slice hv
    obtain ⟨xn, xd, xv⟩ := x
    replace ex : xv = .slice ax xd.length cx := ex
    subst ex
    have hrow : rowOf (bk w2 b) o 2 = some [S xn, (.slice ax xd.length cx)] := hrow
    have z1 := b1.size
    simp (disch := first | omega | (simp only [size_setb, size_alloc', size_drew'] <;> omega) | (simp (disch := first | omega | (simp only [size_setb, size_alloc', size_drew'] <;> omega) | fail) only [go_sem, ix, hrow]; done) | fail) only [go_sem, dec_t, dec_f, w_u32, w_u64, w_u16, w_u8, w_i64, Int.reduceToNat, Int.reducePow, Nat.reducePow, ix, hrow]
    obtain ⟨w3, e3⟩ : ∃ w3, w3 = setb (w2.alloc (CB [S [], .slice none 0 0] T.impl_Xattr)) w2.heap.size (CB [S xn, (.slice ax xd.length cx)] T.impl_Xattr) := ⟨_, rfl⟩
    have B3 : Below w2.heap.size w2 w3 := by rw [e3]; repeat (first | exact Below.refl _ _ | assumption | refine bel_setb ?_ (by first | exact Nat.le_refl _ | omega | (simp only [go_sem] <;> omega)) _ | refine Below.alloc ?_ (by first | exact Nat.le_refl _ | omega | (simp only [go_sem]; omega)) _ | refine Below.drew ?_)
    rw [← e3]
    clear e3
    have z3 := B3.size
    refine putN (size := 2) (z := AG [S [], .slice none 0 0]) (l := [S xn, (.slice ax xd.length cx)]) (bytes := 40) U.sl_spec_Xattr (by kernel_rfl) rfl (by omega) (by omega) (by omega) rfl (fun u hu => ?_) (own_old o1 B3 (Nat.le_refl _)) (by omega) (by omega) fun v' w4 o4 k4 n4 => ?_
    · simp only [List.mem_cons, List.not_mem_nil, or_false] at hu
      rcases hu with rfl | rfl
      · rfl
      · rfl
    · refine ⟨⟨i + 1, v', by simp, by omega, ?_, (b1.trans (B3.mono z1)).trans (k4.below (fun k hk e => by have := own_in o1 k e; omega) (by omega))⟩, ?_⟩
      · rw [htk]; exact o4
      · simp only [RowKit.intOf]
        omega
  · have e1 : i = l.length := by omega
    subst e1
    rw [List.take_length] at o1
    simp (disch := first | omega | (simp only [size_setb, size_alloc', size_drew'] <;> omega) | (simp (disch := first | omega | (simp only [size_setb, size_alloc', size_drew'] <;> omega) | fail) only [go_sem]; done) | fail) only [go_sem, dec_t, dec_f, w_u32, w_u64, w_u16, w_u8, w_i64, Int.reduceToNat, Int.reducePow, Nat.reducePow]
    refine jn_with (fun _ _ => False) (fun _ _ _ h => h.elim) ?_
    exact ⟨v1, rfl, AtsAt.own o1 rfl fun x hx => BS_old (h.1 x hx) b1 (Nat.le_refl _), b1⟩
theorem rooms_spec {v : Value} {l : List Atr} (h : AtsAt w v l) (hl : l.length ≤ 40) (hn : ∀ x ∈ l, x.1.length ≤ 140737488351232 ∧ (cmpL preL x.1).2.length ≤ 255) (hd : ∀ x ∈ l, x.2.1.length ≤ 4096) (hk : ∀ w', Below w.heap.size w w' → K (.int .i64 ((rms l).sum : Nat)) w') : Cl P Fn.spec_Rooms #[v] w K := by
  apply S_spec_Rooms
  unfold F_spec_Rooms
  obtain ⟨av, cv, ev⟩ := h.slice
  refine jn_with (fun t w' => t = [.int .i64 ((rms l).sum : Nat)] ∧ Below w.heap.size w w') ?_ ?_
  · rintro t e w1 ⟨rfl, a4⟩
    exact hk w1 a4
  rw [ev, V.len_sl_spec_Xattr, ← ev]
  refine lp_intro (fun t w' => ∃ (i : Nat), t = [.int .i64 ((rms (l.take i)).sum : Nat), .int .i64 i] ∧ i ≤ l.length ∧ (rms (l.take i)).sum ≤ i * 5000 ∧ Below w.heap.size w w') (fun t _ => 41 - (RowKit.intOf (gs t 1)).toNat) ⟨0, by simp [rms], by omega, by simp [rms], Below.refl _ _⟩ ?_
  rintro t e w1 ⟨i, rfl, hi, hs, b1⟩
  by_cases g : (i : Int) < l.length
  · have hix : i < l.length := by omega
    simp (disch := first | omega | (simp only [size_setb, size_alloc', size_drew'] <;> omega) | (simp (disch := first | omega | (simp only [size_setb, size_alloc', size_drew'] <;> omega) | fail) only [go_sem]; done) | fail) only [go_sem, dec_t, dec_f, w_u32, w_u64, w_u16, w_u8, w_i64, Int.reduceToNat, Int.reducePow, Nat.reducePow]
    refine jn_with (fun t w' => t = [] ∧ w' = w1) ?_ ⟨rfl, rfl⟩
    rintro t e w2 ⟨rfl, rfl⟩
    have htk : (rms (l.take (i + 1))).sum = (rms (l.take i)).sum + rm l[i].1 l[i].2.1 := by rw [List.take_succ_eq_append_getElem hix, rms, List.map_append, List.sum_append]; simp [rms]
    have h1 := h.old b1
    obtain ⟨b, o, hrow, hb, ix⟩ := h1.idx U.sl_spec_Xattr (by kernel_rfl) hix
    have hv := h1.1 l[i] (List.getElem_mem hix)
    have hnx := hn l[i] (List.getElem_mem hix)
    have hdx := hd l[i] (List.getElem_mem hix)
    generalize l[i] = x at *
    have hrm : rm x.1 x.2.1 ≤ 5000 := by unfold rm; omega
    obtain ⟨ax, cx, ex⟩ := BS_slice hv
    have one : x.2.2.oneCell' = true := by rw [ex]; rfl
    have hrow : rowOf (bk w2 b) o 2 = some [S x.1, x.2.2] := hrow
    have z1 := b1.size
    simp (disch := first | omega | (simp only [size_setb, size_alloc', size_drew'] <;> omega) | (simp (disch := first | omega | (simp only [size_setb, size_alloc', size_drew'] <;> omega) | fail) only [go_sem, ix, hrow, one]; done) | fail) only [go_sem, dec_t, dec_f, w_u32, w_u64, w_u16, w_u8, w_i64, Int.reduceToNat, Int.reducePow, Nat.reducePow, ix, hrow, one]
    obtain ⟨w3, e3⟩ : ∃ w3, w3 = setb (w2.alloc (CB [S [], .slice none 0 0] T.spec_Xattr)) w2.heap.size (CB [S x.1, x.2.2] T.spec_Xattr) := ⟨_, rfl⟩
    have B3 : Below w2.heap.size w2 w3 := by rw [e3]; repeat (first | exact Below.refl _ _ | assumption | refine bel_setb ?_ (by first | exact Nat.le_refl _ | omega | (simp only [go_sem] <;> omega)) _ | refine Below.alloc ?_ (by first | exact Nat.le_refl _ | omega | (simp only [go_sem]; omega)) _ | refine Below.drew ?_)
    rw [← e3]
    clear e3
    have z3 := B3.size
    refine room_spec hnx.1 (BS_old hv B3 (Nat.le_refl _)) (by omega) fun w4 b4 => ?_
    simp (disch := first | omega | (simp only [size_setb, size_alloc', size_drew'] <;> omega) | (simp (disch := first | omega | (simp only [size_setb, size_alloc', size_drew'] <;> omega) | fail) only [go_sem]; done) | fail) only [go_sem, dec_t, dec_f, w_u32, w_u64, w_u16, w_u8, w_i64, Int.reduceToNat, Int.reducePow, Nat.reducePow]
    refine ⟨⟨i + 1, ?_, by omega, by rw [htk]; omega, (b1.trans (B3.mono z1)).trans (b4.mono (by omega))⟩, ?_⟩
    · rw [htk]; simp
    · simp only [RowKit.intOf]
      omega
  · have e1 : i = l.length := by omega
    subst e1
    rw [List.take_length]
    simp (disch := first | omega | (simp only [size_setb, size_alloc', size_drew'] <;> omega) | (simp (disch := first | omega | (simp only [size_setb, size_alloc', size_drew'] <;> omega) | fail) only [go_sem]; done) | fail) only [go_sem, dec_t, dec_f, w_u32, w_u64, w_u16, w_u8, w_i64, Int.reduceToNat, Int.reducePow, Nat.reducePow]
    refine jn_with (fun _ _ => False) (fun _ _ _ h => h.elim) ?_
    exact ⟨trivial, b1⟩
end
end Go.Proofs.YtfiepdikejoeeaaDoor.X
