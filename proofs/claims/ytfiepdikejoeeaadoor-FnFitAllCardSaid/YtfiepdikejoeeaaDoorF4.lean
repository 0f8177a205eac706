/- Attributes: split, fitted, told. No condition. -/
import Derived.Test.YtfiepdikejoeeaaDoorF3
set_option linter.unusedVariables false
set_option linter.unusedSimpArgs false
set_option maxRecDepth 100000
namespace Go.Proofs.YtfiepdikejoeeaaDoor.X
open Go Go.X Go.Proofs Go.RowKit

def A0 : Atr := ([], [], .slice none 0 0)
def emI (i : Nat) : Value := .int .i64 i
section
variable {w : World} {K : Value → World → Prop}
theorem init_spec {k : Nat} {v0 v1 : Value} {x y : Int} (h : bk w k = some (CB [v0, v1, .int .i64 x, .int .i64 y] T.compactext4_xattrState)) (h0 : v0.oneCell' = true) (h1 : v1.oneCell' = true) (hk : ∀ w', bk w' k = some (CB [v0, v1, .int .i64 96, .int .i64 4060] T.compactext4_xattrState) → Kp w w' (fun g => g = k) → K (tup []) w') : Cl P Fn.compactext4_xattrState_init #[pt k 0] w K := by
  apply S_compactext4_xattrState_init
  unfold F_compactext4_xattrState_init
  have hk' := bk_lt h
  simp (disch := first | omega | (simp only [size_setb, size_alloc', size_drew'] <;> omega) | (simp (disch := first | omega | (simp only [size_setb, size_alloc', size_drew'] <;> omega) | fail) only [go_sem, h, hk', h0, h1]; done) | fail) only [go_sem, dec_t, dec_f, w_u32, w_u64, w_u16, w_u8, w_i64, Int.reduceToNat, Int.reducePow, Nat.reducePow, h, hk', h0, h1]
  refine hk _ (bk_setb_eq _ _ _ _ rfl (by simp only [go_sem]; exact hk')) ((Kp.setb _ _ _).trans (Kp.setb _ _ _) fun _ _ h => h)
/-- Values of which only the lengths are asked. -/
def ValsAt (l : List Atr) (vs : List Value) : Prop := vs.length = l.length ∧ ∀ i (h1 : i < l.length) (h2 : i < vs.length), ∃ a cap, vs[i] = .slice a l[i].2.1.length cap
theorem split_spec {v : Value} {l : List Atr} (h : AtsAt w v l) (hl : l.length ≤ 40) (hd : ∀ x ∈ l, x.2.1.length ≤ 4096) (hk : ∀ v1 v2 vs w', VS S w' v1 (l.map (·.1)) → VS id w' v2 vs → ValsAt l vs → Below w.heap.size w w' → K (tup [v1, v2]) w') : Cl P Fn.impl_split #[v] w K := by
  apply S_impl_split
  unfold F_impl_split
  obtain ⟨av, cv, ev⟩ := h.slice
  refine jn_with (fun t w' => ∃ v1 v2 vs, t = [v1, v2] ∧ VS S w' v1 (l.map (·.1)) ∧ VS id w' v2 vs ∧ ValsAt l vs ∧ Below w.heap.size w w') ?_ ?_
  · rintro t e w1 ⟨v1, v2, vs, rfl, a1, a2, a3, a4⟩
    simp (disch := first | omega | (simp only [size_setb, size_alloc', size_drew'] <;> omega) | (simp (disch := first | omega | (simp only [size_setb, size_alloc', size_drew'] <;> omega) | fail) only [go_sem]; done) | fail) only [go_sem, dec_t, dec_f, w_u32, w_u64, w_u16, w_u8, w_i64, Int.reduceToNat, Int.reducePow, Nat.reducePow]
    exact hk v1 v2 vs w1 a1 a2 a3 a4
  rw [ev, V.len_sl_impl_Xattr, ← ev]
  refine lp_intro (fun t w' => ∃ (i : Nat) (v1 v2 : Value) (vs : List Value), t = [v1, v2, .int .i64 i] ∧ i ≤ l.length ∧ w'.ownsRow w.heap.size T.string 1 v1 i ((l.take i).map fun x => S x.1) ∧ w'.ownsRow w.heap.size T.sl_uint8 1 v2 i vs ∧ ValsAt (l.take i) vs ∧ (∀ g, v1.ownBlock = some g → v2.ownBlock ≠ some g) ∧ Below w.heap.size w w') (fun t _ => 41 - (RowKit.intOf (gs t 2)).toNat) ⟨0, _, _, [], rfl, by omega, own_nil _ _ _ _, own_nil _ _ _ _, ⟨rfl, fun i h1 => absurd h1 (by simp)⟩, fun g hg => by simp [Value.ownBlock] at hg, Below.refl _ _⟩ ?_
  rintro t e w1 ⟨i, v1, v2, vs, rfl, hi, o1, o2, hvs, dis, b1⟩
  by_cases g : (i : Int) < l.length
  · have hix : i < l.length := by omega
    simp (disch := first | omega | (simp only [size_setb, size_alloc', size_drew'] <;> omega) | (simp (disch := first | omega | (simp only [size_setb, size_alloc', size_drew'] <;> omega) | fail) only [go_sem]; done) | fail) only [go_sem, dec_t, dec_f, w_u32, w_u64, w_u16, w_u8, w_i64, Int.reduceToNat, Int.reducePow, Nat.reducePow]
    refine jn_with (fun t w' => t = [] ∧ w' = w1) ?_ ⟨rfl, rfl⟩
    rintro t e w2 ⟨rfl, rfl⟩
    have h1 := h.old b1
    obtain ⟨b, o, hrow, hb, ix⟩ := h1.idx U.sl_impl_Xattr (by kernel_rfl) hix
    have hv := h1.1 l[i] (List.getElem_mem hix)
    have hdl := hd l[i] (List.getElem_mem hix)
    have htk : l.take (i + 1) = l.take i ++ [l[i]] := by rw [List.take_succ_eq_append_getElem hix]
    obtain ⟨x, hx⟩ : ∃ x, x = l[i] := ⟨_, rfl⟩
    have hx0 := h.1 l[i] (List.getElem_mem hix)
    rw [← hx] at hrow hv hdl htk hx0
    obtain ⟨ax, cx, ex⟩ := BS_slice hv
    have one : x.2.2.oneCell' = true := by rw [ex]; rfl
    have z1 := b1.size
    have hrow : rowOf (bk w2 b) o 2 = some [S x.1, x.2.2] := hrow
    simp (disch := first | omega | (simp only [size_setb, size_alloc', size_drew'] <;> omega) | (simp (disch := first | omega | (simp only [size_setb, size_alloc', size_drew'] <;> omega) | fail) only [go_sem, ix, hrow, one]; done) | fail) only [go_sem, dec_t, dec_f, w_u32, w_u64, w_u16, w_u8, w_i64, Int.reduceToNat, Int.reducePow, Nat.reducePow, ix, hrow, one]
    obtain ⟨w3, e3⟩ : ∃ w3, w3 = setb (w2.alloc (CB [S [], .slice none 0 0] T.impl_Xattr)) w2.heap.size (CB [S x.1, x.2.2] T.impl_Xattr) := ⟨_, rfl⟩
    have B3 : Below w2.heap.size w2 w3 := by rw [e3]; repeat (first | exact Below.refl _ _ | assumption | refine bel_setb ?_ (by first | exact Nat.le_refl _ | omega | (simp only [go_sem] <;> omega)) _ | refine Below.alloc ?_ (by first | exact Nat.le_refl _ | omega | (simp only [go_sem]; omega)) _ | refine Below.drew ?_)
    have r3 : bk w3 w2.heap.size = some (CB [S x.1, x.2.2] T.impl_Xattr) := by rw [e3]; exact bk_setb_eq _ _ _ _ rfl (by simp only [go_sem]; omega)
    have z3 : w3.heap.size = w2.heap.size + 1 := by rw [e3]; simp only [go_sem]
    rw [← e3]
    clear e3
    refine put1 (z := S []) (bytes := 16) U.sl_string (by kernel_rfl) rfl (by omega) rfl (own_old o1 B3 (Nat.le_refl _)) (by omega) (by omega) fun va w4 o4 k4 n4 => ?_
    have lo1 := own_in o1
    have lo2 := own_in o2
    have r4 : bk w4 w2.heap.size = some (CB [S x.1, x.2.2] T.impl_Xattr) := by rw [k4.block _ (by omega) fun e => by have := lo1 _ e; omega]; exact r3
    simp (disch := first | omega | (simp only [size_setb, size_alloc', size_drew'] <;> omega) | (simp (disch := first | omega | (simp only [size_setb, size_alloc', size_drew'] <;> omega) | fail) only [go_sem, r4, one]; done) | fail) only [go_sem, dec_t, dec_f, w_u32, w_u64, w_u16, w_u8, w_i64, Int.reduceToNat, Int.reducePow, Nat.reducePow, r4, one]
    have z4 := k4.size
    have B4 : Below w.heap.size w w4 := (b1.trans (B3.mono z1)).trans (k4.below (fun k hk e => by have := lo1 k e; omega) (by omega))
    have o2' := own_kp2 (own_old o2 B3 (Nat.le_refl _)) k4 fun g hg e => dis g e hg
    refine oAppend_empty (z := .int .u8 0) (h2 := U.sl_uint8) (hi := by kernel_rfl) (hv := BS_old hx0 B4 (Nat.le_refl _)) (hl := by omega) (h := fun vc w5 b5 hvc => ?_)
    have z5 := b5.size
    obtain ⟨ac, cc, ec⟩ := BS_slice hvc
    refine put1 (z := .slice none 0 0) (bytes := 24) U.sl_sl_uint8 (by kernel_rfl) rfl (by omega) (by rw [ec]; rfl) (own_old o2' b5 (Nat.le_refl _)) (by omega) (by omega) fun vd w6 o6 k6 n6 => ?_
    have z6 := k6.size
    have oa := own_kp2 (own_old o4 b5 (Nat.le_refl _)) k6 fun g hg e => by
      rcases n4 g hg with q | q
      · exact dis g q e
      · have := lo2 g e; omega
    refine ⟨⟨i + 1, va, vd, vs ++ [vc], by simp, by omega, ?_, o6, ⟨?_, ?_⟩, ?_, ?_⟩, ?_⟩
    · rw [htk, List.map_append]; exact oa
    · rw [htk, List.length_append, List.length_append, hvs.1]; rfl
    · intro j h1 h2
      have hj : j < vs.length ∨ j = vs.length := by simp at h2; omega
      have lt := hvs.1
      simp only [htk]
      rcases hj with hj | rfl
      · rw [List.getElem_append_left hj]
        obtain ⟨a', c', q⟩ := hvs.2 j (by omega) hj
        exact ⟨a', c', by rw [q, List.getElem_append_left (by omega)]⟩
      · rw [List.getElem_append_right (by omega), List.getElem_append_right (by omega)]
        simp only [Nat.sub_self, List.getElem_cons_zero, lt]
        exact ⟨ac, cc, ec⟩
    · intro g hg e
      rcases n4 g hg with q | q
      · rcases n6 g e with s | s
        · exact dis g q s
        · have := lo1 g q; omega
      · rcases n6 g e with s | s
        · have := lo2 g s; omega
        · have := (own_in o4 g hg).2; omega
    · exact (B4.trans (b5.mono (by omega))).trans (k6.below (fun k hk e => by have := lo2 k e; omega) (by omega))
    · simp only [RowKit.intOf]
      omega
  · have e1 : i = l.length := by omega
    subst e1
    rw [List.take_length] at *
    simp (disch := first | omega | (simp only [size_setb, size_alloc', size_drew'] <;> omega) | (simp (disch := first | omega | (simp only [size_setb, size_alloc', size_drew'] <;> omega) | fail) only [go_sem]; done) | fail) only [go_sem, dec_t, dec_f, w_u32, w_u64, w_u16, w_u8, w_i64, Int.reduceToNat, Int.reducePow, Nat.reducePow]
    refine jn_with (fun _ _ => False) (fun _ _ _ h => h.elim) ?_
    refine ⟨v1, v2, vs, rfl, VS.own (by rw [List.length_map, List.map_map]; exact o1), VS.own (by rw [hvs.1, List.map_id]; exact o2), hvs, b1⟩
/-- How much each of them wants. -/
def rms (l : List Atr) : List Nat := l.map fun x => rm x.1 x.2.1
theorem rms_at {l : List Atr} {i : Nat} (hi : i < l.length) : (rms l).getD i 0 = rm l[i].1 l[i].2.1 := by
  rw [List.getD_eq_getElem?_getD, rms, List.getElem?_map, List.getElem?_eq_getElem hi]
  rfl
theorem st_ab (ns : List Nat) : ∀ i, (Fit.st ns i).a ≤ 96 ∧ (Fit.st ns i).b ≤ 4060
  | 0 => ⟨Nat.le_refl _, Nat.le_refl _⟩
  | i + 1 => by
    have := st_ab ns i
    simp only [Fit.st, Fit.step]
    split <;> simp only <;> omega
theorem doorFit_spec {v1 v2 : Value} {l : List Atr} {vs : List Value} (h1 : VS S w v1 (l.map (·.1))) (h2 : VS id w v2 vs) (hvs : ValsAt l vs) (hp : Pre w) (hl : l.length ≤ 40) (hn : ∀ x ∈ l, x.1.length ≤ 140737488351232) (hd : ∀ x ∈ l, x.2.1.length ≤ 4096)
    (hk : ∀ vi vb w' i, i ≤ l.length → Fit.fits (rms l) i → VS emI w' vi (Fit.st (rms l) i).I → VS emI w' vb (Fit.st (rms l) i).O → Below w.heap.size w w' → K (tup [vi, vb, .bool (decide (i = l.length))]) w') : Cl P Fn.compactext4_DoorFit #[v1, v2] w K := by
  apply S_compactext4_DoorFit
  unfold F_compactext4_DoorFit
  simp (disch := first | omega | (simp only [size_setb, size_alloc', size_drew'] <;> omega) | (simp (disch := first | omega | (simp only [size_setb, size_alloc', size_drew'] <;> omega) | fail) only [go_sem]; done) | fail) only [go_sem, dec_t, dec_f, w_u32, w_u64, w_u16, w_u8, w_i64, Int.reduceToNat, Int.reducePow, Nat.reducePow]
  obtain ⟨w1, e1⟩ : ∃ w1, w1 = w.alloc (CB [.slice none 0 0, .slice none 0 0, .int .i64 0, .int .i64 0] T.compactext4_xattrState) := ⟨_, rfl⟩
  have B1 : Below w.heap.size w w1 := by rw [e1]; repeat (first | exact Below.refl _ _ | assumption | refine bel_setb ?_ (by first | exact Nat.le_refl _ | omega | (simp only [go_sem] <;> omega)) _ | refine Below.alloc ?_ (by first | exact Nat.le_refl _ | omega | (simp only [go_sem]; omega)) _ | refine Below.drew ?_)
  have r1 : bk w1 w.heap.size = some (CB [.slice none 0 0, .slice none 0 0, .int .i64 0, .int .i64 0] T.compactext4_xattrState) := by rw [e1]; exact bk_alloc_eq _ _ _ rfl
  have z1 : w1.heap.size = w.heap.size + 1 := by rw [e1]; simp only [go_sem]
  rw [← e1]
  clear e1
  refine init_spec r1 rfl rfl fun w2 r2 k2 => ?_
  have z2 := k2.size
  have B2 : Below w.heap.size w w2 := B1.trans (k2.below (fun k hk e => by omega) (by omega))
  have R2 : Rm w2 w.heap.size w.heap.size (.slice none 0 0) (.slice none 0 0) 0 0 96 4060 := ⟨r2, ⟨[], own_nil _ _ _ _⟩, ⟨[], own_nil _ _ _ _⟩, by simp [Value.ownBlock], by simp [Value.ownBlock], fun g hg => by simp [Value.ownBlock] at hg, Nat.le_refl _, by omega⟩
  obtain ⟨a1, c1, e1⟩ := h1.slice
  refine jn_with (fun t w' => ∃ vi vb, t = [vi, vb] ∧ Fit.fits (rms l) l.length ∧ VS emI w' vi (Fit.st (rms l) l.length).I ∧ VS emI w' vb (Fit.st (rms l) l.length).O ∧ Below w.heap.size w w') ?_ ?_
  · rintro t e w3 ⟨vi, vb, rfl, q1, q2, q3, q4⟩
    have := hk vi vb w3 l.length (Nat.le_refl _) q1 q2 q3 q4
    rw [decide_eq_true rfl] at this
    exact this
  rw [e1, V.len_sl_string, ← e1, List.length_map]
  refine lp_intro (fun t w' => ∃ (i : Nat) (vi vb u0 u1 : Value) (n0 n1 : Nat), t = [vi, vb, .int .i64 i] ∧ i ≤ l.length ∧ Fit.fits (rms l) i ∧ w'.ownsRow w.heap.size T.int 1 vi (Fit.st (rms l) i).I.length ((Fit.st (rms l) i).I.map emI) ∧ w'.ownsRow w.heap.size T.int 1 vb (Fit.st (rms l) i).O.length ((Fit.st (rms l) i).O.map emI) ∧ Rm w' w.heap.size w.heap.size u0 u1 n0 n1 (Fit.st (rms l) i).a (Fit.st (rms l) i).b ∧ n0 ≤ i ∧ n1 ≤ i ∧ (∀ g, vi.ownBlock = some g → vb.ownBlock ≠ some g ∧ ¬ Rm.fp w.heap.size u0 u1 g) ∧ (∀ g, vb.ownBlock = some g → ¬ Rm.fp w.heap.size u0 u1 g) ∧ Below w.heap.size w w') (fun t _ => 41 - (RowKit.intOf (gs t 2)).toNat) ⟨0, _, _, _, _, 0, 0, rfl, by omega, fun j hj => absurd hj (by omega), own_nil _ _ _ _, own_nil _ _ _ _, R2, by omega, by omega, fun g hg => by simp [Value.ownBlock] at hg, fun g hg => by simp [Value.ownBlock] at hg, B2⟩ ?_
  rintro t e w3 ⟨i, vi, vb, u0, u1, n0, n1, rfl, hi, fit, oi, ob, R, hn0, hn1, di, db, b3⟩
  by_cases g : (i : Int) < l.length
  · have hix : i < l.length := by omega
    simp (disch := first | omega | (simp only [size_setb, size_alloc', size_drew'] <;> omega) | (simp (disch := first | omega | (simp only [size_setb, size_alloc', size_drew'] <;> omega) | fail) only [go_sem]; done) | fail) only [go_sem, dec_t, dec_f, w_u32, w_u64, w_u16, w_u8, w_i64, Int.reduceToNat, Int.reducePow, Nat.reducePow]
    refine jn_with (fun t w' => t = [] ∧ w' = w3) ?_ ⟨rfl, rfl⟩
    rintro t e w4 ⟨rfl, rfl⟩
    have z3 := b3.size
    have hR := rms_at hix
    have hst : Fit.st (rms l) (i + 1) = Fit.step ((rms l).getD i 0) i (Fit.st (rms l) i) := rfl
    have hab := st_ab (rms l) i
    obtain ⟨bn, on, _, _, hcn, ixn⟩ := (h1.old b3).idx U.sl_string (by kernel_rfl) (i := i) (by rw [List.length_map]; exact hix)
    obtain ⟨bv, ov, _, _, hcv, ixv⟩ := (h2.old b3).idx U.sl_sl_uint8 (by kernel_rfl) (i := i) (by rw [hvs.1]; exact hix)
    obtain ⟨av, cv, ev⟩ := hvs.2 i hix (by rw [hvs.1]; exact hix)
    have hnl := hn _ (List.getElem_mem hix)
    have hdl := hd _ (List.getElem_mem hix)
    rw [List.getElem_map] at hcn
    rw [show id (vs[i]'(by rw [hvs.1]; exact hix)) = _ from ev] at hcv
    rw [hR] at hst
    generalize l[i] = x at *
    obtain ⟨xs0, ox0⟩ := R.o0
    obtain ⟨s0, d0, es0⟩ := own_slice ox0
    have hblk := R.blk
    have one0 : u0.oneCell' = true := by rw [es0]; rfl
    simp (disch := first | omega | (simp only [size_setb, size_alloc', size_drew'] <;> omega) | (simp (disch := first | omega | (simp only [size_setb, size_alloc', size_drew'] <;> omega) | fail) only [go_sem, ixn, ixv, hcn, hcv, hblk]; done) | fail) only [go_sem, dec_t, dec_f, w_u32, w_u64, w_u16, w_u8, w_i64, Int.reduceToNat, Int.reducePow, Nat.reducePow, ixn, ixv, hcn, hcv, hblk]
    refine jn_intro ?_
    rw [es0, V.len_sl_compactext4_xattr]
    refine jn_with (fun t w' => t = [vi, vb] ∧ (rm x.1 x.2.1 ≤ (Fit.st (rms l) i).a ∨ rm x.1 x.2.1 ≤ (Fit.st (rms l) i).b) ∧ ∃ u0' u1' n0' n1', Rm w' w.heap.size w.heap.size u0' u1' n0' n1' (Fit.st (rms l) (i + 1)).a (Fit.st (rms l) (i + 1)).b ∧ ((rm x.1 x.2.1 ≤ (Fit.st (rms l) i).a ∧ n0' = n0 + 1 ∧ n1' = n1) ∨ (¬ rm x.1 x.2.1 ≤ (Fit.st (rms l) i).a ∧ n0' = n0 ∧ n1' = n1 + 1)) ∧ Kp w4 w' (Rm.fp w.heap.size u0 u1) ∧ (∀ g, Rm.fp w.heap.size u0' u1' g → Rm.fp w.heap.size u0 u1 g ∨ w4.heap.size ≤ g)) ?_ ?_
    · rintro t e w5 ⟨rfl, hfit, u0', u1', n0', n1', R5, hc, k5, g5⟩
      obtain ⟨ys0, oy0⟩ := R5.o0
      obtain ⟨s5, d5, es5⟩ := own_slice oy0
      have hblk5 := R5.blk
      have one5 : u0'.oneCell' = true := by rw [es5]; rfl
      have hfp := fun g (h : Rm.fp w.heap.size u0 u1 g) => (show w.heap.size ≤ g by
        rcases h with rfl | h | h
        · exact Nat.le_refl _
        · exact (own_in ox0 g h).1
        · obtain ⟨_, q⟩ := R.o1; exact (own_in q g h).1)
      have B5 : Below w.heap.size w w5 := b3.trans (k5.below (fun k hk e => by have := hfp k e; omega) z3)
      have z5 := k5.size
      have fit' : Fit.fits (rms l) (i + 1) := fun j hj => by
        by_cases q : j < i
        · exact fit j q
        · obtain rfl : j = i := by omega
          rw [hR]; exact hfit
      have oi5 := own_kp2 oi k5 fun g hg => (di g hg).2
      have ob5 := own_kp2 ob k5 fun g hg => db g hg
      have dif : ∀ g, vi.ownBlock = some g → ¬ Rm.fp w.heap.size u0' u1' g := fun g hg q => by
        rcases g5 g q with s | s
        · exact (di g hg).2 s
        · have := (own_in oi g hg).2; omega
      have dbf : ∀ g, vb.ownBlock = some g → ¬ Rm.fp w.heap.size u0' u1' g := fun g hg q => by
        rcases g5 g q with s | s
        · exact db g hg s
        · have := (own_in ob g hg).2; omega
      have hfp5 : ∀ g, Rm.fp w.heap.size u0' u1' g → g < w5.heap.size := fun g h => by
        rcases h with rfl | h | h
        · exact R5.kB.2
        · exact (own_in oy0 g h).2
        · obtain ⟨_, q⟩ := R5.o1; exact (own_in q g h).2
      have li := Fit.st_lens (rms l) i
      simp (disch := first | omega | (simp only [size_setb, size_alloc', size_drew'] <;> omega) | (simp (disch := first | omega | (simp only [size_setb, size_alloc', size_drew'] <;> omega) | fail) only [go_sem, hblk5, one5]; done) | fail) only [go_sem, dec_t, dec_f, w_u32, w_u64, w_u16, w_u8, w_i64, Int.reduceToNat, Int.reducePow, Nat.reducePow, hblk5, one5]
      rw [es5, V.len_sl_compactext4_xattr]
      rcases hc with ⟨c, en0, en1⟩ | ⟨c, en0, en1⟩
      · have hst' : Fit.st (rms l) (i + 1) = ⟨(Fit.st (rms l) i).I ++ [i], (Fit.st (rms l) i).O, (Fit.st (rms l) i).a - rm x.1 x.2.1, (Fit.st (rms l) i).b⟩ := by rw [hst, Fit.step, if_pos c]
        simp (disch := first | omega | (simp only [size_setb, size_alloc', size_drew'] <;> omega) | (simp (disch := first | omega | (simp only [size_setb, size_alloc', size_drew'] <;> omega) | fail) only [go_sem]; done) | fail) only [go_sem, dec_t, dec_f, w_u32, w_u64, w_u16, w_u8, w_i64, Int.reduceToNat, Int.reducePow, Nat.reducePow]
        refine put1 (z := .int .i64 0) (bytes := 8) U.sl_int (by kernel_rfl) rfl (by omega) rfl oi5 (by omega) (by omega) fun vi' w6 o6 k6 n6 => ?_
        have z6 := k6.size
        refine fun _ => ⟨⟨i + 1, vi', vb, u0', u1', n0', n1', by simp, by omega, fit', ?_, ?_, R5.kp k6 fun g h q => dif g q h, by omega, by omega, fun g hg => ?_, dbf, B5.trans (k6.below (fun k hk e => by have := own_in oi k e; omega) (by omega))⟩, ?_⟩
        · rw [hst']
          simp only [List.length_append, List.length_cons, List.length_nil, List.map_append, List.map_cons, List.map_nil]
          exact o6
        · rw [hst']
          exact own_kp2 ob5 k6 fun g hg q => (di g q).1 hg
        · rcases n6 g hg with q | q
          · exact ⟨(di g q).1, dif g q⟩
          · exact ⟨fun e => by have := (own_in ob5 g e).2; omega, fun e => by have := hfp5 g e; omega⟩
        · simp only [RowKit.intOf]
          omega
      · have hst' : Fit.st (rms l) (i + 1) = ⟨(Fit.st (rms l) i).I, (Fit.st (rms l) i).O ++ [i], (Fit.st (rms l) i).a, (Fit.st (rms l) i).b - rm x.1 x.2.1⟩ := by rw [hst, Fit.step, if_neg c]
        simp (disch := first | omega | (simp only [size_setb, size_alloc', size_drew'] <;> omega) | (simp (disch := first | omega | (simp only [size_setb, size_alloc', size_drew'] <;> omega) | fail) only [go_sem]; done) | fail) only [go_sem, dec_t, dec_f, w_u32, w_u64, w_u16, w_u8, w_i64, Int.reduceToNat, Int.reducePow, Nat.reducePow]
        refine put1 (z := .int .i64 0) (bytes := 8) U.sl_int (by kernel_rfl) rfl (by omega) rfl ob5 (by omega) (by omega) fun vb' w6 o6 k6 n6 => ?_
        have z6 := k6.size
        refine fun _ => ⟨⟨i + 1, vi, vb', u0', u1', n0', n1', by simp, by omega, fit', ?_, ?_, R5.kp k6 fun g h q => dbf g q h, by omega, by omega, fun g hg => ⟨fun e => ?_, dif g hg⟩, fun g hg => ?_, B5.trans (k6.below (fun k hk e => by have := own_in ob k e; omega) (by omega))⟩, ?_⟩
        · rw [hst']
          exact own_kp2 oi5 k6 fun g hg q => (di g hg).1 q
        · rw [hst']
          simp only [List.length_append, List.length_cons, List.length_nil, List.map_append, List.map_cons, List.map_nil]
          exact o6
        · rcases n6 g e with q | q
          · exact (di g hg).1 q
          · have := (own_in oi5 g hg).2; omega
        · rcases n6 g hg with q | q
          · exact dbf g q
          · exact fun e => by have := hfp5 g e; omega
        · simp only [RowKit.intOf]
          omega
    · refine addXattr_spec R (hp.below b3) hnl ⟨_, _, rfl⟩ (by omega) hab.1 hab.2 (by omega) (by omega) (fun c w5 v0' R5 k5 g5 => ?_) (fun c c2 w5 v1' R5 k5 g5 => ?_) fun c c2 w5 b5 => ?_
      · simp (disch := first | omega | (simp only [size_setb, size_alloc', size_drew'] <;> omega) | (simp (disch := first | omega | (simp only [size_setb, size_alloc', size_drew'] <;> omega) | fail) only [go_sem]; done) | fail) only [go_sem, dec_t, dec_f, w_u32, w_u64, w_u16, w_u8, w_i64, Int.reduceToNat, Int.reducePow, Nat.reducePow]
        refine ⟨trivial, .inl c, v0', u1, n0 + 1, n1, by rw [hst, Fit.step, if_pos c]; exact R5, .inl ⟨c, rfl, rfl⟩, k5, fun g h => ?_⟩
        rcases h with h | h | h
        · exact .inl (.inl h)
        · exact (g5 g h).imp_left fun h => .inr (.inl h)
        · exact .inl (.inr (.inr h))
      · simp (disch := first | omega | (simp only [size_setb, size_alloc', size_drew'] <;> omega) | (simp (disch := first | omega | (simp only [size_setb, size_alloc', size_drew'] <;> omega) | fail) only [go_sem]; done) | fail) only [go_sem, dec_t, dec_f, w_u32, w_u64, w_u16, w_u8, w_i64, Int.reduceToNat, Int.reducePow, Nat.reducePow]
        refine ⟨trivial, .inr c2, u0, v1', n0, n1 + 1, by rw [hst, Fit.step, if_neg c]; exact R5, .inr ⟨c, rfl, rfl⟩, k5, fun g h => ?_⟩
        rcases h with h | h | h
        · exact .inl (.inl h)
        · exact .inl (.inr (.inl h))
        · exact (g5 g h).imp_left fun h => .inr (.inr h)
      · simp (disch := first | omega | (simp only [size_setb, size_alloc', size_drew'] <;> omega) | (simp (disch := first | omega | (simp only [size_setb, size_alloc', size_drew'] <;> omega) | fail) only [go_sem]; done) | fail) only [go_sem, dec_t, dec_f, w_u32, w_u64, w_u16, w_u8, w_i64, Int.reduceToNat, Int.reducePow, Nat.reducePow]
        have := hk vi vb w5 i (by omega) fit (VS.own (own_old (by rw [List.length_map] at *; exact oi) b5 (Nat.le_refl _))) (VS.own (own_old ob b5 (Nat.le_refl _))) (b3.trans (b5.mono z3))
        rw [decide_eq_false (by omega)] at this
        exact this
  · have e1 : i = l.length := by omega
    subst e1
    simp (disch := first | omega | (simp only [size_setb, size_alloc', size_drew'] <;> omega) | (simp (disch := first | omega | (simp only [size_setb, size_alloc', size_drew'] <;> omega) | fail) only [go_sem]; done) | fail) only [go_sem, dec_t, dec_f, w_u32, w_u64, w_u16, w_u8, w_i64, Int.reduceToNat, Int.reducePow, Nat.reducePow]
    refine jn_with (fun _ _ => False) (fun _ _ _ h => h.elim) ?_
    exact ⟨vi, vb, rfl, fit, VS.own oi, VS.own ob, b3⟩
end
end Go.Proofs.YtfiepdikejoeeaaDoor.X
