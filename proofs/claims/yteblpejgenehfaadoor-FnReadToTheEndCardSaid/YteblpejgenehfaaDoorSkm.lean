/- FnSeekMoves: the walk. No condition beside the form's own. -/
import Derived.Test.YteblpejgenehfaaDoorRoh
set_option linter.unusedVariables false
set_option linter.unusedSimpArgs false
set_option maxRecDepth 100000
namespace Go.Proofs.YteblpejgenehfaaDoor.X
open Go Go.X Go.Proofs Go.RowKit Go.WideShapes

/-- Numbers as they lie in memory. -/
def IntsAt (w : World) (v : Value) (l : List Int) : Prop := (l = [] ∧ ∃ a cap, v = .slice a 0 cap) ∨ ∃ b o cap, v = sl b o l.length cap ∧ b < w.heap.size ∧ ∀ i (hi : i < l.length), cellOf (bk w b) (o + i) = some (.int .i64 l[i])
theorem IntsAt.old {w w' : World} {v : Value} {l : List Int} (h : IntsAt w v l) (hb : Below w.heap.size w w') : IntsAt w' v l := by
  rcases h with h | ⟨b, o, cap, h1, h2, h3⟩
  · exact .inl h
  · exact .inr ⟨b, o, cap, h1, Nat.lt_of_lt_of_le h2 hb.size, fun i hi => by rw [bel_bk hb h2]; exact h3 i hi⟩
theorem IntsAt.slice {w : World} {v : Value} {l : List Int} (h : IntsAt w v l) : ∃ a cap, v = .slice a l.length cap := by
  rcases h with ⟨rfl, a, cap, rfl⟩ | ⟨b, o, cap, rfl, _⟩
  · exact ⟨a, cap, rfl⟩
  · exact ⟨_, cap, rfl⟩
theorem IntsAt.at_ {w : World} {v : Value} {l : List Int} (h : IntsAt w v l) {tB tE : TypeId} (h2 : P.underlying tB = some (.slice tE)) (hs : (P.info? tE).map (·.size) = some 1) {i : Nat} (hi : i < l.length) :
    ∃ b o cap, v = sl b o l.length cap ∧ cellOf (bk w b) (o + i) = some (.int .i64 l[i]) ∧ ∀ (L : Value → Prop), pu P (oIdxA tB (sl b o l.length cap) (.int .i64 i)) L = L (pt b (o + i)) := by
  rcases h with ⟨rfl, _⟩ | ⟨b, o, cap, rfl, _, h3⟩
  · exact absurd hi (by simp)
  · refine ⟨b, o, cap, rfl, h3 i hi, fun L => ?_⟩
    rw [oIdxA_sl (size := 1) L h2 hs (by omega) (by omega)]
    rw [Int.toNat_natCast, Nat.mul_one]
theorem open_ints {H : Type} {enc : TypeId × Value → H} {W : World} {r : Reach} {b0 : Nat} {t e : TypeId} {v : Value} {d : DataW H} {p : List MemPlace} (ht : P.underlying t = some (.slice e)) (he : P.underlying e = some (.int .i64)) (hc : P.cellsOf e = 1) (hv : Value.okWide P W r b0 t v) (h : DataW.Trod enc P W 0 (fun _ => true) true t v d p) : ∃ l : List Int, IntsAt W v l ∧ (∀ x ∈ l, i64 x) ∧ l.length ≤ maxLen := by
  obtain ⟨a, n, cap, rfl⟩ := okWide_slice ht hv
  obtain ⟨fuel, hf⟩ := h
  have hf : DataW.trod enc P W 0 (fun _ => true) true fuel t [.slice a n cap] = some (d, p) := hf
  rcases open_elems (size := 1) ht hc (by omega) hf with ⟨a', cap', e⟩ | ⟨b, o, n', cap', e, h1, h2, h3, h4, m, h5⟩
  · injection e with e
    rw [e]
    exact ⟨[], .inl ⟨rfl, a', cap', rfl⟩, fun q hq => (by cases hq), by simp⟩
  · injection e with e
    rw [e]
    obtain ⟨l, hl, hq⟩ := choose_range (fun i (x : Int) => cellOf (bk W b) (o + i) = some (.int .i64 x) ∧ i64 x) n' fun i hi => by
      obtain ⟨c, y, e1, e2⟩ := h5 i hi
      obtain ⟨x, rfl, q1⟩ := open_i64 he e2
      rw [Nat.mul_one] at e1
      exact ⟨x, by have := cell_row e1 0 (by omega); simpa using this, q1⟩
    subst hl
    refine ⟨l, .inr ⟨b, o, cap', rfl, h3, fun i hi => (hq i hi).1⟩, fun x hm => ?_, by omega⟩
    obtain ⟨i, hi, rfl⟩ := List.getElem_of_mem hm
    exact (hq i hi).2

/-- The steps that the moves come to. -/
def skm (a b : Int) : Stp := mkStp 16 [] (.slice none 0 0) a b 0
def goTo (s : FS) (q : Stp) : FS := { s with pos := seekTo s q.off q.wh }
theorem goTo_pos {s : FS} {q : Stp} (k : Nat) (hb : s.bytes.length ≤ 4096) (h1 : -(1099511627776 * (k : Int) + 4096) ≤ s.pos ∧ s.pos ≤ 1099511627776 * (k : Int) + 4096) (h2 : -1099511627776 ≤ q.off ∧ q.off ≤ 1099511627776) :
    -(1099511627776 * ((k + 1 : Nat) : Int) + 4096) ≤ (goTo s q).pos ∧ (goTo s q).pos ≤ 1099511627776 * ((k + 1 : Nat) : Int) + 4096 := by
  unfold goTo seekTo
  simp only
  split
  · omega
  · split
    · omega
    · split <;> omega
theorem runs_seek : ∀ (qs : List Stp) (s : FS) (k : Nat), s.cl = false → s.bytes.length ≤ 4096 → (-(1099511627776 * (k : Int) + 4096) ≤ s.pos ∧ s.pos ≤ 1099511627776 * (k : Int) + 4096) → k + qs.length ≤ 1000 → (∀ q ∈ qs, q.op = 16 ∧ -1099511627776 ≤ q.off ∧ q.off ≤ 1099511627776) →
    ∃ As s', Runs qs s As s' ∧ s'.bytes = s.bytes ∧ ∀ i (h1 : i < qs.length) (h2 : i < As.length), As[i].e = 0 ∧ As[i].off = ((qs.take (i + 1)).foldl goTo s).pos
  | [], s, k, _, _, _, _, _ => ⟨[], s, .nil s, rfl, fun i h => absurd h (by simp)⟩
  | q :: qs, s, k, hc, hb, hp, hk, hg => by
    have g := hg q (List.mem_cons_self ..)
    simp only [List.length_cons] at hk
    have hp2 := goTo_pos (q := q) k hb hp g.2
    obtain ⟨As, s', hR, e1, e2⟩ := runs_seek qs (goTo s q) (k + 1) hc hb hp2 (by omega) fun x hx => hg x (List.mem_cons_of_mem _ hx)
    refine ⟨_ :: As, s', .cons (does_seek g.1 hc ⟨by omega, by omega⟩ ⟨by omega, by omega⟩ (by omega)) hR, e1, fun i h1 h2 => ?_⟩
    cases i with
    | zero => exact ⟨rfl, rfl⟩
    | succ i => exact e2 i (by simpa using h1) (by simpa using h2)
/-- The first so many of the steps. -/
def qsOf (mv wh : List Int) (n : Nat) : List Stp := (List.range n).map fun i => skm (mv.getD i 0) (wh.getD i 0)
theorem qsOf_succ (mv wh : List Int) (n : Nat) : qsOf mv wh (n + 1) = qsOf mv wh n ++ [skm (mv.getD n 0) (wh.getD n 0)] := by
  unfold qsOf; rw [List.range_succ, List.map_append]; rfl
theorem qsOf_len (mv wh : List Int) (n : Nat) : (qsOf mv wh n).length = n := by simp [qsOf]
theorem qsOf_take (mv wh : List Int) (n i : Nat) (h : i ≤ n) : (qsOf mv wh n).take i = qsOf mv wh i := by
  unfold qsOf; rw [← List.map_take, List.take_range, Nat.min_eq_left h]

/-- The file behind so many moves. -/
def stAt (data : List UInt8) (mv wh : List Int) (n : Nat) : FS := (qsOf mv wh n).foldl goTo ⟨data, 0, false, false⟩
theorem stAt_succ (data : List UInt8) (mv wh : List Int) (n : Nat) : stAt data mv wh (n + 1) = goTo (stAt data mv wh n) (skm (mv.getD n 0) (wh.getD n 0)) := by
  unfold stAt; rw [qsOf_succ, List.foldl_append]; rfl
theorem stAt_bytes (data : List UInt8) (mv wh : List Int) : ∀ n, (stAt data mv wh n).bytes = data
  | 0 => rfl
  | n + 1 => by rw [stAt_succ]; exact stAt_bytes data mv wh n
theorem stAt_pos (data : List UInt8) (mv wh : List Int) (hd : data.length ≤ 4096) : ∀ n, (∀ j, j < n → -1099511627776 ≤ mv.getD j 0 ∧ mv.getD j 0 ≤ 1099511627776) → -(1099511627776 * (n : Int) + 4096) ≤ (stAt data mv wh n).pos ∧ (stAt data mv wh n).pos ≤ 1099511627776 * (n : Int) + 4096
  | 0, _ => by show _ ≤ (0 : Int) ∧ (0 : Int) ≤ _; omega
  | n + 1, h => by
    rw [stAt_succ]
    exact goTo_pos n (by rw [stAt_bytes]; exact hd) (stAt_pos data mv wh hd n fun j hj => h j (by omega)) (h n (by omega))
def wantOf (data : List UInt8) (mv wh : List Int) (n : Nat) : List Value := (List.range n).map fun j => .int .i64 (stAt data mv wh (j + 1)).pos
theorem wantOf_succ (data : List UInt8) (mv wh : List Int) (n : Nat) : wantOf data mv wh (n + 1) = wantOf data mv wh n ++ [.int .i64 (stAt data mv wh (n + 1)).pos] := by
  unfold wantOf; rw [List.range_succ, List.map_append]; rfl

set_option maxHeartbeats 4000000 in
theorem FnSeekMoves_law {w : World} {t0 t1 t2 : Value} {data : List UInt8} {mv wh : List Int} {m : Nat → Nat × Nat} (hd : BS w t0 data) (hdl : data.length ≤ 140737488351232) (hs : Sn w w.heap.size m) (hm : IntsAt w t1 mv) (hw : IntsAt w t2 wh) (hml : mv.length ≤ maxLen) (hwl : wh.length ≤ maxLen) :
    Cl P Fn.laws_FnSeekMoves #[t0, t1, t2] w fun v w' => v = .bool true ∧ Below w.heap.size w w' := by
  apply S_laws_FnSeekMoves
  unfold F_laws_FnSeekMoves
  obtain ⟨a0, c0, rfl⟩ := BS_slice hd
  obtain ⟨a1, c1, e1⟩ := hm.slice
  obtain ⟨a2, c2, e2⟩ := hw.slice
  rw [e1, e2]
  simp only [maxLen] at hml hwl
  by_cases h1 : (2147483647 : Int) < data.length
  · repeat (first | refine jn_intro ?_ | refine fun (_ : Env) => ?_ | simp (disch := first | omega | (simp only [size_setb, size_alloc', size_drew'] <;> omega) | (simp (disch := first | omega | (simp only [size_setb, size_alloc', size_drew'] <;> omega) | fail) only [go_sem]; done) | fail) only [go_sem, dec_t, dec_f, w_u32, w_u64, w_u16, w_u8, w_i64, Int.reduceToNat, Int.reducePow, Nat.reducePow])
    exact ⟨trivial, Below.refl _ _⟩
  by_cases h2 : (2147483647 : Int) < mv.length
  · repeat (first | refine jn_intro ?_ | refine fun (_ : Env) => ?_ | simp (disch := first | omega | (simp only [size_setb, size_alloc', size_drew'] <;> omega) | (simp (disch := first | omega | (simp only [size_setb, size_alloc', size_drew'] <;> omega) | fail) only [go_sem]; done) | fail) only [go_sem, dec_t, dec_f, w_u32, w_u64, w_u16, w_u8, w_i64, Int.reduceToNat, Int.reducePow, Nat.reducePow])
    exact ⟨trivial, Below.refl _ _⟩
  by_cases h3 : (2147483647 : Int) < wh.length
  · repeat (first | refine jn_intro ?_ | refine fun (_ : Env) => ?_ | simp (disch := first | omega | (simp only [size_setb, size_alloc', size_drew'] <;> omega) | (simp (disch := first | omega | (simp only [size_setb, size_alloc', size_drew'] <;> omega) | fail) only [go_sem]; done) | fail) only [go_sem, dec_t, dec_f, w_u32, w_u64, w_u16, w_u8, w_i64, Int.reduceToNat, Int.reducePow, Nat.reducePow])
    exact ⟨trivial, Below.refl _ _⟩
  refine jn_with (fun t w' => w' = w) ?_ (by simp (disch := first | omega | (simp only [size_setb, size_alloc', size_drew'] <;> omega) | (simp (disch := first | omega | (simp only [size_setb, size_alloc', size_drew'] <;> omega) | fail) only [go_sem]; done) | fail) only [go_sem, dec_t, dec_f, w_u32, w_u64, w_u16, w_u8, w_i64, Int.reduceToNat, Int.reducePow, Nat.reducePow])
  rintro t e w0 rfl
  obtain ⟨n, hn⟩ : ∃ n : Nat, (min (mv.length : Int) (wh.length : Int)) = n := ⟨min mv.length wh.length, by omega⟩
  have hn1 : n ≤ mv.length := by omega
  have hn2 : n ≤ wh.length := by omega
  rw [V.len_sl_int64, V.len_sl_int, oMinI, hn]
  by_cases g1 : (4096 : Int) < data.length
  · repeat (first | refine jn_intro ?_ | refine fun (_ : Env) => ?_ | simp (disch := first | omega | (simp only [size_setb, size_alloc', size_drew'] <;> omega) | (simp (disch := first | omega | (simp only [size_setb, size_alloc', size_drew'] <;> omega) | fail) only [go_sem]; done) | fail) only [go_sem, dec_t, dec_f, w_u32, w_u64, w_u16, w_u8, w_i64, Int.reduceToNat, Int.reducePow, Nat.reducePow])
    exact ⟨trivial, Below.refl _ _⟩
  by_cases g2 : (20 : Int) < n
  · repeat (first | refine jn_intro ?_ | refine fun (_ : Env) => ?_ | simp (disch := first | omega | (simp only [size_setb, size_alloc', size_drew'] <;> omega) | (simp (disch := first | omega | (simp only [size_setb, size_alloc', size_drew'] <;> omega) | fail) only [go_sem]; done) | fail) only [go_sem, dec_t, dec_f, w_u32, w_u64, w_u16, w_u8, w_i64, Int.reduceToNat, Int.reducePow, Nat.reducePow])
    exact ⟨trivial, Below.refl _ _⟩
  refine jn_with (fun t w' => w' = w0) ?_ (by simp (disch := first | omega | (simp only [size_setb, size_alloc', size_drew'] <;> omega) | (simp (disch := first | omega | (simp only [size_setb, size_alloc', size_drew'] <;> omega) | fail) only [go_sem]; done) | fail) only [go_sem, dec_t, dec_f, w_u32, w_u64, w_u16, w_u8, w_i64, Int.reduceToNat, Int.reducePow, Nat.reducePow])
  rintro t e w1 rfl
  have hdl4 : data.length ≤ 4096 := by omega
  rw [oBuildSlice0 (n := 10) _ _ U.sl_impl_Step (by kernel_rfl), oBuildSlice0 (n := 1) _ _ U.sl_int64 (by kernel_rfl)]
  have B0 : Below w1.heap.size w1 ((w1.alloc (CB [] T.impl_Step)).alloc (CB [] T.int64)) := by repeat (first | exact Below.refl _ _ | assumption | refine bel_setb ?_ (by first | exact Nat.le_refl _ | omega | (simp only [go_sem] <;> omega)) _ | refine Below.alloc ?_ (by first | exact Nat.le_refl _ | omega | (simp only [go_sem]; omega)) _ | refine Below.drew ?_)
  refine jn_with (fun t w' => ∃ sv wv, t = [sv, wv] ∧ w'.ownsRow w1.heap.size T.impl_Step 10 sv n ((qsOf mv wh n).map Stp.cells).flatten ∧ w'.ownsRow w1.heap.size T.int64 1 wv n (wantOf data mv wh n) ∧ Below w1.heap.size w1 w' ∧ ∀ j, j < n → -1099511627776 ≤ mv.getD j 0 ∧ mv.getD j 0 ≤ 1099511627776) ?_ ?_
  · rintro t e w2 ⟨sv, wv, rfl, osv, owv, b2, hbd⟩
    rw [gs0, C.impl_HandleScript]
    have hql := qsOf_len mv wh n
    have hq : StepsAt w2 sv (qsOf mv wh n) := by
      refine ⟨fun q hq => ?_, ?_⟩
      · obtain ⟨j, _, rfl⟩ := List.mem_map.1 hq
        exact .inl ⟨rfl, _, _, rfl⟩
      · by_cases hn0 : n = 0
        · subst hn0
          obtain ⟨a, cap, rfl⟩ := own_slice osv
          exact .inl ⟨rfl, a, cap, rfl⟩
        · obtain ⟨b, cap, rfl, q1, q2, q3, rows⟩ := own_elem osv (fun c hc => by obtain ⟨q, _, rfl⟩ := List.mem_map.1 hc; rfl) (by rw [List.length_map, hql]) hn0
          refine .inr ⟨b, 0, cap, by rw [hql], q2, fun j hj => ?_⟩
          have := rows j (by rw [List.length_map]; exact hj)
          rw [Nat.zero_add, this, List.getElem_map]
    obtain ⟨As, s', hR, eb, eA⟩ := runs_seek (qsOf mv wh n) ⟨data, 0, false, false⟩ 0 rfl hdl4 (by show _ ≤ (0 : Int) ∧ (0 : Int) ≤ _; omega) (by omega) fun q hq => by
      obtain ⟨j, hj, rfl⟩ := List.mem_map.1 hq
      exact ⟨rfl, hbd j (List.mem_range.1 hj)⟩
    have eb : s'.bytes = data := eb
    have hs2 : Sn w2 w2.heap.size m := ⟨fun g hg => ⟨by have := ((hs.below b2).at_ g hg).1; have := b2.size; omega, ((hs.below b2).at_ g hg).2⟩, fun g hg => ⟨by have := ((hs.below b2).cell g hg).1; have := b2.size; omega, ((hs.below b2).cell g hg).2⟩, hs.inj⟩
    refine script_spec (m := m) (BS_old hd b2 (Nat.le_refl _)) (by omega) hs2 hq (by omega) hR (by rw [eb]; omega) fun w4 av lv cs b4 o4 hcl hA hlv => ?_
    have hlen := hR.len
    rw [hql] at hlen
    rw [eb] at hlv
    rw [oExtract2_0, oExtract2_1]
    have B4 := b2.trans (b4.mono b2.size)
    have hd4 := BS_old hd B4 (Nat.le_refl _)
    have owv4 := own_old owv b4 (Nat.le_refl _)
    obtain ⟨aa, ca, rfl⟩ := own_slice o4
    rw [hlen] at o4 hcl ⊢
    have cvl : ∀ (L : Value → World → Prop), st P (oConv T.sl_uint8 T.string lv) w4 L = L (S data) w4 := fun L => stConvBS U.string U.sl_uint8 U.uint8 hlv
    have cvd : ∀ (L : Value → World → Prop), st P (oConv T.sl_uint8 T.string (.slice a0 data.length c0)) w4 L = L (S data) w4 := fun L => stConvBS U.string U.sl_uint8 U.uint8 hd4
    refine jn_with (fun t w' => w' = w4) ?_ ?_
    · rintro t e w5 rfl
      refine jn_with (fun t w' => Below w5.heap.size w5 w') ?_ ?_
      · rintro t e w6 b6
        exact ⟨rfl, B4.trans (b6.mono B4.size)⟩
      simp (disch := first | omega | (simp only [size_setb, size_alloc', size_drew'] <;> omega) | (simp (disch := first | omega | (simp only [size_setb, size_alloc', size_drew'] <;> omega) | fail) only [go_sem]; done) | fail) only [go_sem, dec_t, dec_f, w_u32, w_u64, w_u16, w_u8, w_i64, Int.reduceToNat, Int.reducePow, Nat.reducePow]
      refine lp_intro (fun t w' => Below w5.heap.size w5 w' ∧ ∃ i : Nat, t = [.int .i64 i] ∧ i ≤ n) (fun t _ => n - (RowKit.intOf (gs t 0)).toNat) ⟨Below.refl _ _, 0, rfl, by omega⟩ ?_
      rintro t e w6 ⟨b6, i, rfl, hi⟩
      by_cases g : (i : Int) < n
      · have hix : i < n := by omega
        simp (disch := first | omega | (simp only [size_setb, size_alloc', size_drew'] <;> omega) | (simp (disch := first | omega | (simp only [size_setb, size_alloc', size_drew'] <;> omega) | fail) only [go_sem]; done) | fail) only [go_sem, dec_t, dec_f, w_u32, w_u64, w_u16, w_u8, w_i64, Int.reduceToNat, Int.reducePow, Nat.reducePow]
        refine jn_with (fun t w' => t = [] ∧ w' = w6) ?_ ⟨rfl, rfl⟩
        rintro t e w7 ⟨rfl, rfl⟩
        have hcl6 : ∀ c ∈ cs, c.length = 6 := fun c hc => by
          obtain ⟨i, hi, rfl⟩ := List.getElem_of_mem hc
          obtain ⟨x, e, _⟩ := hA i hi (by omega)
          rw [e]; rfl
        obtain ⟨ab, ac, ea, q1, q2, q3, rows⟩ := own_elem o4 hcl6 hcl (by omega)
        obtain ⟨x, ex, bx, _⟩ := hA i (by omega) (by omega)
        have hr := rows i (by omega)
        rw [ex] at hr
        have he := eA i (by omega) (by omega)
        rw [qsOf_take mv wh n (i + 1) (by omega)] at he
        have hoff : As[i].off = (stAt data mv wh (i + 1)).pos := he.2
        have he0 := he.1
        obtain ⟨wb, wc, cur, ew, r1, r2, r3, r4, r5, r6⟩ := own_row owv4 (by omega)
        have cw : cellOf (bk w5 wb) i = some (.int .i64 (stAt data mv wh (i + 1)).pos) := by
          rw [r4, cellOf_CB]
          have h7 : (cur.take (n * 1))[i]? = some (.int .i64 (stAt data mv wh (i + 1)).pos) := by rw [r6]; simp [wantOf, hix]
          rwa [List.getElem?_take_of_lt (by omega)] at h7
        rw [ea, ew]
        generalize As[i] = A at *
        generalize (stAt data mv wh (i + 1)).pos = p at *
        have one := BS_one bx
        have z := b6.size
        have ixa : ∀ (L : Value → Prop), pu P (oIdxA T.sl_impl_Answer (sl ab 0 n ac) (.int .i64 i)) L = L (pt ab (i * 6)) := fun L => by
          rw [oIdxA_sl (size := 6) L U.sl_impl_Answer (by kernel_rfl) (by omega) (by omega)]
          rw [Int.toNat_natCast, Nat.zero_add]
        have ixv : ∀ (L : Value → Prop), pu P (oIdxA T.sl_int64 (sl wb 0 n wc) (.int .i64 i)) L = L (pt wb i) := fun L => by
          rw [oIdxA_sl (size := 1) L U.sl_int64 (by kernel_rfl) (by omega) (by omega)]
          rw [Int.toNat_natCast, Nat.zero_add, Nat.mul_one]
        have hr7 : rowOf (bk w7 ab) (i * 6) 6 = some (ansL A.e A.n A.off x) := by rw [bel_bk b6 q2]; exact hr
        refine jn_with (fun t w' => t = [] ∧ Below w5.heap.size w5 w') ?_ ?_
        · rintro t e w8 ⟨rfl, b8⟩
          refine ⟨⟨b8, i + 1, rfl, by omega⟩, ?_⟩
          simp only [RowKit.intOf]
          omega
        · rw [ixa]
          rw [M.ld_impl_Answer (h := by rw [hr7]; rfl), hr7]
          simp (disch := first | omega | (simp only [size_setb, size_alloc', size_drew'] <;> omega) | (simp (disch := first | omega | (simp only [size_setb, size_alloc', size_drew'] <;> omega) | fail) only [go_sem, one]; done) | fail) only [go_sem, dec_t, dec_f, w_u32, w_u64, w_u16, w_u8, w_i64, Int.reduceToNat, Int.reducePow, Nat.reducePow, one]
          obtain ⟨wA, hwA⟩ : ∃ wA : World, wA = setb (w7.alloc (CB [Value.int IntKind.i64 0, Value.int IntKind.i64 0, Value.int IntKind.i64 0, Value.slice none 0 0, Value.slice none 0 0, Value.slice none 0 0] T.impl_Answer)) w7.heap.size (CB [Value.int IntKind.i64 A.e, Value.int IntKind.i64 A.n, Value.int IntKind.i64 A.off, x, Value.slice none 0 0, Value.slice none 0 0] T.impl_Answer) := ⟨_, rfl⟩
          have bA : Below w5.heap.size w5 wA := by subst hwA; repeat (first | exact Below.refl _ _ | assumption | refine bel_setb ?_ (by first | exact Nat.le_refl _ | omega | (simp only [go_sem] <;> omega)) _ | refine Below.alloc ?_ (by first | exact Nat.le_refl _ | omega | (simp only [go_sem]; omega)) _ | refine Below.drew ?_)
          rw [← hwA]
          have cA : cellOf (bk wA wb) i = some (Value.int IntKind.i64 p) := by rw [bel_bk bA r3]; exact cw
          clear hwA
          simp (disch := first | omega | (simp only [size_setb, size_alloc', size_drew'] <;> omega) | (simp (disch := first | omega | (simp only [size_setb, size_alloc', size_drew'] <;> omega) | fail) only [go_sem, ixv, cA, hoff, ne_eq, not_true_eq_false, decide_false]; done) | fail) only [go_sem, dec_t, dec_f, w_u32, w_u64, w_u16, w_u8, w_i64, Int.reduceToNat, Int.reducePow, Nat.reducePow, ixv, cA, hoff, ne_eq, not_true_eq_false, decide_false]
          exact ⟨trivial, bA.drew⟩
      · have e1 : i = n := by omega
        subst e1
        simp (disch := first | omega | (simp only [size_setb, size_alloc', size_drew'] <;> omega) | (simp (disch := first | omega | (simp only [size_setb, size_alloc', size_drew'] <;> omega) | fail) only [go_sem]; done) | fail) only [go_sem, dec_t, dec_f, w_u32, w_u64, w_u16, w_u8, w_i64, Int.reduceToNat, Int.reducePow, Nat.reducePow]
        exact jn_with (fun _ _ => False) (fun _ _ _ h => h.elim) b6
    · simp (disch := first | omega | (simp only [size_setb, size_alloc', size_drew'] <;> omega) | (simp (disch := first | omega | (simp only [size_setb, size_alloc', size_drew'] <;> omega) | fail) only [go_sem, cvl, cvd, ne_eq, not_true_eq_false, decide_false]; done) | fail) only [go_sem, dec_t, dec_f, w_u32, w_u64, w_u16, w_u8, w_i64, Int.reduceToNat, Int.reducePow, Nat.reducePow, cvl, cvd, ne_eq, not_true_eq_false, decide_false]
  · refine lp_intro (fun t w' => ∃ sv wv, ∃ i : Nat, t = [sv, wv, .int .i64 (stAt data mv wh i).pos, .int .i64 i] ∧ i ≤ n ∧ w'.ownsRow w1.heap.size T.impl_Step 10 sv i ((qsOf mv wh i).map Stp.cells).flatten ∧ w'.ownsRow w1.heap.size T.int64 1 wv i (wantOf data mv wh i) ∧ (∀ k, sv.ownBlock = some k → wv.ownBlock ≠ some k) ∧ Below w1.heap.size w1 w' ∧ ∀ j, j < i → -1099511627776 ≤ mv.getD j 0 ∧ mv.getD j 0 ≤ 1099511627776)
      (fun t _ => n - (RowKit.intOf (gs t 3)).toNat) ⟨_, _, 0, rfl, by omega, ⟨rfl, .inr ⟨_, _, #[], rfl, Nat.le_refl _, ?_, by simp, by simp [maxLen], by simp, rfl⟩⟩, ⟨rfl, .inr ⟨_, _, #[], rfl, ?_, ?_, by simp, by simp [maxLen], by simp, rfl⟩⟩, ?_, B0, fun j hj => absurd hj (by omega)⟩ ?_
    · show bk _ w1.heap.size = _
      rw [bk_alloc_ne _ _ _ (by simp only [go_sem]; omega), bk_alloc_eq _ _ _ rfl]
    · simp only [go_sem]; omega
    · exact bk_alloc_eq _ _ _ rfl
    · intro k hk e
      have k1 : w1.heap.size = k := Option.some.inj hk
      have k2 : (w1.alloc (CB [] T.impl_Step)).heap.size = k := Option.some.inj e
      simp only [go_sem] at k2
      omega
    rintro t e w2 ⟨sv, wv, i, rfl, hi, osv, owv, hne, b2, hbd⟩
    have hpb := stAt_pos data mv wh hdl4 i hbd
    by_cases g : (i : Int) < n
    · simp (disch := first | omega | (simp only [size_setb, size_alloc', size_drew'] <;> omega) | (simp (disch := first | omega | (simp only [size_setb, size_alloc', size_drew'] <;> omega) | fail) only [go_sem]; done) | fail) only [go_sem, dec_t, dec_f, w_u32, w_u64, w_u16, w_u8, w_i64, Int.reduceToNat, Int.reducePow, Nat.reducePow]
      refine jn_with (fun t w' => t = [] ∧ w' = w2) ?_ ⟨rfl, rfl⟩
      rintro t e w3 ⟨rfl, rfl⟩
      have him : i < mv.length := by omega
      have hiw : i < wh.length := by omega
      have z2 := b2.size
      obtain ⟨bm, om, cm, em, cellm, ixm⟩ := (hm.old b2).at_ U.sl_int64 (by kernel_rfl) him
      obtain ⟨bw, ow, cw, ew, cellw, ixw⟩ := (hw.old b2).at_ U.sl_int (by kernel_rfl) hiw
      rw [e1] at em
      rw [e2] at ew
      rw [em, ew]
      have gm : mv.getD i 0 = mv[i] := by simp [List.getD, him]
      have gw : wh.getD i 0 = wh[i] := by simp [List.getD, hiw]
      have hst := stAt_succ data mv wh i
      rw [gm, gw] at hst
      have hqs := qsOf_succ mv wh i
      rw [gm, gw] at hqs
      have hwn := wantOf_succ data mv wh i
      have hby := stAt_bytes data mv wh i
      have hpos : (stAt data mv wh (i + 1)).pos = seekTo (stAt data mv wh i) mv[i] wh[i] := by rw [hst]; rfl
      refine jn_with (fun t w' => ∃ sv' wv', t = [sv', wv', .int .i64 (stAt data mv wh (i + 1)).pos] ∧ w'.ownsRow w1.heap.size T.impl_Step 10 sv' (i + 1) ((qsOf mv wh (i + 1)).map Stp.cells).flatten ∧ w'.ownsRow w1.heap.size T.int64 1 wv' (i + 1) (wantOf data mv wh (i + 1)) ∧ (∀ k, sv'.ownBlock = some k → wv'.ownBlock ≠ some k) ∧ Below w1.heap.size w1 w' ∧ -1099511627776 ≤ mv[i] ∧ mv[i] ≤ 1099511627776) ?_ ?_
      · rintro t e w4 ⟨sv', wv', rfl, osv', owv', hne', b4, hb4⟩
        simp (disch := first | omega | (simp only [size_setb, size_alloc', size_drew'] <;> omega) | (simp (disch := first | omega | (simp only [size_setb, size_alloc', size_drew'] <;> omega) | fail) only [go_sem]; done) | fail) only [go_sem, dec_t, dec_f, w_u32, w_u64, w_u16, w_u8, w_i64, Int.reduceToNat, Int.reducePow, Nat.reducePow]
        refine ⟨⟨sv', wv', i + 1, rfl, by omega, osv', owv', hne', b4, fun j hj => ?_⟩, ?_⟩
        · by_cases q : j = i
          · subst q; rw [gm]; exact hb4
          · exact hbd j (by omega)
        · simp only [RowKit.intOf]
          omega
      · generalize mv[i] = a at *
        generalize wh[i] = b at *
        by_cases l1 : 1099511627776 < a
        · refine jn_with (fun _ _ => False) (fun _ _ _ h => h.elim) ?_
          simp (disch := first | omega | (simp only [size_setb, size_alloc', size_drew'] <;> omega) | (simp (disch := first | omega | (simp only [size_setb, size_alloc', size_drew'] <;> omega) | fail) only [go_sem, ixm, cellm]; done) | fail) only [go_sem, dec_t, dec_f, w_u32, w_u64, w_u16, w_u8, w_i64, Int.reduceToNat, Int.reducePow, Nat.reducePow, ixm, cellm]
          exact ⟨trivial, b2⟩
        by_cases l2 : a < -1099511627776
        · refine jn_with (fun _ _ => False) (fun _ _ _ h => h.elim) ?_
          simp (disch := first | omega | (simp only [size_setb, size_alloc', size_drew'] <;> omega) | (simp (disch := first | omega | (simp only [size_setb, size_alloc', size_drew'] <;> omega) | fail) only [go_sem, ixm, cellm]; done) | fail) only [go_sem, dec_t, dec_f, w_u32, w_u64, w_u16, w_u8, w_i64, Int.reduceToNat, Int.reducePow, Nat.reducePow, ixm, cellm]
          exact ⟨trivial, b2⟩
        refine jn_with (fun t w' => w' = w3) ?_ (by simp (disch := first | omega | (simp only [size_setb, size_alloc', size_drew'] <;> omega) | (simp (disch := first | omega | (simp only [size_setb, size_alloc', size_drew'] <;> omega) | fail) only [go_sem, ixm, cellm]; done) | fail) only [go_sem, dec_t, dec_f, w_u32, w_u64, w_u16, w_u8, w_i64, Int.reduceToNat, Int.reducePow, Nat.reducePow, ixm, cellm])
        rintro t e w4 rfl
        refine jn_with (fun t w' => t = [.int .i64 (stAt data mv wh (i + 1)).pos] ∧ w' = w4) ?_ ?_
        · rintro t e w5 ⟨rfl, rfl⟩
          generalize (stAt data mv wh (i + 1)).pos = p at *
          simp (disch := first | omega | (simp only [size_setb, size_alloc', size_drew'] <;> omega) | (simp (disch := first | omega | (simp only [size_setb, size_alloc', size_drew'] <;> omega) | fail) only [go_sem, ixm, cellm, ixw, cellw]; done) | fail) only [go_sem, dec_t, dec_f, w_u32, w_u64, w_u16, w_u8, w_i64, Int.reduceToNat, Int.reducePow, Nat.reducePow, ixm, cellm, ixw, cellw]
          have ltS := own_lt osv
          have ltW := own_lt owv
          have Bd : Below w5.heap.size w5 (w5.drew.alloc (CB (skm a b).cells T.impl_Step)) := by repeat (first | exact Below.refl _ _ | assumption | refine bel_setb ?_ (by first | exact Nat.le_refl _ | omega | (simp only [go_sem] <;> omega)) _ | refine Below.alloc ?_ (by first | exact Nat.le_refl _ | omega | (simp only [go_sem]; omega)) _ | refine Below.drew ?_)
          have zd : (w5.drew.alloc (CB (skm a b).cells T.impl_Step)).heap.size = w5.heap.size + 1 := by simp only [go_sem]
          rw [show AG [Value.int IntKind.i64 16, S [], S [], Value.int IntKind.i64 0, Value.int IntKind.i64 0, Value.int IntKind.i64 0, Value.slice none 0 0, Value.int IntKind.i64 a, Value.int IntKind.i64 b, Value.int IntKind.i64 0] = AG (skm a b).cells from rfl]
          rw [oBuildSliceN (size := 10) (z := AG stpZ) _ _ U.sl_impl_Step (by kernel_rfl) (by omega) (by omega) (l := (skm a b).cells) rfl]
          have kd : bk (w5.drew.alloc (CB (skm a b).cells T.impl_Step)) w5.drew.heap.size = some (CB (skm a b).cells T.impl_Step) := bk_alloc_eq _ _ _ rfl
          generalize w5.drew.alloc (CB (skm a b).cells T.impl_Step) = w6 at *
          refine oAppend_own_at (size := 10) (bytes := 112) (z := AG stpZ) (news := (skm a b).cells) U.sl_impl_Step (by kernel_rfl) rfl (by omega) (own_old osv Bd (Nat.le_refl _)) rfl (by rw [kd]; rfl) (fun u hu => ?_) (by simp only [maxLen]; omega) (by omega) (by omega) fun sv' w7 o7 g7 s7 => ?_
          · simp only [skm, mkStp, Stp.cells, List.mem_cons, List.not_mem_nil, or_false] at hu
            rcases hu with rfl | rfl | rfl | rfl | rfl | rfl | rfl | rfl | rfl | rfl <;> rfl
          have K7 := Kp.of_grown g7
          have z7 := K7.size
          have ow7 : w7.ownsRow w1.heap.size T.int64 1 wv i (wantOf data mv wh i) := own_kp (own_old owv Bd (Nat.le_refl _)) K7 fun k hk e => hne k e hk
          have B7 : Below w1.heap.size w1 w7 := (b2.trans (Bd.mono z2)).trans (K7.below (fun k hk e => by have := (ltS k e).1; omega) (by omega))
          rw [oBuildSlice1 (z := .int .i64 0) _ _ U.sl_int64 (by kernel_rfl) rfl]
          have Be : Below w7.heap.size w7 (w7.alloc (CB [.int .i64 p] T.int64)) := by repeat (first | exact Below.refl _ _ | assumption | refine bel_setb ?_ (by first | exact Nat.le_refl _ | omega | (simp only [go_sem] <;> omega)) _ | refine Below.alloc ?_ (by first | exact Nat.le_refl _ | omega | (simp only [go_sem]; omega)) _ | refine Below.drew ?_)
          have ze : (w7.alloc (CB [.int .i64 p] T.int64)).heap.size = w7.heap.size + 1 := by simp only [go_sem]
          have ke : bk (w7.alloc (CB [.int .i64 p] T.int64)) w7.heap.size = some (CB [.int .i64 p] T.int64) := bk_alloc_eq _ _ _ rfl
          generalize w7.alloc (CB [.int .i64 p] T.int64) = w8 at *
          refine oAppend_own_at (size := 1) (bytes := 8) (z := .int .i64 0) (news := [.int .i64 p]) U.sl_int64 (by kernel_rfl) rfl (by omega) (own_old ow7 Be (Nat.le_refl _)) rfl (by rw [ke]; rfl) (fun u hu => by simp only [List.mem_singleton] at hu; subst hu; rfl) (by simp only [maxLen]; omega) (by omega) (by omega) fun wv' w9 o9 g9 s9 => ?_
          have K9 := Kp.of_grown g9
          have hs' : ∀ k, sv'.ownBlock = some k → sv.ownBlock = some k ∨ k = w6.heap.size := fun k hk => by
            rcases s7 with h | h
            · exact .inl (by rw [← h]; exact hk)
            · rw [hk] at h; exact .inr (Option.some.inj h)
          have hw' : ∀ k, wv'.ownBlock = some k → wv.ownBlock = some k ∨ k = w8.heap.size := fun k hk => by
            rcases s9 with h | h
            · exact .inl (by rw [← h]; exact hk)
            · rw [hk] at h; exact .inr (Option.some.inj h)
          have lt7 := own_lt o7
          refine ⟨sv', wv', rfl, ?_, ?_, fun k hk e => ?_, ?_, by omega, by omega⟩
          · rw [hqs, List.map_append, List.flatten_append]
            have q := own_kp (own_old o7 Be (Nat.le_refl _)) K9 fun k hk e => by
              rcases hs' k hk with h | h
              · exact hne k h e
              · have := (ltW k e).2; omega
            simpa using q
          · rw [hwn]; exact o9
          · rcases hs' k hk with h | h
            · rcases hw' k e with h2 | h2
              · exact hne k h h2
              · have := (ltS k h).2; omega
            · rcases hw' k e with h2 | h2
              · have := (ltW k h2).2; omega
              · have := (lt7 k hk).2; omega
          · exact (B7.trans (Be.mono B7.size)).trans (K9.below (fun k hk e => by have := (ltW k e).1; omega) (by omega))
        · rw [hpos]
          unfold seekTo
          rw [hby]
          by_cases w0 : b = 0
          · simp (disch := first | omega | (simp only [size_setb, size_alloc', size_drew'] <;> omega) | (simp (disch := first | omega | (simp only [size_setb, size_alloc', size_drew'] <;> omega) | fail) only [go_sem, ixm, cellm, ixw, cellw]; done) | fail) only [go_sem, dec_t, dec_f, w_u32, w_u64, w_u16, w_u8, w_i64, Int.reduceToNat, Int.reducePow, Nat.reducePow, ixm, cellm, ixw, cellw]
            exact ⟨by rw [if_pos w0], trivial⟩
          by_cases w1' : b = 1
          · simp (disch := first | omega | (simp only [size_setb, size_alloc', size_drew'] <;> omega) | (simp (disch := first | omega | (simp only [size_setb, size_alloc', size_drew'] <;> omega) | fail) only [go_sem, ixm, cellm, ixw, cellw]; done) | fail) only [go_sem, dec_t, dec_f, w_u32, w_u64, w_u16, w_u8, w_i64, Int.reduceToNat, Int.reducePow, Nat.reducePow, ixm, cellm, ixw, cellw]
            exact ⟨by rw [if_neg w0, if_pos w1'], trivial⟩
          by_cases w2' : b = 2
          · simp (disch := first | omega | (simp only [size_setb, size_alloc', size_drew'] <;> omega) | (simp (disch := first | omega | (simp only [size_setb, size_alloc', size_drew'] <;> omega) | fail) only [go_sem, ixm, cellm, ixw, cellw]; done) | fail) only [go_sem, dec_t, dec_f, w_u32, w_u64, w_u16, w_u8, w_i64, Int.reduceToNat, Int.reducePow, Nat.reducePow, ixm, cellm, ixw, cellw]
            exact ⟨by rw [if_neg w0, if_neg w1', if_pos w2'], trivial⟩
          · simp (disch := first | omega | (simp only [size_setb, size_alloc', size_drew'] <;> omega) | (simp (disch := first | omega | (simp only [size_setb, size_alloc', size_drew'] <;> omega) | fail) only [go_sem, ixm, cellm, ixw, cellw]; done) | fail) only [go_sem, dec_t, dec_f, w_u32, w_u64, w_u16, w_u8, w_i64, Int.reduceToNat, Int.reducePow, Nat.reducePow, ixm, cellm, ixw, cellw]
            exact ⟨by rw [if_neg w0, if_neg w1', if_neg w2'], trivial⟩
    · have e3 : i = n := by omega
      subst e3
      simp (disch := first | omega | (simp only [size_setb, size_alloc', size_drew'] <;> omega) | (simp (disch := first | omega | (simp only [size_setb, size_alloc', size_drew'] <;> omega) | fail) only [go_sem]; done) | fail) only [go_sem, dec_t, dec_f, w_u32, w_u64, w_u16, w_u8, w_i64, Int.reduceToNat, Int.reducePow, Nat.reducePow]
      exact jn_with (fun _ _ => False) (fun _ _ _ h => h.elim) ⟨sv, wv, rfl, osv, owv, b2, hbd⟩
theorem FnSeekMoves_walk (v0 : Value) (l0 : List UInt8) (v1 : Value) (mv : List Int) (v2 : Value) (wh : List Int) (w : World) (bs : BS w v0 l0) (hl : l0.length ≤ 140737488351232) (h1 : IntsAt w v1 mv ∧ (∀ x ∈ mv, i64 x) ∧ mv.length ≤ maxLen) (h2 : IntsAt w v2 wh ∧ (∀ x ∈ wh, i64 x) ∧ wh.length ≤ maxLen) (hL : laidMet P (senL.map senD) w) :
    Cl P Fn.laws_FnSeekMoves #[v0, v1, v2] w fun v w' => v = .bool true ∧ Below w.heap.size w w' := by
  obtain ⟨m, hs⟩ := sn_of hL
  exact FnSeekMoves_law bs hl hs h1.1 h2.1 h1.2.2 h2.2.2
end Go.Proofs.YteblpejgenehfaaDoor.X
