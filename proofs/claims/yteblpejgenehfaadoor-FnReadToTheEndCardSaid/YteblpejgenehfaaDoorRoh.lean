/- FnReadOnlyHandle: the walk. No condition beside the form's own. -/
import Derived.Test.YteblpejgenehfaaDoorRo
import Derived.Test.YteblpejgenehfaaDoorOps
import Derived.Test.YteblpejgenehfaaDoorRia
set_option linter.unusedVariables false
set_option linter.unusedSimpArgs false
set_option maxRecDepth 100000
namespace Go.Proofs.YteblpejgenehfaaDoor.X
open Go Go.X Go.Proofs Go.RowKit

theorem oNeqB {K : Value → Prop} (cx cy : Bool) (x y : Bool) : pu P (oBin .neq T.bool cx cy (.bool x) (.bool y)) K = K (.bool (x != y)) :=
  pu_v' (by
    have h2 : ∀ d : Nat, rp P (Op.equalIn (d + 1) T.bool (.bool x) (.bool y)) = some (x == y) := fun d => by simp [Op.equalIn, rp_bind, rp_underlying U.bool]
    rw [rp_bind, rp_eqGuard_bool]
    show rp P (binOp .neq T.bool (.bool x) (.bool y)) = _
    simp only [binOp]
    simp [Op.equal, Op.maxDepth, h2 9999, rp_bind, rp_map]
    cases x <;> cases y <;> rfl)
theorem does_write_ro {q : Stp} {s : FS} (hop : q.op = 14) (hql : q.data.length ≤ 140737488355328) (hc : s.cl = false) (hr : s.ro = true) : Does q s s ⟨6, 0, 0, []⟩ := by
  intro w B f d v m K h hs hq hqb hk
  exact on_write_ro h hs hop hq hql hc hr fun w' F K => hk w' v _ F K (.inl rfl) (.inl ⟨rfl, _, _, rfl⟩) fun k e => by cases e
theorem does_writeAt_ro {q : Stp} {s : FS} (hop : q.op = 15) (hql : q.data.length ≤ 140737488355328) (hc : s.cl = false) (hr : s.ro = true) : Does q s { s with pos := q.off } ⟨6, 0, 0, []⟩ := by
  intro w B f d v m K h hs hq hqb hk
  exact on_writeAt_ro h hs hop hq hql hc hr fun w' F K => hk w' v _ F K (.inl rfl) (.inl ⟨rfl, _, _, rfl⟩) fun k e => by cases e
theorem does_trunc_ro {q : Stp} {s : FS} (hop : q.op = 17) (hql : q.data.length ≤ 140737488355328) (hc : s.cl = false) (hr : s.ro = true) : Does q s s ⟨6, 0, 0, []⟩ := by
  intro w B f d v m K h hs hq hqb hk
  exact on_trunc_ro h hs hop hq hql hc hr fun w' F K => hk w' v _ F K (.inl rfl) (.inl ⟨rfl, _, _, rfl⟩) fun k e => by cases e
/-- A step that the law speaks of. -/
structure Stp.good (q : Stp) : Prop where
  o1 : 12 ≤ q.op
  o2 : q.op ≤ 17
  n1 : 0 ≤ q.n
  n2 : q.n ≤ 4096
  f1 : 0 ≤ q.off
  f2 : q.off ≤ 4096
  w1 : 0 ≤ q.wh
  w2 : q.wh ≤ 2
  d : q.data.length ≤ 4096
theorem rdF_pos (s : FS) (n : Nat) : s.pos + (rdF s n).1.length ≤ max s.pos s.bytes.length ∨ (rdF s n).1.length = 0 := by
  unfold rdF
  split
  · exact .inr rfl
  · split
    · exact .inr rfl
    · left
      simp only [List.length_take, List.length_drop]
      omega
theorem runs_ro : ∀ (qs : List Stp) (s : FS) (k : Nat), s.cl = false → s.ro = true → 0 ≤ s.pos → s.pos ≤ 8192 + 4096 * k → s.bytes.length ≤ 4096 → k + qs.length ≤ 1000000 → (∀ q ∈ qs, q.good) →
    ∃ As s', Runs qs s As s' ∧ s'.bytes = s.bytes ∧ ∀ i (h1 : i < qs.length) (h2 : i < As.length), (As[i].e = 6 ↔ (qs[i].op = 14 ∨ qs[i].op = 15 ∨ qs[i].op = 17))
  | [], s, k, _, _, _, _, _, _, _ => ⟨[], s, .nil s, rfl, fun i h => absurd h (by simp)⟩
  | q :: qs, s, k, hc, hr, h0, h1, hb, hk, hg => by
    have g := hg q (List.mem_cons_self ..)
    have hk2 : (k + 1) + qs.length ≤ 1000000 := by simp only [List.length_cons] at hk; omega
    have step : ∀ (s1 : FS) (A : Ans), Does q s s1 A → s1.cl = false → s1.ro = true → 0 ≤ s1.pos → s1.pos ≤ 8192 + 4096 * (k + 1 : Nat) → s1.bytes = s.bytes → (A.e = 6 ↔ (q.op = 14 ∨ q.op = 15 ∨ q.op = 17)) →
        ∃ As s', Runs (q :: qs) s As s' ∧ s'.bytes = s.bytes ∧ ∀ i (h1 : i < (q :: qs).length) (h2 : i < As.length), (As[i].e = 6 ↔ ((q :: qs)[i].op = 14 ∨ (q :: qs)[i].op = 15 ∨ (q :: qs)[i].op = 17)) := fun s1 A hD c1 r1 p1 p2 eb he => by
      obtain ⟨As, s', hR, e1, e2⟩ := runs_ro qs s1 (k + 1) c1 r1 p1 p2 (by rw [eb]; exact hb) hk2 fun x hx => hg x (List.mem_cons_of_mem _ hx)
      refine ⟨A :: As, s', .cons hD hR, by rw [e1, eb], fun i h1 h2 => ?_⟩
      cases i with
      | zero => exact he
      | succ i => exact e2 i (by simpa using h1) (by simpa using h2)
    have hl : ((s.bytes.length : Nat) : Int) ≤ 4096 := by omega
    have o1 := g.o1
    have o2 := g.o2
    have f1 := g.f1
    have f2 := g.f2
    have d1 := g.d
    have cases6 : q.op = 12 ∨ q.op = 13 ∨ q.op = 14 ∨ q.op = 15 ∨ q.op = 16 ∨ q.op = 17 := by omega
    rcases cases6 with h | h | h | h | h | h
    · have he := rdF_err s (want q.n)
      have hp := rdF_pos s (want q.n)
      refine step _ _ (does_read h hc ⟨h0, by omega⟩ (by omega)) hc hr ?_ ?_ rfl ?_
      · show 0 ≤ s.pos + ((rdF s (want q.n)).1.length : Int); omega
      · show s.pos + ((rdF s (want q.n)).1.length : Int) ≤ _; omega
      · show (((rdF s (want q.n)).2 : Int) = 6) ↔ _; omega
    · have he := rdF_err { s with pos := q.off } (want q.n)
      refine step _ _ (does_readAt h hc ⟨f1, by omega⟩ (by omega)) hc hr h0 (by omega) rfl ?_
      show (((rdF { s with pos := q.off } (want q.n)).2 : Int) = 6) ↔ _; omega
    · exact step _ _ (does_write_ro h (by omega) hc hr) hc hr h0 (by omega) rfl ⟨fun _ => .inl h, fun _ => rfl⟩
    · exact step _ _ (does_writeAt_ro h (by omega) hc hr) hc hr f1 (by show q.off ≤ _; omega) rfl ⟨fun _ => .inr (.inl h), fun _ => rfl⟩
    · have hs : 0 ≤ seekTo s q.off q.wh ∧ seekTo s q.off q.wh ≤ 8192 + 4096 * (k + 1 : Nat) := by
        unfold seekTo
        split
        · omega
        · split
          · omega
          · split <;> omega
      refine step _ _ (does_seek h hc ⟨by omega, by omega⟩ ⟨by omega, by omega⟩ (by omega)) hc hr hs.1 hs.2 rfl ?_
      show ((0 : Int) = 6) ↔ _; omega
    · exact step _ _ (does_trunc_ro h (by omega) hc hr) hc hr h0 (by omega) rfl ⟨fun _ => .inr (.inr h), fun _ => rfl⟩
/-- A step's place, and what lies there. -/
theorem StepsAt.at_ {w : World} {v : Value} {qs : List Stp} (h : StepsAt w v qs) : (∃ a cap, v = .slice a qs.length cap) ∧ ∀ i (hi : i < qs.length), ∃ b o cap, v = sl b o qs.length cap ∧ b < w.heap.size ∧ rowOf (bk w b) (o + i * 10) 10 = some qs[i].cells ∧ ∀ (L : Value → Prop), pu P (oIdxA T.sl_impl_Step (sl b o qs.length cap) (.int .i64 i)) L = L (pt b (o + i * 10)) := by
  rcases h.2 with ⟨rfl, a, cap, rfl⟩ | ⟨b, o, cap, rfl, h2, h3⟩
  · exact ⟨⟨a, cap, rfl⟩, fun i hi => absurd hi (by simp)⟩
  · refine ⟨⟨_, cap, rfl⟩, fun i hi => ⟨b, o, cap, rfl, h2, h3 i hi, fun L => ?_⟩⟩
    rw [oIdxA_sl (size := 10) L U.sl_impl_Step (by kernel_rfl) (by omega) (by omega)]
    rw [Int.toNat_natCast]
theorem fits2_spec {w : World} {K : Value → World → Prop} {q : Stp} (hv : BS w q.v q.data) (hk : ∀ b w', Below w.heap.size w w' → K (.bool b) w') : Cl P Fn.laws_zzFits2 #[AG q.cells] w K := by
  apply S_laws_zzFits2
  unfold F_laws_zzFits2
  have one := BS_one hv
  obtain ⟨a, cap, hvv⟩ := BS_slice hv
  rw [oBox_agg]
  have h0 : bk (w.alloc (CB q.cells T.impl_Step)) w.heap.size = some (CB q.cells T.impl_Step) := bk_alloc_eq _ _ _ rfl
  have BB : Below w.heap.size w (w.alloc (CB q.cells T.impl_Step)) := Below.alloc (Below.refl _ _) (Nat.le_refl _) _
  generalize w.alloc (CB q.cells T.impl_Step) = w1 at *
  refine jn_with (fun t w' => w' = w1) ?_ ?_
  · rintro t e w2 rfl
    refine jn_with (fun t w' => w' = w2) ?_ ?_
    · rintro t e w3 rfl
      refine jn_with (fun t w' => w' = w3) ?_ ?_
      · rintro t e w4 rfl
        exact hk _ _ BB
      · by_cases c : (2147483647 : Int) < q.data.length
        · simp (disch := first | omega | (simp only [size_setb, size_alloc', size_drew'] <;> omega) | (simp (disch := first | omega | (simp only [size_setb, size_alloc', size_drew'] <;> omega) | fail) only [go_sem, h0, hvv]; done) | fail) only [go_sem, dec_t, dec_f, w_u32, w_u64, w_u16, w_u8, w_i64, Int.reduceToNat, Int.reducePow, Nat.reducePow, h0, hvv]
          exact hk _ _ BB
        · simp (disch := first | omega | (simp only [size_setb, size_alloc', size_drew'] <;> omega) | (simp (disch := first | omega | (simp only [size_setb, size_alloc', size_drew'] <;> omega) | fail) only [go_sem, h0, hvv]; done) | fail) only [go_sem, dec_t, dec_f, w_u32, w_u64, w_u16, w_u8, w_i64, Int.reduceToNat, Int.reducePow, Nat.reducePow, h0, hvv]
    · by_cases c : (2147483647 : Int) < q.other.length
      · simp (disch := first | omega | (simp only [size_setb, size_alloc', size_drew'] <;> omega) | (simp (disch := first | omega | (simp only [size_setb, size_alloc', size_drew'] <;> omega) | fail) only [go_sem, h0]; done) | fail) only [go_sem, dec_t, dec_f, w_u32, w_u64, w_u16, w_u8, w_i64, Int.reduceToNat, Int.reducePow, Nat.reducePow, h0]
        exact hk _ _ BB
      · simp (disch := first | omega | (simp only [size_setb, size_alloc', size_drew'] <;> omega) | (simp (disch := first | omega | (simp only [size_setb, size_alloc', size_drew'] <;> omega) | fail) only [go_sem, h0]; done) | fail) only [go_sem, dec_t, dec_f, w_u32, w_u64, w_u16, w_u8, w_i64, Int.reduceToNat, Int.reducePow, Nat.reducePow, h0]
  · by_cases c : (2147483647 : Int) < q.name.length
    · simp (disch := first | omega | (simp only [size_setb, size_alloc', size_drew'] <;> omega) | (simp (disch := first | omega | (simp only [size_setb, size_alloc', size_drew'] <;> omega) | fail) only [go_sem, h0]; done) | fail) only [go_sem, dec_t, dec_f, w_u32, w_u64, w_u16, w_u8, w_i64, Int.reduceToNat, Int.reducePow, Nat.reducePow, h0]
      exact hk _ _ BB
    · simp (disch := first | omega | (simp only [size_setb, size_alloc', size_drew'] <;> omega) | (simp (disch := first | omega | (simp only [size_setb, size_alloc', size_drew'] <;> omega) | fail) only [go_sem, h0]; done) | fail) only [go_sem, dec_t, dec_f, w_u32, w_u64, w_u16, w_u8, w_i64, Int.reduceToNat, Int.reducePow, Nat.reducePow, h0]
theorem fits1_spec {w : World} {K : Value → World → Prop} {v : Value} {qs : List Stp} (h : StepsAt w v qs) (hk : ∀ b w', Below w.heap.size w w' → K (.bool b) w') : Cl P Fn.laws_zzFits1 #[v] w K := by
  apply S_laws_zzFits1
  unfold F_laws_zzFits1
  obtain ⟨⟨a, cap, rfl⟩, _⟩ := h.at_
  by_cases c : (2147483647 : Int) < qs.length
  · refine jn_with (fun _ _ => False) (fun _ _ _ h => h.elim) ?_
    simp (disch := first | omega | (simp only [size_setb, size_alloc', size_drew'] <;> omega) | (simp (disch := first | omega | (simp only [size_setb, size_alloc', size_drew'] <;> omega) | fail) only [go_sem]; done) | fail) only [go_sem, dec_t, dec_f, w_u32, w_u64, w_u16, w_u8, w_i64, Int.reduceToNat, Int.reducePow, Nat.reducePow]
    exact hk _ _ (Below.refl _ _)
  refine jn_with (fun t w' => w' = w) ?_ (by simp (disch := first | omega | (simp only [size_setb, size_alloc', size_drew'] <;> omega) | (simp (disch := first | omega | (simp only [size_setb, size_alloc', size_drew'] <;> omega) | fail) only [go_sem]; done) | fail) only [go_sem, dec_t, dec_f, w_u32, w_u64, w_u16, w_u8, w_i64, Int.reduceToNat, Int.reducePow, Nat.reducePow])
  rintro t e w1 rfl
  refine jn_with (fun t w' => Below w1.heap.size w1 w') ?_ ?_
  · rintro t e w2 b2
    exact hk _ _ b2
  simp (disch := first | omega | (simp only [size_setb, size_alloc', size_drew'] <;> omega) | (simp (disch := first | omega | (simp only [size_setb, size_alloc', size_drew'] <;> omega) | fail) only [go_sem]; done) | fail) only [go_sem, dec_t, dec_f, w_u32, w_u64, w_u16, w_u8, w_i64, Int.reduceToNat, Int.reducePow, Nat.reducePow]
  refine lp_intro (fun t w' => Below w1.heap.size w1 w' ∧ ∃ i : Nat, t = [.int .i64 i] ∧ i ≤ qs.length) (fun t _ => qs.length - (RowKit.intOf (gs t 0)).toNat) ⟨Below.refl _ _, 0, rfl, by omega⟩ ?_
  rintro t e w2 ⟨b2, i, rfl, hi⟩
  by_cases g : (i : Int) < qs.length
  · have hix : i < qs.length := by omega
    simp (disch := first | omega | (simp only [size_setb, size_alloc', size_drew'] <;> omega) | (simp (disch := first | omega | (simp only [size_setb, size_alloc', size_drew'] <;> omega) | fail) only [go_sem]; done) | fail) only [go_sem, dec_t, dec_f, w_u32, w_u64, w_u16, w_u8, w_i64, Int.reduceToNat, Int.reducePow, Nat.reducePow]
    refine jn_with (fun t w' => t = [] ∧ w' = w2) ?_ ⟨rfl, rfl⟩
    rintro t e w3 ⟨rfl, rfl⟩
    obtain ⟨b, o, cap', eb, hb, hrow, ix⟩ := (h.old b2).at_.2 i hix
    have hv := BS_old (h.1 qs[i] (List.getElem_mem hix)) b2 (Nat.le_refl _)
    generalize qs[i] = q at *
    have one := BS_one hv
    have z := b2.size
    rw [eb]
    refine jn_with (fun t w' => t = [] ∧ Below w1.heap.size w1 w') ?_ ?_
    · rintro t e w4 ⟨rfl, b4⟩
      refine ⟨⟨b4, i + 1, rfl, by omega⟩, ?_⟩
      simp only [RowKit.intOf]
      omega
    · simp (disch := first | omega | (simp only [size_setb, size_alloc', size_drew'] <;> omega) | (simp (disch := first | omega | (simp only [size_setb, size_alloc', size_drew'] <;> omega) | fail) only [go_sem, ix, hrow, one]; done) | fail) only [go_sem, dec_t, dec_f, w_u32, w_u64, w_u16, w_u8, w_i64, Int.reduceToNat, Int.reducePow, Nat.reducePow, ix, hrow, one]
      obtain ⟨wA, hwA⟩ : ∃ wA, wA = setb (w3.alloc (CB stpZ T.impl_Step)) w3.heap.size (CB q.cells T.impl_Step) := ⟨_, rfl⟩
      rw [← hwA]
      have BA : Below w3.heap.size w3 wA := by rw [hwA]; repeat (first | exact Below.refl _ _ | assumption | refine bel_setb ?_ (by first | exact Nat.le_refl _ | omega | (simp only [go_sem] <;> omega)) _ | refine Below.alloc ?_ (by first | exact Nat.le_refl _ | omega | (simp only [go_sem]; omega)) _ | refine Below.drew ?_)
      refine fits2_spec (BS_old hv BA (Nat.le_refl _)) fun bb w4 b4 => ?_
      have B4 := (b2.trans (BA.mono z)).trans (b4.mono (by have := BA.size; omega))
      cases bb with
      | true =>
        simp (disch := first | omega | (simp only [size_setb, size_alloc', size_drew'] <;> omega) | (simp (disch := first | omega | (simp only [size_setb, size_alloc', size_drew'] <;> omega) | fail) only [go_sem]; done) | fail) only [go_sem, dec_t, dec_f, w_u32, w_u64, w_u16, w_u8, w_i64, Int.reduceToNat, Int.reducePow, Nat.reducePow]
        exact ⟨trivial, B4⟩
      | false =>
        simp (disch := first | omega | (simp only [size_setb, size_alloc', size_drew'] <;> omega) | (simp (disch := first | omega | (simp only [size_setb, size_alloc', size_drew'] <;> omega) | fail) only [go_sem]; done) | fail) only [go_sem, dec_t, dec_f, w_u32, w_u64, w_u16, w_u8, w_i64, Int.reduceToNat, Int.reducePow, Nat.reducePow]
        exact hk _ _ B4
  · have e1 : i = qs.length := by omega
    subst e1
    simp (disch := first | omega | (simp only [size_setb, size_alloc', size_drew'] <;> omega) | (simp (disch := first | omega | (simp only [size_setb, size_alloc', size_drew'] <;> omega) | fail) only [go_sem]; done) | fail) only [go_sem, dec_t, dec_f, w_u32, w_u64, w_u16, w_u8, w_i64, Int.reduceToNat, Int.reducePow, Nat.reducePow]
    exact jn_with (fun _ _ => False) (fun _ _ _ h => h.elim) b2

set_option maxHeartbeats 4000000 in
theorem FnReadOnlyHandle_law {w : World} {t0 tv : Value} {data : List UInt8} {qs : List Stp} {m : Nat → Nat × Nat} (hd : BS w t0 data) (hdl : data.length ≤ 140737488351232) (hs : Sn w w.heap.size m) (hq : StepsAt w tv qs) (hqf : ∀ q ∈ qs, q.fit) (hqm : qs.length ≤ maxLen) :
    Cl P Fn.laws_FnReadOnlyHandle #[t0, tv] w fun v w' => v = .bool true ∧ Below w.heap.size w w' := by
  apply S_laws_FnReadOnlyHandle
  unfold F_laws_FnReadOnlyHandle
  obtain ⟨a0, c0, rfl⟩ := BS_slice hd
  obtain ⟨⟨ta, tc, rfl⟩, _⟩ := hq.at_
  by_cases h1 : (2147483647 : Int) < data.length
  · repeat (first | refine jn_intro ?_ | refine fun (_ : Env) => ?_ | simp (disch := first | omega | (simp only [size_setb, size_alloc', size_drew'] <;> omega) | (simp (disch := first | omega | (simp only [size_setb, size_alloc', size_drew'] <;> omega) | fail) only [go_sem]; done) | fail) only [go_sem, dec_t, dec_f, w_u32, w_u64, w_u16, w_u8, w_i64, Int.reduceToNat, Int.reducePow, Nat.reducePow])
    exact ⟨trivial, Below.refl _ _⟩
  refine jn_with (fun t w' => Below w.heap.size w w') ?_ ?_
  · rintro t e w1 b1
    have hd1 := BS_old hd b1 (Nat.le_refl _)
    have hq1 := hq.old b1
    by_cases g1 : (4096 : Int) < data.length
    · repeat (first | refine jn_intro ?_ | refine fun (_ : Env) => ?_ | simp (disch := first | omega | (simp only [size_setb, size_alloc', size_drew'] <;> omega) | (simp (disch := first | omega | (simp only [size_setb, size_alloc', size_drew'] <;> omega) | fail) only [go_sem]; done) | fail) only [go_sem, dec_t, dec_f, w_u32, w_u64, w_u16, w_u8, w_i64, Int.reduceToNat, Int.reducePow, Nat.reducePow])
      exact ⟨trivial, b1⟩
    by_cases g2 : (40 : Int) < qs.length
    · repeat (first | refine jn_intro ?_ | refine fun (_ : Env) => ?_ | simp (disch := first | omega | (simp only [size_setb, size_alloc', size_drew'] <;> omega) | (simp (disch := first | omega | (simp only [size_setb, size_alloc', size_drew'] <;> omega) | fail) only [go_sem]; done) | fail) only [go_sem, dec_t, dec_f, w_u32, w_u64, w_u16, w_u8, w_i64, Int.reduceToNat, Int.reducePow, Nat.reducePow])
      exact ⟨trivial, b1⟩
    refine jn_with (fun t w' => w' = w1) ?_ (by simp (disch := first | omega | (simp only [size_setb, size_alloc', size_drew'] <;> omega) | (simp (disch := first | omega | (simp only [size_setb, size_alloc', size_drew'] <;> omega) | fail) only [go_sem]; done) | fail) only [go_sem, dec_t, dec_f, w_u32, w_u64, w_u16, w_u8, w_i64, Int.reduceToNat, Int.reducePow, Nat.reducePow])
    rintro t e w2 rfl
    refine jn_with (fun t w' => Below w2.heap.size w2 w' ∧ ∀ q ∈ qs, q.good) ?_ ?_
    · rintro t e w3 ⟨b3, hgood⟩
      have B3 := b1.trans (b3.mono b1.size)
      have hd3 := BS_old hd B3 (Nat.le_refl _)
      have hq3 := hq.old B3
      obtain ⟨As, s', hR, eb, eA⟩ := runs_ro qs ⟨data, 0, false, true⟩ 0 rfl rfl (Int.le_refl _) (by show (0 : Int) ≤ _; omega) (by show data.length ≤ _; omega) (by omega) hgood
      have hs3 : Sn w3 w3.heap.size m := ⟨fun g hg => ⟨by have := ((hs.below B3).at_ g hg).1; have := B3.size; omega, ((hs.below B3).at_ g hg).2⟩, fun g hg => ⟨by have := ((hs.below B3).cell g hg).1; have := B3.size; omega, ((hs.below B3).cell g hg).2⟩, hs.inj⟩
      have eb : s'.bytes = data := eb
      rw [C.impl_HandleScript]
      refine script_spec (m := m) hd3 (by omega) hs3 hq3 (by omega) hR (by rw [eb]; omega) fun w4 av lv cs b4 o4 hcl hA hlv => ?_
      have hlen := hR.len
      rw [eb] at hlv
      have B4 := B3.trans (b4.mono B3.size)
      have hd4 := BS_old hd B4 (Nat.le_refl _)
      have hq4 := hq.old B4
      obtain ⟨aa, ca, rfl⟩ := own_slice o4
      rw [hlen] at o4 hcl ⊢
      have cvl : ∀ (L : Value → World → Prop), st P (oConv T.sl_uint8 T.string lv) w4 L = L (S data) w4 := fun L => stConvBS U.string U.sl_uint8 U.uint8 hlv
      have cvd : ∀ (L : Value → World → Prop), st P (oConv T.sl_uint8 T.string (.slice a0 data.length c0)) w4 L = L (S data) w4 := fun L => stConvBS U.string U.sl_uint8 U.uint8 hd4
      rw [oExtract2_0, oExtract2_1]
      refine jn_with (fun t w' => w' = w4) ?_ ?_
      · rintro t e w5 rfl
        refine jn_with (fun t w' => Below w5.heap.size w5 w') ?_ ?_
        · rintro t e w6 b6
          exact ⟨rfl, B4.trans (b6.mono B4.size)⟩
        simp (disch := first | omega | (simp only [size_setb, size_alloc', size_drew'] <;> omega) | (simp (disch := first | omega | (simp only [size_setb, size_alloc', size_drew'] <;> omega) | fail) only [go_sem]; done) | fail) only [go_sem, dec_t, dec_f, w_u32, w_u64, w_u16, w_u8, w_i64, Int.reduceToNat, Int.reducePow, Nat.reducePow]
        refine lp_intro (fun t w' => Below w5.heap.size w5 w' ∧ ∃ i : Nat, t = [.int .i64 i] ∧ i ≤ qs.length) (fun t _ => qs.length - (RowKit.intOf (gs t 0)).toNat) ⟨Below.refl _ _, 0, rfl, by omega⟩ ?_
        rintro t e w6 ⟨b6, i, rfl, hi⟩
        by_cases g : (i : Int) < qs.length
        · have hix : i < qs.length := by omega
          simp (disch := first | omega | (simp only [size_setb, size_alloc', size_drew'] <;> omega) | (simp (disch := first | omega | (simp only [size_setb, size_alloc', size_drew'] <;> omega) | fail) only [go_sem]; done) | fail) only [go_sem, dec_t, dec_f, w_u32, w_u64, w_u16, w_u8, w_i64, Int.reduceToNat, Int.reducePow, Nat.reducePow]
          refine jn_with (fun t w' => t = [] ∧ w' = w6) ?_ ⟨rfl, rfl⟩
          rintro t e w7 ⟨rfl, rfl⟩
          obtain ⟨b, o, cap', eb', hb, hrow, ix⟩ := (hq4.old b6).at_.2 i hix
          have hv := BS_old (hq4.1 qs[i] (List.getElem_mem hix)) b6 (Nat.le_refl _)
          have hcl6 : ∀ c ∈ cs, c.length = 6 := fun c hc => by
            obtain ⟨i, hi, rfl⟩ := List.getElem_of_mem hc
            obtain ⟨x, e, _⟩ := hA i hi (by omega)
            rw [e]; rfl
          obtain ⟨ab, ac, ea, q1, q2, q3, rows⟩ := own_elem o4 hcl6 hcl (by omega)
          obtain ⟨x, ex, _, _⟩ := hA i (by omega) (by omega)
          have hr := rows i (by omega)
          rw [ex] at hr
          have he := eA i hix (by omega)
          rw [ea, eb']
          generalize hqi : qs[i] = q at *
          generalize As[i] = A at *
          have one := BS_one hv
          have z := b6.size
          have ixa : ∀ (L : Value → Prop), pu P (oIdxA T.sl_impl_Answer (sl ab 0 qs.length ac) (.int .i64 i)) L = L (pt ab (i * 6)) := fun L => by
            rw [oIdxA_sl (size := 6) L U.sl_impl_Answer (by kernel_rfl) (by omega) (by omega)]
            rw [Int.toNat_natCast, Nat.zero_add]
          refine jn_with (fun t w' => t = [] ∧ Below w5.heap.size w5 w') ?_ ?_
          · rintro t e w8 ⟨rfl, b8⟩
            refine ⟨⟨b8, i + 1, rfl, by omega⟩, ?_⟩
            simp only [RowKit.intOf]
            omega
          · simp (disch := first | omega | (simp only [size_setb, size_alloc', size_drew'] <;> omega) | (simp (disch := first | omega | (simp only [size_setb, size_alloc', size_drew'] <;> omega) | fail) only [go_sem, ix, hrow, one]; done) | fail) only [go_sem, dec_t, dec_f, w_u32, w_u64, w_u16, w_u8, w_i64, Int.reduceToNat, Int.reducePow, Nat.reducePow, ix, hrow, one]
            obtain ⟨wA, hwA⟩ : ∃ wA, wA = setb (w7.alloc (CB stpZ T.impl_Step)) w7.heap.size (CB q.cells T.impl_Step) := ⟨_, rfl⟩
            rw [← hwA]
            have BA : Below w7.heap.size w7 wA := by rw [hwA]; repeat (first | exact Below.refl _ _ | assumption | refine bel_setb ?_ (by first | exact Nat.le_refl _ | omega | (simp only [go_sem] <;> omega)) _ | refine Below.alloc ?_ (by first | exact Nat.le_refl _ | omega | (simp only [go_sem]; omega)) _ | refine Below.drew ?_)
            have kA : bk wA w7.heap.size = some (CB q.cells T.impl_Step) := by rw [hwA]; simp (disch := first | omega | (simp only [size_setb, size_alloc', size_drew'] <;> omega) | (simp (disch := first | omega | (simp only [size_setb, size_alloc', size_drew'] <;> omega) | fail) only [go_sem]; done) | fail) only [go_sem, dec_t, dec_f, w_u32, w_u64, w_u16, w_u8, w_i64, Int.reduceToNat, Int.reducePow, Nat.reducePow]
            have B8 := b6.trans (BA.mono z)
            have ce : cellOf (bk wA ab) (i * 6) = some (.int .i64 A.e) := by
              rw [bel_bk B8 q2]
              exact cell_row hr 0 (by omega)
            have B9 := B4.trans (B8.mono B4.size)
            have tt : (true != true) = false := rfl
            have ff : (false != false) = false := rfl
            by_cases c1 : q.op = 14
            · have e6 : A.e = 6 := he.2 (.inl c1)
              simp (disch := first | omega | (simp only [size_setb, size_alloc', size_drew'] <;> omega) | (simp (disch := first | omega | (simp only [size_setb, size_alloc', size_drew'] <;> omega) | fail) only [go_sem, kA, ixa, ce]; done) | fail) only [go_sem, dec_t, dec_f, w_u32, w_u64, w_u16, w_u8, w_i64, Int.reduceToNat, Int.reducePow, Nat.reducePow, kA, ixa, ce]
              rw [oNeqB, tt]
              simp (disch := first | omega | (simp only [size_setb, size_alloc', size_drew'] <;> omega) | (simp (disch := first | omega | (simp only [size_setb, size_alloc', size_drew'] <;> omega) | fail) only [go_sem]; done) | fail) only [go_sem, dec_t, dec_f, w_u32, w_u64, w_u16, w_u8, w_i64, Int.reduceToNat, Int.reducePow, Nat.reducePow]
              exact ⟨trivial, B8⟩
            by_cases c2 : q.op = 15
            · have e6 : A.e = 6 := he.2 (.inr (.inl c2))
              simp (disch := first | omega | (simp only [size_setb, size_alloc', size_drew'] <;> omega) | (simp (disch := first | omega | (simp only [size_setb, size_alloc', size_drew'] <;> omega) | fail) only [go_sem, kA, ixa, ce]; done) | fail) only [go_sem, dec_t, dec_f, w_u32, w_u64, w_u16, w_u8, w_i64, Int.reduceToNat, Int.reducePow, Nat.reducePow, kA, ixa, ce]
              rw [oNeqB, tt]
              simp (disch := first | omega | (simp only [size_setb, size_alloc', size_drew'] <;> omega) | (simp (disch := first | omega | (simp only [size_setb, size_alloc', size_drew'] <;> omega) | fail) only [go_sem]; done) | fail) only [go_sem, dec_t, dec_f, w_u32, w_u64, w_u16, w_u8, w_i64, Int.reduceToNat, Int.reducePow, Nat.reducePow]
              exact ⟨trivial, B8⟩
            by_cases c3 : q.op = 17
            · have e6 : A.e = 6 := he.2 (.inr (.inr c3))
              simp (disch := first | omega | (simp only [size_setb, size_alloc', size_drew'] <;> omega) | (simp (disch := first | omega | (simp only [size_setb, size_alloc', size_drew'] <;> omega) | fail) only [go_sem, kA, ixa, ce]; done) | fail) only [go_sem, dec_t, dec_f, w_u32, w_u64, w_u16, w_u8, w_i64, Int.reduceToNat, Int.reducePow, Nat.reducePow, kA, ixa, ce]
              rw [oNeqB, tt]
              simp (disch := first | omega | (simp only [size_setb, size_alloc', size_drew'] <;> omega) | (simp (disch := first | omega | (simp only [size_setb, size_alloc', size_drew'] <;> omega) | fail) only [go_sem]; done) | fail) only [go_sem, dec_t, dec_f, w_u32, w_u64, w_u16, w_u8, w_i64, Int.reduceToNat, Int.reducePow, Nat.reducePow]
              exact ⟨trivial, B8⟩
            · have e6 : ¬ A.e = 6 := fun h => by
                rcases he.1 h with h | h | h
                · exact c1 h
                · exact c2 h
                · exact c3 h
              simp (disch := first | omega | (simp only [size_setb, size_alloc', size_drew'] <;> omega) | (simp (disch := first | omega | (simp only [size_setb, size_alloc', size_drew'] <;> omega) | fail) only [go_sem, kA, ixa, ce]; done) | fail) only [go_sem, dec_t, dec_f, w_u32, w_u64, w_u16, w_u8, w_i64, Int.reduceToNat, Int.reducePow, Nat.reducePow, kA, ixa, ce]
              rw [oNeqB, ff]
              simp (disch := first | omega | (simp only [size_setb, size_alloc', size_drew'] <;> omega) | (simp (disch := first | omega | (simp only [size_setb, size_alloc', size_drew'] <;> omega) | fail) only [go_sem]; done) | fail) only [go_sem, dec_t, dec_f, w_u32, w_u64, w_u16, w_u8, w_i64, Int.reduceToNat, Int.reducePow, Nat.reducePow]
              exact ⟨trivial, B8⟩
        · have e1 : i = qs.length := by omega
          subst e1
          simp (disch := first | omega | (simp only [size_setb, size_alloc', size_drew'] <;> omega) | (simp (disch := first | omega | (simp only [size_setb, size_alloc', size_drew'] <;> omega) | fail) only [go_sem]; done) | fail) only [go_sem, dec_t, dec_f, w_u32, w_u64, w_u16, w_u8, w_i64, Int.reduceToNat, Int.reducePow, Nat.reducePow]
          exact jn_with (fun _ _ => False) (fun _ _ _ h => h.elim) b6
      · simp (disch := first | omega | (simp only [size_setb, size_alloc', size_drew'] <;> omega) | (simp (disch := first | omega | (simp only [size_setb, size_alloc', size_drew'] <;> omega) | fail) only [go_sem, cvl, cvd, ne_eq, not_true_eq_false, decide_false]; done) | fail) only [go_sem, dec_t, dec_f, w_u32, w_u64, w_u16, w_u8, w_i64, Int.reduceToNat, Int.reducePow, Nat.reducePow, cvl, cvd, ne_eq, not_true_eq_false, decide_false]
    · simp (disch := first | omega | (simp only [size_setb, size_alloc', size_drew'] <;> omega) | (simp (disch := first | omega | (simp only [size_setb, size_alloc', size_drew'] <;> omega) | fail) only [go_sem]; done) | fail) only [go_sem, dec_t, dec_f, w_u32, w_u64, w_u16, w_u8, w_i64, Int.reduceToNat, Int.reducePow, Nat.reducePow]
      refine lp_intro (fun t w' => Below w2.heap.size w2 w' ∧ ∃ i : Nat, t = [.int .i64 i] ∧ i ≤ qs.length ∧ ∀ q ∈ qs.take i, q.good) (fun t _ => qs.length - (RowKit.intOf (gs t 0)).toNat) ⟨Below.refl _ _, 0, rfl, by omega, by simp⟩ ?_
      rintro t e w3 ⟨b3, i, rfl, hi, hall⟩
      by_cases g : (i : Int) < qs.length
      · have hix : i < qs.length := by omega
        simp (disch := first | omega | (simp only [size_setb, size_alloc', size_drew'] <;> omega) | (simp (disch := first | omega | (simp only [size_setb, size_alloc', size_drew'] <;> omega) | fail) only [go_sem]; done) | fail) only [go_sem, dec_t, dec_f, w_u32, w_u64, w_u16, w_u8, w_i64, Int.reduceToNat, Int.reducePow, Nat.reducePow]
        refine jn_with (fun t w' => t = [] ∧ w' = w3) ?_ ⟨rfl, rfl⟩
        rintro t e w4 ⟨rfl, rfl⟩
        obtain ⟨b, o, cap', eb', hb, hrow, ix⟩ := (hq1.old b3).at_.2 i hix
        have hv := BS_old (hq1.1 qs[i] (List.getElem_mem hix)) b3 (Nat.le_refl _)
        have ht : qs.take (i + 1) = qs.take i ++ [qs[i]] := List.take_succ_eq_append_getElem hix
        generalize qs[i] = q at *
        have one := BS_one hv
        obtain ⟨qa, qc, hqv⟩ := BS_slice hv
        have z := b3.size
        rw [eb']
        refine jn_with (fun t w' => t = [] ∧ Below w2.heap.size w2 w' ∧ q.good) ?_ ?_
        · rintro t e w5 ⟨rfl, b5, hg⟩
          refine ⟨⟨b5, i + 1, rfl, by omega, fun x hx => ?_⟩, ?_⟩
          · rw [ht] at hx
            rcases List.mem_append.1 hx with h | h
            · exact hall x h
            · rw [List.mem_singleton.1 h]; exact hg
          · simp only [RowKit.intOf]
            omega
        · simp (disch := first | omega | (simp only [size_setb, size_alloc', size_drew'] <;> omega) | (simp (disch := first | omega | (simp only [size_setb, size_alloc', size_drew'] <;> omega) | fail) only [go_sem, ix, hrow, one]; done) | fail) only [go_sem, dec_t, dec_f, w_u32, w_u64, w_u16, w_u8, w_i64, Int.reduceToNat, Int.reducePow, Nat.reducePow, ix, hrow, one]
          obtain ⟨wA, hwA⟩ : ∃ wA, wA = setb (w4.alloc (CB stpZ T.impl_Step)) w4.heap.size (CB q.cells T.impl_Step) := ⟨_, rfl⟩
          rw [← hwA]
          have BA : Below w4.heap.size w4 wA := by rw [hwA]; repeat (first | exact Below.refl _ _ | assumption | refine bel_setb ?_ (by first | exact Nat.le_refl _ | omega | (simp only [go_sem] <;> omega)) _ | refine Below.alloc ?_ (by first | exact Nat.le_refl _ | omega | (simp only [go_sem]; omega)) _ | refine Below.drew ?_)
          have kA : bk wA w4.heap.size = some (CB q.cells T.impl_Step) := by rw [hwA]; simp (disch := first | omega | (simp only [size_setb, size_alloc', size_drew'] <;> omega) | (simp (disch := first | omega | (simp only [size_setb, size_alloc', size_drew'] <;> omega) | fail) only [go_sem]; done) | fail) only [go_sem, dec_t, dec_f, w_u32, w_u64, w_u16, w_u8, w_i64, Int.reduceToNat, Int.reducePow, Nat.reducePow]
          have B5 := b3.trans (BA.mono z)
          have B6 := b1.trans (B5.mono b1.size)
          by_cases c1 : q.op < 12
          · simp (disch := first | omega | (simp only [size_setb, size_alloc', size_drew'] <;> omega) | (simp (disch := first | omega | (simp only [size_setb, size_alloc', size_drew'] <;> omega) | fail) only [go_sem, kA]; done) | fail) only [go_sem, dec_t, dec_f, w_u32, w_u64, w_u16, w_u8, w_i64, Int.reduceToNat, Int.reducePow, Nat.reducePow, kA]
            exact ⟨trivial, B6⟩
          by_cases c2 : 17 < q.op
          · simp (disch := first | omega | (simp only [size_setb, size_alloc', size_drew'] <;> omega) | (simp (disch := first | omega | (simp only [size_setb, size_alloc', size_drew'] <;> omega) | fail) only [go_sem, kA]; done) | fail) only [go_sem, dec_t, dec_f, w_u32, w_u64, w_u16, w_u8, w_i64, Int.reduceToNat, Int.reducePow, Nat.reducePow, kA]
            exact ⟨trivial, B6⟩
          by_cases c3 : q.n < 0
          · simp (disch := first | omega | (simp only [size_setb, size_alloc', size_drew'] <;> omega) | (simp (disch := first | omega | (simp only [size_setb, size_alloc', size_drew'] <;> omega) | fail) only [go_sem, kA]; done) | fail) only [go_sem, dec_t, dec_f, w_u32, w_u64, w_u16, w_u8, w_i64, Int.reduceToNat, Int.reducePow, Nat.reducePow, kA]
            exact ⟨trivial, B6⟩
          by_cases c4 : 4096 < q.n
          · simp (disch := first | omega | (simp only [size_setb, size_alloc', size_drew'] <;> omega) | (simp (disch := first | omega | (simp only [size_setb, size_alloc', size_drew'] <;> omega) | fail) only [go_sem, kA]; done) | fail) only [go_sem, dec_t, dec_f, w_u32, w_u64, w_u16, w_u8, w_i64, Int.reduceToNat, Int.reducePow, Nat.reducePow, kA]
            exact ⟨trivial, B6⟩
          by_cases c5 : q.off < 0
          · simp (disch := first | omega | (simp only [size_setb, size_alloc', size_drew'] <;> omega) | (simp (disch := first | omega | (simp only [size_setb, size_alloc', size_drew'] <;> omega) | fail) only [go_sem, kA]; done) | fail) only [go_sem, dec_t, dec_f, w_u32, w_u64, w_u16, w_u8, w_i64, Int.reduceToNat, Int.reducePow, Nat.reducePow, kA]
            exact ⟨trivial, B6⟩
          by_cases c6 : 4096 < q.off
          · simp (disch := first | omega | (simp only [size_setb, size_alloc', size_drew'] <;> omega) | (simp (disch := first | omega | (simp only [size_setb, size_alloc', size_drew'] <;> omega) | fail) only [go_sem, kA]; done) | fail) only [go_sem, dec_t, dec_f, w_u32, w_u64, w_u16, w_u8, w_i64, Int.reduceToNat, Int.reducePow, Nat.reducePow, kA]
            exact ⟨trivial, B6⟩
          by_cases c7 : q.wh < 0
          · simp (disch := first | omega | (simp only [size_setb, size_alloc', size_drew'] <;> omega) | (simp (disch := first | omega | (simp only [size_setb, size_alloc', size_drew'] <;> omega) | fail) only [go_sem, kA]; done) | fail) only [go_sem, dec_t, dec_f, w_u32, w_u64, w_u16, w_u8, w_i64, Int.reduceToNat, Int.reducePow, Nat.reducePow, kA]
            exact ⟨trivial, B6⟩
          by_cases c8 : 2 < q.wh
          · simp (disch := first | omega | (simp only [size_setb, size_alloc', size_drew'] <;> omega) | (simp (disch := first | omega | (simp only [size_setb, size_alloc', size_drew'] <;> omega) | fail) only [go_sem, kA]; done) | fail) only [go_sem, dec_t, dec_f, w_u32, w_u64, w_u16, w_u8, w_i64, Int.reduceToNat, Int.reducePow, Nat.reducePow, kA]
            exact ⟨trivial, B6⟩
          by_cases c9 : (4096 : Int) < q.data.length
          · simp (disch := first | omega | (simp only [size_setb, size_alloc', size_drew'] <;> omega) | (simp (disch := first | omega | (simp only [size_setb, size_alloc', size_drew'] <;> omega) | fail) only [go_sem, kA, hqv]; done) | fail) only [go_sem, dec_t, dec_f, w_u32, w_u64, w_u16, w_u8, w_i64, Int.reduceToNat, Int.reducePow, Nat.reducePow, kA, hqv]
            exact ⟨trivial, B6⟩
          · simp (disch := first | omega | (simp only [size_setb, size_alloc', size_drew'] <;> omega) | (simp (disch := first | omega | (simp only [size_setb, size_alloc', size_drew'] <;> omega) | fail) only [go_sem, kA, hqv]; done) | fail) only [go_sem, dec_t, dec_f, w_u32, w_u64, w_u16, w_u8, w_i64, Int.reduceToNat, Int.reducePow, Nat.reducePow, kA, hqv]
            exact ⟨trivial, B5, ⟨by omega, by omega, by omega, by omega, by omega, by omega, by omega, by omega, by omega⟩⟩
      · have e1 : i = qs.length := by omega
        subst e1
        simp (disch := first | omega | (simp only [size_setb, size_alloc', size_drew'] <;> omega) | (simp (disch := first | omega | (simp only [size_setb, size_alloc', size_drew'] <;> omega) | fail) only [go_sem]; done) | fail) only [go_sem, dec_t, dec_f, w_u32, w_u64, w_u16, w_u8, w_i64, Int.reduceToNat, Int.reducePow, Nat.reducePow]
        rw [List.take_length] at hall
        exact jn_with (fun _ _ => False) (fun _ _ _ h => h.elim) ⟨b3, hall⟩
  · simp (disch := first | omega | (simp only [size_setb, size_alloc', size_drew'] <;> omega) | (simp (disch := first | omega | (simp only [size_setb, size_alloc', size_drew'] <;> omega) | fail) only [go_sem]; done) | fail) only [go_sem, dec_t, dec_f, w_u32, w_u64, w_u16, w_u8, w_i64, Int.reduceToNat, Int.reducePow, Nat.reducePow]
    refine fits1_spec hq fun bb w1 b1 => ?_
    cases bb with
    | true =>
      simp (disch := first | omega | (simp only [size_setb, size_alloc', size_drew'] <;> omega) | (simp (disch := first | omega | (simp only [size_setb, size_alloc', size_drew'] <;> omega) | fail) only [go_sem]; done) | fail) only [go_sem, dec_t, dec_f, w_u32, w_u64, w_u16, w_u8, w_i64, Int.reduceToNat, Int.reducePow, Nat.reducePow]
      exact b1
    | false =>
      simp (disch := first | omega | (simp only [size_setb, size_alloc', size_drew'] <;> omega) | (simp (disch := first | omega | (simp only [size_setb, size_alloc', size_drew'] <;> omega) | fail) only [go_sem]; done) | fail) only [go_sem, dec_t, dec_f, w_u32, w_u64, w_u16, w_u8, w_i64, Int.reduceToNat, Int.reducePow, Nat.reducePow]
      exact ⟨trivial, b1⟩
theorem FnReadOnlyHandle_walk (v0 : Value) (l0 : List UInt8) (v1 : Value) (qs : List Stp) (w : World) (bs : BS w v0 l0) (hl : l0.length ≤ 140737488351232) (hq : StepsAt w v1 qs ∧ (∀ q ∈ qs, q.fit) ∧ qs.length ≤ maxLen) (hL : laidMet P (senL.map senD) w) :
    Cl P Fn.laws_FnReadOnlyHandle #[v0, v1] w fun v w' => v = .bool true ∧ Below w.heap.size w w' := by
  obtain ⟨m, hs⟩ := sn_of hL
  exact FnReadOnlyHandle_law bs hl hs hq.1 hq.2.1 hq.2.2
end Go.Proofs.YteblpejgenehfaaDoor.X
