/- What the claim needs of the texts on it, laid together. No condition. -/
import Derived.Test.YteblpejgenehfaaDoorZBytesAreBytes2
set_option linter.unusedVariables false
set_option linter.unusedSimpArgs false
set_option maxRecDepth 100000
section
namespace Go.Proofs.YteblpejgenehfaaDoor.X
open Go Go.X Go.Proofs Go.RowKit
section
variable {w W : World} {K : Value → World → Prop} {B p : Nat} {m : SM.Mem} {F : Fp} {s : SM.Stp} {v : Value}
structure Lk (w W : World) (B p : Nat) (m : SM.Mem) (F : Fp) (s : SM.Stp) (v : Value) : Prop where
  h : MemS W B p m F
  b : Below w.heap.size w W
  S : bk W w.heap.size = some (CB (stepC s v) T.impl_Step)
theorem Lk.next {W' : World} (f : Lk w W B p m F s v) (b : Below W.heap.size W W') : Lk w W' B p m F s v :=
  ⟨f.h.old b, f.b.trans (b.mono f.b.size), (bel_bk b (bk_lt f.S)).trans f.S⟩
abbrev LkK (w : World) (r : Bool) (K : Value → World → Prop) : Prop := ∀ w', Below w.heap.size w w' → K (.bool r) w'
theorem names2_spec (f : Lk w W B p m F s v) (mb : MB m) (hn : s.name.length ≤ 400) (hk : LkK w ((m.find (norm s.name)).isSome || m.clear (norm s.name)) K) :
    J_spec_Mem_speaksNames_2 (.bool (m.find (norm s.name)).isSome) W (pt p 0) (S (norm s.name)) K := by
  unfold J_spec_Mem_speaksNames_2
  have hnl := norm_len s.name
  have mnn := mb.nn
  have q := hk W f.b
  cases hf : (m.find (norm s.name)).isSome with
  | true =>
    rw [hf] at q
    simp (disch := first | omega | (simp only [sZb, sZa, sZd] <;> omega) | (simp (disch := first | omega | (simp only [sZb, sZa, sZd] <;> omega) | fail) only [go_sem]; done) | fail) only [go_sem, dec_t, dec_f, w_u32, w_u64, w_u16, w_u8, w_i64, Int.reduceToNat, Int.reducePow, Nat.reducePow]
    exact q
  | false =>
    rw [hf] at q
    simp (disch := first | omega | (simp only [sZb, sZa, sZd] <;> omega) | (simp (disch := first | omega | (simp only [sZb, sZa, sZd] <;> omega) | fail) only [go_sem]; done) | fail) only [go_sem, dec_t, dec_f, w_u32, w_u64, w_u16, w_u8, w_i64, Int.reduceToNat, Int.reducePow, Nat.reducePow]
    refine clear_spec f.h (by omega) mb.la mb.lt (by omega) ?_
    simpa using q
theorem names3_spec (f : Lk w W B p m F s v) (mb : MB m) (hk : LkK w (decide (norm s.name ≠ [47]) && decide (m.children (norm s.name) = [])) K) :
    J_spec_Mem_speaksNames_3 (S (norm s.name)) W (pt p 0) K := by
  unfold J_spec_Mem_speaksNames_3
  have mnn := mb.nn
  by_cases c1 : norm s.name = [47]
  · have q := hk W f.b
    simp (disch := first | omega | (simp only [sZb, sZa, sZd] <;> omega) | (simp (disch := first | omega | (simp only [sZb, sZa, sZd] <;> omega) | fail) only [go_sem, c1, ne_eq, not_true_eq_false, decide_false]; done) | fail) only [go_sem, dec_t, dec_f, w_u32, w_u64, w_u16, w_u8, w_i64, Int.reduceToNat, Int.reducePow, Nat.reducePow, c1, ne_eq, not_true_eq_false, decide_false]
    simpa [c1] using q
  · simp (disch := first | omega | (simp only [sZb, sZa, sZd] <;> omega) | (simp (disch := first | omega | (simp only [sZb, sZa, sZd] <;> omega) | fail) only [go_sem, c1, ne_eq, not_false_eq_true, decide_true]; done) | fail) only [go_sem, dec_t, dec_f, w_u32, w_u64, w_u16, w_u8, w_i64, Int.reduceToNat, Int.reducePow, Nat.reducePow, c1, ne_eq, not_false_eq_true, decide_true]
    refine children_spec f.h (by omega) (fun x hx => by have := mb.nl x hx; omega) fun w2 v2 o2 B2 => ?_
    have q := hk w2 (f.next B2).b
    obtain ⟨a, c, rfl⟩ := own_slice o2
    simp (disch := first | omega | (simp only [sZb, sZa, sZd] <;> omega) | (simp (disch := first | omega | (simp only [sZb, sZa, sZd] <;> omega) | fail) only [go_sem]; done) | fail) only [go_sem, dec_t, dec_f, w_u32, w_u64, w_u16, w_u8, w_i64, Int.reduceToNat, Int.reducePow, Nat.reducePow]
    have e : decide (((m.children (norm s.name)).length : Int) = 0) = decide (m.children (norm s.name) = []) := decide_eq_decide.2 ⟨fun h => List.length_eq_zero_iff.1 (by omega), fun h => by rw [h]; rfl⟩
    rw [e]
    simpa [c1] using q
set_option maxHeartbeats 4000000 in
theorem names4_spec (f : Lk w W B p m F s v) (mb : MB m) (hn : s.name.length ≤ 400) (ho : s.other.length ≤ 400) (hk : LkK w (SM.namedS s.other && (decide (norm s.name = norm s.other) || (decide (norm s.name ≠ [47]) && decide (norm s.other ≠ [47]) && !SM.below (norm s.other) (norm s.name) && !m.isDir (norm s.other) && m.clear (norm s.other)))) K) :
    J_spec_Mem_speaksNames_4 (pt w.heap.size 0) W (S (norm s.name)) (pt p 0) K := by
  unfold J_spec_Mem_speaksNames_4
  have mnn := mb.nn
  have hnl := norm_len s.name
  have hol := norm_len s.other
  have bS := f.S
  simp (disch := first | omega | (simp only [sZb, sZa, sZd] <;> omega) | (simp (disch := first | omega | (simp only [sZb, sZa, sZd] <;> omega) | fail) only [go_sem, bS]; done) | fail) only [go_sem, dec_t, dec_f, w_u32, w_u64, w_u16, w_u8, w_i64, Int.reduceToNat, Int.reducePow, Nat.reducePow, bS]
  refine memName_spec ho fun w1 B1 => ?_
  have f1 := f.next B1
  have bS1 := f1.S
  simp (disch := first | omega | (simp only [sZb, sZa, sZd] <;> omega) | (simp (disch := first | omega | (simp only [sZb, sZa, sZd] <;> omega) | fail) only [go_sem, bS1]; done) | fail) only [go_sem, dec_t, dec_f, w_u32, w_u64, w_u16, w_u8, w_i64, Int.reduceToNat, Int.reducePow, Nat.reducePow, bS1]
  refine named_spec (by omega) fun w2 B2 => ?_
  have f2 := f1.next B2
  have q := hk w2 f2.b
  cases c0 : SM.namedS s.other with
  | false =>
    rw [c0] at q
    simp (disch := first | omega | (simp only [sZb, sZa, sZd] <;> omega) | (simp (disch := first | omega | (simp only [sZb, sZa, sZd] <;> omega) | fail) only [go_sem]; done) | fail) only [go_sem, dec_t, dec_f, w_u32, w_u64, w_u16, w_u8, w_i64, Int.reduceToNat, Int.reducePow, Nat.reducePow]
    exact q
  | true =>
    rw [c0] at q
    by_cases c1 : norm s.name = norm s.other
    · simp (disch := first | omega | (simp only [sZb, sZa, sZd] <;> omega) | (simp (disch := first | omega | (simp only [sZb, sZa, sZd] <;> omega) | fail) only [go_sem, c1, decide_true]; done) | fail) only [go_sem, dec_t, dec_f, w_u32, w_u64, w_u16, w_u8, w_i64, Int.reduceToNat, Int.reducePow, Nat.reducePow, c1, decide_true]
      simpa [c1] using q
    · by_cases c2 : norm s.name = [47]
      · have c1' : ¬ [47] = norm s.other := fun e => c1 (by rw [c2]; exact e)
        simp (disch := first | omega | (simp only [sZb, sZa, sZd] <;> omega) | (simp (disch := first | omega | (simp only [sZb, sZa, sZd] <;> omega) | fail) only [go_sem, c2, c1', ne_eq, not_true_eq_false, decide_false]; done) | fail) only [go_sem, dec_t, dec_f, w_u32, w_u64, w_u16, w_u8, w_i64, Int.reduceToNat, Int.reducePow, Nat.reducePow, c2, c1', ne_eq, not_true_eq_false, decide_false]
        simpa [c2, c1'] using q
      · by_cases c3 : norm s.other = [47]
        · have c1' : ¬ norm s.name = [47] := c2
          simp (disch := first | omega | (simp only [sZb, sZa, sZd] <;> omega) | (simp (disch := first | omega | (simp only [sZb, sZa, sZd] <;> omega) | fail) only [go_sem, c3, c1', ne_eq, not_true_eq_false, not_false_eq_true, decide_false, decide_true]; done) | fail) only [go_sem, dec_t, dec_f, w_u32, w_u64, w_u16, w_u8, w_i64, Int.reduceToNat, Int.reducePow, Nat.reducePow, c3, c1', ne_eq, not_true_eq_false, not_false_eq_true, decide_false, decide_true]
          simpa [c3, c1'] using q
        · simp (disch := first | omega | (simp only [sZb, sZa, sZd] <;> omega) | (simp (disch := first | omega | (simp only [sZb, sZa, sZd] <;> omega) | fail) only [go_sem, c1, c2, c3, ne_eq, not_true_eq_false, not_false_eq_true, decide_false, decide_true]; done) | fail) only [go_sem, dec_t, dec_f, w_u32, w_u64, w_u16, w_u8, w_i64, Int.reduceToNat, Int.reducePow, Nat.reducePow, c1, c2, c3, ne_eq, not_true_eq_false, not_false_eq_true, decide_false, decide_true]
          refine below_spec (by omega) (by omega) ?_
          cases c4 : SM.below (norm s.other) (norm s.name) with
          | true =>
            rw [c4] at q
            simp (disch := first | omega | (simp only [sZb, sZa, sZd] <;> omega) | (simp (disch := first | omega | (simp only [sZb, sZa, sZd] <;> omega) | fail) only [go_sem]; done) | fail) only [go_sem, dec_t, dec_f, w_u32, w_u64, w_u16, w_u8, w_i64, Int.reduceToNat, Int.reducePow, Nat.reducePow]
            simpa [c1] using q
          | false =>
            rw [c4] at q
            simp (disch := first | omega | (simp only [sZb, sZa, sZd] <;> omega) | (simp (disch := first | omega | (simp only [sZb, sZa, sZd] <;> omega) | fail) only [go_sem]; done) | fail) only [go_sem, dec_t, dec_f, w_u32, w_u64, w_u16, w_u8, w_i64, Int.reduceToNat, Int.reducePow, Nat.reducePow]
            refine isDir_spec f2.h (by omega) mb.la mb.lt ?_
            cases c5 : m.isDir (norm s.other) with
            | true =>
              rw [c5] at q
              simp (disch := first | omega | (simp only [sZb, sZa, sZd] <;> omega) | (simp (disch := first | omega | (simp only [sZb, sZa, sZd] <;> omega) | fail) only [go_sem]; done) | fail) only [go_sem, dec_t, dec_f, w_u32, w_u64, w_u16, w_u8, w_i64, Int.reduceToNat, Int.reducePow, Nat.reducePow]
              simpa [c1] using q
            | false =>
              rw [c5] at q
              simp (disch := first | omega | (simp only [sZb, sZa, sZd] <;> omega) | (simp (disch := first | omega | (simp only [sZb, sZa, sZd] <;> omega) | fail) only [go_sem]; done) | fail) only [go_sem, dec_t, dec_f, w_u32, w_u64, w_u16, w_u8, w_i64, Int.reduceToNat, Int.reducePow, Nat.reducePow]
              refine clear_spec f2.h (by omega) mb.la mb.lt (by omega) ?_
              simpa [c1, c2, c3] using q
theorem names5_spec (f : Lk w W B p m F s v) (hk : LkK w ((m.find (norm s.name)).isSome && decide (s.name = norm s.name)) K) :
    J_spec_Mem_speaksNames_5 (.bool (m.find (norm s.name)).isSome) W (pt w.heap.size 0) (S (norm s.name)) K := by
  unfold J_spec_Mem_speaksNames_5
  have bS := f.S
  have q := hk W f.b
  cases hf : (m.find (norm s.name)).isSome with
  | true =>
    rw [hf] at q
    simp (disch := first | omega | (simp only [sZb, sZa, sZd] <;> omega) | (simp (disch := first | omega | (simp only [sZb, sZa, sZd] <;> omega) | fail) only [go_sem, bS]; done) | fail) only [go_sem, dec_t, dec_f, w_u32, w_u64, w_u16, w_u8, w_i64, Int.reduceToNat, Int.reducePow, Nat.reducePow, bS]
    simpa using q
  | false =>
    rw [hf] at q
    simp (disch := first | omega | (simp only [sZb, sZa, sZd] <;> omega) | (simp (disch := first | omega | (simp only [sZb, sZa, sZd] <;> omega) | fail) only [go_sem]; done) | fail) only [go_sem, dec_t, dec_f, w_u32, w_u64, w_u16, w_u8, w_i64, Int.reduceToNat, Int.reducePow, Nat.reducePow]
    exact q
theorem names6_spec (f : Lk w W B p m F s v) (hk : LkK w (decide (-1099511627776 ≤ s.off) && decide (s.off ≤ 1099511627776)) K) :
    J_spec_Mem_speaksNames_6 (pt w.heap.size 0) W K := by
  unfold J_spec_Mem_speaksNames_6
  have bS := f.S
  have q := hk W f.b
  by_cases c : -1099511627776 ≤ s.off
  · simp (disch := first | omega | (simp only [sZb, sZa, sZd] <;> omega) | (simp (disch := first | omega | (simp only [sZb, sZa, sZd] <;> omega) | fail) only [go_sem, bS]; done) | fail) only [go_sem, dec_t, dec_f, w_u32, w_u64, w_u16, w_u8, w_i64, Int.reduceToNat, Int.reducePow, Nat.reducePow, bS]
    simpa [c] using q
  · simp (disch := first | omega | (simp only [sZb, sZa, sZd] <;> omega) | (simp (disch := first | omega | (simp only [sZb, sZa, sZd] <;> omega) | fail) only [go_sem, bS]; done) | fail) only [go_sem, dec_t, dec_f, w_u32, w_u64, w_u16, w_u8, w_i64, Int.reduceToNat, Int.reducePow, Nat.reducePow, bS]
    simpa [c] using q
set_option maxHeartbeats 4000000 in
theorem speaksNames_spec (h : MemS w B p m F) (mb : MB m) (hn : s.name.length ≤ 400) (ho : s.other.length ≤ 400) (hop : 3 ≤ s.op ∧ s.op ≤ 11) (hk : LkK w (m.speaksNames s) K) : Cl P Fn.spec_Mem_speaksNames #[pt p 0, AG (stepC s v)] w K := by
  apply S_spec_Mem_speaksNames
  unfold F_spec_Mem_speaksNames
  obtain ⟨W, eW, BW, zW, bS⟩ := step_w w s v
  have mnn := mb.nn
  have hnl := norm_len s.name
  rw [oBox_agg, eW]
  have f : Lk w W B p m F s v := ⟨h.old BW, BW, bS⟩
  simp (disch := first | omega | (simp only [sZb, sZa, sZd] <;> omega) | (simp (disch := first | omega | (simp only [sZb, sZa, sZd] <;> omega) | fail) only [go_sem, bS]; done) | fail) only [go_sem, dec_t, dec_f, w_u32, w_u64, w_u16, w_u8, w_i64, Int.reduceToNat, Int.reducePow, Nat.reducePow, bS]
  refine memName_spec hn fun w1 B1 => ?_
  have f1 := f.next B1
  have bS1 := f1.S
  refine find_spec f1.h (by omega) mb.la ?_
  unfold SM.Mem.speaksNames at hk
  simp only at hk
  by_cases c0 : SM.namedS s.name = false
  · rw [if_pos c0] at hk
    rw [oExtract2_0, oExtract2_1]
    refine jn_with (fun _ _ => False) (fun _ _ _ h => h.elim) ?_
    simp (disch := first | omega | (simp only [sZb, sZa, sZd] <;> omega) | (simp (disch := first | omega | (simp only [sZb, sZa, sZd] <;> omega) | fail) only [go_sem, bS1]; done) | fail) only [go_sem, dec_t, dec_f, w_u32, w_u64, w_u16, w_u8, w_i64, Int.reduceToNat, Int.reducePow, Nat.reducePow, bS1]
    refine named_spec (by omega) fun w2 B2 => ?_
    simp (disch := first | omega | (simp only [sZb, sZa, sZd] <;> omega) | (simp (disch := first | omega | (simp only [sZb, sZa, sZd] <;> omega) | fail) only [go_sem, c0]; done) | fail) only [go_sem, dec_t, dec_f, w_u32, w_u64, w_u16, w_u8, w_i64, Int.reduceToNat, Int.reducePow, Nat.reducePow, c0]
    exact hk _ (f1.next B2).b
  rw [if_neg c0] at hk
  have c0' : SM.namedS s.name = true := by simpa using c0
  rw [oExtract2_0, oExtract2_1]
  refine jn_with (fun t w' => Below w.heap.size w w' ∧ m.speaksNames s = true) ?_ ?_
  · rintro t e w2 ⟨B2, hs⟩
    unfold J_spec_Mem_speaksNames_1
    have hk2 : LkK w (m.speaksNames s) K := by
      unfold SM.Mem.speaksNames
      simp only
      rw [if_neg c0]
      exact hk
    rw [hs] at hk2
    exact hk2 w2 B2
  simp (disch := first | omega | (simp only [sZb, sZa, sZd] <;> omega) | (simp (disch := first | omega | (simp only [sZb, sZa, sZd] <;> omega) | fail) only [go_sem, bS1]; done) | fail) only [go_sem, dec_t, dec_f, w_u32, w_u64, w_u16, w_u8, w_i64, Int.reduceToNat, Int.reducePow, Nat.reducePow, bS1]
  refine named_spec (by omega) fun w2 B2 => ?_
  have f2 := f1.next B2
  have bS2 := f2.S
  simp (disch := first | omega | (simp only [sZb, sZa, sZd] <;> omega) | (simp (disch := first | omega | (simp only [sZb, sZa, sZd] <;> omega) | fail) only [go_sem, c0']; done) | fail) only [go_sem, dec_t, dec_f, w_u32, w_u64, w_u16, w_u8, w_i64, Int.reduceToNat, Int.reducePow, Nat.reducePow, c0']
  unfold J_spec_Mem_speaksNames_12
  by_cases c3 : s.op = 3 ∨ s.op = 4
  · rw [if_pos c3] at hk
    rcases c3 with c3 | c3
    · simp (disch := first | omega | (simp only [sZb, sZa, sZd] <;> omega) | (simp (disch := first | omega | (simp only [sZb, sZa, sZd] <;> omega) | fail) only [go_sem, bS2]; done) | fail) only [go_sem, dec_t, dec_f, w_u32, w_u64, w_u16, w_u8, w_i64, Int.reduceToNat, Int.reducePow, Nat.reducePow, bS2]
      exact names2_spec f2 mb hn hk
    · simp (disch := first | omega | (simp only [sZb, sZa, sZd] <;> omega) | (simp (disch := first | omega | (simp only [sZb, sZa, sZd] <;> omega) | fail) only [go_sem, bS2]; done) | fail) only [go_sem, dec_t, dec_f, w_u32, w_u64, w_u16, w_u8, w_i64, Int.reduceToNat, Int.reducePow, Nat.reducePow, bS2]
      exact names2_spec f2 mb hn hk
  rw [if_neg c3] at hk
  have c3a : ¬ s.op = 3 := fun e => c3 (.inl e)
  have c3b : ¬ s.op = 4 := fun e => c3 (.inr e)
  simp (disch := first | omega | (simp only [sZb, sZa, sZd] <;> omega) | (simp (disch := first | omega | (simp only [sZb, sZa, sZd] <;> omega) | fail) only [go_sem, bS2]; done) | fail) only [go_sem, dec_t, dec_f, w_u32, w_u64, w_u16, w_u8, w_i64, Int.reduceToNat, Int.reducePow, Nat.reducePow, bS2]
  unfold J_spec_Mem_speaksNames_11
  by_cases c5 : s.op = 5
  · rw [if_pos c5] at hk
    simp (disch := first | omega | (simp only [sZb, sZa, sZd] <;> omega) | (simp (disch := first | omega | (simp only [sZb, sZa, sZd] <;> omega) | fail) only [go_sem, bS2]; done) | fail) only [go_sem, dec_t, dec_f, w_u32, w_u64, w_u16, w_u8, w_i64, Int.reduceToNat, Int.reducePow, Nat.reducePow, bS2]
    exact names3_spec f2 mb hk
  rw [if_neg c5] at hk
  simp (disch := first | omega | (simp only [sZb, sZa, sZd] <;> omega) | (simp (disch := first | omega | (simp only [sZb, sZa, sZd] <;> omega) | fail) only [go_sem, bS2]; done) | fail) only [go_sem, dec_t, dec_f, w_u32, w_u64, w_u16, w_u8, w_i64, Int.reduceToNat, Int.reducePow, Nat.reducePow, bS2]
  unfold J_spec_Mem_speaksNames_10
  by_cases c6 : s.op = 6
  · rw [if_pos c6] at hk
    simp (disch := first | omega | (simp only [sZb, sZa, sZd] <;> omega) | (simp (disch := first | omega | (simp only [sZb, sZa, sZd] <;> omega) | fail) only [go_sem, bS2]; done) | fail) only [go_sem, dec_t, dec_f, w_u32, w_u64, w_u16, w_u8, w_i64, Int.reduceToNat, Int.reducePow, Nat.reducePow, bS2]
    exact hk _ f2.b
  rw [if_neg c6] at hk
  simp (disch := first | omega | (simp only [sZb, sZa, sZd] <;> omega) | (simp (disch := first | omega | (simp only [sZb, sZa, sZd] <;> omega) | fail) only [go_sem, bS2]; done) | fail) only [go_sem, dec_t, dec_f, w_u32, w_u64, w_u16, w_u8, w_i64, Int.reduceToNat, Int.reducePow, Nat.reducePow, bS2]
  unfold J_spec_Mem_speaksNames_9
  by_cases c7 : s.op = 7
  · rw [if_pos c7] at hk
    simp (disch := first | omega | (simp only [sZb, sZa, sZd] <;> omega) | (simp (disch := first | omega | (simp only [sZb, sZa, sZd] <;> omega) | fail) only [go_sem, bS2]; done) | fail) only [go_sem, dec_t, dec_f, w_u32, w_u64, w_u16, w_u8, w_i64, Int.reduceToNat, Int.reducePow, Nat.reducePow, bS2]
    exact names4_spec f2 mb hn ho hk
  rw [if_neg c7] at hk
  simp (disch := first | omega | (simp only [sZb, sZa, sZd] <;> omega) | (simp (disch := first | omega | (simp only [sZb, sZa, sZd] <;> omega) | fail) only [go_sem, bS2]; done) | fail) only [go_sem, dec_t, dec_f, w_u32, w_u64, w_u16, w_u8, w_i64, Int.reduceToNat, Int.reducePow, Nat.reducePow, bS2]
  unfold J_spec_Mem_speaksNames_8
  by_cases c10 : s.op = 10
  · rw [if_pos c10] at hk
    simp (disch := first | omega | (simp only [sZb, sZa, sZd] <;> omega) | (simp (disch := first | omega | (simp only [sZb, sZa, sZd] <;> omega) | fail) only [go_sem, bS2]; done) | fail) only [go_sem, dec_t, dec_f, w_u32, w_u64, w_u16, w_u8, w_i64, Int.reduceToNat, Int.reducePow, Nat.reducePow, bS2]
    exact names5_spec f2 hk
  rw [if_neg c10] at hk
  simp (disch := first | omega | (simp only [sZb, sZa, sZd] <;> omega) | (simp (disch := first | omega | (simp only [sZb, sZa, sZd] <;> omega) | fail) only [go_sem, bS2]; done) | fail) only [go_sem, dec_t, dec_f, w_u32, w_u64, w_u16, w_u8, w_i64, Int.reduceToNat, Int.reducePow, Nat.reducePow, bS2]
  unfold J_spec_Mem_speaksNames_7
  by_cases c11 : s.op = 11
  · rw [if_pos c11] at hk
    simp (disch := first | omega | (simp only [sZb, sZa, sZd] <;> omega) | (simp (disch := first | omega | (simp only [sZb, sZa, sZd] <;> omega) | fail) only [go_sem, bS2]; done) | fail) only [go_sem, dec_t, dec_f, w_u32, w_u64, w_u16, w_u8, w_i64, Int.reduceToNat, Int.reducePow, Nat.reducePow, bS2]
    exact names6_spec f2 hk
  rw [if_neg c11] at hk
  simp (disch := first | omega | (simp only [sZb, sZa, sZd] <;> omega) | (simp (disch := first | omega | (simp only [sZb, sZa, sZd] <;> omega) | fail) only [go_sem, bS2]; done) | fail) only [go_sem, dec_t, dec_f, w_u32, w_u64, w_u16, w_u8, w_i64, Int.reduceToNat, Int.reducePow, Nat.reducePow, bS2]
  refine ⟨f2.b, ?_⟩
  unfold SM.Mem.speaksNames
  simp only
  rw [if_neg c0, if_neg c3, if_neg c5, if_neg c6, if_neg c7, if_neg c10, if_neg c11]
end
end Go.Proofs.YteblpejgenehfaaDoor.X
end
section
namespace Go.Proofs.YteblpejgenehfaaDoor.X
open Go Go.X Go.Proofs Go.RowKit
theorem zeroH : rp P (zeroValue T.p_spec_MemHandle) = some (.pointer none) := by kernel_rfl
section
variable {w W : World} {K : Value → World → Prop} {B p : Nat} {m : SM.Mem} {F : Fp} {vn va vd : Value} {q : Nat} {ds : List Value} {hl : ML Int} {c : Nat} {hb : Int → Nat} {ρ : Nat → Rl} {k : Int} {hd : SM.Hnd} {s : SM.Stp} {v : Value}
set_option maxHeartbeats 8000000 in
theorem speaksFile_spec (h : MemX w B p m F vn va vd q ds hl c hb ρ) (hv : ∃ a c, v = .slice a s.data.length c) (hh : SM.hget m.hs k = some hd) (hn : hd.node < m.nodes.length) (mb : MB m) (hop : s.op < 0 ∨ 11 < s.op) (hk : LkK w (m.speaksFile hd s) K) : Cl P Fn.spec_Mem_speaksFile #[pt p 0, pt (hb k) 0, AG (stepC s v)] w K := by
  apply S_spec_Mem_speaksFile
  unfold F_spec_Mem_speaksFile
  obtain ⟨W, eW, BW, zW, bS⟩ := step_w w s v
  rw [oBox_agg, eW]
  have h1 := h.old BW
  have bm := h1.bm
  have bh := (h1.bh k hd hh).2
  obtain ⟨g, cur, na, na1, na2⟩ := h1.node hn
  have ix := na.ix .i64
  have bg := na.bg
  have len := na.len
  have row := na.row
  obtain ⟨dat, _⟩ := h1.data hn
  obtain ⟨da, dc, ed⟩ := BS_slice dat
  rw [ed] at row
  have lp := bk_lt bm
  have lh := bk_lt bh
  have lg := bk_lt bg
  have mnn := mb.nn
  simp (disch := first | omega | (simp only [sZb, sZa, sZd] <;> omega) | (simp (disch := first | omega | (simp only [sZb, sZa, sZd] <;> omega) | fail) only [go_sem, bm, bh, ix, bg, row]; done) | fail) only [go_sem, dec_t, dec_f, w_u32, w_u64, w_u16, w_u8, w_i64, Int.reduceToNat, Int.reducePow, Nat.reducePow, bm, bh, ix, bg, row]
  refine ⟨trivial, trivial, trivial, ?_⟩
  obtain ⟨W2, e2⟩ : ∃ W2, W2 = setb (W.alloc (CB (nodeC ⟨false, 0, [], 0, []⟩ (.slice none 0 0)) T.spec_MemNode)).drew W.heap.size (CB (nodeC (m.node hd.node) (.slice da (m.node hd.node).data.length dc)) T.spec_MemNode) := ⟨_, rfl⟩
  have B2 : Below W.heap.size W W2 := by rw [e2]; repeat (first | exact Below.refl _ _ | assumption | refine bel_setb ?_ (by first | exact Nat.le_refl _ | omega | (simp only [go_sem] <;> omega)) _ | refine Below.alloc ?_ (by first | exact Nat.le_refl _ | omega | (simp only [go_sem]; omega)) _ | refine Below.drew ?_)
  have bN : bk W2 W.heap.size = some (CB (nodeC (m.node hd.node) (.slice da (m.node hd.node).data.length dc)) T.spec_MemNode) := by rw [e2]; exact bk_setb_eq _ _ _ _ rfl (by simp only [go_sem]; omega)
  rw [← e2]
  clear e2 na
  have bS2 := (bel_bk B2 (bk_lt bS)).trans bS
  have h2 := h1.old B2
  have bh2 := (h2.bh k hd hh).2
  have BW2 : Below w.heap.size w W2 := BW.trans (B2.mono BW.size)
  have lN := bk_lt bN
  obtain ⟨av, cv, ev⟩ := hv
  unfold SM.Mem.speaksFile at hk
  simp only at hk
  by_cases c1 : s.op = 19 ∨ s.op = 20
  · rw [if_pos c1] at hk
    refine jn_with (fun _ _ => False) (fun _ _ _ h => h.elim) ?_
    simp (disch := first | omega | (simp only [sZb, sZa, sZd] <;> omega) | (simp (disch := first | omega | (simp only [sZb, sZa, sZd] <;> omega) | fail) only [go_sem, bS2]; done) | fail) only [go_sem, dec_t, dec_f, w_u32, w_u64, w_u16, w_u8, w_i64, Int.reduceToNat, Int.reducePow, Nat.reducePow, bS2]
    refine jn_with (fun t w' => t = [.bool true] ∧ w' = W2) ?_ ?_
    · rintro t e w3 ⟨rfl, rfl⟩
      unfold J_spec_Mem_speaksFile_17
      simp (disch := first | omega | (simp only [sZb, sZa, sZd] <;> omega) | (simp (disch := first | omega | (simp only [sZb, sZa, sZd] <;> omega) | fail) only [go_sem]; done) | fail) only [go_sem, dec_t, dec_f, w_u32, w_u64, w_u16, w_u8, w_i64, Int.reduceToNat, Int.reducePow, Nat.reducePow]
      unfold J_spec_Mem_speaksFile_13
      simp (disch := first | omega | (simp only [sZb, sZa, sZd] <;> omega) | (simp (disch := first | omega | (simp only [sZb, sZa, sZd] <;> omega) | fail) only [go_sem, bN]; done) | fail) only [go_sem, dec_t, dec_f, w_u32, w_u64, w_u16, w_u8, w_i64, Int.reduceToNat, Int.reducePow, Nat.reducePow, bN]
      refine find_spec h2.toS (by omega) mb.la ?_
      have q1 := hk w3.drew BW2.drew
      cases hdir : (m.node hd.node).dir with
      | false =>
        rw [hdir] at q1
        simp (disch := first | omega | (simp only [sZb, sZa, sZd] <;> omega) | (simp (disch := first | omega | (simp only [sZb, sZa, sZd] <;> omega) | fail) only [go_sem, bN, hdir]; done) | fail) only [go_sem, dec_t, dec_f, w_u32, w_u64, w_u16, w_u8, w_i64, Int.reduceToNat, Int.reducePow, Nat.reducePow, bN, hdir]
        exact ⟨fun h => (by cases h), q1⟩
      | true =>
        rw [hdir] at hk
        simp only [Bool.not_true, Bool.false_or] at hk
        have q1 := hk w3.drew BW2.drew
        cases hf : m.find (m.node hd.node).name with
        | none =>
          rw [hf] at q1
          simp (disch := first | omega | (simp only [sZb, sZa, sZd] <;> omega) | (simp (disch := first | omega | (simp only [sZb, sZa, sZd] <;> omega) | fail) only [go_sem, bN, hdir, Option.isSome_none]; done) | fail) only [go_sem, dec_t, dec_f, w_u32, w_u64, w_u16, w_u8, w_i64, Int.reduceToNat, Int.reducePow, Nat.reducePow, bN, hdir, Option.isSome_none]
          exact ⟨fun h => (by cases h), by simpa using q1⟩
        | some x =>
          rw [hf] at hk q1
          by_cases cx : x = hd.node
          · subst cx
            simp (disch := first | omega | (simp only [sZb, sZa, sZd] <;> omega) | (simp (disch := first | omega | (simp only [sZb, sZa, sZd] <;> omega) | fail) only [go_sem, bN, hdir, Option.isSome_some, Option.getD_some, bh2, decide_true]; done) | fail) only [go_sem, dec_t, dec_f, w_u32, w_u64, w_u16, w_u8, w_i64, Int.reduceToNat, Int.reducePow, Nat.reducePow, bN, hdir, Option.isSome_some, Option.getD_some, bh2, decide_true]
            refine children_spec (h2.old (by repeat (first | exact Below.refl _ _ | assumption | refine bel_setb ?_ (by first | exact Nat.le_refl _ | omega | (simp only [go_sem] <;> omega)) _ | refine Below.alloc ?_ (by first | exact Nat.le_refl _ | omega | (simp only [go_sem]; omega)) _ | refine Below.drew ?_) : Below w3.heap.size w3 w3.drew)).toS (by omega) (fun x hx => by have := mb.nl x hx; omega) fun w4 v4 o4 B4 => ?_
            have B34 : Below w3.heap.size w3 w4 := (by repeat (first | exact Below.refl _ _ | assumption | refine bel_setb ?_ (by first | exact Nat.le_refl _ | omega | (simp only [go_sem] <;> omega)) _ | refine Below.alloc ?_ (by first | exact Nat.le_refl _ | omega | (simp only [go_sem]; omega)) _ | refine Below.drew ?_) : Below w3.heap.size w3 w3.drew).trans B4
            have q2 := hk w4 (BW2.trans (B34.mono BW2.size))
            have bh4 := (bel_bk B34 (bk_lt bh2)).trans bh2
            obtain ⟨a4, c4, rfl⟩ := own_slice o4
            simp (disch := first | omega | (simp only [sZb, sZa, sZd] <;> omega) | (simp (disch := first | omega | (simp only [sZb, sZa, sZd] <;> omega) | fail) only [go_sem, bh4]; done) | fail) only [go_sem, dec_t, dec_f, w_u32, w_u64, w_u16, w_u8, w_i64, Int.reduceToNat, Int.reducePow, Nat.reducePow, bh4]
            refine ⟨fun _ => trivial, ?_⟩
            simpa using q2
          · have cx' : ¬ (x : Int) = hd.node := fun e => cx (by omega)
            simp (disch := first | omega | (simp only [sZb, sZa, sZd] <;> omega) | (simp (disch := first | omega | (simp only [sZb, sZa, sZd] <;> omega) | fail) only [go_sem, bN, hdir, Option.isSome_some, Option.getD_some, bh2, cx', decide_false]; done) | fail) only [go_sem, dec_t, dec_f, w_u32, w_u64, w_u16, w_u8, w_i64, Int.reduceToNat, Int.reducePow, Nat.reducePow, bN, hdir, Option.isSome_some, Option.getD_some, bh2, cx', decide_false]
            exact ⟨fun h => (by cases h), by simpa [cx] using q1⟩
    · rcases c1 with c1 | c1
      · simp (disch := first | omega | (simp only [sZb, sZa, sZd] <;> omega) | (simp (disch := first | omega | (simp only [sZb, sZa, sZd] <;> omega) | fail) only [go_sem, bS2]; done) | fail) only [go_sem, dec_t, dec_f, w_u32, w_u64, w_u16, w_u8, w_i64, Int.reduceToNat, Int.reducePow, Nat.reducePow, bS2]
        exact ⟨trivial, trivial⟩
      · simp (disch := first | omega | (simp only [sZb, sZa, sZd] <;> omega) | (simp (disch := first | omega | (simp only [sZb, sZa, sZd] <;> omega) | fail) only [go_sem, bS2]; done) | fail) only [go_sem, dec_t, dec_f, w_u32, w_u64, w_u16, w_u8, w_i64, Int.reduceToNat, Int.reducePow, Nat.reducePow, bS2]
        exact ⟨trivial, trivial⟩
  rw [if_neg c1] at hk
  have c19 : ¬ s.op = 19 := fun e => c1 (.inl e)
  have c20 : ¬ s.op = 20 := fun e => c1 (.inr e)
  by_cases c2 : s.op = 18 ∨ s.op = 21 ∨ s.op = 22 ∨ s.op = 23
  · rw [if_pos c2] at hk
    refine jn_with (fun _ _ => False) (fun _ _ _ h => h.elim) ?_
    simp (disch := first | omega | (simp only [sZb, sZa, sZd] <;> omega) | (simp (disch := first | omega | (simp only [sZb, sZa, sZd] <;> omega) | fail) only [go_sem, bS2]; done) | fail) only [go_sem, dec_t, dec_f, w_u32, w_u64, w_u16, w_u8, w_i64, Int.reduceToNat, Int.reducePow, Nat.reducePow, bS2]
    refine jn_with (fun t w' => t = [.bool false] ∧ w' = W2) ?_ ?_
    · rintro t e w3 ⟨rfl, rfl⟩
      unfold J_spec_Mem_speaksFile_17
      simp (disch := first | omega | (simp only [sZb, sZa, sZd] <;> omega) | (simp (disch := first | omega | (simp only [sZb, sZa, sZd] <;> omega) | fail) only [go_sem]; done) | fail) only [go_sem, dec_t, dec_f, w_u32, w_u64, w_u16, w_u8, w_i64, Int.reduceToNat, Int.reducePow, Nat.reducePow]
      unfold J_spec_Mem_speaksFile_16
      refine jn_with (fun t w' => t = [.bool true] ∧ w' = w3) ?_ ?_
      · rintro t e w4 ⟨rfl, rfl⟩
        unfold J_spec_Mem_speaksFile_14
        simp (disch := first | omega | (simp only [sZb, sZa, sZd] <;> omega) | (simp (disch := first | omega | (simp only [sZb, sZa, sZd] <;> omega) | fail) only [go_sem]; done) | fail) only [go_sem, dec_t, dec_f, w_u32, w_u64, w_u16, w_u8, w_i64, Int.reduceToNat, Int.reducePow, Nat.reducePow]
        exact hk _ BW2
      · by_cases c18 : s.op = 18
        · simp (disch := first | omega | (simp only [sZb, sZa, sZd] <;> omega) | (simp (disch := first | omega | (simp only [sZb, sZa, sZd] <;> omega) | fail) only [go_sem]; done) | fail) only [go_sem, dec_t, dec_f, w_u32, w_u64, w_u16, w_u8, w_i64, Int.reduceToNat, Int.reducePow, Nat.reducePow]
          exact ⟨trivial, trivial⟩
        · simp (disch := first | omega | (simp only [sZb, sZa, sZd] <;> omega) | (simp (disch := first | omega | (simp only [sZb, sZa, sZd] <;> omega) | fail) only [go_sem]; done) | fail) only [go_sem, dec_t, dec_f, w_u32, w_u64, w_u16, w_u8, w_i64, Int.reduceToNat, Int.reducePow, Nat.reducePow]
          unfold J_spec_Mem_speaksFile_15
          by_cases c21 : s.op = 21
          · simp (disch := first | omega | (simp only [sZb, sZa, sZd] <;> omega) | (simp (disch := first | omega | (simp only [sZb, sZa, sZd] <;> omega) | fail) only [go_sem]; done) | fail) only [go_sem, dec_t, dec_f, w_u32, w_u64, w_u16, w_u8, w_i64, Int.reduceToNat, Int.reducePow, Nat.reducePow]
            exact ⟨trivial, trivial⟩
          · by_cases c22 : s.op = 22
            · simp (disch := first | omega | (simp only [sZb, sZa, sZd] <;> omega) | (simp (disch := first | omega | (simp only [sZb, sZa, sZd] <;> omega) | fail) only [go_sem]; done) | fail) only [go_sem, dec_t, dec_f, w_u32, w_u64, w_u16, w_u8, w_i64, Int.reduceToNat, Int.reducePow, Nat.reducePow]
              exact ⟨trivial, trivial⟩
            · simp (disch := first | omega | (simp only [sZb, sZa, sZd] <;> omega) | (simp (disch := first | omega | (simp only [sZb, sZa, sZd] <;> omega) | fail) only [go_sem]; done) | fail) only [go_sem, dec_t, dec_f, w_u32, w_u64, w_u16, w_u8, w_i64, Int.reduceToNat, Int.reducePow, Nat.reducePow]
              exact ⟨trivial, trivial⟩
    · simp (disch := first | omega | (simp only [sZb, sZa, sZd] <;> omega) | (simp (disch := first | omega | (simp only [sZb, sZa, sZd] <;> omega) | fail) only [go_sem, bS2]; done) | fail) only [go_sem, dec_t, dec_f, w_u32, w_u64, w_u16, w_u8, w_i64, Int.reduceToNat, Int.reducePow, Nat.reducePow, bS2]
      exact ⟨trivial, trivial⟩
  rw [if_neg c2] at hk
  have d18 : ¬ s.op = 18 := fun e => c2 (.inl e)
  have d21 : ¬ s.op = 21 := fun e => c2 (.inr (.inl e))
  have d22 : ¬ s.op = 22 := fun e => c2 (.inr (.inr (.inl e)))
  have d23 : ¬ s.op = 23 := fun e => c2 (.inr (.inr (.inr e)))
  refine jn_with (fun t w' => w' = W2) ?_ ?_
  · rintro t e w3 rfl
    unfold J_spec_Mem_speaksFile_12
    have bS3 := bS2
    rw [ev] at bS3
    have q1 := hk w3 BW2
    by_cases hbad : (m.node hd.node).dir = true ∨ 4096 < s.data.length ∨ s.n < 0 ∨ 4096 < s.n ∨ 1099511627776 < s.off ∨ s.off < -1099511627776
    · have hb' : ((m.node hd.node).dir || decide (4096 < s.data.length) || decide (s.n < 0) || decide (4096 < s.n) || decide (1099511627776 < s.off) || decide (s.off < -1099511627776)) = true := by
        simp only [Bool.or_eq_true, decide_eq_true_eq]
        rcases hbad with h | h | h | h | h | h <;> simp [h]
      rw [if_pos hb'] at q1
      refine jn_with (fun _ _ => False) (fun _ _ _ h => h.elim) ?_
      by_cases b1 : (m.node hd.node).dir = true
      · simp (disch := first | omega | (simp only [sZb, sZa, sZd] <;> omega) | (simp (disch := first | omega | (simp only [sZb, sZa, sZd] <;> omega) | fail) only [go_sem, bN, b1]; done) | fail) only [go_sem, dec_t, dec_f, w_u32, w_u64, w_u16, w_u8, w_i64, Int.reduceToNat, Int.reducePow, Nat.reducePow, bN, b1]
        exact q1
      have b1' : (m.node hd.node).dir = false := by simpa using b1
      by_cases b2 : 4096 < s.data.length
      · simp (disch := first | omega | (simp only [sZb, sZa, sZd] <;> omega) | (simp (disch := first | omega | (simp only [sZb, sZa, sZd] <;> omega) | fail) only [go_sem, bN, b1', bS3]; done) | fail) only [go_sem, dec_t, dec_f, w_u32, w_u64, w_u16, w_u8, w_i64, Int.reduceToNat, Int.reducePow, Nat.reducePow, bN, b1', bS3]
        exact q1
      by_cases b3 : s.n < 0
      · simp (disch := first | omega | (simp only [sZb, sZa, sZd] <;> omega) | (simp (disch := first | omega | (simp only [sZb, sZa, sZd] <;> omega) | fail) only [go_sem, bN, b1', bS3]; done) | fail) only [go_sem, dec_t, dec_f, w_u32, w_u64, w_u16, w_u8, w_i64, Int.reduceToNat, Int.reducePow, Nat.reducePow, bN, b1', bS3]
        exact q1
      by_cases b4 : 4096 < s.n
      · simp (disch := first | omega | (simp only [sZb, sZa, sZd] <;> omega) | (simp (disch := first | omega | (simp only [sZb, sZa, sZd] <;> omega) | fail) only [go_sem, bN, b1', bS3]; done) | fail) only [go_sem, dec_t, dec_f, w_u32, w_u64, w_u16, w_u8, w_i64, Int.reduceToNat, Int.reducePow, Nat.reducePow, bN, b1', bS3]
        exact q1
      by_cases b5 : 1099511627776 < s.off
      · simp (disch := first | omega | (simp only [sZb, sZa, sZd] <;> omega) | (simp (disch := first | omega | (simp only [sZb, sZa, sZd] <;> omega) | fail) only [go_sem, bN, b1', bS3]; done) | fail) only [go_sem, dec_t, dec_f, w_u32, w_u64, w_u16, w_u8, w_i64, Int.reduceToNat, Int.reducePow, Nat.reducePow, bN, b1', bS3]
        exact q1
      have b6 : s.off < -1099511627776 := by
        rcases hbad with h | h | h | h | h | h
        · exact absurd h b1
        · exact absurd h b2
        · exact absurd h b3
        · exact absurd h b4
        · exact absurd h b5
        · exact h
      simp (disch := first | omega | (simp only [sZb, sZa, sZd] <;> omega) | (simp (disch := first | omega | (simp only [sZb, sZa, sZd] <;> omega) | fail) only [go_sem, bN, b1', bS3]; done) | fail) only [go_sem, dec_t, dec_f, w_u32, w_u64, w_u16, w_u8, w_i64, Int.reduceToNat, Int.reducePow, Nat.reducePow, bN, b1', bS3]
      exact q1
    · have b1 : (m.node hd.node).dir = false := by
        cases hx : (m.node hd.node).dir with
        | true => exact absurd (.inl hx) hbad
        | false => rfl
      have b2 : ¬ 4096 < s.data.length := fun h => hbad (.inr (.inl h))
      have b3 : ¬ s.n < 0 := fun h => hbad (.inr (.inr (.inl h)))
      have b4 : ¬ 4096 < s.n := fun h => hbad (.inr (.inr (.inr (.inl h))))
      have b5 : ¬ 1099511627776 < s.off := fun h => hbad (.inr (.inr (.inr (.inr (.inl h)))))
      have b6 : ¬ s.off < -1099511627776 := fun h => hbad (.inr (.inr (.inr (.inr (.inr h)))))
      have hb' : ¬ ((m.node hd.node).dir || decide (4096 < s.data.length) || decide (s.n < 0) || decide (4096 < s.n) || decide (1099511627776 < s.off) || decide (s.off < -1099511627776)) = true := by
        simp [b1]
        omega
      rw [if_neg hb'] at hk q1
      refine jn_with (fun t w' => w' = w3) ?_ ?_
      · rintro t e w4 rfl
        unfold J_spec_Mem_speaksFile_11
        by_cases e12 : s.op = 12
        · rw [if_pos e12] at q1
          refine jn_with (fun _ _ => False) (fun _ _ _ h => h.elim) ?_
          simp (disch := first | omega | (simp only [sZb, sZa, sZd] <;> omega) | (simp (disch := first | omega | (simp only [sZb, sZa, sZd] <;> omega) | fail) only [go_sem, bS2]; done) | fail) only [go_sem, dec_t, dec_f, w_u32, w_u64, w_u16, w_u8, w_i64, Int.reduceToNat, Int.reducePow, Nat.reducePow, bS2]
          unfold J_spec_Mem_speaksFile_2
          cases hcl : hd.cl with
          | true =>
            rw [hcl] at q1
            simp (disch := first | omega | (simp only [sZb, sZa, sZd] <;> omega) | (simp (disch := first | omega | (simp only [sZb, sZa, sZd] <;> omega) | fail) only [go_sem, bh2, hcl]; done) | fail) only [go_sem, dec_t, dec_f, w_u32, w_u64, w_u16, w_u8, w_i64, Int.reduceToNat, Int.reducePow, Nat.reducePow, bh2, hcl]
            exact q1
          | false =>
            rw [hcl] at q1
            simp (disch := first | omega | (simp only [sZb, sZa, sZd] <;> omega) | (simp (disch := first | omega | (simp only [sZb, sZa, sZd] <;> omega) | fail) only [go_sem, bh2, hcl]; done) | fail) only [go_sem, dec_t, dec_f, w_u32, w_u64, w_u16, w_u8, w_i64, Int.reduceToNat, Int.reducePow, Nat.reducePow, bh2, hcl]
            simpa using q1
        rw [if_neg e12] at q1
        by_cases e13 : s.op = 13
        · rw [if_pos e13] at q1
          refine jn_with (fun _ _ => False) (fun _ _ _ h => h.elim) ?_
          simp (disch := first | omega | (simp only [sZb, sZa, sZd] <;> omega) | (simp (disch := first | omega | (simp only [sZb, sZa, sZd] <;> omega) | fail) only [go_sem, bS2]; done) | fail) only [go_sem, dec_t, dec_f, w_u32, w_u64, w_u16, w_u8, w_i64, Int.reduceToNat, Int.reducePow, Nat.reducePow, bS2]
          unfold J_spec_Mem_speaksFile_10
          simp (disch := first | omega | (simp only [sZb, sZa, sZd] <;> omega) | (simp (disch := first | omega | (simp only [sZb, sZa, sZd] <;> omega) | fail) only [go_sem, bS2]; done) | fail) only [go_sem, dec_t, dec_f, w_u32, w_u64, w_u16, w_u8, w_i64, Int.reduceToNat, Int.reducePow, Nat.reducePow, bS2]
          exact q1
        rw [if_neg e13] at q1
        by_cases e14 : s.op = 14
        · rw [if_pos e14] at q1
          refine jn_with (fun _ _ => False) (fun _ _ _ h => h.elim) ?_
          simp (disch := first | omega | (simp only [sZb, sZa, sZd] <;> omega) | (simp (disch := first | omega | (simp only [sZb, sZa, sZd] <;> omega) | fail) only [go_sem, bS2]; done) | fail) only [go_sem, dec_t, dec_f, w_u32, w_u64, w_u16, w_u8, w_i64, Int.reduceToNat, Int.reducePow, Nat.reducePow, bS2]
          unfold J_spec_Mem_speaksFile_10
          simp (disch := first | omega | (simp only [sZb, sZa, sZd] <;> omega) | (simp (disch := first | omega | (simp only [sZb, sZa, sZd] <;> omega) | fail) only [go_sem]; done) | fail) only [go_sem, dec_t, dec_f, w_u32, w_u64, w_u16, w_u8, w_i64, Int.reduceToNat, Int.reducePow, Nat.reducePow]
          unfold J_spec_Mem_speaksFile_9
          simp (disch := first | omega | (simp only [sZb, sZa, sZd] <;> omega) | (simp (disch := first | omega | (simp only [sZb, sZa, sZd] <;> omega) | fail) only [go_sem]; done) | fail) only [go_sem, dec_t, dec_f, w_u32, w_u64, w_u16, w_u8, w_i64, Int.reduceToNat, Int.reducePow, Nat.reducePow]
          unfold J_spec_Mem_speaksFile_3
          by_cases hp : 0 ≤ hd.pos
          · simp (disch := first | omega | (simp only [sZb, sZa, sZd] <;> omega) | (simp (disch := first | omega | (simp only [sZb, sZa, sZd] <;> omega) | fail) only [go_sem, bh2]; done) | fail) only [go_sem, dec_t, dec_f, w_u32, w_u64, w_u16, w_u8, w_i64, Int.reduceToNat, Int.reducePow, Nat.reducePow, bh2]
            simpa [hp] using q1
          · simp (disch := first | omega | (simp only [sZb, sZa, sZd] <;> omega) | (simp (disch := first | omega | (simp only [sZb, sZa, sZd] <;> omega) | fail) only [go_sem, bh2]; done) | fail) only [go_sem, dec_t, dec_f, w_u32, w_u64, w_u16, w_u8, w_i64, Int.reduceToNat, Int.reducePow, Nat.reducePow, bh2]
            simpa [hp] using q1
        rw [if_neg e14] at q1
        by_cases e15 : s.op = 15
        · rw [if_pos e15] at q1
          refine jn_with (fun _ _ => False) (fun _ _ _ h => h.elim) ?_
          simp (disch := first | omega | (simp only [sZb, sZa, sZd] <;> omega) | (simp (disch := first | omega | (simp only [sZb, sZa, sZd] <;> omega) | fail) only [go_sem, bS2]; done) | fail) only [go_sem, dec_t, dec_f, w_u32, w_u64, w_u16, w_u8, w_i64, Int.reduceToNat, Int.reducePow, Nat.reducePow, bS2]
          unfold J_spec_Mem_speaksFile_10
          simp (disch := first | omega | (simp only [sZb, sZa, sZd] <;> omega) | (simp (disch := first | omega | (simp only [sZb, sZa, sZd] <;> omega) | fail) only [go_sem]; done) | fail) only [go_sem, dec_t, dec_f, w_u32, w_u64, w_u16, w_u8, w_i64, Int.reduceToNat, Int.reducePow, Nat.reducePow]
          unfold J_spec_Mem_speaksFile_9
          simp (disch := first | omega | (simp only [sZb, sZa, sZd] <;> omega) | (simp (disch := first | omega | (simp only [sZb, sZa, sZd] <;> omega) | fail) only [go_sem]; done) | fail) only [go_sem, dec_t, dec_f, w_u32, w_u64, w_u16, w_u8, w_i64, Int.reduceToNat, Int.reducePow, Nat.reducePow]
          unfold J_spec_Mem_speaksFile_8
          simp (disch := first | omega | (simp only [sZb, sZa, sZd] <;> omega) | (simp (disch := first | omega | (simp only [sZb, sZa, sZd] <;> omega) | fail) only [go_sem]; done) | fail) only [go_sem, dec_t, dec_f, w_u32, w_u64, w_u16, w_u8, w_i64, Int.reduceToNat, Int.reducePow, Nat.reducePow]
          unfold J_spec_Mem_speaksFile_4
          by_cases hp : 0 ≤ s.off
          · simp (disch := first | omega | (simp only [sZb, sZa, sZd] <;> omega) | (simp (disch := first | omega | (simp only [sZb, sZa, sZd] <;> omega) | fail) only [go_sem, bS2]; done) | fail) only [go_sem, dec_t, dec_f, w_u32, w_u64, w_u16, w_u8, w_i64, Int.reduceToNat, Int.reducePow, Nat.reducePow, bS2]
            simpa [hp] using q1
          · simp (disch := first | omega | (simp only [sZb, sZa, sZd] <;> omega) | (simp (disch := first | omega | (simp only [sZb, sZa, sZd] <;> omega) | fail) only [go_sem, bS2]; done) | fail) only [go_sem, dec_t, dec_f, w_u32, w_u64, w_u16, w_u8, w_i64, Int.reduceToNat, Int.reducePow, Nat.reducePow, bS2]
            simpa [hp] using q1
        rw [if_neg e15] at q1
        by_cases e17 : s.op = 17
        · rw [if_pos e17] at q1
          refine jn_with (fun _ _ => False) (fun _ _ _ h => h.elim) ?_
          simp (disch := first | omega | (simp only [sZb, sZa, sZd] <;> omega) | (simp (disch := first | omega | (simp only [sZb, sZa, sZd] <;> omega) | fail) only [go_sem, bS2]; done) | fail) only [go_sem, dec_t, dec_f, w_u32, w_u64, w_u16, w_u8, w_i64, Int.reduceToNat, Int.reducePow, Nat.reducePow, bS2]
          unfold J_spec_Mem_speaksFile_10
          simp (disch := first | omega | (simp only [sZb, sZa, sZd] <;> omega) | (simp (disch := first | omega | (simp only [sZb, sZa, sZd] <;> omega) | fail) only [go_sem]; done) | fail) only [go_sem, dec_t, dec_f, w_u32, w_u64, w_u16, w_u8, w_i64, Int.reduceToNat, Int.reducePow, Nat.reducePow]
          unfold J_spec_Mem_speaksFile_9
          simp (disch := first | omega | (simp only [sZb, sZa, sZd] <;> omega) | (simp (disch := first | omega | (simp only [sZb, sZa, sZd] <;> omega) | fail) only [go_sem]; done) | fail) only [go_sem, dec_t, dec_f, w_u32, w_u64, w_u16, w_u8, w_i64, Int.reduceToNat, Int.reducePow, Nat.reducePow]
          unfold J_spec_Mem_speaksFile_8
          simp (disch := first | omega | (simp only [sZb, sZa, sZd] <;> omega) | (simp (disch := first | omega | (simp only [sZb, sZa, sZd] <;> omega) | fail) only [go_sem]; done) | fail) only [go_sem, dec_t, dec_f, w_u32, w_u64, w_u16, w_u8, w_i64, Int.reduceToNat, Int.reducePow, Nat.reducePow]
          unfold J_spec_Mem_speaksFile_7
          simp (disch := first | omega | (simp only [sZb, sZa, sZd] <;> omega) | (simp (disch := first | omega | (simp only [sZb, sZa, sZd] <;> omega) | fail) only [go_sem, bS2]; done) | fail) only [go_sem, dec_t, dec_f, w_u32, w_u64, w_u16, w_u8, w_i64, Int.reduceToNat, Int.reducePow, Nat.reducePow, bS2]
          exact q1
        rw [if_neg e17] at q1
        by_cases e16 : s.op = 16
        · rw [if_pos e16] at q1
          refine jn_with (fun _ _ => False) (fun _ _ _ h => h.elim) ?_
          simp (disch := first | omega | (simp only [sZb, sZa, sZd] <;> omega) | (simp (disch := first | omega | (simp only [sZb, sZa, sZd] <;> omega) | fail) only [go_sem, bS2]; done) | fail) only [go_sem, dec_t, dec_f, w_u32, w_u64, w_u16, w_u8, w_i64, Int.reduceToNat, Int.reducePow, Nat.reducePow, bS2]
          unfold J_spec_Mem_speaksFile_10
          simp (disch := first | omega | (simp only [sZb, sZa, sZd] <;> omega) | (simp (disch := first | omega | (simp only [sZb, sZa, sZd] <;> omega) | fail) only [go_sem]; done) | fail) only [go_sem, dec_t, dec_f, w_u32, w_u64, w_u16, w_u8, w_i64, Int.reduceToNat, Int.reducePow, Nat.reducePow]
          unfold J_spec_Mem_speaksFile_9
          simp (disch := first | omega | (simp only [sZb, sZa, sZd] <;> omega) | (simp (disch := first | omega | (simp only [sZb, sZa, sZd] <;> omega) | fail) only [go_sem]; done) | fail) only [go_sem, dec_t, dec_f, w_u32, w_u64, w_u16, w_u8, w_i64, Int.reduceToNat, Int.reducePow, Nat.reducePow]
          unfold J_spec_Mem_speaksFile_8
          simp (disch := first | omega | (simp only [sZb, sZa, sZd] <;> omega) | (simp (disch := first | omega | (simp only [sZb, sZa, sZd] <;> omega) | fail) only [go_sem]; done) | fail) only [go_sem, dec_t, dec_f, w_u32, w_u64, w_u16, w_u8, w_i64, Int.reduceToNat, Int.reducePow, Nat.reducePow]
          unfold J_spec_Mem_speaksFile_7
          simp (disch := first | omega | (simp only [sZb, sZa, sZd] <;> omega) | (simp (disch := first | omega | (simp only [sZb, sZa, sZd] <;> omega) | fail) only [go_sem]; done) | fail) only [go_sem, dec_t, dec_f, w_u32, w_u64, w_u16, w_u8, w_i64, Int.reduceToNat, Int.reducePow, Nat.reducePow]
          unfold J_spec_Mem_speaksFile_6
          simp (disch := first | omega | (simp only [sZb, sZa, sZd] <;> omega) | (simp (disch := first | omega | (simp only [sZb, sZa, sZd] <;> omega) | fail) only [go_sem]; done) | fail) only [go_sem, dec_t, dec_f, w_u32, w_u64, w_u16, w_u8, w_i64, Int.reduceToNat, Int.reducePow, Nat.reducePow]
          unfold J_spec_Mem_speaksFile_5
          by_cases hp : hd.pos < 2199023255552
          · simp (disch := first | omega | (simp only [sZb, sZa, sZd] <;> omega) | (simp (disch := first | omega | (simp only [sZb, sZa, sZd] <;> omega) | fail) only [go_sem, bh2]; done) | fail) only [go_sem, dec_t, dec_f, w_u32, w_u64, w_u16, w_u8, w_i64, Int.reduceToNat, Int.reducePow, Nat.reducePow, bh2]
            simpa [hp] using q1
          · simp (disch := first | omega | (simp only [sZb, sZa, sZd] <;> omega) | (simp (disch := first | omega | (simp only [sZb, sZa, sZd] <;> omega) | fail) only [go_sem, bh2]; done) | fail) only [go_sem, dec_t, dec_f, w_u32, w_u64, w_u16, w_u8, w_i64, Int.reduceToNat, Int.reducePow, Nat.reducePow, bh2]
            simpa [hp] using q1
        rw [if_neg e16] at q1
        refine jn_with (fun t w' => w' = w4) ?_ ?_
        · rintro t e w5 rfl
          unfold J_spec_Mem_speaksNames_1
          exact q1
        · simp (disch := first | omega | (simp only [sZb, sZa, sZd] <;> omega) | (simp (disch := first | omega | (simp only [sZb, sZa, sZd] <;> omega) | fail) only [go_sem, bS2]; done) | fail) only [go_sem, dec_t, dec_f, w_u32, w_u64, w_u16, w_u8, w_i64, Int.reduceToNat, Int.reducePow, Nat.reducePow, bS2]
          unfold J_spec_Mem_speaksFile_10
          simp (disch := first | omega | (simp only [sZb, sZa, sZd] <;> omega) | (simp (disch := first | omega | (simp only [sZb, sZa, sZd] <;> omega) | fail) only [go_sem]; done) | fail) only [go_sem, dec_t, dec_f, w_u32, w_u64, w_u16, w_u8, w_i64, Int.reduceToNat, Int.reducePow, Nat.reducePow]
          unfold J_spec_Mem_speaksFile_9
          simp (disch := first | omega | (simp only [sZb, sZa, sZd] <;> omega) | (simp (disch := first | omega | (simp only [sZb, sZa, sZd] <;> omega) | fail) only [go_sem]; done) | fail) only [go_sem, dec_t, dec_f, w_u32, w_u64, w_u16, w_u8, w_i64, Int.reduceToNat, Int.reducePow, Nat.reducePow]
          unfold J_spec_Mem_speaksFile_8
          simp (disch := first | omega | (simp only [sZb, sZa, sZd] <;> omega) | (simp (disch := first | omega | (simp only [sZb, sZa, sZd] <;> omega) | fail) only [go_sem]; done) | fail) only [go_sem, dec_t, dec_f, w_u32, w_u64, w_u16, w_u8, w_i64, Int.reduceToNat, Int.reducePow, Nat.reducePow]
          unfold J_spec_Mem_speaksFile_7
          simp (disch := first | omega | (simp only [sZb, sZa, sZd] <;> omega) | (simp (disch := first | omega | (simp only [sZb, sZa, sZd] <;> omega) | fail) only [go_sem]; done) | fail) only [go_sem, dec_t, dec_f, w_u32, w_u64, w_u16, w_u8, w_i64, Int.reduceToNat, Int.reducePow, Nat.reducePow]
          unfold J_spec_Mem_speaksFile_6
          simp (disch := first | omega | (simp only [sZb, sZa, sZd] <;> omega) | (simp (disch := first | omega | (simp only [sZb, sZa, sZd] <;> omega) | fail) only [go_sem]; done) | fail) only [go_sem, dec_t, dec_f, w_u32, w_u64, w_u16, w_u8, w_i64, Int.reduceToNat, Int.reducePow, Nat.reducePow]
      · simp (disch := first | omega | (simp only [sZb, sZa, sZd] <;> omega) | (simp (disch := first | omega | (simp only [sZb, sZa, sZd] <;> omega) | fail) only [go_sem, bN, b1, bS3]; done) | fail) only [go_sem, dec_t, dec_f, w_u32, w_u64, w_u16, w_u8, w_i64, Int.reduceToNat, Int.reducePow, Nat.reducePow, bN, b1, bS3]
  · simp (disch := first | omega | (simp only [sZb, sZa, sZd] <;> omega) | (simp (disch := first | omega | (simp only [sZb, sZa, sZd] <;> omega) | fail) only [go_sem, bS2]; done) | fail) only [go_sem, dec_t, dec_f, w_u32, w_u64, w_u16, w_u8, w_i64, Int.reduceToNat, Int.reducePow, Nat.reducePow, bS2]
    refine jn_with (fun t w' => t = [.bool false] ∧ w' = W2) ?_ ?_
    · rintro t e w3 ⟨rfl, rfl⟩
      unfold J_spec_Mem_speaksFile_17
      simp (disch := first | omega | (simp only [sZb, sZa, sZd] <;> omega) | (simp (disch := first | omega | (simp only [sZb, sZa, sZd] <;> omega) | fail) only [go_sem]; done) | fail) only [go_sem, dec_t, dec_f, w_u32, w_u64, w_u16, w_u8, w_i64, Int.reduceToNat, Int.reducePow, Nat.reducePow]
      unfold J_spec_Mem_speaksFile_16
      refine jn_with (fun t w' => t = [.bool false] ∧ w' = w3) ?_ ?_
      · rintro t e w4 ⟨rfl, rfl⟩
        unfold J_spec_Mem_speaksFile_14
        simp (disch := first | omega | (simp only [sZb, sZa, sZd] <;> omega) | (simp (disch := first | omega | (simp only [sZb, sZa, sZd] <;> omega) | fail) only [go_sem]; done) | fail) only [go_sem, dec_t, dec_f, w_u32, w_u64, w_u16, w_u8, w_i64, Int.reduceToNat, Int.reducePow, Nat.reducePow]
      · simp (disch := first | omega | (simp only [sZb, sZa, sZd] <;> omega) | (simp (disch := first | omega | (simp only [sZb, sZa, sZd] <;> omega) | fail) only [go_sem]; done) | fail) only [go_sem, dec_t, dec_f, w_u32, w_u64, w_u16, w_u8, w_i64, Int.reduceToNat, Int.reducePow, Nat.reducePow]
        unfold J_spec_Mem_speaksFile_15
        simp (disch := first | omega | (simp only [sZb, sZa, sZd] <;> omega) | (simp (disch := first | omega | (simp only [sZb, sZa, sZd] <;> omega) | fail) only [go_sem]; done) | fail) only [go_sem, dec_t, dec_f, w_u32, w_u64, w_u16, w_u8, w_i64, Int.reduceToNat, Int.reducePow, Nat.reducePow]
        exact ⟨trivial, trivial⟩
    · simp (disch := first | omega | (simp only [sZb, sZa, sZd] <;> omega) | (simp (disch := first | omega | (simp only [sZb, sZa, sZd] <;> omega) | fail) only [go_sem, bS2]; done) | fail) only [go_sem, dec_t, dec_f, w_u32, w_u64, w_u16, w_u8, w_i64, Int.reduceToNat, Int.reducePow, Nat.reducePow, bS2]
      exact ⟨trivial, trivial⟩
end
end Go.Proofs.YteblpejgenehfaaDoor.X
end
section
namespace Go.Proofs.YteblpejgenehfaaDoor.X
open Go Go.X Go.Proofs Go.RowKit
def HB (m : SM.Mem) : Prop := ∀ k h, SM.hget m.hs k = some h → h.node < m.nodes.length
section
variable {w W : World} {K : Value → World → Prop} {B p : Nat} {m : SM.Mem} {F : Fp} {k : Int} {hd : SM.Hnd} {s : SM.Stp} {v : Value}
theorem luH_rd (w : World) (K : Value → Prop) (b : Nat) (k : Int) : rd P (oLookup T.map_int_p_spec_MemHandle (.map (some b)) (.int .i64 k) false) w K = optE (mlI (bk w b)) (fun q => K ((mget q.1 k).getD (.pointer none))) (farR P (oLookup T.map_int_p_spec_MemHandle (.map (some b)) (.int .i64 k) false) w K) :=
  luI1_rd w U.map_int_p_spec_MemHandle U.int zeroH K b k
theorem oEqlH (cx cy : Bool) (a : Option Addr) (L : Value → Prop) : pu P (oBin .eql T.p_spec_MemHandle cx cy (.pointer a) (.pointer none)) L = L (.bool a.isNone) := oEqlP U.p_spec_MemHandle cx cy a
set_option maxHeartbeats 4000000 in
theorem speaks_spec (h : MemS w B p m F) (hv : ∃ a c, v = .slice a s.data.length c) (mb : MB m) (hb : HB m) (hk : LkK w (m.speaks s) K) : Cl P Fn.spec_Mem_Speaks #[pt p 0, AG (stepC s v)] w K := by
  apply S_spec_Mem_Speaks
  unfold F_spec_Mem_Speaks
  obtain ⟨W, eW, BW, zW, bS⟩ := step_w w s v
  rw [oBox_agg, eW]
  obtain ⟨av, cv, ev⟩ := hv
  have bSv := bS
  rw [ev] at bSv
  unfold SM.Mem.speaks at hk
  by_cases c0 : 400 < s.name.length ∨ 400 < s.other.length ∨ 4096 < s.data.length
  · rw [if_pos c0] at hk
    refine jn_with (fun _ _ => False) (fun _ _ _ h => h.elim) ?_
    by_cases a1 : 400 < s.name.length
    · simp (disch := first | omega | (simp only [sZb, sZa, sZd] <;> omega) | (simp (disch := first | omega | (simp only [sZb, sZa, sZd] <;> omega) | fail) only [go_sem, bSv]; done) | fail) only [go_sem, dec_t, dec_f, w_u32, w_u64, w_u16, w_u8, w_i64, Int.reduceToNat, Int.reducePow, Nat.reducePow, bSv]
      exact hk _ BW
    by_cases a2 : 400 < s.other.length
    · simp (disch := first | omega | (simp only [sZb, sZa, sZd] <;> omega) | (simp (disch := first | omega | (simp only [sZb, sZa, sZd] <;> omega) | fail) only [go_sem, bSv]; done) | fail) only [go_sem, dec_t, dec_f, w_u32, w_u64, w_u16, w_u8, w_i64, Int.reduceToNat, Int.reducePow, Nat.reducePow, bSv]
      exact hk _ BW
    have a3 : 4096 < s.data.length := by
      rcases c0 with h | h | h
      · exact absurd h a1
      · exact absurd h a2
      · exact h
    simp (disch := first | omega | (simp only [sZb, sZa, sZd] <;> omega) | (simp (disch := first | omega | (simp only [sZb, sZa, sZd] <;> omega) | fail) only [go_sem, bSv]; done) | fail) only [go_sem, dec_t, dec_f, w_u32, w_u64, w_u16, w_u8, w_i64, Int.reduceToNat, Int.reducePow, Nat.reducePow, bSv]
    exact hk _ BW
  rw [if_neg c0] at hk
  have a1 : ¬ 400 < s.name.length := fun h => c0 (.inl h)
  have a2 : ¬ 400 < s.other.length := fun h => c0 (.inr (.inl h))
  have a3 : ¬ 4096 < s.data.length := fun h => c0 (.inr (.inr h))
  refine jn_with (fun t w' => w' = W) ?_ ?_
  · rintro t e w1 rfl
    unfold J_spec_Mem_Speaks_3
    by_cases c1 : 0 ≤ s.op ∧ s.op ≤ 2
    · rw [if_pos c1] at hk
      obtain ⟨c1a, c1b⟩ := c1
      refine jn_with (fun _ _ => False) (fun _ _ _ h => h.elim) ?_
      simp (disch := first | omega | (simp only [sZb, sZa, sZd] <;> omega) | (simp (disch := first | omega | (simp only [sZb, sZa, sZd] <;> omega) | fail) only [go_sem, bS]; done) | fail) only [go_sem, dec_t, dec_f, w_u32, w_u64, w_u16, w_u8, w_i64, Int.reduceToNat, Int.reducePow, Nat.reducePow, bS]
      refine speaksOpen_spec (h.old BW) mb (by omega) fun w2 B2 => ?_
      exact hk _ (BW.trans (B2.mono BW.size))
    rw [if_neg c1] at hk
    by_cases c2 : 3 ≤ s.op ∧ s.op ≤ 11
    · rw [if_pos c2] at hk
      obtain ⟨c2a, c2b⟩ := c2
      refine jn_with (fun _ _ => False) (fun _ _ _ h => h.elim) ?_
      simp (disch := first | omega | (simp only [sZb, sZa, sZd] <;> omega) | (simp (disch := first | omega | (simp only [sZb, sZa, sZd] <;> omega) | fail) only [go_sem, bS]; done) | fail) only [go_sem, dec_t, dec_f, w_u32, w_u64, w_u16, w_u8, w_i64, Int.reduceToNat, Int.reducePow, Nat.reducePow, bS]
      unfold J_spec_Mem_Speaks_2
      simp (disch := first | omega | (simp only [sZb, sZa, sZd] <;> omega) | (simp (disch := first | omega | (simp only [sZb, sZa, sZd] <;> omega) | fail) only [go_sem, bS]; done) | fail) only [go_sem, dec_t, dec_f, w_u32, w_u64, w_u16, w_u8, w_i64, Int.reduceToNat, Int.reducePow, Nat.reducePow, bS]
      refine speaksNames_spec (h.old BW) mb (by omega) (by omega) ⟨c2a, c2b⟩ fun w2 B2 => ?_
      exact hk _ (BW.trans (B2.mono BW.size))
    rw [if_neg c2] at hk
    refine jn_with (fun t w' => w' = w1) ?_ ?_
    · rintro t e w2 rfl
      unfold J_spec_Mem_Speaks_1
      obtain ⟨vn, va, vd, q, ds, hl, c, hb', ρ, h⟩ := h
      have h1 := h.old BW
      have bm := h1.bm
      have bq := h1.bq
      have hm := h1.hm s.h
      cases hh : SM.hget m.hs s.h with
      | none =>
        rw [hh] at hk hm
        simp only [Option.map_none] at hm
        simp (disch := first | omega | (simp only [sZb, sZa, sZd] <;> omega) | (simp (disch := first | omega | (simp only [sZb, sZa, sZd] <;> omega) | fail) only [go_sem, bm, bS, luH_rd, bq, optE_some, hm, Option.getD_none, oEqlH, Option.isNone_none]; done) | fail) only [go_sem, dec_t, dec_f, w_u32, w_u64, w_u16, w_u8, w_i64, Int.reduceToNat, Int.reducePow, Nat.reducePow, bm, bS, luH_rd, bq, optE_some, hm, Option.getD_none, oEqlH, Option.isNone_none]
        exact hk _ BW.drew
      | some hd =>
        rw [hh] at hk hm
        simp only [Option.map_some] at hm
        simp (disch := first | omega | (simp only [sZb, sZa, sZd] <;> omega) | (simp (disch := first | omega | (simp only [sZb, sZa, sZd] <;> omega) | fail) only [go_sem, bm, bS, luH_rd, bq, optE_some, hm, oEqlH, Option.isNone_some]; done) | fail) only [go_sem, dec_t, dec_f, w_u32, w_u64, w_u16, w_u8, w_i64, Int.reduceToNat, Int.reducePow, Nat.reducePow, bm, bS, luH_rd, bq, optE_some, hm, oEqlH, Option.isNone_some]
        refine speaksFile_spec (h1.old (by repeat (first | exact Below.refl _ _ | assumption | refine bel_setb ?_ (by first | exact Nat.le_refl _ | omega | (simp only [go_sem] <;> omega)) _ | refine Below.alloc ?_ (by first | exact Nat.le_refl _ | omega | (simp only [go_sem]; omega)) _ | refine Below.drew ?_) : Below w2.heap.size w2 w2.drew)) ⟨av, cv, ev⟩ hh (hb _ _ hh) mb (by omega) fun w3 B3 => ?_
        exact hk _ ((BW.drew).trans (B3.mono BW.size))
    · by_cases d1 : 0 ≤ s.op
      · by_cases d2 : 3 ≤ s.op
        · simp (disch := first | omega | (simp only [sZb, sZa, sZd] <;> omega) | (simp (disch := first | omega | (simp only [sZb, sZa, sZd] <;> omega) | fail) only [go_sem, bS]; done) | fail) only [go_sem, dec_t, dec_f, w_u32, w_u64, w_u16, w_u8, w_i64, Int.reduceToNat, Int.reducePow, Nat.reducePow, bS]
          unfold J_spec_Mem_Speaks_2
          simp (disch := first | omega | (simp only [sZb, sZa, sZd] <;> omega) | (simp (disch := first | omega | (simp only [sZb, sZa, sZd] <;> omega) | fail) only [go_sem, bS]; done) | fail) only [go_sem, dec_t, dec_f, w_u32, w_u64, w_u16, w_u8, w_i64, Int.reduceToNat, Int.reducePow, Nat.reducePow, bS]
        · omega
      · simp (disch := first | omega | (simp only [sZb, sZa, sZd] <;> omega) | (simp (disch := first | omega | (simp only [sZb, sZa, sZd] <;> omega) | fail) only [go_sem, bS]; done) | fail) only [go_sem, dec_t, dec_f, w_u32, w_u64, w_u16, w_u8, w_i64, Int.reduceToNat, Int.reducePow, Nat.reducePow, bS]
        unfold J_spec_Mem_Speaks_2
        simp (disch := first | omega | (simp only [sZb, sZa, sZd] <;> omega) | (simp (disch := first | omega | (simp only [sZb, sZa, sZd] <;> omega) | fail) only [go_sem, bS]; done) | fail) only [go_sem, dec_t, dec_f, w_u32, w_u64, w_u16, w_u8, w_i64, Int.reduceToNat, Int.reducePow, Nat.reducePow, bS]
  · simp (disch := first | omega | (simp only [sZb, sZa, sZd] <;> omega) | (simp (disch := first | omega | (simp only [sZb, sZa, sZd] <;> omega) | fail) only [go_sem, bSv]; done) | fail) only [go_sem, dec_t, dec_f, w_u32, w_u64, w_u16, w_u8, w_i64, Int.reduceToNat, Int.reducePow, Nat.reducePow, bSv]
set_option maxHeartbeats 4000000 in
theorem doH_spec (h : MemS w B p m F) (hv : BS w v s.data) (mb : MB m) (hb : HB m) (hop : s.op < 0 ∨ 11 < s.op) (fb : ∀ hd, SM.hget m.hs s.h = some hd → FB m hd s ∧ 0 ≤ hd.listed) (i : Int) (hk : FileK w B p F (m.doS i s) K) : Cl P Fn.spec_Mem_Do #[pt p 0, .int .i64 i, AG (stepC s v)] w K := by
  apply S_spec_Mem_Do
  unfold F_spec_Mem_Do
  obtain ⟨W, eW, BW, zW, bS, bA⟩ := start_w w s v
  rw [oBox_agg, M.al_impl_Answer, eW]
  unfold SM.Mem.doS at hk
  rw [if_neg (by omega), if_neg (by omega)] at hk
  refine jn_with (fun t w' => w' = W) ?_ ?_
  · rintro t e w1 rfl
    unfold J_spec_Mem_Do_2
    obtain ⟨vn, va, vd, q, ds, hl, c, hb', ρ, h⟩ := h
    have f : Fc w w1 B p m F vn va vd q ds hl c hb' ρ s v := ⟨h.old BW, h.lt, Tr.of_below BW F, bS, bA⟩
    have fd := f.drew
    have bm := f.h.bm
    have bq := f.h.bq
    have hm := f.h.hm s.h
    have lA := f.lA
    cases hh : SM.hget m.hs s.h with
    | none =>
      rw [hh] at hk hm
      simp only [Option.map_none] at hm
      simp (disch := first | omega | (simp only [sZb, sZa, sZd] <;> omega) | (simp (disch := first | omega | (simp only [sZb, sZa, sZd] <;> omega) | fail) only [go_sem, bm, bS, luH_rd, bq, optE_some, hm, Option.getD_none]; done) | fail) only [go_sem, dec_t, dec_f, w_u32, w_u64, w_u16, w_u8, w_i64, Int.reduceToNat, Int.reducePow, Nat.reducePow, bm, bS, luH_rd, bq, optE_some, hm, Option.getD_none]
      refine jn_with (fun _ _ => False) (fun _ _ _ h => h.elim) ?_
      simp (disch := first | omega | (simp only [sZb, sZa, sZd] <;> omega) | (simp (disch := first | omega | (simp only [sZb, sZa, sZd] <;> omega) | fail) only [go_sem, oEqlH, Option.isNone_none, bA]; done) | fail) only [go_sem, dec_t, dec_f, w_u32, w_u64, w_u16, w_u8, w_i64, Int.reduceToNat, Int.reducePow, Nat.reducePow, oEqlH, Option.isNone_none, bA]
      exact fin_err fd fd.h.toS fd.tr hk
    | some hd =>
      rw [hh] at hk hm
      simp only [Option.map_some] at hm
      simp only at hk
      obtain ⟨fb1, fb2⟩ := fb hd hh
      simp (disch := first | omega | (simp only [sZb, sZa, sZd] <;> omega) | (simp (disch := first | omega | (simp only [sZb, sZa, sZd] <;> omega) | fail) only [go_sem, bm, bS, luH_rd, bq, optE_some, hm, Option.getD_some]; done) | fail) only [go_sem, dec_t, dec_f, w_u32, w_u64, w_u16, w_u8, w_i64, Int.reduceToNat, Int.reducePow, Nat.reducePow, bm, bS, luH_rd, bq, optE_some, hm, Option.getD_some]
      by_cases c0 : s.op < 12 ∨ 23 < s.op
      · rw [if_pos c0] at hk
        refine jn_with (fun _ _ => False) (fun _ _ _ h => h.elim) ?_
        rcases c0 with c0 | c0
        · simp (disch := first | omega | (simp only [sZb, sZa, sZd] <;> omega) | (simp (disch := first | omega | (simp only [sZb, sZa, sZd] <;> omega) | fail) only [go_sem, oEqlH, Option.isNone_some, bA, bS]; done) | fail) only [go_sem, dec_t, dec_f, w_u32, w_u64, w_u16, w_u8, w_i64, Int.reduceToNat, Int.reducePow, Nat.reducePow, oEqlH, Option.isNone_some, bA, bS]
          exact fin_err fd fd.h.toS fd.tr hk
        · simp (disch := first | omega | (simp only [sZb, sZa, sZd] <;> omega) | (simp (disch := first | omega | (simp only [sZb, sZa, sZd] <;> omega) | fail) only [go_sem, oEqlH, Option.isNone_some, bA, bS]; done) | fail) only [go_sem, dec_t, dec_f, w_u32, w_u64, w_u16, w_u8, w_i64, Int.reduceToNat, Int.reducePow, Nat.reducePow, oEqlH, Option.isNone_some, bA, bS]
          exact fin_err fd fd.h.toS fd.tr hk
      · rw [if_neg c0] at hk
        refine jn_with (fun t w' => w' = w1.drew) ?_ ?_
        · rintro t e w2 rfl
          unfold J_spec_Mem_Do_1
          simp (disch := first | omega | (simp only [sZb, sZa, sZd] <;> omega) | (simp (disch := first | omega | (simp only [sZb, sZa, sZd] <;> omega) | fail) only [go_sem, bS]; done) | fail) only [go_sem, dec_t, dec_f, w_u32, w_u64, w_u16, w_u8, w_i64, Int.reduceToNat, Int.reducePow, Nat.reducePow, bS]
          refine file_spec fd.h (BS_old hv (BW.drew) (Nat.le_refl _)) hh fb1 fb2 mb (by omega) fun w2 F2 c2 h2 t2 a2 => ?_
          have t02 := fd.tr.trans t2
          have lA' : w.heap.size + 1 < w1.drew.heap.size := lA
          have bA2 : bk w2 (w.heap.size + 1) = some (CB ansZ T.impl_Answer) := by rw [t2.kp.block _ lA' (fun e => fd.nA (fd.h.sub _ e))]; exact bA
          have lA2 := bk_lt bA2
          obtain ⟨x, y, z, rfl, b1, b2, b3, b4⟩ := id a2
          have ox := BS_one' b1
          have oy : y.oneCell' = true := by rcases b2 with ⟨_, _, _, rfl, _⟩ | ⟨_, _, _, _, rfl⟩ <;> rfl
          have oz : z.oneCell' = true := by rcases b3 with ⟨_, _, _, rfl, _⟩ | ⟨_, _, _, _, rfl⟩ <;> rfl
          simp (disch := first | omega | (simp only [sZb, sZa, sZd] <;> omega) | (simp (disch := first | omega | (simp only [sZb, sZa, sZd] <;> omega) | fail) only [go_sem, bA2, ox, oy, oz]; done) | fail) only [go_sem, dec_t, dec_f, w_u32, w_u64, w_u16, w_u8, w_i64, Int.reduceToNat, Int.reducePow, Nat.reducePow, bA2, ox, oy, oz]
          have nA2 : ¬ F2.use (w.heap.size + 1) := fun e => fd.nA ((t2.st _ lA').2 e)
          obtain ⟨e1, e2, e3⟩ := fin_ans h2 t02 (A := w.heap.size + 1) (by omega) nA2 (a2.less (by omega)) (CB (answC (m.fileS s.h hd s).2 x y z) T.impl_Answer)
          exact hk _ _ _ e1 e2 e3
        · simp (disch := first | omega | (simp only [sZb, sZa, sZd] <;> omega) | (simp (disch := first | omega | (simp only [sZb, sZa, sZd] <;> omega) | fail) only [go_sem, oEqlH, Option.isNone_some, bS]; done) | fail) only [go_sem, dec_t, dec_f, w_u32, w_u64, w_u16, w_u8, w_i64, Int.reduceToNat, Int.reducePow, Nat.reducePow, oEqlH, Option.isNone_some, bS]
  · rcases hop with c0 | c0
    · simp (disch := first | omega | (simp only [sZb, sZa, sZd] <;> omega) | (simp (disch := first | omega | (simp only [sZb, sZa, sZd] <;> omega) | fail) only [go_sem, bS]; done) | fail) only [go_sem, dec_t, dec_f, w_u32, w_u64, w_u16, w_u8, w_i64, Int.reduceToNat, Int.reducePow, Nat.reducePow, bS]
      unfold J_spec_Mem_Do_3
      simp (disch := first | omega | (simp only [sZb, sZa, sZd] <;> omega) | (simp (disch := first | omega | (simp only [sZb, sZa, sZd] <;> omega) | fail) only [go_sem, bS]; done) | fail) only [go_sem, dec_t, dec_f, w_u32, w_u64, w_u16, w_u8, w_i64, Int.reduceToNat, Int.reducePow, Nat.reducePow, bS]
    · simp (disch := first | omega | (simp only [sZb, sZa, sZd] <;> omega) | (simp (disch := first | omega | (simp only [sZb, sZa, sZd] <;> omega) | fail) only [go_sem, bS]; done) | fail) only [go_sem, dec_t, dec_f, w_u32, w_u64, w_u16, w_u8, w_i64, Int.reduceToNat, Int.reducePow, Nat.reducePow, bS]
      unfold J_spec_Mem_Do_3
      simp (disch := first | omega | (simp only [sZb, sZa, sZd] <;> omega) | (simp (disch := first | omega | (simp only [sZb, sZa, sZd] <;> omega) | fail) only [go_sem, bS]; done) | fail) only [go_sem, dec_t, dec_f, w_u32, w_u64, w_u16, w_u8, w_i64, Int.reduceToNat, Int.reducePow, Nat.reducePow, bS]
end
end Go.Proofs.YteblpejgenehfaaDoor.X
end
section
namespace Go.Proofs.YteblpejgenehfaaDoor.X
open Go Go.X Go.Proofs Go.RowKit
theorem own_lit {w : World} {B g n size : Nat} {e : TypeId} {l : List Value} (hb : bk w g = some (CB l e)) (hl : l.length = n * size) (hB : B ≤ g) (hn : n ≤ maxLen) : w.ownsRow B e size (sl g 0 n n) n l := by
  refine ⟨hl, .inr ⟨g, n, l.toArray, rfl, hB, hb, Nat.le_refl _, hn, by simpa using hl, ?_⟩⟩
  rw [← hl]
  simp
def SM0 : SM.Mem := ⟨[[47]], [0], [⟨true, 2147484141, [], 0, [47]⟩], []⟩
section
variable {w w' : World} {K : Value → World → Prop} {B p : Nat} {m : SM.Mem} {F : Fp} {vn va vd : Value} {q : Nat} {ds : List Value} {hl : ML Int} {c : Nat} {hb : Int → Nat} {ρ : Nat → Rl}
theorem newMem_spec (hB : B ≤ w.heap.size) (hk : ∀ w' p F, MemS w' B p SM0 F → (∀ b, F.use b → w.heap.size ≤ b) → Below w.heap.size w w' → K (pt p 0) w') : Cl P Fn.spec_NewMem #[] w K := by
  apply S_spec_NewMem
  unfold F_spec_NewMem
  rw [oBuildSlice1 (z := S []) _ _ U.sl_string (by kernel_rfl) rfl]
  rw [oBuildSlice1 (z := .int .i64 0) _ _ U.sl_int (by kernel_rfl) rfl]
  simp (disch := first | omega | (simp only [sZb, sZa, sZd] <;> omega) | (simp (disch := first | omega | (simp only [sZb, sZa, sZd] <;> omega) | fail) only [go_sem]; done) | fail) only [go_sem, dec_t, dec_f, w_u32, w_u64, w_u16, w_u8, w_i64, Int.reduceToNat, Int.reducePow, Nat.reducePow]
  rw [oBuildSliceN (z := AG (nodeC ⟨false, 0, [], 0, []⟩ (.slice none 0 0))) (size := 5) _ _ U.sl_spec_MemNode infoN2 (by omega) (by omega) rfl]
  rw [mkI]
  simp (disch := first | omega | (simp only [sZb, sZa, sZd] <;> omega) | (simp (disch := first | omega | (simp only [sZb, sZa, sZd] <;> omega) | fail) only [go_sem]; done) | fail) only [go_sem, dec_t, dec_f, w_u32, w_u64, w_u16, w_u8, w_i64, Int.reduceToNat, Int.reducePow, Nat.reducePow]
  refine hk _ (w.heap.size + 4) ⟨fun b => w.heap.size ≤ b ∧ b < w.heap.size + 5, fun b => w.heap.size ≤ b ∧ b < w.heap.size + 5⟩ ?_ (fun b hb => hb.1) ?_
  · have f0 : bk (((((w.alloc (CB [S [47]] T.string)).alloc (CB [Value.int IntKind.i64 0] T.int)).alloc (CB [Value.bool true, Value.int IntKind.i64 2147484141, Value.slice none 0 0, Value.int IntKind.i64 0, S [47]] T.spec_MemNode)).alloc (MO emI [] 0)).alloc (CB [sl w.heap.size 0 1 1, sl (w.heap.size + 1) 0 1 1, sl (w.heap.size + 1 + 1) 0 1 1, Value.map (some (w.heap.size + 1 + 1 + 1))] T.spec_Mem)) w.heap.size = some (CB [S [47]] T.string) := by
      rw [bk_alloc_ne _ _ _ (by simp only [go_sem]; omega), bk_alloc_ne _ _ _ (by simp only [go_sem]; omega), bk_alloc_ne _ _ _ (by simp only [go_sem]; omega), bk_alloc_ne _ _ _ (by simp only [go_sem]; omega), bk_alloc_eq _ _ _ rfl]
    have f1 : bk (((((w.alloc (CB [S [47]] T.string)).alloc (CB [Value.int IntKind.i64 0] T.int)).alloc (CB [Value.bool true, Value.int IntKind.i64 2147484141, Value.slice none 0 0, Value.int IntKind.i64 0, S [47]] T.spec_MemNode)).alloc (MO emI [] 0)).alloc (CB [sl w.heap.size 0 1 1, sl (w.heap.size + 1) 0 1 1, sl (w.heap.size + 1 + 1) 0 1 1, Value.map (some (w.heap.size + 1 + 1 + 1))] T.spec_Mem)) (w.heap.size + 1) = some (CB [.int .i64 0] T.int) := by
      rw [bk_alloc_ne _ _ _ (by simp only [go_sem]; omega), bk_alloc_ne _ _ _ (by simp only [go_sem]; omega), bk_alloc_ne _ _ _ (by simp only [go_sem]; omega), bk_alloc_eq _ _ _ (by simp only [go_sem])]
    have f2 : bk (((((w.alloc (CB [S [47]] T.string)).alloc (CB [Value.int IntKind.i64 0] T.int)).alloc (CB [Value.bool true, Value.int IntKind.i64 2147484141, Value.slice none 0 0, Value.int IntKind.i64 0, S [47]] T.spec_MemNode)).alloc (MO emI [] 0)).alloc (CB [sl w.heap.size 0 1 1, sl (w.heap.size + 1) 0 1 1, sl (w.heap.size + 1 + 1) 0 1 1, Value.map (some (w.heap.size + 1 + 1 + 1))] T.spec_Mem)) (w.heap.size + 1 + 1) = some (CB (nodeC ⟨true, 2147484141, [], 0, [47]⟩ (.slice none 0 0)) T.spec_MemNode) := by
      rw [bk_alloc_ne _ _ _ (by simp only [go_sem]; omega), bk_alloc_ne _ _ _ (by simp only [go_sem]; omega), bk_alloc_eq _ _ _ (by simp only [go_sem])]
    have f3 : bk (((((w.alloc (CB [S [47]] T.string)).alloc (CB [Value.int IntKind.i64 0] T.int)).alloc (CB [Value.bool true, Value.int IntKind.i64 2147484141, Value.slice none 0 0, Value.int IntKind.i64 0, S [47]] T.spec_MemNode)).alloc (MO emI [] 0)).alloc (CB [sl w.heap.size 0 1 1, sl (w.heap.size + 1) 0 1 1, sl (w.heap.size + 1 + 1) 0 1 1, Value.map (some (w.heap.size + 1 + 1 + 1))] T.spec_Mem)) (w.heap.size + 1 + 1 + 1) = some (MO emI [] 0) := by
      rw [bk_alloc_ne _ _ _ (by simp only [go_sem]; omega), bk_alloc_eq _ _ _ (by simp only [go_sem])]
    have f4 : bk (((((w.alloc (CB [S [47]] T.string)).alloc (CB [Value.int IntKind.i64 0] T.int)).alloc (CB [Value.bool true, Value.int IntKind.i64 2147484141, Value.slice none 0 0, Value.int IntKind.i64 0, S [47]] T.spec_MemNode)).alloc (MO emI [] 0)).alloc (CB [sl w.heap.size 0 1 1, sl (w.heap.size + 1) 0 1 1, sl (w.heap.size + 1 + 1) 0 1 1, Value.map (some (w.heap.size + 1 + 1 + 1))] T.spec_Mem)) (w.heap.size + 4) = some (CB [sl w.heap.size 0 1 1, sl (w.heap.size + 1) 0 1 1, sl (w.heap.size + 1 + 1) 0 1 1, Value.map (some (w.heap.size + 1 + 1 + 1))] T.spec_Mem) := by
      rw [bk_alloc_eq _ _ _ (by simp only [go_sem])]
    have fz : (((((w.alloc (CB [S [47]] T.string)).alloc (CB [Value.int IntKind.i64 0] T.int)).alloc (CB [Value.bool true, Value.int IntKind.i64 2147484141, Value.slice none 0 0, Value.int IntKind.i64 0, S [47]] T.spec_MemNode)).alloc (MO emI [] 0)).alloc (CB [sl w.heap.size 0 1 1, sl (w.heap.size + 1) 0 1 1, sl (w.heap.size + 1 + 1) 0 1 1, Value.map (some (w.heap.size + 1 + 1 + 1))] T.spec_Mem)).heap.size = w.heap.size + 5 := by simp only [go_sem]
    generalize ((((w.alloc (CB [S [47]] T.string)).alloc (CB [Value.int IntKind.i64 0] T.int)).alloc (CB [Value.bool true, Value.int IntKind.i64 2147484141, Value.slice none 0 0, Value.int IntKind.i64 0, S [47]] T.spec_MemNode)).alloc (MO emI [] 0)).alloc (CB [sl w.heap.size 0 1 1, sl (w.heap.size + 1) 0 1 1, sl (w.heap.size + 1 + 1) 0 1 1, Value.map (some (w.heap.size + 1 + 1 + 1))] T.spec_Mem) = W at *
    generalize w.heap.size = n at *
    have ms : (1 : Nat) ≤ maxLen := by simp only [maxLen]; omega
    refine ⟨sl n 0 1 1, sl (n + 1) 0 1 1, sl (n + 1 + 1) 0 1 1, n + 1 + 1 + 1, [.slice none 0 0], [], 0, fun _ => 0, fun b => if b = n then .nms else if b = n + 1 then .ats else if b = n + 2 then .nds else if b = n + 3 then .hmp else if b = n + 4 then .mem else .no, ?_⟩
    refine ⟨fun b => ?_, fun b hb => hb, fun b hb => by have := hb.2; omega, fun b hb => by have := hb.1; omega, ?_, f4, own_lit f0 rfl hB ms, fun b hb => ?_, own_lit f1 rfl (by omega) ms, fun b hb => ?_, own_lit f2 rfl (by omega) ms, fun b hb => ?_, rfl, fun i h1 h2 => ?_, ?_, f3, MWF.nil 0, fun k => rfl, fun k h hk => by cases hk⟩
    · show (n ≤ b ∧ b < n + 5) ↔ _
      split
      · exact ⟨fun _ h => (by cases h), fun _ => by omega⟩
      · split
        · exact ⟨fun _ h => (by cases h), fun _ => by omega⟩
        · split
          · exact ⟨fun _ h => (by cases h), fun _ => by omega⟩
          · split
            · exact ⟨fun _ h => (by cases h), fun _ => by omega⟩
            · split
              · exact ⟨fun _ h => (by cases h), fun _ => by omega⟩
              · exact ⟨fun h => by omega, fun h => absurd rfl h⟩
    · show (if n + 4 = n then Rl.nms else if n + 4 = n + 1 then .ats else if n + 4 = n + 2 then .nds else if n + 4 = n + 3 then .hmp else if n + 4 = n + 4 then .mem else .no) = .mem
      rw [if_neg (by omega), if_neg (by omega), if_neg (by omega), if_neg (by omega), if_pos rfl]
    · have e : n = b := Option.some.inj hb
      subst e
      show (if n = n then Rl.nms else _) = .nms
      rw [if_pos rfl]
    · have e : n + 1 = b := Option.some.inj hb
      subst e
      show (if n + 1 = n then Rl.nms else if n + 1 = n + 1 then .ats else _) = .ats
      rw [if_neg (by omega), if_pos rfl]
    · have e : n + 1 + 1 = b := Option.some.inj hb
      subst e
      show (if n + 1 + 1 = n then Rl.nms else if n + 1 + 1 = n + 1 then .ats else if n + 1 + 1 = n + 2 then .nds else _) = .nds
      rw [if_neg (by omega), if_neg (by omega), if_pos (by omega)]
    · have h0 : i = 0 := by simp at h1; omega
      subst h0
      exact ⟨BS_nil _, fun b hb => by cases hb⟩
    · show (if n + 1 + 1 + 1 = n then Rl.nms else if n + 1 + 1 + 1 = n + 1 then .ats else if n + 1 + 1 + 1 = n + 2 then .nds else if n + 1 + 1 + 1 = n + 3 then .hmp else _) = .hmp
      rw [if_neg (by omega), if_neg (by omega), if_neg (by omega), if_pos (by omega)]
  · repeat (first | exact Below.refl _ _ | assumption | refine bel_setb ?_ (by first | exact Nat.le_refl _ | omega | (simp only [go_sem] <;> omega)) _ | refine Below.alloc ?_ (by first | exact Nat.le_refl _ | omega | (simp only [go_sem]; omega)) _ | refine Below.drew ?_)
theorem MemX.newHnd (h : MemX w B p m F vn va vd q ds hl c hb ρ) (k : Int) {b : Nat} {hd : SM.Hnd} (hbb : bk w b = some (CB (hndC hd) T.spec_MemHandle)) (hB : B ≤ b) (hF : ¬ F.use b) :
    MemX (setb w q (MO emI (mputL hl k (pt b 0) c) (mputC hl k c))) B p (m.setH k hd) ⟨fun x => F.own x ∨ x = b, fun x => F.use x ∨ x = b⟩ vn va vd q ds (mputL hl k (pt b 0) c) (mputC hl k c) (fun j => if j = k then b else hb j) (fun x => if x = b then .hnd k else ρ x) ∧
    Kp w (setb w q (MO emI (mputL hl k (pt b 0) c) (mputC hl k c))) F.own := by
  have kp := Kp.setb w q (MO emI (mputL hl k (pt b 0) c) (mputC hl k c))
  have hG : ∀ x, x < w.heap.size → x = q → ρ x = .hmp := fun x _ e => by rw [e]; exact h.rq
  have l := h.only kp hG (fun e => by cases e)
  have lq : q < w.heap.size := bk_lt h.bq
  have nb : ∀ x, ρ x ≠ .no → x ≠ b := fun x hx e => hF (by rw [← e]; exact h.sub x ((h.own x).2 hx))
  have rb : ρ b = .no := by
    by_cases e : ρ b = .no
    · exact e
    · exact absurd (h.sub b ((h.own b).2 e)) hF
  have rr : ∀ x, ρ x ≠ .no → (if x = b then Rl.hnd k else ρ x) = ρ x := fun x hx => if_neg (nb x hx)
  refine ⟨⟨fun x => ?_, fun x hx => hx.imp (h.sub x) id, fun x hx => ?_, fun x hx => ?_, ?_, l.bm (fun e => by cases e), l.on (fun e => by cases e), fun x hx => ?_, l.oa (fun e => by cases e), fun x hx => ?_, l.od (fun e => by cases e), fun x hx => ?_, h.dl, fun i h1 h2 => ?_, ?_, bk_setb_eq _ _ _ _ rfl lq, h.wf.put k _, fun j => ?_, fun j y hy => ?_⟩, Kp_sub kp fun x _ e => (h.own x).2 (by rw [e, h.rq]; decide)⟩
  · show F.own x ∨ x = b ↔ (if x = b then Rl.hnd k else ρ x) ≠ .no
    by_cases e : x = b
    · rw [if_pos e]; exact ⟨fun _ h => (by cases h), fun _ => .inr e⟩
    · rw [if_neg e, ← h.own x]; exact ⟨fun hx => hx.resolve_right e, .inl⟩
  · rw [sZb]
    rcases hx with hx | hx
    · exact h.lt x hx
    · rw [hx]; exact bk_lt hbb
  · rcases hx with hx | hx
    · exact h.ge x hx
    · rw [hx]; exact hB
  · show (if p = b then Rl.hnd k else ρ p) = .mem
    rw [rr p (by rw [h.rp]; decide)]; exact h.rp
  · show (if x = b then Rl.hnd k else ρ x) = .nms
    have := h.rn x hx
    rw [rr x (by rw [this]; decide)]; exact this
  · show (if x = b then Rl.hnd k else ρ x) = .ats
    have := h.ra x hx
    rw [rr x (by rw [this]; decide)]; exact this
  · show (if x = b then Rl.hnd k else ρ x) = .nds
    have := h.rd x hx
    rw [rr x (by rw [this]; decide)]; exact this
  · obtain ⟨d1, d2⟩ := l.db i h1 h2
    refine ⟨d1, fun x hx => ⟨.inl (d2 x hx).1, ?_⟩⟩
    show (if x = b then Rl.hnd k else ρ x) = .no
    rw [if_neg fun e => hF (by rw [← e]; exact (d2 x hx).1)]
    exact (d2 x hx).2
  · show (if q = b then Rl.hnd k else ρ q) = .hmp
    rw [rr q (by rw [h.rq]; decide)]; exact h.rq
  · rw [mget_mputL]
    show _ = (SM.hget (SM.hput m.hs k hd) j).map _
    rw [SM.hget_hput]
    by_cases e : j = k
    · rw [if_pos e, if_pos e]
      simp [e]
    · rw [if_neg e, if_neg e, h.hm j]
      simp [e]
  · have hy' : SM.hget (SM.hput m.hs k hd) j = some y := hy
    rw [SM.hget_hput] at hy'
    by_cases e : j = k
    · rw [if_pos e] at hy'
      injection hy' with hy'
      subst hy' e
      simp only [if_true]
      exact ⟨trivial, by rw [bk_setb_ne _ _ _ _ (fun e2 => nb q (by rw [h.rq]; decide) e2.symm)]; exact hbb⟩
    · rw [if_neg e] at hy'
      obtain ⟨r1, b1⟩ := h.bh j y hy'
      simp only [if_neg e]
      rw [rr _ (by rw [r1]; exact fun e => by cases e)]
      exact ⟨r1, l.bh j y hy' (fun e2 => by cases e2)⟩
end
end Go.Proofs.YteblpejgenehfaaDoor.X
end
section
namespace Go.Proofs.YteblpejgenehfaaDoor.X
open Go Go.X Go.Proofs Go.RowKit
structure OpX (w W : World) (B p : Nat) (m : SM.Mem) (F0 F : Fp) (s : SM.Stp) (v : Value) (hb : Nat) (hd : SM.Hnd) : Prop where
  h : MemS W B p m F
  t : Tr w W F0 F
  S : bk W w.heap.size = some (CB (stepC s v) T.impl_Step)
  A : bk W (w.heap.size + 1) = some (CB ansZ T.impl_Answer)
  H : bk W hb = some (CB (hndC hd) T.spec_MemHandle)
  hl : w.heap.size + 2 ≤ hb
  nS : ¬ F.use w.heap.size
  nA : ¬ F.use (w.heap.size + 1)
  nH : ¬ F.use hb
section
variable {w W W' : World} {K : Value → World → Prop} {B p : Nat} {m m' : SM.Mem} {F0 F F' : Fp} {s : SM.Stp} {v : Value} {hb : Nat} {hd hd' : SM.Hnd}
theorem OpX.step (o : OpX w W B p m F0 F s v hb hd) (h' : MemS W' B p m' F') (t' : Tr W W' F F') : OpX w W' B p m' F0 F' s v hb hd := by
  have so : ∀ b, F.own b → F.use b := o.h.sub
  have g : ∀ b, b < W.heap.size → ¬ F.use b → bk W' b = bk W b ∧ ¬ F'.use b := fun b hb hn => ⟨t'.kp.block b hb fun e => hn (so b e), fun e => hn ((t'.st b hb).2 e)⟩
  obtain ⟨s1, s2⟩ := g _ (bk_lt o.S) o.nS
  obtain ⟨a1, a2⟩ := g _ (bk_lt o.A) o.nA
  obtain ⟨h1, h2⟩ := g _ (bk_lt o.H) o.nH
  exact ⟨h', o.t.trans t', s1.trans o.S, a1.trans o.A, h1.trans o.H, o.hl, s2, a2, h2⟩
theorem OpX.below (o : OpX w W B p m F0 F s v hb hd) (b : Below W.heap.size W W') : OpX w W' B p m F0 F s v hb hd := o.step (o.h.old b) (Tr.of_below b F)
theorem OpX.setH (o : OpX w W B p m F0 F s v hb hd) : OpX w (setb W hb (CB (hndC hd') T.spec_MemHandle)) B p m F0 F s v hb hd' := by
  have k := Kp.setb W hb (CB (hndC hd') T.spec_MemHandle)
  have l := o.hl
  refine ⟨o.h.frame k fun b hb e => o.nH (by rw [← e]; exact hb), ⟨o.t.kp.trans k fun x hx e => by omega, o.t.st⟩, ?_, ?_, bk_setb_eq _ _ _ _ rfl (bk_lt o.H), l, o.nS, o.nA, o.nH⟩
  · rw [bk_setb_ne _ _ _ _ (by omega)]; exact o.S
  · rw [bk_setb_ne _ _ _ _ (by omega)]; exact o.A
theorem OpX.err (o : OpX w W B p m F0 F s v hb hd) {e : Int} (hk : FileK w B p F0 (m, SM.Ans.err e) K) :
    pu P (oBuild T.impl_Answer #[(0, .int .i64 e)]) fun t => st P (oStore T.impl_Answer (pt (w.heap.size + 1) 0) t) W fun _ w17 => rsl P T.impl_Answer (pt (w.heap.size + 1) 0) w17 fun r => K (tup [r]) w17 := by
  have hA := o.A
  have lA := bk_lt hA
  simp (disch := first | omega | (simp only [sZb, sZa, sZd] <;> omega) | (simp (disch := first | omega | (simp only [sZb, sZa, sZd] <;> omega) | fail) only [go_sem, hA]; done) | fail) only [go_sem, dec_t, dec_f, w_u32, w_u64, w_u16, w_u8, w_i64, Int.reduceToNat, Int.reducePow, Nat.reducePow, hA]
  obtain ⟨e1, e2, e3⟩ := fin_ans o.h o.t (A := w.heap.size + 1) (by omega) o.nA (AnsN.plain _ _ _ rfl rfl rfl : AnsN W (w.heap.size + 1 + 1) F.use (SM.Ans.err e) _) (CB (answC (SM.Ans.err e) (.slice none 0 0) (.slice none 0 0) (.slice none 0 0)) T.impl_Answer)
  exact hk _ _ _ e1 e2 e3
theorem open1_spec (o : OpX w W B p m F0 F s v hb hd) (hB : B ≤ hb) {i : Int} (hk : FileK w B p F0 (m.setH i hd, SM.Ans.z) K) (t : List Value) (u : Env) : J_spec_Mem_open_1 (pt p 0) (.int .i64 i) (pt hb 0) (pt (w.heap.size + 1) 0) K t u W := by
  unfold J_spec_Mem_open_1
  obtain ⟨vn, va, vd, q, ds, hl', c, hbb, ρ, h⟩ := o.h
  have bm := h.bm
  have bq := h.bq
  simp (disch := first | omega | (simp only [sZb, sZa, sZd] <;> omega) | (simp (disch := first | omega | (simp only [sZb, sZa, sZd] <;> omega) | fail) only [go_sem, bm]; done) | fail) only [go_sem, dec_t, dec_f, w_u32, w_u64, w_u16, w_u8, w_i64, Int.reduceToNat, Int.reducePow, Nat.reducePow, bm]
  rw [upI _ U.map_int_p_spec_MemHandle U.int, bq, mlI_MO, optE_some]
  obtain ⟨h5, k5⟩ := h.newHnd i o.H hB o.nH
  have hl := o.hl
  have lq : q < W.heap.size := bk_lt bq
  have oq : F.own q := (h.own q).2 (by rw [h.rq]; decide)
  have nq : q ≠ w.heap.size + 1 := fun e => o.nA (by rw [← e]; exact h.sub q oq)
  have hA : bk (setb W q (MO emI (mputL hl' i (pt hb 0) c) (mputC hl' i c))) (w.heap.size + 1) = some (CB ansZ T.impl_Answer) := by rw [bk_setb_ne _ _ _ _ (fun e => nq e.symm)]; exact o.A
  have T5 : Tr w (setb W q (MO emI (mputL hl' i (pt hb 0) c) (mputC hl' i c))) F0 ⟨fun x => F.own x ∨ x = hb, fun x => F.use x ∨ x = hb⟩ :=
    ⟨o.t.kp.trans k5 fun x hx e => (o.t.st x hx).1 e, fun x hx => ⟨fun e => e.elim (o.t.st x hx).1 fun e => by omega, fun e => e.elim (o.t.st x hx).2 fun e => by omega⟩⟩
  have nA5 : ¬ (F.use (w.heap.size + 1) ∨ w.heap.size + 1 = hb) := fun e => e.elim o.nA fun e => by omega
  generalize setb W q (MO emI (mputL hl' i (pt hb 0) c) (mputC hl' i c)) = W5 at *
  have lA := bk_lt hA
  simp (disch := first | omega | (simp only [sZb, sZa, sZd] <;> omega) | (simp (disch := first | omega | (simp only [sZb, sZa, sZd] <;> omega) | fail) only [go_sem, hA]; done) | fail) only [go_sem, dec_t, dec_f, w_u32, w_u64, w_u16, w_u8, w_i64, Int.reduceToNat, Int.reducePow, Nat.reducePow, hA]
  obtain ⟨e1, e2, e3⟩ := fin_ans (h5.toS) T5 (A := w.heap.size + 1) (by omega) nA5 (AnsN.plain _ _ _ rfl rfl rfl : AnsN W5 (w.heap.size + 1 + 1) _ SM.Ans.z _) (CB (answC SM.Ans.z (.slice none 0 0) (.slice none 0 0) (.slice none 0 0)) T.impl_Answer)
  exact hk _ _ _ e1 e2 e3
theorem open2_spec (o : OpX w W B p m F0 F s v hb hd) {l : Str} (hr : (m.find [47]).isSome = true) (mb : MB m) (hl : l.length ≤ 900) {k1 : List Value → World → Prop}
    (hk : ∀ W' F', OpX w W' B p ((m.parents l 0).add l ⟨false, 268435456, [], 0, []⟩) F0 F' s v hb { hd with node := (m.parents l 0).nodes.length } → k1 [] W') : J_spec_Mem_open_2 (pt p 0) (S l) W (pt hb 0) k1 := by
  unfold J_spec_Mem_open_2
  rw [C.spec_Mem_parents]
  refine parents_spec o.h hr mb.la hl mb.nn mb.dn fun w1 F1 h1 t1 => ?_
  have o1 := o.step h1 t1
  obtain ⟨q1, q2, q3⟩ := SM.parentsF_lens m 0 (l.length + 2) l
  have n1 := mb.nn
  have n2 := mb.dn
  simp (disch := first | omega | (simp only [sZb, sZa, sZd] <;> omega) | (simp (disch := first | omega | (simp only [sZb, sZa, sZd] <;> omega) | fail) only [go_sem]; done) | fail) only [go_sem, dec_t, dec_f, w_u32, w_u64, w_u16, w_u8, w_i64, Int.reduceToNat, Int.reducePow, Nat.reducePow]
  refine add_spec (n := ⟨false, 268435456, [], 0, []⟩) (dv := .slice none 0 0) h1 (by show (m.parentsF l 0 (l.length + 2)).names.length ≤ _; omega) (by show (m.parentsF l 0 (l.length + 2)).nodes.length ≤ _; omega) (q3 mb.la) (BS_nil _) (fun b e => by cases e) fun w2 F2 h2 t2 => ?_
  have o2 := o1.step h2 t2
  have hH := o2.H
  have lH := bk_lt hH
  simp (disch := first | omega | (simp only [sZb, sZa, sZd] <;> omega) | (simp (disch := first | omega | (simp only [sZb, sZa, sZd] <;> omega) | fail) only [go_sem, hH]; done) | fail) only [go_sem, dec_t, dec_f, w_u32, w_u64, w_u16, w_u8, w_i64, Int.reduceToNat, Int.reducePow, Nat.reducePow, hH]
  exact hk _ _ (o2.setH (hd' := { hd with node := (m.parents l 0).nodes.length }))
theorem open9_spec (o : OpX w W B p m F0 F s v hb hd) (hv : v.oneCell' = true) {l : Str} (hr : (m.find [47]).isSome = true) (mb : MB m) (hl : l.length ≤ 900) {k1 : List Value → World → Prop}
    (hk : ∀ W' F', OpX w W' B p ((m.parents l 0).add l ⟨false, andI s.perm SM.chmodBits, [], 0, []⟩) F0 F' s v hb { hd with node := (m.parents l 0).nodes.length } → k1 [] W') : J_spec_Mem_open_9 (pt p 0) (S l) W (pt w.heap.size 0) (pt hb 0) k1 := by
  unfold J_spec_Mem_open_9
  rw [C.spec_Mem_parents]
  refine parents_spec o.h hr mb.la hl mb.nn mb.dn fun w1 F1 h1 t1 => ?_
  have o1 := o.step h1 t1
  obtain ⟨q1, q2, q3⟩ := SM.parentsF_lens m 0 (l.length + 2) l
  have n1 := mb.nn
  have n2 := mb.dn
  have hS := o1.S
  simp (disch := first | omega | (simp only [sZb, sZa, sZd] <;> omega) | (simp (disch := first | omega | (simp only [sZb, sZa, sZd] <;> omega) | fail) only [go_sem, hS]; done) | fail) only [go_sem, dec_t, dec_f, w_u32, w_u64, w_u16, w_u8, w_i64, Int.reduceToNat, Int.reducePow, Nat.reducePow, hS]
  refine add_spec (n := ⟨false, andI s.perm SM.chmodBits, [], 0, []⟩) (dv := .slice none 0 0) h1 (by show (m.parentsF l 0 (l.length + 2)).names.length ≤ _; omega) (by show (m.parentsF l 0 (l.length + 2)).nodes.length ≤ _; omega) (q3 mb.la) (BS_nil _) (fun b e => by cases e) fun w2 F2 h2 t2 => ?_
  have o2 := o1.step h2 t2
  have hH := o2.H
  have lH := bk_lt hH
  simp (disch := first | omega | (simp only [sZb, sZa, sZd] <;> omega) | (simp (disch := first | omega | (simp only [sZb, sZa, sZd] <;> omega) | fail) only [go_sem, hH]; done) | fail) only [go_sem, dec_t, dec_f, w_u32, w_u64, w_u16, w_u8, w_i64, Int.reduceToNat, Int.reducePow, Nat.reducePow, hH]
  exact hk _ _ (o2.setH (hd' := { hd with node := (m.parents l 0).nodes.length }))
theorem open4_spec (o : OpX w W B p m F0 F s v hb hd) {b : Bool} (he : b = false → FileK w B p F0 (m, SM.Ans.err 1) K) {k1 : List Value → World → Prop} (hk : ∀ W', OpX w W' B p m F0 F s v hb { hd with ro := true } → b = true → k1 [] W') : J_spec_Mem_open_4 (pt hb 0) k1 (.bool b) (pt (w.heap.size + 1) 0) W K := by
  unfold J_spec_Mem_open_4
  cases b with
  | false =>
    refine jn_with (fun _ _ => False) (fun _ _ _ h => h.elim) ?_
    have := o.err (he rfl)
    rw [show pu P (oUn .not (.bool false)) = pu P (oUn .not (.bool false)) from rfl]
    simp (disch := first | omega | (simp only [sZb, sZa, sZd] <;> omega) | (simp (disch := first | omega | (simp only [sZb, sZa, sZd] <;> omega) | fail) only [go_sem]; done) | fail) only [go_sem, dec_t, dec_f, w_u32, w_u64, w_u16, w_u8, w_i64, Int.reduceToNat, Int.reducePow, Nat.reducePow]
    have hA := o.A
    simp (disch := first | omega | (simp only [sZb, sZa, sZd] <;> omega) | (simp (disch := first | omega | (simp only [sZb, sZa, sZd] <;> omega) | fail) only [go_sem, hA]; done) | fail) only [go_sem, dec_t, dec_f, w_u32, w_u64, w_u16, w_u8, w_i64, Int.reduceToNat, Int.reducePow, Nat.reducePow, hA] at this ⊢
    exact this
  | true =>
    refine jn_with (fun t w' => w' = W) ?_ (by simp (disch := first | omega | (simp only [sZb, sZa, sZd] <;> omega) | (simp (disch := first | omega | (simp only [sZb, sZa, sZd] <;> omega) | fail) only [go_sem]; done) | fail) only [go_sem, dec_t, dec_f, w_u32, w_u64, w_u16, w_u8, w_i64, Int.reduceToNat, Int.reducePow, Nat.reducePow])
    rintro t e w1 rfl
    unfold J_spec_Mem_open_3
    have hH := o.H
    have lH := bk_lt hH
    simp (disch := first | omega | (simp only [sZb, sZa, sZd] <;> omega) | (simp (disch := first | omega | (simp only [sZb, sZa, sZd] <;> omega) | fail) only [go_sem, hH]; done) | fail) only [go_sem, dec_t, dec_f, w_u32, w_u64, w_u16, w_u8, w_i64, Int.reduceToNat, Int.reducePow, Nat.reducePow, hH]
    exact hk _ (o.setH (hd' := { hd with ro := true })) rfl
theorem open5_spec (o : OpX w W B p m F0 F s v hb hd) (hn : hd.node < m.nodes.length) {k1 : List Value → World → Prop} (hk : ∀ W', OpX w W' B p (m.setNode hd.node { m.node hd.node with data := [], time := 0 }) F0 F s v hb hd → k1 [] W') : J_spec_Mem_open_5 (pt p 0) W (pt hb 0) k1 := by
  unfold J_spec_Mem_open_5
  have o' := o
  obtain ⟨vn, va, vd, q, ds, hl', c, hbb, ρ, h⟩ := o.h
  have bm := h.bm
  have hH := o.H
  obtain ⟨g, cur, na, hcl, ht⟩ := h.node hn
  have ix := na.ix
  have bg := na.bg
  have lg := bk_lt bg
  have c2 := na.c2
  have c3 := na.c3
  have len := na.len
  have len2 : hd.node * 5 + 5 ≤ (cur.set (hd.node * 5 + 2) (Value.slice none 0 0)).length := by rw [List.length_set]; exact len
  simp (disch := first | omega | (simp only [sZb, sZa, sZd] <;> omega) | (simp (disch := first | omega | (simp only [sZb, sZa, sZd] <;> omega) | fail) only [go_sem, bm, hH, ix, bg, c2, c3]; done) | fail) only [go_sem, dec_t, dec_f, w_u32, w_u64, w_u16, w_u8, w_i64, Int.reduceToNat, Int.reducePow, Nat.reducePow, bm, hH, ix, bg, c2, c3]
  have dD := h.old (show Below W.heap.size W W.drew by repeat (first | exact Below.refl _ _ | assumption | refine bel_setb ?_ (by first | exact Nat.le_refl _ | omega | (simp only [go_sem] <;> omega)) _ | refine Below.alloc ?_ (by first | exact Nat.le_refl _ | omega | (simp only [go_sem]; omega)) _ | refine Below.drew ?_))
  have na' : NodeAt W.drew vd m hd.node (ds[hd.node]'(by rw [h.dl]; exact hn)) g cur := ⟨na.ob, na.bg, na.len, na.ix, na.row, na.c0, na.c1, na.c2, na.c3, na.c4⟩
  obtain ⟨h3, n5, t3, q1, q2⟩ := dD.store (j := 2) (x := .slice none 0 0) (n' := { m.node hd.node with data := [] }) (d' := .slice none 0 0) hn na' rfl hcl ht (by omega) rfl ⟨BS_nil _, fun b hb => by cases hb⟩
  have hi3 : hd.node < (m.setNode hd.node { m.node hd.node with data := [] }).nodes.length := by simpa [SM.Mem.setNode] using hn
  have en : (m.setNode hd.node { m.node hd.node with data := [] }).node hd.node = { m.node hd.node with data := [] } := by
    rw [node_get hi3]; simp [SM.Mem.setNode]
  have ed : ((ds.set hd.node (.slice none 0 0))[hd.node]'(by rw [h3.dl]; exact hi3)) = .slice none 0 0 := by simp
  obtain ⟨h4, n6, t4, q3, q4⟩ := h3.store (j := 3) (x := .int .i64 0) (n' := { m.node hd.node with data := [], time := 0 }) (d' := .slice none 0 0) hi3 n5 ed.symm q1 q2 (by omega) (by rw [en]; rfl) ⟨BS_nil _, fun b hb => by cases hb⟩
  have em : (m.setNode hd.node { m.node hd.node with data := [] }).setNode hd.node { m.node hd.node with data := [], time := 0 } = m.setNode hd.node { m.node hd.node with data := [], time := 0 } := by
    unfold SM.Mem.setNode
    simp
  rw [em] at h4
  exact hk _ (o.step h4.toS (((Tr.of_below (show Below W.heap.size W W.drew by repeat (first | exact Below.refl _ _ | assumption | refine bel_setb ?_ (by first | exact Nat.le_refl _ | omega | (simp only [go_sem] <;> omega)) _ | refine Below.alloc ?_ (by first | exact Nat.le_refl _ | omega | (simp only [go_sem]; omega)) _ | refine Below.drew ?_)) F).trans t3).trans t4))
theorem open7_spec (o : OpX w W B p m F0 F s v hb hd) (hn : hd.node < m.nodes.length) (hdl : (m.node hd.node).data.length ≤ 140737488355328) {k6 : List Value → World → Prop} (hk : ∀ W', OpX w W' B p m F0 F s v hb { hd with pos := ((m.node hd.node).data.length : Nat) } → k6 [] W') : J_spec_Mem_open_7 (pt p 0) W (pt hb 0) k6 := by
  unfold J_spec_Mem_open_7
  obtain ⟨vn, va, vd, q, ds, hl', c, hbb, ρ, h⟩ := o.h
  have bm := h.bm
  have hH := o.H
  have lH := bk_lt hH
  obtain ⟨g, cur, na, hcl, ht⟩ := h.node hn
  have ix := na.ix
  have bg := na.bg
  have c2 := na.c2
  obtain ⟨dat, _⟩ := h.data hn
  obtain ⟨ad, cd', ed⟩ := BS_slice dat
  rw [ed] at c2
  have oD := o.below (show Below W.heap.size W W.drew by repeat (first | exact Below.refl _ _ | assumption | refine bel_setb ?_ (by first | exact Nat.le_refl _ | omega | (simp only [go_sem] <;> omega)) _ | refine Below.alloc ?_ (by first | exact Nat.le_refl _ | omega | (simp only [go_sem]; omega)) _ | refine Below.drew ?_))
  simp (disch := first | omega | (simp only [sZb, sZa, sZd] <;> omega) | (simp (disch := first | omega | (simp only [sZb, sZa, sZd] <;> omega) | fail) only [go_sem, bm, hH, ix, bg, c2]; done) | fail) only [go_sem, dec_t, dec_f, w_u32, w_u64, w_u16, w_u8, w_i64, Int.reduceToNat, Int.reducePow, Nat.reducePow, bm, hH, ix, bg, c2]
  exact hk _ (oD.setH (hd' := { hd with pos := ((m.node hd.node).data.length : Nat) }))
theorem open6_spec (o : OpX w W B p m F0 F s v hb hd) (hv : v.oneCell' = true) (hn : hd.node < m.nodes.length) {k1 : List Value → World → Prop} (hk : ∀ W', OpX w W' B p (if SM.has s.flag 512 && SM.has s.flag 3 then m.setNode hd.node { m.node hd.node with data := [], time := 0 } else m) F0 F s v hb hd → k1 [] W') (t : List Value) (u : Env) : J_spec_Mem_open_6 (pt w.heap.size 0) (pt p 0) (pt hb 0) k1 t u W := by
  unfold J_spec_Mem_open_6
  have hS := o.S
  by_cases c1 : andI s.flag 512 = 0
  · have e1 : SM.has s.flag 512 = false := by unfold SM.has; simp [c1]
    rw [e1] at hk
    simp (disch := first | omega | (simp only [sZb, sZa, sZd] <;> omega) | (simp (disch := first | omega | (simp only [sZb, sZa, sZd] <;> omega) | fail) only [go_sem, hS]; done) | fail) only [go_sem, dec_t, dec_f, w_u32, w_u64, w_u16, w_u8, w_i64, Int.reduceToNat, Int.reducePow, Nat.reducePow, hS]
    exact hk _ o
  · have e1 : SM.has s.flag 512 = true := by unfold SM.has; simp [c1]
    rw [e1] at hk
    by_cases c2 : andI s.flag 3 = 0
    · have e2 : SM.has s.flag 3 = false := by unfold SM.has; simp [c2]
      rw [e2] at hk
      simp (disch := first | omega | (simp only [sZb, sZa, sZd] <;> omega) | (simp (disch := first | omega | (simp only [sZb, sZa, sZd] <;> omega) | fail) only [go_sem, hS]; done) | fail) only [go_sem, dec_t, dec_f, w_u32, w_u64, w_u16, w_u8, w_i64, Int.reduceToNat, Int.reducePow, Nat.reducePow, hS]
      exact hk _ o
    · have e2 : SM.has s.flag 3 = true := by unfold SM.has; simp [c2]
      rw [e2] at hk
      simp (disch := first | omega | (simp only [sZb, sZa, sZd] <;> omega) | (simp (disch := first | omega | (simp only [sZb, sZa, sZd] <;> omega) | fail) only [go_sem, hS]; done) | fail) only [go_sem, dec_t, dec_f, w_u32, w_u64, w_u16, w_u8, w_i64, Int.reduceToNat, Int.reducePow, Nat.reducePow, hS]
      exact open5_spec o hn hk
theorem open8_spec (o : OpX w W B p m F0 F s v hb hd) (hv : v.oneCell' = true) (hn : hd.node < m.nodes.length) (hp : hd.pos = 0) (hdl : (m.node hd.node).data.length ≤ 140737488355328) {k1 : List Value → World → Prop}
    (hk : ∀ W', OpX w W' B p (if SM.has s.flag 512 && SM.has s.flag 3 then m.setNode hd.node { m.node hd.node with data := [], time := 0 } else m) F0 F s v hb { hd with ro := decide (s.flag = 0), pos := if SM.has s.flag 1024 then ((m.node hd.node).data.length : Nat) else 0 } → k1 [] W') (t : List Value) (u : Env) : J_spec_Mem_open_8 (pt w.heap.size 0) (pt hb 0) (pt p 0) k1 t u W := by
  unfold J_spec_Mem_open_8
  have hS := o.S
  have hH := o.H
  have lH := bk_lt hH
  simp (disch := first | omega | (simp only [sZb, sZa, sZd] <;> omega) | (simp (disch := first | omega | (simp only [sZb, sZa, sZd] <;> omega) | fail) only [go_sem, hS, hH]; done) | fail) only [go_sem, dec_t, dec_f, w_u32, w_u64, w_u16, w_u8, w_i64, Int.reduceToNat, Int.reducePow, Nat.reducePow, hS, hH]
  have o1 := o.setH (hd' := { hd with ro := decide (s.flag = 0) })
  generalize setb W hb (CB (hndC { hd with ro := decide (s.flag = 0) }) T.spec_MemHandle) = W1 at *
  have hS1 := o1.S
  by_cases c1 : andI s.flag 1024 = 0
  · have e1 : SM.has s.flag 1024 = false := by unfold SM.has; simp [c1]
    rw [e1] at hk
    refine jn_with (fun t w' => w' = W1) ?_ ?_
    · rintro t e w1 rfl
      refine open6_spec o1 hv hn (fun W' o2 => hk W' ?_) _ _
      have e : ({ hd with ro := decide (s.flag = 0), pos := 0 } : SM.Hnd) = { hd with ro := decide (s.flag = 0) } := by rw [← hp]
      simp only [Bool.false_eq_true, if_false]
      rw [e]
      exact o2
    · simp (disch := first | omega | (simp only [sZb, sZa, sZd] <;> omega) | (simp (disch := first | omega | (simp only [sZb, sZa, sZd] <;> omega) | fail) only [go_sem, hS1]; done) | fail) only [go_sem, dec_t, dec_f, w_u32, w_u64, w_u16, w_u8, w_i64, Int.reduceToNat, Int.reducePow, Nat.reducePow, hS1]
  · have e1 : SM.has s.flag 1024 = true := by unfold SM.has; simp [c1]
    rw [e1] at hk
    refine jn_with (fun t w' => OpX w w' B p m F0 F s v hb { hd with ro := decide (s.flag = 0), pos := ((m.node hd.node).data.length : Nat) }) ?_ ?_
    · rintro t e w1 o3
      exact open6_spec o3 hv hn (fun W' o2 => hk W' o2) _ _
    · simp (disch := first | omega | (simp only [sZb, sZa, sZd] <;> omega) | (simp (disch := first | omega | (simp only [sZb, sZa, sZd] <;> omega) | fail) only [go_sem, hS1]; done) | fail) only [go_sem, dec_t, dec_f, w_u32, w_u64, w_u16, w_u8, w_i64, Int.reduceToNat, Int.reducePow, Nat.reducePow, hS1]
      exact open7_spec o1 hn hdl fun W' o2 => o2
set_option maxHeartbeats 4000000 in
theorem open_spec (h : MemS w B p m F) (hB : B ≤ w.heap.size) (hv : ∃ a c, v = .slice a s.data.length c) (hop : 0 ≤ s.op ∧ s.op ≤ 2) (hn : s.name.length ≤ 400) (hr : (m.find [47]).isSome = true) (mb : MB m) (hd : ∀ n ∈ m.nodes, n.data.length ≤ 1099511627776) (i : Int) (hk : FileK w B p F (m.openS i s) K) : Cl P Fn.spec_Mem_open #[pt p 0, .int .i64 i, AG (stepC s v)] w K := by
  apply S_spec_Mem_open
  unfold F_spec_Mem_open
  obtain ⟨W, eW, BW, zW, bS, bA⟩ := start_w w s v
  rw [oBox_agg, M.al_impl_Answer, eW, show (w.alloc (CB (stepC s v) T.impl_Step)).heap.size = w.heap.size + 1 by simp only [go_sem]]
  obtain ⟨av, cv, ev⟩ := hv
  have ov : v.oneCell' = true := by rw [ev]; rfl
  have hnl := norm_len s.name
  simp (disch := first | omega | (simp only [sZb, sZa, sZd] <;> omega) | (simp (disch := first | omega | (simp only [sZb, sZa, sZd] <;> omega) | fail) only [go_sem, bS]; done) | fail) only [go_sem, dec_t, dec_f, w_u32, w_u64, w_u16, w_u8, w_i64, Int.reduceToNat, Int.reducePow, Nat.reducePow, bS]
  refine memName_spec hn fun w1 b1 => ?_
  have lf : ∀ b, F.use b → b < w.heap.size := h.lt
  have z1 := b1.size
  have h1 := (h.old BW).old b1
  try rw [C.spec_Mem_Find]
  refine find_spec h1 (by have := mb.nn; omega) mb.la ?_
  have n1 := mb.nn
  have n2 := mb.dn
  generalize hnm : norm s.name = nm at *
  simp (disch := first | omega | (simp only [sZb, sZa, sZd] <;> omega) | (simp (disch := first | omega | (simp only [sZb, sZa, sZd] <;> omega) | fail) only [go_sem]; done) | fail) only [go_sem, dec_t, dec_f, w_u32, w_u64, w_u16, w_u8, w_i64, Int.reduceToNat, Int.reducePow, Nat.reducePow]
  obtain ⟨W2, e2⟩ : ∃ W2, W2 = w1.alloc (CB (hndC ⟨(m.find nm).getD 0, 0, 0, false, false⟩) T.spec_MemHandle) := ⟨_, rfl⟩
  have b2 : Below w1.heap.size w1 W2 := by rw [e2]; repeat (first | exact Below.refl _ _ | assumption | refine bel_setb ?_ (by first | exact Nat.le_refl _ | omega | (simp only [go_sem] <;> omega)) _ | refine Below.alloc ?_ (by first | exact Nat.le_refl _ | omega | (simp only [go_sem]; omega)) _ | refine Below.drew ?_)
  have B2 : Below w.heap.size w W2 := (BW.trans (b1.mono (by omega))).trans (b2.mono (by omega))
  have o : OpX w W2 B p m F F s v w1.heap.size ⟨(m.find nm).getD 0, 0, 0, false, false⟩ := by
    refine ⟨h1.old b2, Tr.of_below B2 F, ?_, ?_, by rw [e2]; exact bk_alloc_eq _ _ _ rfl, by omega, fun e => ?_, fun e => ?_, fun e => ?_⟩
    · exact (bel_bk b2 (by omega)).trans ((bel_bk b1 (by omega)).trans bS)
    · exact (bel_bk b2 (by omega)).trans ((bel_bk b1 (by omega)).trans bA)
    · have := lf _ e; omega
    · have := lf _ e; omega
    · have := lf _ e; omega
  have e2' : W2 = w1.alloc (CB [.int .i64 ((m.find nm).getD 0 : Nat), .int .i64 0, .int .i64 0, .bool false, .bool false] T.spec_MemHandle) := e2
  rw [← e2']
  clear e2 e2'
  have hHB : B ≤ w1.heap.size := by omega
  generalize w1.heap.size = hbk at *
  have hS := o.S
  refine jn_with (fun t w' => ∃ m' F' hd', OpX w w' B p m' F F' s v hbk hd' ∧ m.openS i s = (m'.setH i hd', SM.Ans.z)) ?_ ?_
  · rintro t e w3 ⟨m', F', hd', o3, eq3⟩
    rw [eq3] at hk
    exact open1_spec o3 hHB hk _ _
  by_cases c0 : s.op = 0
  · simp (disch := first | omega | (simp only [sZb, sZa, sZd] <;> omega) | (simp (disch := first | omega | (simp only [sZb, sZa, sZd] <;> omega) | fail) only [go_sem, hS]; done) | fail) only [go_sem, dec_t, dec_f, w_u32, w_u64, w_u16, w_u8, w_i64, Int.reduceToNat, Int.reducePow, Nat.reducePow, hS]
    refine open2_spec o hr mb (by omega) fun W' F' o3 => ⟨_, _, _, o3, ?_⟩
    unfold SM.Mem.openS
    rw [if_pos c0, hnm]
  · simp (disch := first | omega | (simp only [sZb, sZa, sZd] <;> omega) | (simp (disch := first | omega | (simp only [sZb, sZa, sZd] <;> omega) | fail) only [go_sem, hS]; done) | fail) only [go_sem, dec_t, dec_f, w_u32, w_u64, w_u16, w_u8, w_i64, Int.reduceToNat, Int.reducePow, Nat.reducePow, hS]
    unfold J_spec_Mem_open_13
    by_cases c1 : s.op = 1
    · simp (disch := first | omega | (simp only [sZb, sZa, sZd] <;> omega) | (simp (disch := first | omega | (simp only [sZb, sZa, sZd] <;> omega) | fail) only [go_sem]; done) | fail) only [go_sem, dec_t, dec_f, w_u32, w_u64, w_u16, w_u8, w_i64, Int.reduceToNat, Int.reducePow, Nat.reducePow]
      refine open4_spec o (fun he => ?_) fun W' o3 he => ⟨_, _, _, o3, ?_⟩
      · have e : m.openS i s = (m, SM.Ans.err 1) := by
          unfold SM.Mem.openS
          rw [if_neg c0, if_pos c1, hnm]
          cases hf : m.find nm with
          | none => rfl
          | some x => rw [hf] at he; cases he
        rw [← e]; exact hk
      · unfold SM.Mem.openS
        rw [if_neg c0, if_pos c1, hnm]
        cases hf : m.find nm with
        | none => rw [hf] at he; cases he
        | some x => rfl
    · simp (disch := first | omega | (simp only [sZb, sZa, sZd] <;> omega) | (simp (disch := first | omega | (simp only [sZb, sZa, sZd] <;> omega) | fail) only [go_sem]; done) | fail) only [go_sem, dec_t, dec_f, w_u32, w_u64, w_u16, w_u8, w_i64, Int.reduceToNat, Int.reducePow, Nat.reducePow]
      have c2 : s.op = 2 := by omega
      have eo : m.openS i s = (if (m.find nm).isSome && SM.has s.flag 128 then (m, SM.Ans.err 2)
          else if (m.find nm).isNone && !SM.has s.flag 64 then (m, SM.Ans.err 1)
          else
            let m1 := if (m.find nm).isNone then (m.parents nm 0).add nm ⟨false, andI s.perm SM.chmodBits, [], 0, []⟩ else m
            let x := match m.find nm with | some x => x | none => (m.parents nm 0).nodes.length
            let at_ : Int := if SM.has s.flag 1024 then (m1.node x).data.length else 0
            let m2 := if SM.has s.flag 512 && SM.has s.flag 3 then m1.setNode x { m1.node x with data := [], time := 0 } else m1
            (m2.setH i ⟨x, at_, 0, false, decide (s.flag = 0)⟩, SM.Ans.z)) := by
        unfold SM.Mem.openS
        rw [if_neg c0, if_neg c1, hnm]
        rfl
      rw [eo] at hk ⊢
      clear eo
      unfold J_spec_Mem_open_12
      have hA := o.A
      have lA := bk_lt hA
      cases hf : m.find nm with
      | some x =>
        rw [hf] at hk o
        simp only [Option.isSome_some, Option.isNone_some, Bool.true_and, Bool.false_and, Option.getD_some, Bool.false_eq_true, if_false] at hk o ⊢
        have hx : x < m.nodes.length := find_lt mb.la mb.lt hf
        by_cases cx : andI s.flag 128 = 0
        · have e1 : SM.has s.flag 128 = false := by unfold SM.has; simp [cx]
          rw [e1] at hk ⊢
          simp only [Bool.false_eq_true, if_false] at hk ⊢
          refine jn_with (fun t w' => w' = W2) ?_ ?_
          · rintro t e w3 rfl
            unfold J_spec_Mem_open_11
            refine jn_with (fun t w' => w' = w3) ?_ ?_
            · rintro t e w4 rfl
              unfold J_spec_Mem_open_10
              refine jn_with (fun t w' => w' = w4) ?_ ?_
              · rintro t e w5 rfl
                refine open8_spec o ov hx rfl (by
                  have := hd _ (List.getElem_mem hx)
                  rw [← node_get hx] at this
                  show (m.node x).data.length ≤ _
                  omega) (fun W' o3 => ⟨_, _, _, o3, rfl⟩) _ _
              · simp (disch := first | omega | (simp only [sZb, sZa, sZd] <;> omega) | (simp (disch := first | omega | (simp only [sZb, sZa, sZd] <;> omega) | fail) only [go_sem]; done) | fail) only [go_sem, dec_t, dec_f, w_u32, w_u64, w_u16, w_u8, w_i64, Int.reduceToNat, Int.reducePow, Nat.reducePow]
            · simp (disch := first | omega | (simp only [sZb, sZa, sZd] <;> omega) | (simp (disch := first | omega | (simp only [sZb, sZa, sZd] <;> omega) | fail) only [go_sem]; done) | fail) only [go_sem, dec_t, dec_f, w_u32, w_u64, w_u16, w_u8, w_i64, Int.reduceToNat, Int.reducePow, Nat.reducePow]
          · simp (disch := first | omega | (simp only [sZb, sZa, sZd] <;> omega) | (simp (disch := first | omega | (simp only [sZb, sZa, sZd] <;> omega) | fail) only [go_sem, hS]; done) | fail) only [go_sem, dec_t, dec_f, w_u32, w_u64, w_u16, w_u8, w_i64, Int.reduceToNat, Int.reducePow, Nat.reducePow, hS]
        · have e1 : SM.has s.flag 128 = true := by unfold SM.has; simp [cx]
          rw [e1] at hk
          simp only [if_true] at hk
          refine jn_with (fun _ _ => False) (fun _ _ _ h => h.elim) ?_
          have fin := o.err hk
          simp (disch := first | omega | (simp only [sZb, sZa, sZd] <;> omega) | (simp (disch := first | omega | (simp only [sZb, sZa, sZd] <;> omega) | fail) only [go_sem, hS, hA]; done) | fail) only [go_sem, dec_t, dec_f, w_u32, w_u64, w_u16, w_u8, w_i64, Int.reduceToNat, Int.reducePow, Nat.reducePow, hS, hA] at fin ⊢
          exact fin
      | none =>
        rw [hf] at hk o
        simp only [Option.isSome_none, Option.isNone_none, Bool.true_and, Bool.false_and, Option.getD_none, Bool.false_eq_true, if_false] at hk o ⊢
        refine jn_with (fun t w' => w' = W2) ?_ (by simp (disch := first | omega | (simp only [sZb, sZa, sZd] <;> omega) | (simp (disch := first | omega | (simp only [sZb, sZa, sZd] <;> omega) | fail) only [go_sem]; done) | fail) only [go_sem, dec_t, dec_f, w_u32, w_u64, w_u16, w_u8, w_i64, Int.reduceToNat, Int.reducePow, Nat.reducePow])
        rintro t e w3 rfl
        unfold J_spec_Mem_open_11
        by_cases cx : andI s.flag 64 = 0
        · have e1 : SM.has s.flag 64 = false := by unfold SM.has; simp [cx]
          rw [e1] at hk
          simp only [Bool.not_false, if_true] at hk
          refine jn_with (fun _ _ => False) (fun _ _ _ h => h.elim) ?_
          have fin := o.err hk
          simp (disch := first | omega | (simp only [sZb, sZa, sZd] <;> omega) | (simp (disch := first | omega | (simp only [sZb, sZa, sZd] <;> omega) | fail) only [go_sem, hS, hA]; done) | fail) only [go_sem, dec_t, dec_f, w_u32, w_u64, w_u16, w_u8, w_i64, Int.reduceToNat, Int.reducePow, Nat.reducePow, hS, hA] at fin ⊢
          exact fin
        · have e1 : SM.has s.flag 64 = true := by unfold SM.has; simp [cx]
          rw [e1] at hk ⊢
          simp only [Bool.not_true, Bool.false_eq_true, if_false, if_true] at hk ⊢
          refine jn_with (fun t w' => w' = w3) ?_ ?_
          · rintro t e w4 rfl
            unfold J_spec_Mem_open_10
            obtain ⟨q1, q2, q3⟩ := SM.add_lens (m.parents nm 0) nm ⟨false, andI s.perm SM.chmodBits, [], 0, []⟩
            have hlt : (m.parents nm 0).nodes.length < ((m.parents nm 0).add nm ⟨false, andI s.perm SM.chmodBits, [], 0, []⟩).nodes.length := by omega
            have hnew : ((m.parents nm 0).add nm ⟨false, andI s.perm SM.chmodBits, [], 0, []⟩).node (m.parents nm 0).nodes.length = ⟨false, andI s.perm SM.chmodBits, [], 0, nm⟩ := by
              rw [node_get hlt]
              have : ((m.parents nm 0).add nm ⟨false, andI s.perm SM.chmodBits, [], 0, []⟩).nodes = (m.parents nm 0).nodes ++ [⟨false, andI s.perm SM.chmodBits, [], 0, nm⟩] := (SM.put_lens _ _ _).2.1
              simp only [this]
              simp
            refine jn_with (fun t w' => ∃ F', OpX w w' B p ((m.parents nm 0).add nm ⟨false, andI s.perm SM.chmodBits, [], 0, []⟩) F F' s v hbk ⟨(m.parents nm 0).nodes.length, 0, 0, false, false⟩) ?_ ?_
            · rintro t e w5 ⟨F5, o5⟩
              refine open8_spec o5 ov hlt rfl (by
                show (SM.Mem.node _ (m.parents nm 0).nodes.length).data.length ≤ _
                rw [hnew]; exact Nat.zero_le _) (fun W' o3 => ⟨_, _, _, o3, rfl⟩) _ _
            · simp (disch := first | omega | (simp only [sZb, sZa, sZd] <;> omega) | (simp (disch := first | omega | (simp only [sZb, sZa, sZd] <;> omega) | fail) only [go_sem]; done) | fail) only [go_sem, dec_t, dec_f, w_u32, w_u64, w_u16, w_u8, w_i64, Int.reduceToNat, Int.reducePow, Nat.reducePow]
              exact open9_spec o ov hr mb (by omega) fun W' F' o3 => ⟨_, o3⟩
          · simp (disch := first | omega | (simp only [sZb, sZa, sZd] <;> omega) | (simp (disch := first | omega | (simp only [sZb, sZa, sZd] <;> omega) | fail) only [go_sem, hS]; done) | fail) only [go_sem, dec_t, dec_f, w_u32, w_u64, w_u16, w_u8, w_i64, Int.reduceToNat, Int.reducePow, Nat.reducePow, hS]
end
end Go.Proofs.YteblpejgenehfaaDoor.X
end
section
namespace Go.Proofs.YteblpejgenehfaaDoor.X
open Go Go.X Go.Proofs Go.RowKit
abbrev Of (f d : Nat) (v : Value) : Nat → Prop := fun k => k = f ∨ k = d ∨ v.ownBlock = some k
theorem own_lt {w : World} {B n size : Nat} {e : TypeId} {v : Value} {xs : List Value} (h : w.ownsRow B e size v n xs) : ∀ k, v.ownBlock = some k → B ≤ k ∧ k < w.heap.size := fun k hk => by
  rcases h.2 with ⟨rfl, _⟩ | ⟨g, cap, cur, rfl, h1, h2, h3⟩
  · cases hk
  · injection hk with hk
    subst hk
    exact ⟨h1, (Array.getElem?_eq_some_iff.1 h2).1⟩
def sents : List Nat := [G.os_ErrNotExist, G.os_ErrExist, G.os_ENOENT, G.os_ENOTDIR, G.os_EPERM, G.os_EIO, G.os_EBADFD, G.io_EOF, G.io_ErrUnexpectedEOF, G.mem_ErrFileClosed, G.mem_ErrOutOfRange]
abbrev er (q : Nat × Nat) : Value := .iface T.p_errors_errorString (pt q.1 q.2)
structure Sn (w : World) (B : Nat) (m : Nat → Nat × Nat) : Prop where
  at_ : ∀ g ∈ sents, g < B ∧ ∃ tt, bk w g = some (CB [er (m g)] tt)
  cell : ∀ g ∈ sents, (m g).1 < B ∧ ∃ l tt, bk w (m g).1 = some (CB l tt)
  inj : ∀ g ∈ sents, ∀ g' ∈ sents, m g = m g' → g = g'
theorem Sn.below {w w' : World} {B : Nat} {m : Nat → Nat × Nat} (h : Sn w B m) (hb : Below B w w') : Sn w' B m :=
  ⟨fun g hg => ⟨(h.at_ g hg).1, by rw [bel_bk hb (h.at_ g hg).1]; exact (h.at_ g hg).2⟩, fun g hg => ⟨(h.cell g hg).1, by rw [bel_bk hb (h.cell g hg).1]; exact (h.cell g hg).2⟩, h.inj⟩
theorem errT : ErrT P T.error T.p_errors_errorString T.errors_errorString := ⟨⟨_, Tryd.underlying99⟩, U.p_errors_errorString, by kernel_rfl, by kernel_rfl⟩
theorem Sn.load {w : World} {B : Nat} {m : Nat → Nat × Nat} (h : Sn w B m) {g : Nat} (hg : g ∈ sents) (L : Value → World → Prop) : st P (oLoad T.error (.pointer (some ⟨g, 0, none⟩))) w L = L (er (m g)) w := by
  obtain ⟨_, tt, e⟩ := h.at_ g hg
  have q : cellOf (bk w g) 0 = some (er (m g)) := by rw [e]; rfl
  rw [show st P (oLoad T.error (.pointer (some ⟨g, 0, none⟩))) w L = st P (oLoad T.error (pt g 0)) w L from rfl]
  rw [M.ld_error _ _ _ _ (by rw [q]; rfl), q]
  rfl
theorem Sn.eql {w : World} {B : Nat} {m : Nat → Nat × Nat} (h : Sn w B m) {g g' : Nat} (hg : g ∈ sents) (hg' : g' ∈ sents) (L : Value → World → Prop) : st P (oBin .eql T.error false false (er (m g)) (er (m g'))) w L = L (.bool (decide (g = g'))) w := by
  obtain ⟨_, l, t, e⟩ := h.cell g hg
  obtain ⟨_, l', t', e'⟩ := h.cell g' hg'
  rw [stEqlErr errT false false e e']
  congr 2
  refine decide_eq_decide.2 ⟨fun q => h.inj g hg g' hg' (Prod.ext q.1 q.2), fun q => by subst q; exact ⟨rfl, rfl⟩⟩
theorem oAssertEr (L : Value → Prop) (q : Nat × Nat) : pu P (oAssert (er q) T.error T.p_os_PathError true) L = L (tup [.pointer none, .bool false]) := oAssertOther U.p_os_PathError (by kernel_rfl) (by decide) _
theorem oEqlEr (L : Value → Prop) (q : Nat × Nat) : pu P (oBin .eql T.error false true (er q) .nilIface) L = L (.bool false) := oEqlNil2 Tryd.underlying99 _ _ _ _
theorem kind_nil {w : World} {K : Value → World → Prop} (h : K (.int .i64 0) w) : Cl P Fn.impl_kind #[.nilIface] w K := by
  apply S_impl_kind
  unfold F_impl_kind
  refine jn_with (fun t w' => t = [.nilIface] ∧ w' = w) ?_ ?_
  · rintro t e w1 ⟨rfl, rfl⟩
    refine jn_with (fun _ _ => False) (fun _ _ _ h => h.elim) ?_
    rw [gs0, oEqlNil Tryd.underlying99]
    simp (disch := first | omega | (simp only [sZb, sZa, sZd] <;> omega) | (simp (disch := first | omega | (simp only [sZb, sZa, sZd] <;> omega) | fail) only [go_sem]; done) | fail) only [go_sem, dec_t, dec_f, w_u32, w_u64, w_u16, w_u8, w_i64, Int.reduceToNat, Int.reducePow, Nat.reducePow]
    exact h
  · rw [oAssertNil U.p_os_PathError (by kernel_rfl)]
    simp (disch := first | omega | (simp only [sZb, sZa, sZd] <;> omega) | (simp (disch := first | omega | (simp only [sZb, sZa, sZd] <;> omega) | fail) only [go_sem]; done) | fail) only [go_sem, dec_t, dec_f, w_u32, w_u64, w_u16, w_u8, w_i64, Int.reduceToNat, Int.reducePow, Nat.reducePow]
    exact ⟨trivial, trivial⟩
theorem mkErr (L : Value → Prop) (x : Value) : pu P (oMkIface T.p_errors_errorString x) L = L (.iface T.p_errors_errorString x) := pu_v' (by simp [Instr.makeInterface, rp_bind, rp_underlying U.p_errors_errorString])
theorem mkPath (L : Value → Prop) (x : Value) : pu P (oMkIface T.p_os_PathError x) L = L (.iface T.p_os_PathError x) := pu_v' (by simp [Instr.makeInterface, rp_bind, rp_underlying U.p_os_PathError])
theorem new_spec {w : World} {K : Value → World → Prop} {l : List UInt8} (h : K (er (w.heap.size, 0)) (w.alloc (CB [S l] T.errors_errorString))) : Cl P Fn.errors_New #[S l] w K := by
  apply S_errors_New
  unfold F_errors_New
  simp (disch := first | omega | (simp only [sZb, sZa, sZd] <;> omega) | (simp (disch := first | omega | (simp only [sZb, sZa, sZd] <;> omega) | fail) only [go_sem, mkErr]; done) | fail) only [go_sem, dec_t, dec_f, w_u32, w_u64, w_u16, w_u8, w_i64, Int.reduceToNat, Int.reducePow, Nat.reducePow, mkErr]
  exact h
theorem stEqlNew {w : World} {B : Nat} {m : Nat → Nat × Nat} (hs : Sn w B m) {ib : Nat} {txt : List UInt8} (hb : bk w ib = some (CB [S txt] T.errors_errorString)) (hB : B ≤ ib) {g : Nat} (hg : g ∈ sents) (L : Value → World → Prop) : st P (oBin .eql T.error false false (er (ib, 0)) (er (m g))) w L = L (.bool false) w := by
  obtain ⟨q, l, t, e⟩ := hs.cell g hg
  rw [stEqlErr errT false false hb e]
  congr 2
  refine decide_eq_false fun h => ?_
  have := h.1
  omega
theorem Kp_mono {a b : World} {S T : Nat → Prop} (h : Kp a b S) (hS : ∀ x, S x → T x) : Kp a b T := ⟨h.os, h.tape, h.output, h.size, fun k hk hn => h.block k hk fun hs => hn (hS k hs)⟩
theorem byt_zeros (n : Nat) : (List.replicate n (0 : UInt8)).map byt = List.replicate n (.int .u8 0) := by rw [List.map_replicate]; rfl
theorem app_nil {w : World} {L : Value → World → Prop} {B n : Nat} {v : Value} {xs : List Value} (h : w.ownsRow B T.uint8 1 v n xs) {cs : Array Bool} {ty : TypeId} : st P (oBuiltin .append #[T.sl_uint8, T.sl_uint8] ty cs #[v, .slice none 0 0]) w L = L v w := by
  obtain ⟨a, cap, rfl, hc⟩ := own_cap h
  exact oAppend_none U.sl_uint8 (by kernel_rfl) (Src.ofNil w U.sl_uint8 0) hc
theorem map_byt_inj_take {cur : List Value} {l : List UInt8} {n : Nat} (h : cur.take n = l.map byt) (p : Nat) (hp : p ≤ n) : cur.take p = (l.take p).map byt := by
  rw [List.map_take, ← h, List.take_take, Nat.min_eq_left hp]
theorem over_list {cur cur' : List Value} {bs l : List UInt8} {cap p : Nat} (hc : cur.length = cap) (ht : cur.take bs.length = bs.map byt) (hp : p + l.length < bs.length) (hl : bs.length ≤ cap) (e : cur' = cur.take p ++ l.map byt ++ cur.drop (p + l.length)) :
    (cur'.take (p + l.length) ++ (bs.drop (p + l.length)).map byt ++ cur'.drop bs.length).length = cap ∧ (cur'.take (p + l.length) ++ (bs.drop (p + l.length)).map byt ++ cur'.drop bs.length).take bs.length = (bs.take p ++ l ++ bs.drop (p + l.length)).map byt ∧ cur'.length = cap ∧ (cur'.drop (p + l.length)).take (bs.length - (p + l.length)) = (bs.drop (p + l.length)).map byt := by
  have k1 : cur'.length = cap := by rw [e]; simp; omega
  have k2 : cur'.take (p + l.length) = (bs.take p ++ l).map byt := by
    rw [e, List.take_append_of_le_length (by simp; omega), List.take_of_length_le (by simp; omega), map_byt_inj_take ht p (by omega), List.map_append]
  refine ⟨by simp; omega, ?_, k1, ?_⟩
  · rw [List.take_append_of_le_length (by simp; omega), List.take_of_length_le (by simp; omega), k2]
    simp
  · have e1 : cur'.drop (p + l.length) = cur.drop (p + l.length) := by
      rw [e, List.drop_append, List.drop_of_length_le (by simp; omega), List.nil_append]
      simp
      have e0 : p + l.length - (min p cur.length + l.length) = 0 := by omega
      rw [e0, Nat.add_zero]
    rw [e1, ← List.drop_take, ht, List.map_drop]
def codeOf (g : Nat) : Int := if g = G.os_ErrNotExist then 1 else if g = G.os_ErrExist then 2 else if g = G.os_ENOENT then 1 else if g = G.os_ENOTDIR then 8 else if g = G.os_EPERM then 9 else if g = G.os_EIO then 11 else if g = G.os_EBADFD then 10 else if g = G.io_EOF then 4 else if g = G.io_ErrUnexpectedEOF then 5 else if g = G.mem_ErrFileClosed then 3 else if g = G.mem_ErrOutOfRange then 7 else 13
theorem kind_sent {w : World} {K : Value → World → Prop} {B : Nat} {m : Nat → Nat × Nat} (hs : Sn w B m) {g : Nat} (hg : g ∈ sents) (h : K (.int .i64 (codeOf g)) w) : Cl P Fn.impl_kind #[er (m g)] w K := by
  apply S_impl_kind
  unfold F_impl_kind
  have ld_os_ErrNotExist : ∀ L : Value → World → Prop, st P (oLoad T.error (.pointer (some ⟨G.os_ErrNotExist, 0, none⟩))) w L = L (er (m G.os_ErrNotExist)) w := fun L => hs.load (by decide) L
  have eq_os_ErrNotExist : ∀ L : Value → World → Prop, st P (oBin .eql T.error false false (er (m g)) (er (m G.os_ErrNotExist))) w L = L (.bool (decide (g = G.os_ErrNotExist))) w := fun L => hs.eql hg (by decide) L
  have ld_os_ErrExist : ∀ L : Value → World → Prop, st P (oLoad T.error (.pointer (some ⟨G.os_ErrExist, 0, none⟩))) w L = L (er (m G.os_ErrExist)) w := fun L => hs.load (by decide) L
  have eq_os_ErrExist : ∀ L : Value → World → Prop, st P (oBin .eql T.error false false (er (m g)) (er (m G.os_ErrExist))) w L = L (.bool (decide (g = G.os_ErrExist))) w := fun L => hs.eql hg (by decide) L
  have ld_os_ENOENT : ∀ L : Value → World → Prop, st P (oLoad T.error (.pointer (some ⟨G.os_ENOENT, 0, none⟩))) w L = L (er (m G.os_ENOENT)) w := fun L => hs.load (by decide) L
  have eq_os_ENOENT : ∀ L : Value → World → Prop, st P (oBin .eql T.error false false (er (m g)) (er (m G.os_ENOENT))) w L = L (.bool (decide (g = G.os_ENOENT))) w := fun L => hs.eql hg (by decide) L
  have ld_os_ENOTDIR : ∀ L : Value → World → Prop, st P (oLoad T.error (.pointer (some ⟨G.os_ENOTDIR, 0, none⟩))) w L = L (er (m G.os_ENOTDIR)) w := fun L => hs.load (by decide) L
  have eq_os_ENOTDIR : ∀ L : Value → World → Prop, st P (oBin .eql T.error false false (er (m g)) (er (m G.os_ENOTDIR))) w L = L (.bool (decide (g = G.os_ENOTDIR))) w := fun L => hs.eql hg (by decide) L
  have ld_os_EPERM : ∀ L : Value → World → Prop, st P (oLoad T.error (.pointer (some ⟨G.os_EPERM, 0, none⟩))) w L = L (er (m G.os_EPERM)) w := fun L => hs.load (by decide) L
  have eq_os_EPERM : ∀ L : Value → World → Prop, st P (oBin .eql T.error false false (er (m g)) (er (m G.os_EPERM))) w L = L (.bool (decide (g = G.os_EPERM))) w := fun L => hs.eql hg (by decide) L
  have ld_os_EIO : ∀ L : Value → World → Prop, st P (oLoad T.error (.pointer (some ⟨G.os_EIO, 0, none⟩))) w L = L (er (m G.os_EIO)) w := fun L => hs.load (by decide) L
  have eq_os_EIO : ∀ L : Value → World → Prop, st P (oBin .eql T.error false false (er (m g)) (er (m G.os_EIO))) w L = L (.bool (decide (g = G.os_EIO))) w := fun L => hs.eql hg (by decide) L
  have ld_os_EBADFD : ∀ L : Value → World → Prop, st P (oLoad T.error (.pointer (some ⟨G.os_EBADFD, 0, none⟩))) w L = L (er (m G.os_EBADFD)) w := fun L => hs.load (by decide) L
  have eq_os_EBADFD : ∀ L : Value → World → Prop, st P (oBin .eql T.error false false (er (m g)) (er (m G.os_EBADFD))) w L = L (.bool (decide (g = G.os_EBADFD))) w := fun L => hs.eql hg (by decide) L
  have ld_io_EOF : ∀ L : Value → World → Prop, st P (oLoad T.error (.pointer (some ⟨G.io_EOF, 0, none⟩))) w L = L (er (m G.io_EOF)) w := fun L => hs.load (by decide) L
  have eq_io_EOF : ∀ L : Value → World → Prop, st P (oBin .eql T.error false false (er (m g)) (er (m G.io_EOF))) w L = L (.bool (decide (g = G.io_EOF))) w := fun L => hs.eql hg (by decide) L
  have ld_io_ErrUnexpectedEOF : ∀ L : Value → World → Prop, st P (oLoad T.error (.pointer (some ⟨G.io_ErrUnexpectedEOF, 0, none⟩))) w L = L (er (m G.io_ErrUnexpectedEOF)) w := fun L => hs.load (by decide) L
  have eq_io_ErrUnexpectedEOF : ∀ L : Value → World → Prop, st P (oBin .eql T.error false false (er (m g)) (er (m G.io_ErrUnexpectedEOF))) w L = L (.bool (decide (g = G.io_ErrUnexpectedEOF))) w := fun L => hs.eql hg (by decide) L
  have ld_mem_ErrFileClosed : ∀ L : Value → World → Prop, st P (oLoad T.error (.pointer (some ⟨G.mem_ErrFileClosed, 0, none⟩))) w L = L (er (m G.mem_ErrFileClosed)) w := fun L => hs.load (by decide) L
  have eq_mem_ErrFileClosed : ∀ L : Value → World → Prop, st P (oBin .eql T.error false false (er (m g)) (er (m G.mem_ErrFileClosed))) w L = L (.bool (decide (g = G.mem_ErrFileClosed))) w := fun L => hs.eql hg (by decide) L
  have ld_mem_ErrOutOfRange : ∀ L : Value → World → Prop, st P (oLoad T.error (.pointer (some ⟨G.mem_ErrOutOfRange, 0, none⟩))) w L = L (er (m G.mem_ErrOutOfRange)) w := fun L => hs.load (by decide) L
  have eq_mem_ErrOutOfRange : ∀ L : Value → World → Prop, st P (oBin .eql T.error false false (er (m g)) (er (m G.mem_ErrOutOfRange))) w L = L (.bool (decide (g = G.mem_ErrOutOfRange))) w := fun L => hs.eql hg (by decide) L
  refine jn_with (fun t w' => t = [er (m g)] ∧ w' = w) ?_ ?_
  · rintro t e w1 ⟨rfl, rfl⟩
    refine jn_with (fun _ _ => False) (fun _ _ _ h => h.elim) ?_
    rw [gs0, oEqlEr]
    simp (disch := first | omega | (simp only [sZb, sZa, sZd] <;> omega) | (simp (disch := first | omega | (simp only [sZb, sZa, sZd] <;> omega) | fail) only [go_sem]; done) | fail) only [go_sem, dec_t, dec_f, w_u32, w_u64, w_u16, w_u8, w_i64, Int.reduceToNat, Int.reducePow, Nat.reducePow]
    refine jn_with (fun t w' => t = [.bool (decide (g = G.os_ErrNotExist ∨ g = G.os_ENOENT))] ∧ w' = w1) ?_ ?_
    · rintro t e w2 ⟨rfl, rfl⟩
      simp only [sents, List.mem_cons, List.not_mem_nil, or_false] at hg
      clear hs
      rcases hg with hg | hg | hg | hg | hg | hg | hg | hg | hg | hg | hg
      · have d0 : decide (g = G.os_ErrNotExist ∨ g = G.os_ENOENT) = true := by rw [hg]; decide
        have d_os_ErrExist : decide (g = G.os_ErrExist) = false := by rw [hg]; decide
        have d_os_ENOTDIR : decide (g = G.os_ENOTDIR) = false := by rw [hg]; decide
        have d_os_EPERM : decide (g = G.os_EPERM) = false := by rw [hg]; decide
        have d_os_EIO : decide (g = G.os_EIO) = false := by rw [hg]; decide
        have d_os_EBADFD : decide (g = G.os_EBADFD) = false := by rw [hg]; decide
        have d_io_EOF : decide (g = G.io_EOF) = false := by rw [hg]; decide
        have d_io_ErrUnexpectedEOF : decide (g = G.io_ErrUnexpectedEOF) = false := by rw [hg]; decide
        have d_mem_ErrFileClosed : decide (g = G.mem_ErrFileClosed) = false := by rw [hg]; decide
        have d_mem_ErrOutOfRange : decide (g = G.mem_ErrOutOfRange) = false := by rw [hg]; decide
        have hc : codeOf g = 1 := by rw [hg]; decide
        rw [hc] at h
        simp (disch := first | omega | (simp only [sZb, sZa, sZd] <;> omega) | (simp (disch := first | omega | (simp only [sZb, sZa, sZd] <;> omega) | fail) only [go_sem, d0, ld_os_ErrNotExist, eq_os_ErrNotExist, ld_os_ErrExist, eq_os_ErrExist, ld_os_ENOENT, eq_os_ENOENT, ld_os_ENOTDIR, eq_os_ENOTDIR, ld_os_EPERM, eq_os_EPERM, ld_os_EIO, eq_os_EIO, ld_os_EBADFD, eq_os_EBADFD, ld_io_EOF, eq_io_EOF, ld_io_ErrUnexpectedEOF, eq_io_ErrUnexpectedEOF, ld_mem_ErrFileClosed, eq_mem_ErrFileClosed, ld_mem_ErrOutOfRange, eq_mem_ErrOutOfRange, d_os_ErrExist, d_os_ENOTDIR, d_os_EPERM, d_os_EIO, d_os_EBADFD, d_io_EOF, d_io_ErrUnexpectedEOF, d_mem_ErrFileClosed, d_mem_ErrOutOfRange]; done) | fail) only [go_sem, dec_t, dec_f, w_u32, w_u64, w_u16, w_u8, w_i64, Int.reduceToNat, Int.reducePow, Nat.reducePow, d0, ld_os_ErrNotExist, eq_os_ErrNotExist, ld_os_ErrExist, eq_os_ErrExist, ld_os_ENOENT, eq_os_ENOENT, ld_os_ENOTDIR, eq_os_ENOTDIR, ld_os_EPERM, eq_os_EPERM, ld_os_EIO, eq_os_EIO, ld_os_EBADFD, eq_os_EBADFD, ld_io_EOF, eq_io_EOF, ld_io_ErrUnexpectedEOF, eq_io_ErrUnexpectedEOF, ld_mem_ErrFileClosed, eq_mem_ErrFileClosed, ld_mem_ErrOutOfRange, eq_mem_ErrOutOfRange, d_os_ErrExist, d_os_ENOTDIR, d_os_EPERM, d_os_EIO, d_os_EBADFD, d_io_EOF, d_io_ErrUnexpectedEOF, d_mem_ErrFileClosed, d_mem_ErrOutOfRange]
        exact h
      · have d0 : decide (g = G.os_ErrNotExist ∨ g = G.os_ENOENT) = false := by rw [hg]; decide
        have d_os_ErrExist : decide (g = G.os_ErrExist) = true := by rw [hg]; decide
        have d_os_ENOTDIR : decide (g = G.os_ENOTDIR) = false := by rw [hg]; decide
        have d_os_EPERM : decide (g = G.os_EPERM) = false := by rw [hg]; decide
        have d_os_EIO : decide (g = G.os_EIO) = false := by rw [hg]; decide
        have d_os_EBADFD : decide (g = G.os_EBADFD) = false := by rw [hg]; decide
        have d_io_EOF : decide (g = G.io_EOF) = false := by rw [hg]; decide
        have d_io_ErrUnexpectedEOF : decide (g = G.io_ErrUnexpectedEOF) = false := by rw [hg]; decide
        have d_mem_ErrFileClosed : decide (g = G.mem_ErrFileClosed) = false := by rw [hg]; decide
        have d_mem_ErrOutOfRange : decide (g = G.mem_ErrOutOfRange) = false := by rw [hg]; decide
        have hc : codeOf g = 2 := by rw [hg]; decide
        rw [hc] at h
        simp (disch := first | omega | (simp only [sZb, sZa, sZd] <;> omega) | (simp (disch := first | omega | (simp only [sZb, sZa, sZd] <;> omega) | fail) only [go_sem, d0, ld_os_ErrNotExist, eq_os_ErrNotExist, ld_os_ErrExist, eq_os_ErrExist, ld_os_ENOENT, eq_os_ENOENT, ld_os_ENOTDIR, eq_os_ENOTDIR, ld_os_EPERM, eq_os_EPERM, ld_os_EIO, eq_os_EIO, ld_os_EBADFD, eq_os_EBADFD, ld_io_EOF, eq_io_EOF, ld_io_ErrUnexpectedEOF, eq_io_ErrUnexpectedEOF, ld_mem_ErrFileClosed, eq_mem_ErrFileClosed, ld_mem_ErrOutOfRange, eq_mem_ErrOutOfRange, d_os_ErrExist, d_os_ENOTDIR, d_os_EPERM, d_os_EIO, d_os_EBADFD, d_io_EOF, d_io_ErrUnexpectedEOF, d_mem_ErrFileClosed, d_mem_ErrOutOfRange]; done) | fail) only [go_sem, dec_t, dec_f, w_u32, w_u64, w_u16, w_u8, w_i64, Int.reduceToNat, Int.reducePow, Nat.reducePow, d0, ld_os_ErrNotExist, eq_os_ErrNotExist, ld_os_ErrExist, eq_os_ErrExist, ld_os_ENOENT, eq_os_ENOENT, ld_os_ENOTDIR, eq_os_ENOTDIR, ld_os_EPERM, eq_os_EPERM, ld_os_EIO, eq_os_EIO, ld_os_EBADFD, eq_os_EBADFD, ld_io_EOF, eq_io_EOF, ld_io_ErrUnexpectedEOF, eq_io_ErrUnexpectedEOF, ld_mem_ErrFileClosed, eq_mem_ErrFileClosed, ld_mem_ErrOutOfRange, eq_mem_ErrOutOfRange, d_os_ErrExist, d_os_ENOTDIR, d_os_EPERM, d_os_EIO, d_os_EBADFD, d_io_EOF, d_io_ErrUnexpectedEOF, d_mem_ErrFileClosed, d_mem_ErrOutOfRange]
        exact h
      · have d0 : decide (g = G.os_ErrNotExist ∨ g = G.os_ENOENT) = true := by rw [hg]; decide
        have d_os_ErrExist : decide (g = G.os_ErrExist) = false := by rw [hg]; decide
        have d_os_ENOTDIR : decide (g = G.os_ENOTDIR) = false := by rw [hg]; decide
        have d_os_EPERM : decide (g = G.os_EPERM) = false := by rw [hg]; decide
        have d_os_EIO : decide (g = G.os_EIO) = false := by rw [hg]; decide
        have d_os_EBADFD : decide (g = G.os_EBADFD) = false := by rw [hg]; decide
        have d_io_EOF : decide (g = G.io_EOF) = false := by rw [hg]; decide
        have d_io_ErrUnexpectedEOF : decide (g = G.io_ErrUnexpectedEOF) = false := by rw [hg]; decide
        have d_mem_ErrFileClosed : decide (g = G.mem_ErrFileClosed) = false := by rw [hg]; decide
        have d_mem_ErrOutOfRange : decide (g = G.mem_ErrOutOfRange) = false := by rw [hg]; decide
        have hc : codeOf g = 1 := by rw [hg]; decide
        rw [hc] at h
        simp (disch := first | omega | (simp only [sZb, sZa, sZd] <;> omega) | (simp (disch := first | omega | (simp only [sZb, sZa, sZd] <;> omega) | fail) only [go_sem, d0, ld_os_ErrNotExist, eq_os_ErrNotExist, ld_os_ErrExist, eq_os_ErrExist, ld_os_ENOENT, eq_os_ENOENT, ld_os_ENOTDIR, eq_os_ENOTDIR, ld_os_EPERM, eq_os_EPERM, ld_os_EIO, eq_os_EIO, ld_os_EBADFD, eq_os_EBADFD, ld_io_EOF, eq_io_EOF, ld_io_ErrUnexpectedEOF, eq_io_ErrUnexpectedEOF, ld_mem_ErrFileClosed, eq_mem_ErrFileClosed, ld_mem_ErrOutOfRange, eq_mem_ErrOutOfRange, d_os_ErrExist, d_os_ENOTDIR, d_os_EPERM, d_os_EIO, d_os_EBADFD, d_io_EOF, d_io_ErrUnexpectedEOF, d_mem_ErrFileClosed, d_mem_ErrOutOfRange]; done) | fail) only [go_sem, dec_t, dec_f, w_u32, w_u64, w_u16, w_u8, w_i64, Int.reduceToNat, Int.reducePow, Nat.reducePow, d0, ld_os_ErrNotExist, eq_os_ErrNotExist, ld_os_ErrExist, eq_os_ErrExist, ld_os_ENOENT, eq_os_ENOENT, ld_os_ENOTDIR, eq_os_ENOTDIR, ld_os_EPERM, eq_os_EPERM, ld_os_EIO, eq_os_EIO, ld_os_EBADFD, eq_os_EBADFD, ld_io_EOF, eq_io_EOF, ld_io_ErrUnexpectedEOF, eq_io_ErrUnexpectedEOF, ld_mem_ErrFileClosed, eq_mem_ErrFileClosed, ld_mem_ErrOutOfRange, eq_mem_ErrOutOfRange, d_os_ErrExist, d_os_ENOTDIR, d_os_EPERM, d_os_EIO, d_os_EBADFD, d_io_EOF, d_io_ErrUnexpectedEOF, d_mem_ErrFileClosed, d_mem_ErrOutOfRange]
        exact h
      · have d0 : decide (g = G.os_ErrNotExist ∨ g = G.os_ENOENT) = false := by rw [hg]; decide
        have d_os_ErrExist : decide (g = G.os_ErrExist) = false := by rw [hg]; decide
        have d_os_ENOTDIR : decide (g = G.os_ENOTDIR) = true := by rw [hg]; decide
        have d_os_EPERM : decide (g = G.os_EPERM) = false := by rw [hg]; decide
        have d_os_EIO : decide (g = G.os_EIO) = false := by rw [hg]; decide
        have d_os_EBADFD : decide (g = G.os_EBADFD) = false := by rw [hg]; decide
        have d_io_EOF : decide (g = G.io_EOF) = false := by rw [hg]; decide
        have d_io_ErrUnexpectedEOF : decide (g = G.io_ErrUnexpectedEOF) = false := by rw [hg]; decide
        have d_mem_ErrFileClosed : decide (g = G.mem_ErrFileClosed) = false := by rw [hg]; decide
        have d_mem_ErrOutOfRange : decide (g = G.mem_ErrOutOfRange) = false := by rw [hg]; decide
        have hc : codeOf g = 8 := by rw [hg]; decide
        rw [hc] at h
        simp (disch := first | omega | (simp only [sZb, sZa, sZd] <;> omega) | (simp (disch := first | omega | (simp only [sZb, sZa, sZd] <;> omega) | fail) only [go_sem, d0, ld_os_ErrNotExist, eq_os_ErrNotExist, ld_os_ErrExist, eq_os_ErrExist, ld_os_ENOENT, eq_os_ENOENT, ld_os_ENOTDIR, eq_os_ENOTDIR, ld_os_EPERM, eq_os_EPERM, ld_os_EIO, eq_os_EIO, ld_os_EBADFD, eq_os_EBADFD, ld_io_EOF, eq_io_EOF, ld_io_ErrUnexpectedEOF, eq_io_ErrUnexpectedEOF, ld_mem_ErrFileClosed, eq_mem_ErrFileClosed, ld_mem_ErrOutOfRange, eq_mem_ErrOutOfRange, d_os_ErrExist, d_os_ENOTDIR, d_os_EPERM, d_os_EIO, d_os_EBADFD, d_io_EOF, d_io_ErrUnexpectedEOF, d_mem_ErrFileClosed, d_mem_ErrOutOfRange]; done) | fail) only [go_sem, dec_t, dec_f, w_u32, w_u64, w_u16, w_u8, w_i64, Int.reduceToNat, Int.reducePow, Nat.reducePow, d0, ld_os_ErrNotExist, eq_os_ErrNotExist, ld_os_ErrExist, eq_os_ErrExist, ld_os_ENOENT, eq_os_ENOENT, ld_os_ENOTDIR, eq_os_ENOTDIR, ld_os_EPERM, eq_os_EPERM, ld_os_EIO, eq_os_EIO, ld_os_EBADFD, eq_os_EBADFD, ld_io_EOF, eq_io_EOF, ld_io_ErrUnexpectedEOF, eq_io_ErrUnexpectedEOF, ld_mem_ErrFileClosed, eq_mem_ErrFileClosed, ld_mem_ErrOutOfRange, eq_mem_ErrOutOfRange, d_os_ErrExist, d_os_ENOTDIR, d_os_EPERM, d_os_EIO, d_os_EBADFD, d_io_EOF, d_io_ErrUnexpectedEOF, d_mem_ErrFileClosed, d_mem_ErrOutOfRange]
        exact h
      · have d0 : decide (g = G.os_ErrNotExist ∨ g = G.os_ENOENT) = false := by rw [hg]; decide
        have d_os_ErrExist : decide (g = G.os_ErrExist) = false := by rw [hg]; decide
        have d_os_ENOTDIR : decide (g = G.os_ENOTDIR) = false := by rw [hg]; decide
        have d_os_EPERM : decide (g = G.os_EPERM) = true := by rw [hg]; decide
        have d_os_EIO : decide (g = G.os_EIO) = false := by rw [hg]; decide
        have d_os_EBADFD : decide (g = G.os_EBADFD) = false := by rw [hg]; decide
        have d_io_EOF : decide (g = G.io_EOF) = false := by rw [hg]; decide
        have d_io_ErrUnexpectedEOF : decide (g = G.io_ErrUnexpectedEOF) = false := by rw [hg]; decide
        have d_mem_ErrFileClosed : decide (g = G.mem_ErrFileClosed) = false := by rw [hg]; decide
        have d_mem_ErrOutOfRange : decide (g = G.mem_ErrOutOfRange) = false := by rw [hg]; decide
        have hc : codeOf g = 9 := by rw [hg]; decide
        rw [hc] at h
        simp (disch := first | omega | (simp only [sZb, sZa, sZd] <;> omega) | (simp (disch := first | omega | (simp only [sZb, sZa, sZd] <;> omega) | fail) only [go_sem, d0, ld_os_ErrNotExist, eq_os_ErrNotExist, ld_os_ErrExist, eq_os_ErrExist, ld_os_ENOENT, eq_os_ENOENT, ld_os_ENOTDIR, eq_os_ENOTDIR, ld_os_EPERM, eq_os_EPERM, ld_os_EIO, eq_os_EIO, ld_os_EBADFD, eq_os_EBADFD, ld_io_EOF, eq_io_EOF, ld_io_ErrUnexpectedEOF, eq_io_ErrUnexpectedEOF, ld_mem_ErrFileClosed, eq_mem_ErrFileClosed, ld_mem_ErrOutOfRange, eq_mem_ErrOutOfRange, d_os_ErrExist, d_os_ENOTDIR, d_os_EPERM, d_os_EIO, d_os_EBADFD, d_io_EOF, d_io_ErrUnexpectedEOF, d_mem_ErrFileClosed, d_mem_ErrOutOfRange]; done) | fail) only [go_sem, dec_t, dec_f, w_u32, w_u64, w_u16, w_u8, w_i64, Int.reduceToNat, Int.reducePow, Nat.reducePow, d0, ld_os_ErrNotExist, eq_os_ErrNotExist, ld_os_ErrExist, eq_os_ErrExist, ld_os_ENOENT, eq_os_ENOENT, ld_os_ENOTDIR, eq_os_ENOTDIR, ld_os_EPERM, eq_os_EPERM, ld_os_EIO, eq_os_EIO, ld_os_EBADFD, eq_os_EBADFD, ld_io_EOF, eq_io_EOF, ld_io_ErrUnexpectedEOF, eq_io_ErrUnexpectedEOF, ld_mem_ErrFileClosed, eq_mem_ErrFileClosed, ld_mem_ErrOutOfRange, eq_mem_ErrOutOfRange, d_os_ErrExist, d_os_ENOTDIR, d_os_EPERM, d_os_EIO, d_os_EBADFD, d_io_EOF, d_io_ErrUnexpectedEOF, d_mem_ErrFileClosed, d_mem_ErrOutOfRange]
        exact h
      · have d0 : decide (g = G.os_ErrNotExist ∨ g = G.os_ENOENT) = false := by rw [hg]; decide
        have d_os_ErrExist : decide (g = G.os_ErrExist) = false := by rw [hg]; decide
        have d_os_ENOTDIR : decide (g = G.os_ENOTDIR) = false := by rw [hg]; decide
        have d_os_EPERM : decide (g = G.os_EPERM) = false := by rw [hg]; decide
        have d_os_EIO : decide (g = G.os_EIO) = true := by rw [hg]; decide
        have d_os_EBADFD : decide (g = G.os_EBADFD) = false := by rw [hg]; decide
        have d_io_EOF : decide (g = G.io_EOF) = false := by rw [hg]; decide
        have d_io_ErrUnexpectedEOF : decide (g = G.io_ErrUnexpectedEOF) = false := by rw [hg]; decide
        have d_mem_ErrFileClosed : decide (g = G.mem_ErrFileClosed) = false := by rw [hg]; decide
        have d_mem_ErrOutOfRange : decide (g = G.mem_ErrOutOfRange) = false := by rw [hg]; decide
        have hc : codeOf g = 11 := by rw [hg]; decide
        rw [hc] at h
        simp (disch := first | omega | (simp only [sZb, sZa, sZd] <;> omega) | (simp (disch := first | omega | (simp only [sZb, sZa, sZd] <;> omega) | fail) only [go_sem, d0, ld_os_ErrNotExist, eq_os_ErrNotExist, ld_os_ErrExist, eq_os_ErrExist, ld_os_ENOENT, eq_os_ENOENT, ld_os_ENOTDIR, eq_os_ENOTDIR, ld_os_EPERM, eq_os_EPERM, ld_os_EIO, eq_os_EIO, ld_os_EBADFD, eq_os_EBADFD, ld_io_EOF, eq_io_EOF, ld_io_ErrUnexpectedEOF, eq_io_ErrUnexpectedEOF, ld_mem_ErrFileClosed, eq_mem_ErrFileClosed, ld_mem_ErrOutOfRange, eq_mem_ErrOutOfRange, d_os_ErrExist, d_os_ENOTDIR, d_os_EPERM, d_os_EIO, d_os_EBADFD, d_io_EOF, d_io_ErrUnexpectedEOF, d_mem_ErrFileClosed, d_mem_ErrOutOfRange]; done) | fail) only [go_sem, dec_t, dec_f, w_u32, w_u64, w_u16, w_u8, w_i64, Int.reduceToNat, Int.reducePow, Nat.reducePow, d0, ld_os_ErrNotExist, eq_os_ErrNotExist, ld_os_ErrExist, eq_os_ErrExist, ld_os_ENOENT, eq_os_ENOENT, ld_os_ENOTDIR, eq_os_ENOTDIR, ld_os_EPERM, eq_os_EPERM, ld_os_EIO, eq_os_EIO, ld_os_EBADFD, eq_os_EBADFD, ld_io_EOF, eq_io_EOF, ld_io_ErrUnexpectedEOF, eq_io_ErrUnexpectedEOF, ld_mem_ErrFileClosed, eq_mem_ErrFileClosed, ld_mem_ErrOutOfRange, eq_mem_ErrOutOfRange, d_os_ErrExist, d_os_ENOTDIR, d_os_EPERM, d_os_EIO, d_os_EBADFD, d_io_EOF, d_io_ErrUnexpectedEOF, d_mem_ErrFileClosed, d_mem_ErrOutOfRange]
        exact h
      · have d0 : decide (g = G.os_ErrNotExist ∨ g = G.os_ENOENT) = false := by rw [hg]; decide
        have d_os_ErrExist : decide (g = G.os_ErrExist) = false := by rw [hg]; decide
        have d_os_ENOTDIR : decide (g = G.os_ENOTDIR) = false := by rw [hg]; decide
        have d_os_EPERM : decide (g = G.os_EPERM) = false := by rw [hg]; decide
        have d_os_EIO : decide (g = G.os_EIO) = false := by rw [hg]; decide
        have d_os_EBADFD : decide (g = G.os_EBADFD) = true := by rw [hg]; decide
        have d_io_EOF : decide (g = G.io_EOF) = false := by rw [hg]; decide
        have d_io_ErrUnexpectedEOF : decide (g = G.io_ErrUnexpectedEOF) = false := by rw [hg]; decide
        have d_mem_ErrFileClosed : decide (g = G.mem_ErrFileClosed) = false := by rw [hg]; decide
        have d_mem_ErrOutOfRange : decide (g = G.mem_ErrOutOfRange) = false := by rw [hg]; decide
        have hc : codeOf g = 10 := by rw [hg]; decide
        rw [hc] at h
        simp (disch := first | omega | (simp only [sZb, sZa, sZd] <;> omega) | (simp (disch := first | omega | (simp only [sZb, sZa, sZd] <;> omega) | fail) only [go_sem, d0, ld_os_ErrNotExist, eq_os_ErrNotExist, ld_os_ErrExist, eq_os_ErrExist, ld_os_ENOENT, eq_os_ENOENT, ld_os_ENOTDIR, eq_os_ENOTDIR, ld_os_EPERM, eq_os_EPERM, ld_os_EIO, eq_os_EIO, ld_os_EBADFD, eq_os_EBADFD, ld_io_EOF, eq_io_EOF, ld_io_ErrUnexpectedEOF, eq_io_ErrUnexpectedEOF, ld_mem_ErrFileClosed, eq_mem_ErrFileClosed, ld_mem_ErrOutOfRange, eq_mem_ErrOutOfRange, d_os_ErrExist, d_os_ENOTDIR, d_os_EPERM, d_os_EIO, d_os_EBADFD, d_io_EOF, d_io_ErrUnexpectedEOF, d_mem_ErrFileClosed, d_mem_ErrOutOfRange]; done) | fail) only [go_sem, dec_t, dec_f, w_u32, w_u64, w_u16, w_u8, w_i64, Int.reduceToNat, Int.reducePow, Nat.reducePow, d0, ld_os_ErrNotExist, eq_os_ErrNotExist, ld_os_ErrExist, eq_os_ErrExist, ld_os_ENOENT, eq_os_ENOENT, ld_os_ENOTDIR, eq_os_ENOTDIR, ld_os_EPERM, eq_os_EPERM, ld_os_EIO, eq_os_EIO, ld_os_EBADFD, eq_os_EBADFD, ld_io_EOF, eq_io_EOF, ld_io_ErrUnexpectedEOF, eq_io_ErrUnexpectedEOF, ld_mem_ErrFileClosed, eq_mem_ErrFileClosed, ld_mem_ErrOutOfRange, eq_mem_ErrOutOfRange, d_os_ErrExist, d_os_ENOTDIR, d_os_EPERM, d_os_EIO, d_os_EBADFD, d_io_EOF, d_io_ErrUnexpectedEOF, d_mem_ErrFileClosed, d_mem_ErrOutOfRange]
        exact h
      · have d0 : decide (g = G.os_ErrNotExist ∨ g = G.os_ENOENT) = false := by rw [hg]; decide
        have d_os_ErrExist : decide (g = G.os_ErrExist) = false := by rw [hg]; decide
        have d_os_ENOTDIR : decide (g = G.os_ENOTDIR) = false := by rw [hg]; decide
        have d_os_EPERM : decide (g = G.os_EPERM) = false := by rw [hg]; decide
        have d_os_EIO : decide (g = G.os_EIO) = false := by rw [hg]; decide
        have d_os_EBADFD : decide (g = G.os_EBADFD) = false := by rw [hg]; decide
        have d_io_EOF : decide (g = G.io_EOF) = true := by rw [hg]; decide
        have d_io_ErrUnexpectedEOF : decide (g = G.io_ErrUnexpectedEOF) = false := by rw [hg]; decide
        have d_mem_ErrFileClosed : decide (g = G.mem_ErrFileClosed) = false := by rw [hg]; decide
        have d_mem_ErrOutOfRange : decide (g = G.mem_ErrOutOfRange) = false := by rw [hg]; decide
        have hc : codeOf g = 4 := by rw [hg]; decide
        rw [hc] at h
        simp (disch := first | omega | (simp only [sZb, sZa, sZd] <;> omega) | (simp (disch := first | omega | (simp only [sZb, sZa, sZd] <;> omega) | fail) only [go_sem, d0, ld_os_ErrNotExist, eq_os_ErrNotExist, ld_os_ErrExist, eq_os_ErrExist, ld_os_ENOENT, eq_os_ENOENT, ld_os_ENOTDIR, eq_os_ENOTDIR, ld_os_EPERM, eq_os_EPERM, ld_os_EIO, eq_os_EIO, ld_os_EBADFD, eq_os_EBADFD, ld_io_EOF, eq_io_EOF, ld_io_ErrUnexpectedEOF, eq_io_ErrUnexpectedEOF, ld_mem_ErrFileClosed, eq_mem_ErrFileClosed, ld_mem_ErrOutOfRange, eq_mem_ErrOutOfRange, d_os_ErrExist, d_os_ENOTDIR, d_os_EPERM, d_os_EIO, d_os_EBADFD, d_io_EOF, d_io_ErrUnexpectedEOF, d_mem_ErrFileClosed, d_mem_ErrOutOfRange]; done) | fail) only [go_sem, dec_t, dec_f, w_u32, w_u64, w_u16, w_u8, w_i64, Int.reduceToNat, Int.reducePow, Nat.reducePow, d0, ld_os_ErrNotExist, eq_os_ErrNotExist, ld_os_ErrExist, eq_os_ErrExist, ld_os_ENOENT, eq_os_ENOENT, ld_os_ENOTDIR, eq_os_ENOTDIR, ld_os_EPERM, eq_os_EPERM, ld_os_EIO, eq_os_EIO, ld_os_EBADFD, eq_os_EBADFD, ld_io_EOF, eq_io_EOF, ld_io_ErrUnexpectedEOF, eq_io_ErrUnexpectedEOF, ld_mem_ErrFileClosed, eq_mem_ErrFileClosed, ld_mem_ErrOutOfRange, eq_mem_ErrOutOfRange, d_os_ErrExist, d_os_ENOTDIR, d_os_EPERM, d_os_EIO, d_os_EBADFD, d_io_EOF, d_io_ErrUnexpectedEOF, d_mem_ErrFileClosed, d_mem_ErrOutOfRange]
        exact h
      · have d0 : decide (g = G.os_ErrNotExist ∨ g = G.os_ENOENT) = false := by rw [hg]; decide
        have d_os_ErrExist : decide (g = G.os_ErrExist) = false := by rw [hg]; decide
        have d_os_ENOTDIR : decide (g = G.os_ENOTDIR) = false := by rw [hg]; decide
        have d_os_EPERM : decide (g = G.os_EPERM) = false := by rw [hg]; decide
        have d_os_EIO : decide (g = G.os_EIO) = false := by rw [hg]; decide
        have d_os_EBADFD : decide (g = G.os_EBADFD) = false := by rw [hg]; decide
        have d_io_EOF : decide (g = G.io_EOF) = false := by rw [hg]; decide
        have d_io_ErrUnexpectedEOF : decide (g = G.io_ErrUnexpectedEOF) = true := by rw [hg]; decide
        have d_mem_ErrFileClosed : decide (g = G.mem_ErrFileClosed) = false := by rw [hg]; decide
        have d_mem_ErrOutOfRange : decide (g = G.mem_ErrOutOfRange) = false := by rw [hg]; decide
        have hc : codeOf g = 5 := by rw [hg]; decide
        rw [hc] at h
        simp (disch := first | omega | (simp only [sZb, sZa, sZd] <;> omega) | (simp (disch := first | omega | (simp only [sZb, sZa, sZd] <;> omega) | fail) only [go_sem, d0, ld_os_ErrNotExist, eq_os_ErrNotExist, ld_os_ErrExist, eq_os_ErrExist, ld_os_ENOENT, eq_os_ENOENT, ld_os_ENOTDIR, eq_os_ENOTDIR, ld_os_EPERM, eq_os_EPERM, ld_os_EIO, eq_os_EIO, ld_os_EBADFD, eq_os_EBADFD, ld_io_EOF, eq_io_EOF, ld_io_ErrUnexpectedEOF, eq_io_ErrUnexpectedEOF, ld_mem_ErrFileClosed, eq_mem_ErrFileClosed, ld_mem_ErrOutOfRange, eq_mem_ErrOutOfRange, d_os_ErrExist, d_os_ENOTDIR, d_os_EPERM, d_os_EIO, d_os_EBADFD, d_io_EOF, d_io_ErrUnexpectedEOF, d_mem_ErrFileClosed, d_mem_ErrOutOfRange]; done) | fail) only [go_sem, dec_t, dec_f, w_u32, w_u64, w_u16, w_u8, w_i64, Int.reduceToNat, Int.reducePow, Nat.reducePow, d0, ld_os_ErrNotExist, eq_os_ErrNotExist, ld_os_ErrExist, eq_os_ErrExist, ld_os_ENOENT, eq_os_ENOENT, ld_os_ENOTDIR, eq_os_ENOTDIR, ld_os_EPERM, eq_os_EPERM, ld_os_EIO, eq_os_EIO, ld_os_EBADFD, eq_os_EBADFD, ld_io_EOF, eq_io_EOF, ld_io_ErrUnexpectedEOF, eq_io_ErrUnexpectedEOF, ld_mem_ErrFileClosed, eq_mem_ErrFileClosed, ld_mem_ErrOutOfRange, eq_mem_ErrOutOfRange, d_os_ErrExist, d_os_ENOTDIR, d_os_EPERM, d_os_EIO, d_os_EBADFD, d_io_EOF, d_io_ErrUnexpectedEOF, d_mem_ErrFileClosed, d_mem_ErrOutOfRange]
        exact h
      · have d0 : decide (g = G.os_ErrNotExist ∨ g = G.os_ENOENT) = false := by rw [hg]; decide
        have d_os_ErrExist : decide (g = G.os_ErrExist) = false := by rw [hg]; decide
        have d_os_ENOTDIR : decide (g = G.os_ENOTDIR) = false := by rw [hg]; decide
        have d_os_EPERM : decide (g = G.os_EPERM) = false := by rw [hg]; decide
        have d_os_EIO : decide (g = G.os_EIO) = false := by rw [hg]; decide
        have d_os_EBADFD : decide (g = G.os_EBADFD) = false := by rw [hg]; decide
        have d_io_EOF : decide (g = G.io_EOF) = false := by rw [hg]; decide
        have d_io_ErrUnexpectedEOF : decide (g = G.io_ErrUnexpectedEOF) = false := by rw [hg]; decide
        have d_mem_ErrFileClosed : decide (g = G.mem_ErrFileClosed) = true := by rw [hg]; decide
        have d_mem_ErrOutOfRange : decide (g = G.mem_ErrOutOfRange) = false := by rw [hg]; decide
        have hc : codeOf g = 3 := by rw [hg]; decide
        rw [hc] at h
        simp (disch := first | omega | (simp only [sZb, sZa, sZd] <;> omega) | (simp (disch := first | omega | (simp only [sZb, sZa, sZd] <;> omega) | fail) only [go_sem, d0, ld_os_ErrNotExist, eq_os_ErrNotExist, ld_os_ErrExist, eq_os_ErrExist, ld_os_ENOENT, eq_os_ENOENT, ld_os_ENOTDIR, eq_os_ENOTDIR, ld_os_EPERM, eq_os_EPERM, ld_os_EIO, eq_os_EIO, ld_os_EBADFD, eq_os_EBADFD, ld_io_EOF, eq_io_EOF, ld_io_ErrUnexpectedEOF, eq_io_ErrUnexpectedEOF, ld_mem_ErrFileClosed, eq_mem_ErrFileClosed, ld_mem_ErrOutOfRange, eq_mem_ErrOutOfRange, d_os_ErrExist, d_os_ENOTDIR, d_os_EPERM, d_os_EIO, d_os_EBADFD, d_io_EOF, d_io_ErrUnexpectedEOF, d_mem_ErrFileClosed, d_mem_ErrOutOfRange]; done) | fail) only [go_sem, dec_t, dec_f, w_u32, w_u64, w_u16, w_u8, w_i64, Int.reduceToNat, Int.reducePow, Nat.reducePow, d0, ld_os_ErrNotExist, eq_os_ErrNotExist, ld_os_ErrExist, eq_os_ErrExist, ld_os_ENOENT, eq_os_ENOENT, ld_os_ENOTDIR, eq_os_ENOTDIR, ld_os_EPERM, eq_os_EPERM, ld_os_EIO, eq_os_EIO, ld_os_EBADFD, eq_os_EBADFD, ld_io_EOF, eq_io_EOF, ld_io_ErrUnexpectedEOF, eq_io_ErrUnexpectedEOF, ld_mem_ErrFileClosed, eq_mem_ErrFileClosed, ld_mem_ErrOutOfRange, eq_mem_ErrOutOfRange, d_os_ErrExist, d_os_ENOTDIR, d_os_EPERM, d_os_EIO, d_os_EBADFD, d_io_EOF, d_io_ErrUnexpectedEOF, d_mem_ErrFileClosed, d_mem_ErrOutOfRange]
        exact h
      · have d0 : decide (g = G.os_ErrNotExist ∨ g = G.os_ENOENT) = false := by rw [hg]; decide
        have d_os_ErrExist : decide (g = G.os_ErrExist) = false := by rw [hg]; decide
        have d_os_ENOTDIR : decide (g = G.os_ENOTDIR) = false := by rw [hg]; decide
        have d_os_EPERM : decide (g = G.os_EPERM) = false := by rw [hg]; decide
        have d_os_EIO : decide (g = G.os_EIO) = false := by rw [hg]; decide
        have d_os_EBADFD : decide (g = G.os_EBADFD) = false := by rw [hg]; decide
        have d_io_EOF : decide (g = G.io_EOF) = false := by rw [hg]; decide
        have d_io_ErrUnexpectedEOF : decide (g = G.io_ErrUnexpectedEOF) = false := by rw [hg]; decide
        have d_mem_ErrFileClosed : decide (g = G.mem_ErrFileClosed) = false := by rw [hg]; decide
        have d_mem_ErrOutOfRange : decide (g = G.mem_ErrOutOfRange) = true := by rw [hg]; decide
        have hc : codeOf g = 7 := by rw [hg]; decide
        rw [hc] at h
        simp (disch := first | omega | (simp only [sZb, sZa, sZd] <;> omega) | (simp (disch := first | omega | (simp only [sZb, sZa, sZd] <;> omega) | fail) only [go_sem, d0, ld_os_ErrNotExist, eq_os_ErrNotExist, ld_os_ErrExist, eq_os_ErrExist, ld_os_ENOENT, eq_os_ENOENT, ld_os_ENOTDIR, eq_os_ENOTDIR, ld_os_EPERM, eq_os_EPERM, ld_os_EIO, eq_os_EIO, ld_os_EBADFD, eq_os_EBADFD, ld_io_EOF, eq_io_EOF, ld_io_ErrUnexpectedEOF, eq_io_ErrUnexpectedEOF, ld_mem_ErrFileClosed, eq_mem_ErrFileClosed, ld_mem_ErrOutOfRange, eq_mem_ErrOutOfRange, d_os_ErrExist, d_os_ENOTDIR, d_os_EPERM, d_os_EIO, d_os_EBADFD, d_io_EOF, d_io_ErrUnexpectedEOF, d_mem_ErrFileClosed, d_mem_ErrOutOfRange]; done) | fail) only [go_sem, dec_t, dec_f, w_u32, w_u64, w_u16, w_u8, w_i64, Int.reduceToNat, Int.reducePow, Nat.reducePow, d0, ld_os_ErrNotExist, eq_os_ErrNotExist, ld_os_ErrExist, eq_os_ErrExist, ld_os_ENOENT, eq_os_ENOENT, ld_os_ENOTDIR, eq_os_ENOTDIR, ld_os_EPERM, eq_os_EPERM, ld_os_EIO, eq_os_EIO, ld_os_EBADFD, eq_os_EBADFD, ld_io_EOF, eq_io_EOF, ld_io_ErrUnexpectedEOF, eq_io_ErrUnexpectedEOF, ld_mem_ErrFileClosed, eq_mem_ErrFileClosed, ld_mem_ErrOutOfRange, eq_mem_ErrOutOfRange, d_os_ErrExist, d_os_ENOTDIR, d_os_EPERM, d_os_EIO, d_os_EBADFD, d_io_EOF, d_io_ErrUnexpectedEOF, d_mem_ErrFileClosed, d_mem_ErrOutOfRange]
        exact h
    · by_cases c1 : g = G.os_ErrNotExist
      · have d1 : decide (g = G.os_ErrNotExist) = true := by simp [c1]
        have d2 : decide (g = G.os_ErrNotExist ∨ g = G.os_ENOENT) = true := by simp [c1]
        simp (disch := first | omega | (simp only [sZb, sZa, sZd] <;> omega) | (simp (disch := first | omega | (simp only [sZb, sZa, sZd] <;> omega) | fail) only [go_sem, ld_os_ErrNotExist, eq_os_ErrNotExist, d1, d2]; done) | fail) only [go_sem, dec_t, dec_f, w_u32, w_u64, w_u16, w_u8, w_i64, Int.reduceToNat, Int.reducePow, Nat.reducePow, ld_os_ErrNotExist, eq_os_ErrNotExist, d1, d2]
        exact ⟨trivial, trivial⟩
      · have d1 : decide (g = G.os_ErrNotExist) = false := by simp [c1]
        have d2 : decide (g = G.os_ErrNotExist ∨ g = G.os_ENOENT) = decide (g = G.os_ENOENT) := by simp [c1]
        simp (disch := first | omega | (simp only [sZb, sZa, sZd] <;> omega) | (simp (disch := first | omega | (simp only [sZb, sZa, sZd] <;> omega) | fail) only [go_sem, ld_os_ErrNotExist, eq_os_ErrNotExist, d1, d2, ld_os_ENOENT, eq_os_ENOENT]; done) | fail) only [go_sem, dec_t, dec_f, w_u32, w_u64, w_u16, w_u8, w_i64, Int.reduceToNat, Int.reducePow, Nat.reducePow, ld_os_ErrNotExist, eq_os_ErrNotExist, d1, d2, ld_os_ENOENT, eq_os_ENOENT]
        exact ⟨trivial, trivial⟩
  · rw [oAssertEr]
    simp (disch := first | omega | (simp only [sZb, sZa, sZd] <;> omega) | (simp (disch := first | omega | (simp only [sZb, sZa, sZd] <;> omega) | fail) only [go_sem]; done) | fail) only [go_sem, dec_t, dec_f, w_u32, w_u64, w_u16, w_u8, w_i64, Int.reduceToNat, Int.reducePow, Nat.reducePow]
    exact ⟨trivial, trivial⟩
def PE (w : World) (C : Nat) (x : Value) (op : List UInt8) (q : Nat × Nat) : Prop := ∃ pb nm, x = .iface T.p_os_PathError (pt pb 0) ∧ bk w pb = some (CB [S op, S nm, er q] T.os_PathError) ∧ C ≤ pb
def NE (w : World) (C : Nat) (q : Nat × Nat) : Prop := q.2 = 0 ∧ C ≤ q.1 ∧ ∃ txt, bk w q.1 = some (CB [S txt] T.errors_errorString)
def four : List Nat := [G.os_ErrNotExist, G.os_ErrExist, G.os_ENOTDIR, G.os_ENOENT]
theorem four_sents {g : Nat} (h : g ∈ four) : g ∈ sents := by
  simp only [four, List.mem_cons, List.not_mem_nil, or_false] at h
  rcases h with h | h | h | h <;> (rw [h]; decide)
theorem kind_path {w : World} {K : Value → World → Prop} {B C : Nat} {m : Nat → Nat × Nat} (hs : Sn w B m) {x : Value} {op : List UInt8} {g : Nat} (hg : g ∈ four) (hx : PE w C x op (m g)) (h : K (.int .i64 (codeOf g)) w) : Cl P Fn.impl_kind #[x] w K := by
  obtain ⟨pb, nm, rfl, hp, hC⟩ := hx
  have hg0 := four_sents hg
  apply S_impl_kind
  unfold F_impl_kind
  have as1 : ∀ (L : Value → Prop), pu P (oAssert (.iface T.p_os_PathError (pt pb 0)) T.error T.p_os_PathError true) L = L (tup [pt pb 0, .bool true]) := fun L => oAssertSame U.p_os_PathError _
  have ld_os_ErrNotExist : ∀ L : Value → World → Prop, st P (oLoad T.error (.pointer (some ⟨G.os_ErrNotExist, 0, none⟩))) w L = L (er (m G.os_ErrNotExist)) w := fun L => hs.load (by decide) L
  have eq_os_ErrNotExist : ∀ L : Value → World → Prop, st P (oBin .eql T.error false false (er (m g)) (er (m G.os_ErrNotExist))) w L = L (.bool (decide (g = G.os_ErrNotExist))) w := fun L => hs.eql hg0 (by decide) L
  have ld_os_ErrExist : ∀ L : Value → World → Prop, st P (oLoad T.error (.pointer (some ⟨G.os_ErrExist, 0, none⟩))) w L = L (er (m G.os_ErrExist)) w := fun L => hs.load (by decide) L
  have eq_os_ErrExist : ∀ L : Value → World → Prop, st P (oBin .eql T.error false false (er (m g)) (er (m G.os_ErrExist))) w L = L (.bool (decide (g = G.os_ErrExist))) w := fun L => hs.eql hg0 (by decide) L
  have ld_os_ENOENT : ∀ L : Value → World → Prop, st P (oLoad T.error (.pointer (some ⟨G.os_ENOENT, 0, none⟩))) w L = L (er (m G.os_ENOENT)) w := fun L => hs.load (by decide) L
  have eq_os_ENOENT : ∀ L : Value → World → Prop, st P (oBin .eql T.error false false (er (m g)) (er (m G.os_ENOENT))) w L = L (.bool (decide (g = G.os_ENOENT))) w := fun L => hs.eql hg0 (by decide) L
  have ld_os_ENOTDIR : ∀ L : Value → World → Prop, st P (oLoad T.error (.pointer (some ⟨G.os_ENOTDIR, 0, none⟩))) w L = L (er (m G.os_ENOTDIR)) w := fun L => hs.load (by decide) L
  have eq_os_ENOTDIR : ∀ L : Value → World → Prop, st P (oBin .eql T.error false false (er (m g)) (er (m G.os_ENOTDIR))) w L = L (.bool (decide (g = G.os_ENOTDIR))) w := fun L => hs.eql hg0 (by decide) L
  have ld_os_EPERM : ∀ L : Value → World → Prop, st P (oLoad T.error (.pointer (some ⟨G.os_EPERM, 0, none⟩))) w L = L (er (m G.os_EPERM)) w := fun L => hs.load (by decide) L
  have eq_os_EPERM : ∀ L : Value → World → Prop, st P (oBin .eql T.error false false (er (m g)) (er (m G.os_EPERM))) w L = L (.bool (decide (g = G.os_EPERM))) w := fun L => hs.eql hg0 (by decide) L
  have ld_os_EIO : ∀ L : Value → World → Prop, st P (oLoad T.error (.pointer (some ⟨G.os_EIO, 0, none⟩))) w L = L (er (m G.os_EIO)) w := fun L => hs.load (by decide) L
  have eq_os_EIO : ∀ L : Value → World → Prop, st P (oBin .eql T.error false false (er (m g)) (er (m G.os_EIO))) w L = L (.bool (decide (g = G.os_EIO))) w := fun L => hs.eql hg0 (by decide) L
  have ld_os_EBADFD : ∀ L : Value → World → Prop, st P (oLoad T.error (.pointer (some ⟨G.os_EBADFD, 0, none⟩))) w L = L (er (m G.os_EBADFD)) w := fun L => hs.load (by decide) L
  have eq_os_EBADFD : ∀ L : Value → World → Prop, st P (oBin .eql T.error false false (er (m g)) (er (m G.os_EBADFD))) w L = L (.bool (decide (g = G.os_EBADFD))) w := fun L => hs.eql hg0 (by decide) L
  have ld_io_EOF : ∀ L : Value → World → Prop, st P (oLoad T.error (.pointer (some ⟨G.io_EOF, 0, none⟩))) w L = L (er (m G.io_EOF)) w := fun L => hs.load (by decide) L
  have eq_io_EOF : ∀ L : Value → World → Prop, st P (oBin .eql T.error false false (er (m g)) (er (m G.io_EOF))) w L = L (.bool (decide (g = G.io_EOF))) w := fun L => hs.eql hg0 (by decide) L
  have ld_io_ErrUnexpectedEOF : ∀ L : Value → World → Prop, st P (oLoad T.error (.pointer (some ⟨G.io_ErrUnexpectedEOF, 0, none⟩))) w L = L (er (m G.io_ErrUnexpectedEOF)) w := fun L => hs.load (by decide) L
  have eq_io_ErrUnexpectedEOF : ∀ L : Value → World → Prop, st P (oBin .eql T.error false false (er (m g)) (er (m G.io_ErrUnexpectedEOF))) w L = L (.bool (decide (g = G.io_ErrUnexpectedEOF))) w := fun L => hs.eql hg0 (by decide) L
  have ld_mem_ErrFileClosed : ∀ L : Value → World → Prop, st P (oLoad T.error (.pointer (some ⟨G.mem_ErrFileClosed, 0, none⟩))) w L = L (er (m G.mem_ErrFileClosed)) w := fun L => hs.load (by decide) L
  have eq_mem_ErrFileClosed : ∀ L : Value → World → Prop, st P (oBin .eql T.error false false (er (m g)) (er (m G.mem_ErrFileClosed))) w L = L (.bool (decide (g = G.mem_ErrFileClosed))) w := fun L => hs.eql hg0 (by decide) L
  have ld_mem_ErrOutOfRange : ∀ L : Value → World → Prop, st P (oLoad T.error (.pointer (some ⟨G.mem_ErrOutOfRange, 0, none⟩))) w L = L (er (m G.mem_ErrOutOfRange)) w := fun L => hs.load (by decide) L
  have eq_mem_ErrOutOfRange : ∀ L : Value → World → Prop, st P (oBin .eql T.error false false (er (m g)) (er (m G.mem_ErrOutOfRange))) w L = L (.bool (decide (g = G.mem_ErrOutOfRange))) w := fun L => hs.eql hg0 (by decide) L
  refine jn_with (fun t w' => t = [er (m g)] ∧ w' = w) ?_ ?_
  · rintro t e w1 ⟨rfl, rfl⟩
    refine jn_with (fun _ _ => False) (fun _ _ _ h => h.elim) ?_
    rw [gs0, oEqlEr]
    simp (disch := first | omega | (simp only [sZb, sZa, sZd] <;> omega) | (simp (disch := first | omega | (simp only [sZb, sZa, sZd] <;> omega) | fail) only [go_sem]; done) | fail) only [go_sem, dec_t, dec_f, w_u32, w_u64, w_u16, w_u8, w_i64, Int.reduceToNat, Int.reducePow, Nat.reducePow]
    refine jn_with (fun t w' => t = [.bool (decide (g = G.os_ErrNotExist ∨ g = G.os_ENOENT))] ∧ w' = w1) ?_ ?_
    · rintro t e w2 ⟨rfl, rfl⟩
      simp only [four, List.mem_cons, List.not_mem_nil, or_false] at hg
      clear hs
      rcases hg with hg | hg | hg | hg
      · have d0 : decide (g = G.os_ErrNotExist ∨ g = G.os_ENOENT) = true := by rw [hg]; decide
        have d_os_ErrExist : decide (g = G.os_ErrExist) = false := by rw [hg]; decide
        have d_os_ENOTDIR : decide (g = G.os_ENOTDIR) = false := by rw [hg]; decide
        have d_os_EPERM : decide (g = G.os_EPERM) = false := by rw [hg]; decide
        have d_os_EIO : decide (g = G.os_EIO) = false := by rw [hg]; decide
        have d_os_EBADFD : decide (g = G.os_EBADFD) = false := by rw [hg]; decide
        have d_io_EOF : decide (g = G.io_EOF) = false := by rw [hg]; decide
        have d_io_ErrUnexpectedEOF : decide (g = G.io_ErrUnexpectedEOF) = false := by rw [hg]; decide
        have d_mem_ErrFileClosed : decide (g = G.mem_ErrFileClosed) = false := by rw [hg]; decide
        have d_mem_ErrOutOfRange : decide (g = G.mem_ErrOutOfRange) = false := by rw [hg]; decide
        have hc : codeOf g = 1 := by rw [hg]; decide
        rw [hc] at h
        simp (disch := first | omega | (simp only [sZb, sZa, sZd] <;> omega) | (simp (disch := first | omega | (simp only [sZb, sZa, sZd] <;> omega) | fail) only [go_sem, d0, ld_os_ErrNotExist, eq_os_ErrNotExist, ld_os_ErrExist, eq_os_ErrExist, ld_os_ENOENT, eq_os_ENOENT, ld_os_ENOTDIR, eq_os_ENOTDIR, ld_os_EPERM, eq_os_EPERM, ld_os_EIO, eq_os_EIO, ld_os_EBADFD, eq_os_EBADFD, ld_io_EOF, eq_io_EOF, ld_io_ErrUnexpectedEOF, eq_io_ErrUnexpectedEOF, ld_mem_ErrFileClosed, eq_mem_ErrFileClosed, ld_mem_ErrOutOfRange, eq_mem_ErrOutOfRange, d_os_ErrExist, d_os_ENOTDIR, d_os_EPERM, d_os_EIO, d_os_EBADFD, d_io_EOF, d_io_ErrUnexpectedEOF, d_mem_ErrFileClosed, d_mem_ErrOutOfRange]; done) | fail) only [go_sem, dec_t, dec_f, w_u32, w_u64, w_u16, w_u8, w_i64, Int.reduceToNat, Int.reducePow, Nat.reducePow, d0, ld_os_ErrNotExist, eq_os_ErrNotExist, ld_os_ErrExist, eq_os_ErrExist, ld_os_ENOENT, eq_os_ENOENT, ld_os_ENOTDIR, eq_os_ENOTDIR, ld_os_EPERM, eq_os_EPERM, ld_os_EIO, eq_os_EIO, ld_os_EBADFD, eq_os_EBADFD, ld_io_EOF, eq_io_EOF, ld_io_ErrUnexpectedEOF, eq_io_ErrUnexpectedEOF, ld_mem_ErrFileClosed, eq_mem_ErrFileClosed, ld_mem_ErrOutOfRange, eq_mem_ErrOutOfRange, d_os_ErrExist, d_os_ENOTDIR, d_os_EPERM, d_os_EIO, d_os_EBADFD, d_io_EOF, d_io_ErrUnexpectedEOF, d_mem_ErrFileClosed, d_mem_ErrOutOfRange]
        exact h
      · have d0 : decide (g = G.os_ErrNotExist ∨ g = G.os_ENOENT) = false := by rw [hg]; decide
        have d_os_ErrExist : decide (g = G.os_ErrExist) = true := by rw [hg]; decide
        have d_os_ENOTDIR : decide (g = G.os_ENOTDIR) = false := by rw [hg]; decide
        have d_os_EPERM : decide (g = G.os_EPERM) = false := by rw [hg]; decide
        have d_os_EIO : decide (g = G.os_EIO) = false := by rw [hg]; decide
        have d_os_EBADFD : decide (g = G.os_EBADFD) = false := by rw [hg]; decide
        have d_io_EOF : decide (g = G.io_EOF) = false := by rw [hg]; decide
        have d_io_ErrUnexpectedEOF : decide (g = G.io_ErrUnexpectedEOF) = false := by rw [hg]; decide
        have d_mem_ErrFileClosed : decide (g = G.mem_ErrFileClosed) = false := by rw [hg]; decide
        have d_mem_ErrOutOfRange : decide (g = G.mem_ErrOutOfRange) = false := by rw [hg]; decide
        have hc : codeOf g = 2 := by rw [hg]; decide
        rw [hc] at h
        simp (disch := first | omega | (simp only [sZb, sZa, sZd] <;> omega) | (simp (disch := first | omega | (simp only [sZb, sZa, sZd] <;> omega) | fail) only [go_sem, d0, ld_os_ErrNotExist, eq_os_ErrNotExist, ld_os_ErrExist, eq_os_ErrExist, ld_os_ENOENT, eq_os_ENOENT, ld_os_ENOTDIR, eq_os_ENOTDIR, ld_os_EPERM, eq_os_EPERM, ld_os_EIO, eq_os_EIO, ld_os_EBADFD, eq_os_EBADFD, ld_io_EOF, eq_io_EOF, ld_io_ErrUnexpectedEOF, eq_io_ErrUnexpectedEOF, ld_mem_ErrFileClosed, eq_mem_ErrFileClosed, ld_mem_ErrOutOfRange, eq_mem_ErrOutOfRange, d_os_ErrExist, d_os_ENOTDIR, d_os_EPERM, d_os_EIO, d_os_EBADFD, d_io_EOF, d_io_ErrUnexpectedEOF, d_mem_ErrFileClosed, d_mem_ErrOutOfRange]; done) | fail) only [go_sem, dec_t, dec_f, w_u32, w_u64, w_u16, w_u8, w_i64, Int.reduceToNat, Int.reducePow, Nat.reducePow, d0, ld_os_ErrNotExist, eq_os_ErrNotExist, ld_os_ErrExist, eq_os_ErrExist, ld_os_ENOENT, eq_os_ENOENT, ld_os_ENOTDIR, eq_os_ENOTDIR, ld_os_EPERM, eq_os_EPERM, ld_os_EIO, eq_os_EIO, ld_os_EBADFD, eq_os_EBADFD, ld_io_EOF, eq_io_EOF, ld_io_ErrUnexpectedEOF, eq_io_ErrUnexpectedEOF, ld_mem_ErrFileClosed, eq_mem_ErrFileClosed, ld_mem_ErrOutOfRange, eq_mem_ErrOutOfRange, d_os_ErrExist, d_os_ENOTDIR, d_os_EPERM, d_os_EIO, d_os_EBADFD, d_io_EOF, d_io_ErrUnexpectedEOF, d_mem_ErrFileClosed, d_mem_ErrOutOfRange]
        exact h
      · have d0 : decide (g = G.os_ErrNotExist ∨ g = G.os_ENOENT) = false := by rw [hg]; decide
        have d_os_ErrExist : decide (g = G.os_ErrExist) = false := by rw [hg]; decide
        have d_os_ENOTDIR : decide (g = G.os_ENOTDIR) = true := by rw [hg]; decide
        have d_os_EPERM : decide (g = G.os_EPERM) = false := by rw [hg]; decide
        have d_os_EIO : decide (g = G.os_EIO) = false := by rw [hg]; decide
        have d_os_EBADFD : decide (g = G.os_EBADFD) = false := by rw [hg]; decide
        have d_io_EOF : decide (g = G.io_EOF) = false := by rw [hg]; decide
        have d_io_ErrUnexpectedEOF : decide (g = G.io_ErrUnexpectedEOF) = false := by rw [hg]; decide
        have d_mem_ErrFileClosed : decide (g = G.mem_ErrFileClosed) = false := by rw [hg]; decide
        have d_mem_ErrOutOfRange : decide (g = G.mem_ErrOutOfRange) = false := by rw [hg]; decide
        have hc : codeOf g = 8 := by rw [hg]; decide
        rw [hc] at h
        simp (disch := first | omega | (simp only [sZb, sZa, sZd] <;> omega) | (simp (disch := first | omega | (simp only [sZb, sZa, sZd] <;> omega) | fail) only [go_sem, d0, ld_os_ErrNotExist, eq_os_ErrNotExist, ld_os_ErrExist, eq_os_ErrExist, ld_os_ENOENT, eq_os_ENOENT, ld_os_ENOTDIR, eq_os_ENOTDIR, ld_os_EPERM, eq_os_EPERM, ld_os_EIO, eq_os_EIO, ld_os_EBADFD, eq_os_EBADFD, ld_io_EOF, eq_io_EOF, ld_io_ErrUnexpectedEOF, eq_io_ErrUnexpectedEOF, ld_mem_ErrFileClosed, eq_mem_ErrFileClosed, ld_mem_ErrOutOfRange, eq_mem_ErrOutOfRange, d_os_ErrExist, d_os_ENOTDIR, d_os_EPERM, d_os_EIO, d_os_EBADFD, d_io_EOF, d_io_ErrUnexpectedEOF, d_mem_ErrFileClosed, d_mem_ErrOutOfRange]; done) | fail) only [go_sem, dec_t, dec_f, w_u32, w_u64, w_u16, w_u8, w_i64, Int.reduceToNat, Int.reducePow, Nat.reducePow, d0, ld_os_ErrNotExist, eq_os_ErrNotExist, ld_os_ErrExist, eq_os_ErrExist, ld_os_ENOENT, eq_os_ENOENT, ld_os_ENOTDIR, eq_os_ENOTDIR, ld_os_EPERM, eq_os_EPERM, ld_os_EIO, eq_os_EIO, ld_os_EBADFD, eq_os_EBADFD, ld_io_EOF, eq_io_EOF, ld_io_ErrUnexpectedEOF, eq_io_ErrUnexpectedEOF, ld_mem_ErrFileClosed, eq_mem_ErrFileClosed, ld_mem_ErrOutOfRange, eq_mem_ErrOutOfRange, d_os_ErrExist, d_os_ENOTDIR, d_os_EPERM, d_os_EIO, d_os_EBADFD, d_io_EOF, d_io_ErrUnexpectedEOF, d_mem_ErrFileClosed, d_mem_ErrOutOfRange]
        exact h
      · have d0 : decide (g = G.os_ErrNotExist ∨ g = G.os_ENOENT) = true := by rw [hg]; decide
        have d_os_ErrExist : decide (g = G.os_ErrExist) = false := by rw [hg]; decide
        have d_os_ENOTDIR : decide (g = G.os_ENOTDIR) = false := by rw [hg]; decide
        have d_os_EPERM : decide (g = G.os_EPERM) = false := by rw [hg]; decide
        have d_os_EIO : decide (g = G.os_EIO) = false := by rw [hg]; decide
        have d_os_EBADFD : decide (g = G.os_EBADFD) = false := by rw [hg]; decide
        have d_io_EOF : decide (g = G.io_EOF) = false := by rw [hg]; decide
        have d_io_ErrUnexpectedEOF : decide (g = G.io_ErrUnexpectedEOF) = false := by rw [hg]; decide
        have d_mem_ErrFileClosed : decide (g = G.mem_ErrFileClosed) = false := by rw [hg]; decide
        have d_mem_ErrOutOfRange : decide (g = G.mem_ErrOutOfRange) = false := by rw [hg]; decide
        have hc : codeOf g = 1 := by rw [hg]; decide
        rw [hc] at h
        simp (disch := first | omega | (simp only [sZb, sZa, sZd] <;> omega) | (simp (disch := first | omega | (simp only [sZb, sZa, sZd] <;> omega) | fail) only [go_sem, d0, ld_os_ErrNotExist, eq_os_ErrNotExist, ld_os_ErrExist, eq_os_ErrExist, ld_os_ENOENT, eq_os_ENOENT, ld_os_ENOTDIR, eq_os_ENOTDIR, ld_os_EPERM, eq_os_EPERM, ld_os_EIO, eq_os_EIO, ld_os_EBADFD, eq_os_EBADFD, ld_io_EOF, eq_io_EOF, ld_io_ErrUnexpectedEOF, eq_io_ErrUnexpectedEOF, ld_mem_ErrFileClosed, eq_mem_ErrFileClosed, ld_mem_ErrOutOfRange, eq_mem_ErrOutOfRange, d_os_ErrExist, d_os_ENOTDIR, d_os_EPERM, d_os_EIO, d_os_EBADFD, d_io_EOF, d_io_ErrUnexpectedEOF, d_mem_ErrFileClosed, d_mem_ErrOutOfRange]; done) | fail) only [go_sem, dec_t, dec_f, w_u32, w_u64, w_u16, w_u8, w_i64, Int.reduceToNat, Int.reducePow, Nat.reducePow, d0, ld_os_ErrNotExist, eq_os_ErrNotExist, ld_os_ErrExist, eq_os_ErrExist, ld_os_ENOENT, eq_os_ENOENT, ld_os_ENOTDIR, eq_os_ENOTDIR, ld_os_EPERM, eq_os_EPERM, ld_os_EIO, eq_os_EIO, ld_os_EBADFD, eq_os_EBADFD, ld_io_EOF, eq_io_EOF, ld_io_ErrUnexpectedEOF, eq_io_ErrUnexpectedEOF, ld_mem_ErrFileClosed, eq_mem_ErrFileClosed, ld_mem_ErrOutOfRange, eq_mem_ErrOutOfRange, d_os_ErrExist, d_os_ENOTDIR, d_os_EPERM, d_os_EIO, d_os_EBADFD, d_io_EOF, d_io_ErrUnexpectedEOF, d_mem_ErrFileClosed, d_mem_ErrOutOfRange]
        exact h
    · by_cases c1 : g = G.os_ErrNotExist
      · have d1 : decide (g = G.os_ErrNotExist) = true := by simp [c1]
        have d2 : decide (g = G.os_ErrNotExist ∨ g = G.os_ENOENT) = true := by simp [c1]
        simp (disch := first | omega | (simp only [sZb, sZa, sZd] <;> omega) | (simp (disch := first | omega | (simp only [sZb, sZa, sZd] <;> omega) | fail) only [go_sem, ld_os_ErrNotExist, eq_os_ErrNotExist, d1, d2]; done) | fail) only [go_sem, dec_t, dec_f, w_u32, w_u64, w_u16, w_u8, w_i64, Int.reduceToNat, Int.reducePow, Nat.reducePow, ld_os_ErrNotExist, eq_os_ErrNotExist, d1, d2]
        exact ⟨trivial, trivial⟩
      · have d1 : decide (g = G.os_ErrNotExist) = false := by simp [c1]
        have d2 : decide (g = G.os_ErrNotExist ∨ g = G.os_ENOENT) = decide (g = G.os_ENOENT) := by simp [c1]
        simp (disch := first | omega | (simp only [sZb, sZa, sZd] <;> omega) | (simp (disch := first | omega | (simp only [sZb, sZa, sZd] <;> omega) | fail) only [go_sem, ld_os_ErrNotExist, eq_os_ErrNotExist, d1, d2, ld_os_ENOENT, eq_os_ENOENT]; done) | fail) only [go_sem, dec_t, dec_f, w_u32, w_u64, w_u16, w_u8, w_i64, Int.reduceToNat, Int.reducePow, Nat.reducePow, ld_os_ErrNotExist, eq_os_ErrNotExist, d1, d2, ld_os_ENOENT, eq_os_ENOENT]
        exact ⟨trivial, trivial⟩
  · rw [as1]
    simp (disch := first | omega | (simp only [sZb, sZa, sZd] <;> omega) | (simp (disch := first | omega | (simp only [sZb, sZa, sZd] <;> omega) | fail) only [go_sem, hp]; done) | fail) only [go_sem, dec_t, dec_f, w_u32, w_u64, w_u16, w_u8, w_i64, Int.reduceToNat, Int.reducePow, Nat.reducePow, hp]
    refine jn_with (fun t w' => t = [.bool true] ∧ w' = w) ?_ ?_
    · rintro t e w1 ⟨rfl, rfl⟩
      simp (disch := first | omega | (simp only [sZb, sZa, sZd] <;> omega) | (simp (disch := first | omega | (simp only [sZb, sZa, sZd] <;> omega) | fail) only [go_sem, hp]; done) | fail) only [go_sem, dec_t, dec_f, w_u32, w_u64, w_u16, w_u8, w_i64, Int.reduceToNat, Int.reducePow, Nat.reducePow, hp]
      exact ⟨trivial, trivial⟩
    · simp only [four, List.mem_cons, List.not_mem_nil, or_false] at hg
      clear hs
      rcases hg with hg | hg | hg | hg
      · have d_os_ErrNotExist : decide (g = G.os_ErrNotExist) = true := by rw [hg]; decide
        simp (disch := first | omega | (simp only [sZb, sZa, sZd] <;> omega) | (simp (disch := first | omega | (simp only [sZb, sZa, sZd] <;> omega) | fail) only [go_sem, ld_os_ErrNotExist, eq_os_ErrNotExist, ld_os_ErrExist, eq_os_ErrExist, ld_os_ENOENT, eq_os_ENOENT, ld_os_ENOTDIR, eq_os_ENOTDIR, ld_os_EPERM, eq_os_EPERM, ld_os_EIO, eq_os_EIO, ld_os_EBADFD, eq_os_EBADFD, ld_io_EOF, eq_io_EOF, ld_io_ErrUnexpectedEOF, eq_io_ErrUnexpectedEOF, ld_mem_ErrFileClosed, eq_mem_ErrFileClosed, ld_mem_ErrOutOfRange, eq_mem_ErrOutOfRange, d_os_ErrNotExist]; done) | fail) only [go_sem, dec_t, dec_f, w_u32, w_u64, w_u16, w_u8, w_i64, Int.reduceToNat, Int.reducePow, Nat.reducePow, ld_os_ErrNotExist, eq_os_ErrNotExist, ld_os_ErrExist, eq_os_ErrExist, ld_os_ENOENT, eq_os_ENOENT, ld_os_ENOTDIR, eq_os_ENOTDIR, ld_os_EPERM, eq_os_EPERM, ld_os_EIO, eq_os_EIO, ld_os_EBADFD, eq_os_EBADFD, ld_io_EOF, eq_io_EOF, ld_io_ErrUnexpectedEOF, eq_io_ErrUnexpectedEOF, ld_mem_ErrFileClosed, eq_mem_ErrFileClosed, ld_mem_ErrOutOfRange, eq_mem_ErrOutOfRange, d_os_ErrNotExist]
        exact ⟨trivial, trivial⟩
      · have d_os_ErrNotExist : decide (g = G.os_ErrNotExist) = false := by rw [hg]; decide
        have d_os_ErrExist : decide (g = G.os_ErrExist) = true := by rw [hg]; decide
        simp (disch := first | omega | (simp only [sZb, sZa, sZd] <;> omega) | (simp (disch := first | omega | (simp only [sZb, sZa, sZd] <;> omega) | fail) only [go_sem, ld_os_ErrNotExist, eq_os_ErrNotExist, ld_os_ErrExist, eq_os_ErrExist, ld_os_ENOENT, eq_os_ENOENT, ld_os_ENOTDIR, eq_os_ENOTDIR, ld_os_EPERM, eq_os_EPERM, ld_os_EIO, eq_os_EIO, ld_os_EBADFD, eq_os_EBADFD, ld_io_EOF, eq_io_EOF, ld_io_ErrUnexpectedEOF, eq_io_ErrUnexpectedEOF, ld_mem_ErrFileClosed, eq_mem_ErrFileClosed, ld_mem_ErrOutOfRange, eq_mem_ErrOutOfRange, d_os_ErrNotExist, d_os_ErrExist]; done) | fail) only [go_sem, dec_t, dec_f, w_u32, w_u64, w_u16, w_u8, w_i64, Int.reduceToNat, Int.reducePow, Nat.reducePow, ld_os_ErrNotExist, eq_os_ErrNotExist, ld_os_ErrExist, eq_os_ErrExist, ld_os_ENOENT, eq_os_ENOENT, ld_os_ENOTDIR, eq_os_ENOTDIR, ld_os_EPERM, eq_os_EPERM, ld_os_EIO, eq_os_EIO, ld_os_EBADFD, eq_os_EBADFD, ld_io_EOF, eq_io_EOF, ld_io_ErrUnexpectedEOF, eq_io_ErrUnexpectedEOF, ld_mem_ErrFileClosed, eq_mem_ErrFileClosed, ld_mem_ErrOutOfRange, eq_mem_ErrOutOfRange, d_os_ErrNotExist, d_os_ErrExist]
        exact ⟨trivial, trivial⟩
      · have d_os_ErrNotExist : decide (g = G.os_ErrNotExist) = false := by rw [hg]; decide
        have d_os_ErrExist : decide (g = G.os_ErrExist) = false := by rw [hg]; decide
        have d_os_ENOTDIR : decide (g = G.os_ENOTDIR) = true := by rw [hg]; decide
        simp (disch := first | omega | (simp only [sZb, sZa, sZd] <;> omega) | (simp (disch := first | omega | (simp only [sZb, sZa, sZd] <;> omega) | fail) only [go_sem, ld_os_ErrNotExist, eq_os_ErrNotExist, ld_os_ErrExist, eq_os_ErrExist, ld_os_ENOENT, eq_os_ENOENT, ld_os_ENOTDIR, eq_os_ENOTDIR, ld_os_EPERM, eq_os_EPERM, ld_os_EIO, eq_os_EIO, ld_os_EBADFD, eq_os_EBADFD, ld_io_EOF, eq_io_EOF, ld_io_ErrUnexpectedEOF, eq_io_ErrUnexpectedEOF, ld_mem_ErrFileClosed, eq_mem_ErrFileClosed, ld_mem_ErrOutOfRange, eq_mem_ErrOutOfRange, d_os_ErrNotExist, d_os_ErrExist, d_os_ENOTDIR]; done) | fail) only [go_sem, dec_t, dec_f, w_u32, w_u64, w_u16, w_u8, w_i64, Int.reduceToNat, Int.reducePow, Nat.reducePow, ld_os_ErrNotExist, eq_os_ErrNotExist, ld_os_ErrExist, eq_os_ErrExist, ld_os_ENOENT, eq_os_ENOENT, ld_os_ENOTDIR, eq_os_ENOTDIR, ld_os_EPERM, eq_os_EPERM, ld_os_EIO, eq_os_EIO, ld_os_EBADFD, eq_os_EBADFD, ld_io_EOF, eq_io_EOF, ld_io_ErrUnexpectedEOF, eq_io_ErrUnexpectedEOF, ld_mem_ErrFileClosed, eq_mem_ErrFileClosed, ld_mem_ErrOutOfRange, eq_mem_ErrOutOfRange, d_os_ErrNotExist, d_os_ErrExist, d_os_ENOTDIR]
        exact ⟨trivial, trivial⟩
      · have d_os_ErrNotExist : decide (g = G.os_ErrNotExist) = false := by rw [hg]; decide
        have d_os_ErrExist : decide (g = G.os_ErrExist) = false := by rw [hg]; decide
        have d_os_ENOTDIR : decide (g = G.os_ENOTDIR) = false := by rw [hg]; decide
        have d_os_ENOENT : decide (g = G.os_ENOENT) = true := by rw [hg]; decide
        simp (disch := first | omega | (simp only [sZb, sZa, sZd] <;> omega) | (simp (disch := first | omega | (simp only [sZb, sZa, sZd] <;> omega) | fail) only [go_sem, ld_os_ErrNotExist, eq_os_ErrNotExist, ld_os_ErrExist, eq_os_ErrExist, ld_os_ENOENT, eq_os_ENOENT, ld_os_ENOTDIR, eq_os_ENOTDIR, ld_os_EPERM, eq_os_EPERM, ld_os_EIO, eq_os_EIO, ld_os_EBADFD, eq_os_EBADFD, ld_io_EOF, eq_io_EOF, ld_io_ErrUnexpectedEOF, eq_io_ErrUnexpectedEOF, ld_mem_ErrFileClosed, eq_mem_ErrFileClosed, ld_mem_ErrOutOfRange, eq_mem_ErrOutOfRange, d_os_ErrNotExist, d_os_ErrExist, d_os_ENOTDIR, d_os_ENOENT]; done) | fail) only [go_sem, dec_t, dec_f, w_u32, w_u64, w_u16, w_u8, w_i64, Int.reduceToNat, Int.reducePow, Nat.reducePow, ld_os_ErrNotExist, eq_os_ErrNotExist, ld_os_ErrExist, eq_os_ErrExist, ld_os_ENOENT, eq_os_ENOENT, ld_os_ENOTDIR, eq_os_ENOTDIR, ld_os_EPERM, eq_os_EPERM, ld_os_EIO, eq_os_EIO, ld_os_EBADFD, eq_os_EBADFD, ld_io_EOF, eq_io_EOF, ld_io_ErrUnexpectedEOF, eq_io_ErrUnexpectedEOF, ld_mem_ErrFileClosed, eq_mem_ErrFileClosed, ld_mem_ErrOutOfRange, eq_mem_ErrOutOfRange, d_os_ErrNotExist, d_os_ErrExist, d_os_ENOTDIR, d_os_ENOENT]
        exact ⟨trivial, trivial⟩
def opCode (op : List UInt8) : Int := if op = [114, 101, 97, 100, 100, 105, 114] then 8 else if op = [116, 114, 117, 110, 99, 97, 116, 101] ∨ op = [119, 114, 105, 116, 101] then 6 else 13
theorem kind_new {w : World} {K : Value → World → Prop} {B C : Nat} {m : Nat → Nat × Nat} (hs : Sn w B m) (hBC : B ≤ C) {x : Value} {op : List UInt8} {q : Nat × Nat} (hq : NE w C q) (hx : PE w C x op q) (h : K (.int .i64 (opCode op)) w) : Cl P Fn.impl_kind #[x] w K := by
  obtain ⟨pb, nm, rfl, hp, hC⟩ := hx
  obtain ⟨ib, i0⟩ := q
  obtain ⟨q0, qB, txt, hi⟩ := hq
  simp only at q0 qB hi
  subst q0
  apply S_impl_kind
  unfold F_impl_kind
  have eq : ∀ {g : Nat}, g ∈ sents → ∀ (L : Value → World → Prop), st P (oBin .eql T.error false false (er (ib, 0)) (er (m g))) w L = L (.bool false) w := fun hg L => stEqlNew hs hi (by omega) hg L
  have as1 : ∀ (L : Value → Prop), pu P (oAssert (.iface T.p_os_PathError (pt pb 0)) T.error T.p_os_PathError true) L = L (tup [pt pb 0, .bool true]) := fun L => oAssertSame U.p_os_PathError _
  have l1 := fun L => hs.load (g := G.os_ErrNotExist) (by decide) L
  have l2 := fun L => hs.load (g := G.os_ErrExist) (by decide) L
  have l3 := fun L => hs.load (g := G.os_ENOTDIR) (by decide) L
  have l4 := fun L => hs.load (g := G.os_ENOENT) (by decide) L
  have e1 := @eq G.os_ErrNotExist (by decide)
  have e2 := @eq G.os_ErrExist (by decide)
  have e3 := @eq G.os_ENOTDIR (by decide)
  have e4 := @eq G.os_ENOENT (by decide)
  refine jn_with (fun _ _ => False) (fun _ _ _ h => h.elim) ?_
  rw [as1]
  simp (disch := first | omega | (simp only [sZb, sZa, sZd] <;> omega) | (simp (disch := first | omega | (simp only [sZb, sZa, sZd] <;> omega) | fail) only [go_sem, hp]; done) | fail) only [go_sem, dec_t, dec_f, w_u32, w_u64, w_u16, w_u8, w_i64, Int.reduceToNat, Int.reducePow, Nat.reducePow, hp]
  refine jn_with (fun t w' => t = [.bool false] ∧ w' = w) ?_ ?_
  · rintro t e w1 ⟨rfl, rfl⟩
    simp (disch := first | omega | (simp only [sZb, sZa, sZd] <;> omega) | (simp (disch := first | omega | (simp only [sZb, sZa, sZd] <;> omega) | fail) only [go_sem]; done) | fail) only [go_sem, dec_t, dec_f, w_u32, w_u64, w_u16, w_u8, w_i64, Int.reduceToNat, Int.reducePow, Nat.reducePow]
    unfold opCode at h
    by_cases c1 : op = [114, 101, 97, 100, 100, 105, 114]
    · rw [if_pos c1] at h
      refine jn_with (fun _ _ => False) (fun _ _ _ h => h.elim) ?_
      simp (disch := first | omega | (simp only [sZb, sZa, sZd] <;> omega) | (simp (disch := first | omega | (simp only [sZb, sZa, sZd] <;> omega) | fail) only [go_sem, hp, c1, decide_true]; done) | fail) only [go_sem, dec_t, dec_f, w_u32, w_u64, w_u16, w_u8, w_i64, Int.reduceToNat, Int.reducePow, Nat.reducePow, hp, c1, decide_true]
      exact h
    · rw [if_neg c1] at h
      by_cases c2 : op = [116, 114, 117, 110, 99, 97, 116, 101] ∨ op = [119, 114, 105, 116, 101]
      · rw [if_pos c2] at h
        refine jn_with (fun _ _ => False) (fun _ _ _ h => h.elim) ?_
        simp (disch := first | omega | (simp only [sZb, sZa, sZd] <;> omega) | (simp (disch := first | omega | (simp only [sZb, sZa, sZd] <;> omega) | fail) only [go_sem, hp, c1, decide_false]; done) | fail) only [go_sem, dec_t, dec_f, w_u32, w_u64, w_u16, w_u8, w_i64, Int.reduceToNat, Int.reducePow, Nat.reducePow, hp, c1, decide_false]
        refine jn_with (fun t w' => t = [.bool true] ∧ w' = w1) ?_ ?_
        · rintro t e w2 ⟨rfl, rfl⟩
          simp (disch := first | omega | (simp only [sZb, sZa, sZd] <;> omega) | (simp (disch := first | omega | (simp only [sZb, sZa, sZd] <;> omega) | fail) only [go_sem]; done) | fail) only [go_sem, dec_t, dec_f, w_u32, w_u64, w_u16, w_u8, w_i64, Int.reduceToNat, Int.reducePow, Nat.reducePow]
          exact h
        · by_cases c3 : op = [116, 114, 117, 110, 99, 97, 116, 101]
          · have d3 : decide (op = [116, 114, 117, 110, 99, 97, 116, 101]) = true := by rw [c3]; decide
            simp (disch := first | omega | (simp only [sZb, sZa, sZd] <;> omega) | (simp (disch := first | omega | (simp only [sZb, sZa, sZd] <;> omega) | fail) only [go_sem, d3]; done) | fail) only [go_sem, dec_t, dec_f, w_u32, w_u64, w_u16, w_u8, w_i64, Int.reduceToNat, Int.reducePow, Nat.reducePow, d3]
            exact ⟨trivial, trivial⟩
          · have c4 := c2.resolve_left c3
            have d3 : decide (op = [116, 114, 117, 110, 99, 97, 116, 101]) = false := decide_eq_false c3
            have d4 : decide (op = [119, 114, 105, 116, 101]) = true := by rw [c4]; decide
            simp (disch := first | omega | (simp only [sZb, sZa, sZd] <;> omega) | (simp (disch := first | omega | (simp only [sZb, sZa, sZd] <;> omega) | fail) only [go_sem, d3, d4]; done) | fail) only [go_sem, dec_t, dec_f, w_u32, w_u64, w_u16, w_u8, w_i64, Int.reduceToNat, Int.reducePow, Nat.reducePow, d3, d4]
            exact ⟨trivial, trivial⟩
      · rw [if_neg c2] at h
        refine jn_with (fun t w' => w' = w1) ?_ ?_
        · rintro t e w2 rfl
          exact h
        · simp (disch := first | omega | (simp only [sZb, sZa, sZd] <;> omega) | (simp (disch := first | omega | (simp only [sZb, sZa, sZd] <;> omega) | fail) only [go_sem, hp, c1, decide_false]; done) | fail) only [go_sem, dec_t, dec_f, w_u32, w_u64, w_u16, w_u8, w_i64, Int.reduceToNat, Int.reducePow, Nat.reducePow, hp, c1, decide_false]
          have d3 : decide (op = [116, 114, 117, 110, 99, 97, 116, 101]) = false := decide_eq_false fun e => c2 (.inl e)
          have d4 : decide (op = [119, 114, 105, 116, 101]) = false := decide_eq_false fun e => c2 (.inr e)
          refine jn_with (fun t w' => t = [.bool false] ∧ w' = w1) ?_ ?_
          · rintro t e w2 ⟨rfl, rfl⟩
            simp (disch := first | omega | (simp only [sZb, sZa, sZd] <;> omega) | (simp (disch := first | omega | (simp only [sZb, sZa, sZd] <;> omega) | fail) only [go_sem]; done) | fail) only [go_sem, dec_t, dec_f, w_u32, w_u64, w_u16, w_u8, w_i64, Int.reduceToNat, Int.reducePow, Nat.reducePow]
          · simp (disch := first | omega | (simp only [sZb, sZa, sZd] <;> omega) | (simp (disch := first | omega | (simp only [sZb, sZa, sZd] <;> omega) | fail) only [go_sem, d3, d4]; done) | fail) only [go_sem, dec_t, dec_f, w_u32, w_u64, w_u16, w_u8, w_i64, Int.reduceToNat, Int.reducePow, Nat.reducePow, d3, d4]
            exact ⟨trivial, trivial⟩
  · simp (disch := first | omega | (simp only [sZb, sZa, sZd] <;> omega) | (simp (disch := first | omega | (simp only [sZb, sZa, sZd] <;> omega) | fail) only [go_sem, l1, l2, l3, l4, e1, e2, e3, e4]; done) | fail) only [go_sem, dec_t, dec_f, w_u32, w_u64, w_u16, w_u8, w_i64, Int.reduceToNat, Int.reducePow, Nat.reducePow, l1, l2, l3, l4, e1, e2, e3, e4]
    exact ⟨trivial, trivial⟩
def ErrV (w : World) (C : Nat) (m : Nat → Nat × Nat) (e : Int) (x : Value) : Prop :=
  (e = 0 ∧ x = .nilIface) ∨ (∃ g ∈ sents, x = er (m g) ∧ e = codeOf g) ∨ (∃ g ∈ four, ∃ op, PE w C x op (m g) ∧ e = codeOf g) ∨ ∃ op q, PE w C x op q ∧ NE w C q ∧ e = opCode op
theorem kind_err {w : World} {K : Value → World → Prop} {B C : Nat} {m : Nat → Nat × Nat} (hs : Sn w B m) (hBC : B ≤ C) {e : Int} {x : Value} (hx : ErrV w C m e x) (h : K (.int .i64 e) w) : Cl P Fn.impl_kind #[x] w K := by
  rcases hx with ⟨rfl, rfl⟩ | ⟨g, hg, rfl, rfl⟩ | ⟨g, hg, op, hp, rfl⟩ | ⟨op, q, hp, hq, rfl⟩
  · exact kind_nil h
  · exact kind_sent hs hg h
  · exact kind_path hs hg hp h
  · exact kind_new hs hBC hq hp h
theorem PE.kp {w w' : World} {C : Nat} {x : Value} {op : List UInt8} {q : Nat × Nat} {S : Nat → Prop} (h : PE w C x op q) (k : Kp w w' S) (hS : ∀ b, C ≤ b → b < w.heap.size → ¬ S b) : PE w' C x op q := by
  obtain ⟨pb, nm, e, h1, h2⟩ := h
  exact ⟨pb, nm, e, (k.block pb (bk_lt h1) (hS pb h2 (bk_lt h1))).trans h1, h2⟩
theorem NE.kp {w w' : World} {C : Nat} {q : Nat × Nat} {S : Nat → Prop} (h : NE w C q) (k : Kp w w' S) (hS : ∀ b, C ≤ b → b < w.heap.size → ¬ S b) : NE w' C q := by
  obtain ⟨h0, h2, txt, h1⟩ := h
  exact ⟨h0, h2, txt, (k.block q.1 (bk_lt h1) (hS q.1 h2 (bk_lt h1))).trans h1⟩
theorem ErrV.kp {w w' : World} {C : Nat} {m : Nat → Nat × Nat} {e : Int} {x : Value} {S : Nat → Prop} (h : ErrV w C m e x) (k : Kp w w' S) (hS : ∀ b, C ≤ b → b < w.heap.size → ¬ S b) : ErrV w' C m e x := by
  rcases h with h | h | ⟨g, hg, op, hp, he⟩ | ⟨op, q, hp, hq, he⟩
  · exact .inl h
  · exact .inr (.inl h)
  · exact .inr (.inr (.inl ⟨g, hg, op, hp.kp k hS, he⟩))
  · exact .inr (.inr (.inr ⟨op, q, hp.kp k hS, hq.kp k hS, he⟩))
theorem ErrV.old {w w' : World} {C : Nat} {m : Nat → Nat × Nat} {e : Int} {x : Value} (h : ErrV w C m e x) (k : Below w.heap.size w w') : ErrV w' C m e x := h.kp (Kp.of_below k fun b => w.heap.size ≤ b) fun b _ hb => by omega
theorem ErrV.less {w : World} {C C' : Nat} {m : Nat → Nat × Nat} {e : Int} {x : Value} (h : ErrV w C m e x) (hC : C' ≤ C) : ErrV w C' m e x := by
  rcases h with h | h | ⟨g, hg, op, ⟨pb, nm, e1, h1, h2⟩, he⟩ | ⟨op, q, ⟨pb, nm, e1, h1, h2⟩, ⟨g0, g2, g3⟩, he⟩
  · exact .inl h
  · exact .inr (.inl h)
  · exact .inr (.inr (.inl ⟨g, hg, op, ⟨pb, nm, e1, h1, by omega⟩, he⟩))
  · exact .inr (.inr (.inr ⟨op, q, ⟨pb, nm, e1, h1, by omega⟩, ⟨g0, by omega, g3⟩, he⟩))
theorem ErrV.nil (w : World) (C : Nat) (m : Nat → Nat × Nat) : ErrV w C m 0 .nilIface := .inl ⟨rfl, rfl⟩
end Go.Proofs.YteblpejgenehfaaDoor.X
end
section
namespace Go.Proofs.YteblpejgenehfaaDoor.X
open Go Go.X Go.Proofs Go.RowKit
def errV (m : Nat → Nat × Nat) (k : Nat) : Value := if k = 4 then er (m G.io_EOF) else if k = 5 then er (m G.io_ErrUnexpectedEOF) else .nilIface
structure FX where
  bytes : List UInt8
  pos : Int
  cl : Bool
  ro : Bool
  rdc : Int
  nm : List UInt8
  md : Value
  dir : Bool
  mode : Int
  mt : Int
  uid : Int
  gid : Int
structure FH (w : World) (B f d : Nat) (v : Value) (s : FX) : Prop where
  hf : B ≤ f
  hd : B ≤ d
  fd : f ≠ d
  bf : bk w f = some (CB [.int .i64 s.pos, .int .i64 s.rdc, .bool s.cl, .bool s.ro, pt d 0] T.mem_File)
  bd : bk w d = some (CB [S s.nm, v, s.md, .bool s.dir, .int .u32 s.mode, .int .i64 s.mt, .int .i64 s.uid, .int .i64 s.gid] T.mem_FileData)
  md1 : s.md.oneCell' = true
  own : w.ownsRow B T.uint8 1 v s.bytes.length (s.bytes.map byt)
  nf : v.ownBlock ≠ some f
  nd : v.ownBlock ≠ some d
theorem FH.lt {w : World} {B f d : Nat} {v : Value} {s : FX} (h : FH w B f d v s) : f < w.heap.size ∧ d < w.heap.size := ⟨bk_lt h.bf, bk_lt h.bd⟩
theorem FH.kept {w w' : World} {B f d : Nat} {v : Value} {s : FX} (h : FH w B f d v s) {R : Nat → Prop} (k : Kp w w' R) (hR : ∀ x, Of f d v x → ¬ R x) : FH w' B f d v s := by
  obtain ⟨l1, l2⟩ := h.lt
  refine ⟨h.hf, h.hd, h.fd, ?_, ?_, h.md1, own_kp h.own k fun x hx => hR x (.inr (.inr hx)), h.nf, h.nd⟩
  · rw [k.block f l1 (hR f (.inl rfl))]; exact h.bf
  · rw [k.block d l2 (hR d (.inr (.inl rfl)))]; exact h.bd
theorem FH.old {w w' : World} {B f d : Nat} {v : Value} {s : FX} (h : FH w B f d v s) (hb : Below w.heap.size w w') : FH w' B f d v s := by
  refine h.kept (R := fun x => w.heap.size ≤ x) ⟨hb.os, hb.tape, hb.output, hb.size, fun k hk _ => hb.block k hk⟩ fun x hx => ?_
  obtain ⟨l1, l2⟩ := h.lt
  rcases hx with rfl | rfl | hx
  · omega
  · omega
  · have := (own_lt h.own x hx).2; omega
theorem FH.setHd {w : World} {B f d : Nat} {v : Value} {s : FX} (h : FH w B f d v s) (p r : Int) (c o : Bool) : FH (setb w f (CB [.int .i64 p, .int .i64 r, .bool c, .bool o, pt d 0] T.mem_File)) B f d v { s with pos := p, rdc := r, cl := c, ro := o } := by
  obtain ⟨l1, l2⟩ := h.lt
  have k := Kp.setb w f (CB [.int .i64 p, .int .i64 r, .bool c, .bool o, pt d 0] T.mem_File)
  refine ⟨h.hf, h.hd, h.fd, bk_setb_eq _ _ _ _ rfl l1, ?_, h.md1, own_kp h.own k fun x hx e => h.nf (by rw [hx, e]), h.nf, h.nd⟩
  rw [bk_setb_ne _ _ _ _ (Ne.symm h.fd)]
  exact h.bd
theorem FH.setPos {w : World} {B f d : Nat} {v : Value} {s : FX} (h : FH w B f d v s) (p : Int) : FH (setb w f (CB [.int .i64 p, .int .i64 s.rdc, .bool s.cl, .bool s.ro, pt d 0] T.mem_File)) B f d v { s with pos := p } := h.setHd p s.rdc s.cl s.ro
def seekX (s : FX) (off wh : Int) : Int := if wh = 0 then off else if wh = 1 then s.pos + off else if wh = 2 then s.bytes.length + off else s.pos
theorem seek_fx {w : World} {K : Value → World → Prop} {B f d : Nat} {v : Value} {s : FX} {off wh : Int} (h : FH w B f d v s) (hc : s.cl = false) (h1 : -4611686018427387904 ≤ off ∧ off ≤ 4611686018427387903) (h2 : -4611686018427387904 ≤ s.pos ∧ s.pos ≤ 4611686018427387903) (h3 : s.bytes.length ≤ 4611686018427387903)
    (hk : ∀ w', FH w' B f d v { s with pos := seekX s off wh } → Kp w w' (Of f d v) → K (tup [.int .i64 (seekX s off wh), .nilIface]) w') : Cl P Fn.mem_File_Seek #[pt f 0, .int .i64 off, .int .i64 wh] w K := by
  apply S_mem_File_Seek
  unfold F_mem_File_Seek
  have hf := h.bf
  have hd := h.bd
  have hmd := h.md1
  obtain ⟨l1, l2⟩ := h.lt
  have hfd := h.fd
  obtain ⟨a, cap, rfl⟩ := own_slice h.own
  have fin : ∀ p : Int, seekX s off wh = p → ∀ w', w' = setb w f (CB [.int .i64 p, .int .i64 s.rdc, .bool s.cl, .bool s.ro, pt d 0] T.mem_File) → K (tup [.int .i64 p, .nilIface]) w' := fun p e w' e2 => by
    subst e
    subst e2
    have kp := Kp.setb w f (CB [.int .i64 (seekX s off wh), .int .i64 s.rdc, .bool s.cl, .bool s.ro, pt d 0] T.mem_File)
    exact hk _ (h.setPos _) ⟨kp.os, kp.tape, kp.output, kp.size, fun k hk hn => kp.block k hk fun e3 => hn (.inl e3)⟩
  refine jn_with (fun t w' => w' = w) ?_ ?_
  · rintro t e w1 rfl
    refine jn_with (fun t w' => w' = setb w1 f (CB [.int .i64 (seekX s off wh), .int .i64 s.rdc, .bool s.cl, .bool s.ro, pt d 0] T.mem_File)) ?_ ?_
    · rintro t e w2 e2
      have hf2 : bk w2 f = some (CB [.int .i64 (seekX s off wh), .int .i64 s.rdc, .bool s.cl, .bool s.ro, pt d 0] T.mem_File) := by rw [e2]; exact bk_setb_eq _ _ _ _ rfl l1
      simp (disch := first | omega | (simp only [sZb, sZa, sZd] <;> omega) | (simp (disch := first | omega | (simp only [sZb, sZa, sZd] <;> omega) | fail) only [go_sem, hf2]; done) | fail) only [go_sem, dec_t, dec_f, w_u32, w_u64, w_u16, w_u8, w_i64, Int.reduceToNat, Int.reducePow, Nat.reducePow, hf2]
      exact fin _ rfl _ e2
    · by_cases c0 : wh = 0
      · simp (disch := first | omega | (simp only [sZb, sZa, sZd] <;> omega) | (simp (disch := first | omega | (simp only [sZb, sZa, sZd] <;> omega) | fail) only [go_sem, c0, hf, decide_true]; done) | fail) only [go_sem, dec_t, dec_f, w_u32, w_u64, w_u16, w_u8, w_i64, Int.reduceToNat, Int.reducePow, Nat.reducePow, c0, hf, decide_true]
        simp [seekX]
      by_cases c1 : wh = 1
      · simp (disch := first | omega | (simp only [sZb, sZa, sZd] <;> omega) | (simp (disch := first | omega | (simp only [sZb, sZa, sZd] <;> omega) | fail) only [go_sem, c0, c1, hf, decide_true, decide_false]; done) | fail) only [go_sem, dec_t, dec_f, w_u32, w_u64, w_u16, w_u8, w_i64, Int.reduceToNat, Int.reducePow, Nat.reducePow, c0, c1, hf, decide_true, decide_false]
        simp [seekX]
      by_cases c2 : wh = 2
      · simp (disch := first | omega | (simp only [sZb, sZa, sZd] <;> omega) | (simp (disch := first | omega | (simp only [sZb, sZa, sZd] <;> omega) | fail) only [go_sem, c0, c1, c2, hf, hd, decide_true, decide_false]; done) | fail) only [go_sem, dec_t, dec_f, w_u32, w_u64, w_u16, w_u8, w_i64, Int.reduceToNat, Int.reducePow, Nat.reducePow, c0, c1, c2, hf, hd, decide_true, decide_false]
        simp [seekX]
      · simp (disch := first | omega | (simp only [sZb, sZa, sZd] <;> omega) | (simp (disch := first | omega | (simp only [sZb, sZa, sZd] <;> omega) | fail) only [go_sem, c0, c1, c2, hf, decide_true, decide_false]; done) | fail) only [go_sem, dec_t, dec_f, w_u32, w_u64, w_u16, w_u8, w_i64, Int.reduceToNat, Int.reducePow, Nat.reducePow, c0, c1, c2, hf, decide_true, decide_false]
        have e5 : seekX s off wh = s.pos := by simp [seekX, c0, c1, c2]
        rw [e5]
        exact (setb_same hf).symm
  · simp (disch := first | omega | (simp only [sZb, sZa, sZd] <;> omega) | (simp (disch := first | omega | (simp only [sZb, sZa, sZd] <;> omega) | fail) only [go_sem, hf, hc]; done) | fail) only [go_sem, dec_t, dec_f, w_u32, w_u64, w_u16, w_u8, w_i64, Int.reduceToNat, Int.reducePow, Nat.reducePow, hf, hc]
def rdX (s : FX) (n : Nat) : List UInt8 × Nat := if 0 < n ∧ s.pos = s.bytes.length then ([], 4) else if (s.bytes.length : Int) < s.pos then ([], 5) else ((s.bytes.drop s.pos.toNat).take n, 0)
set_option maxHeartbeats 4000000 in
theorem read_fx {w : World} {K : Value → World → Prop} {B f d b n : Nat} {v : Value} {s : FX} {m : Nat → Nat × Nat} (h : FH w B f d v s) (hs : Sn w B m) (hc : s.cl = false) (h2 : 0 ≤ s.pos ∧ s.pos ≤ 4611686018427387903) (h3 : s.bytes.length ≤ 281474976710656) (hn : n ≤ 281474976710656)
    (hb : bk w b = some (CB (List.replicate n (.int .u8 0)) T.uint8)) (hbf : b ≠ f) (hbd : b ≠ d) (hbv : v.ownBlock ≠ some b)
    (hk : ∀ w', FH w' B f d v { s with pos := s.pos + (rdX s n).1.length } → Kp w w' (fun k => k = f ∨ k = b) → bk w' b = some (CB ((rdX s n).1.map byt ++ List.replicate (n - (rdX s n).1.length) (.int .u8 0)) T.uint8) → K (tup [.int .i64 (rdX s n).1.length, errV m (rdX s n).2]) w') :
    Cl P Fn.mem_File_Read #[pt f 0, sl b 0 n n] w K := by
  apply S_mem_File_Read
  unfold F_mem_File_Read
  have hf := h.bf
  have hd := h.bd
  have hmd := h.md1
  obtain ⟨l1, l2⟩ := h.lt
  have hfd := h.fd
  obtain ⟨a, cap, rfl⟩ := own_slice h.own
  obtain ⟨q1, t1, e1⟩ := hs.at_ G.io_EOF (by simp [sents])
  obtain ⟨q2, t2, e2⟩ := hs.at_ G.io_ErrUnexpectedEOF (by simp [sents])
  have fin0 : ∀ k, rdX s n = ([], k) → ∀ w', Kp w w' (fun _ => False) → K (tup [.int .i64 0, errV m k]) w' := fun k e w' kp => by
    have q := hk w'
    rw [e] at q
    refine q ?_ ⟨kp.os, kp.tape, kp.output, kp.size, fun x hx _ => kp.block x hx id⟩ ?_
    · have := h.kept kp fun _ _ h => h
      simpa using this
    · rw [kp.block b (bk_lt hb) id, hb]; simp
  have kd : ∀ {x : World}, Kp w x (fun _ => False) → Kp w x.drew (fun _ => False) := fun h => ⟨h.os, h.tape, h.output, h.size, h.block⟩
  refine jn_with (fun t w' => t = [.nilIface] ∧ w' = w) ?_ ?_
  · rintro t e w1 ⟨rfl, rfl⟩
    refine jn_with (fun t w' => t = [.nilIface] ∧ Kp w1 w' (fun _ => False) ∧ ¬ (0 < n ∧ s.pos = s.bytes.length)) ?_ ?_
    · rintro t e w2 ⟨rfl, k2, hn2⟩
      have hf2 := (k2.block f l1 id).trans hf
      have hd2 := (k2.block d l2 id).trans hd
      by_cases c2 : (s.bytes.length : Int) < s.pos
      · refine jn_with (fun _ _ => False) (fun _ _ _ h => h.elim) ?_
        have e3 : bk w2 G.io_ErrUnexpectedEOF = some (CB [er (m G.io_ErrUnexpectedEOF)] t2) := by
          rw [k2.block _ (by have := h.hf; omega) id, e2]
        simp (disch := first | omega | (simp only [sZb, sZa, sZd] <;> omega) | (simp (disch := first | omega | (simp only [sZb, sZa, sZd] <;> omega) | fail) only [go_sem, hf2, hd2, e3]; done) | fail) only [go_sem, dec_t, dec_f, w_u32, w_u64, w_u16, w_u8, w_i64, Int.reduceToNat, Int.reducePow, Nat.reducePow, hf2, hd2, e3]
        exact fin0 5 (by rw [rdX, if_neg hn2, if_pos c2]) _ (kd (kd k2))
      · refine jn_with (fun t w' => t = [.nilIface] ∧ Kp w1 w' (fun _ => False)) ?_ ?_
        · rintro t e w3 ⟨rfl, k3⟩
          have hf3 := (k3.block f l1 id).trans hf
          have hd3 := (k3.block d l2 id).trans hd
          have hb3 := (k3.block b (bk_lt hb) id).trans hb
          obtain ⟨p, hp⟩ := Int.eq_ofNat_of_zero_le h2.1
          have hpl : p ≤ s.bytes.length := by omega
          have erd : rdX s n = ((s.bytes.drop p).take n, 0) := by rw [rdX, if_neg hn2, if_neg c2, hp]; rfl
          have erl : (rdX s n).1.length = min n (s.bytes.length - p) := by rw [erd]; simp
          refine jn_with (fun t w' => t = [.int .i64 (rdX s n).1.length] ∧ Kp w1 w' (fun _ => False)) ?_ ?_
          · rintro t e w4 ⟨rfl, k4⟩
            have hf4 := (k4.block f l1 id).trans hf
            have hd4 := (k4.block d l2 id).trans hd
            have hb4 := (k4.block b (bk_lt hb) id).trans hb
            have lb4 : b < w4.heap.size := bk_lt hb4
            have lf4 : f < w4.heap.size := bk_lt hf4
            have ed : (rdX s n).1 = (s.bytes.drop p).take n := congrArg Prod.fst erd
            have ek : (rdX s n).2 = 0 := congrArg Prod.snd erd
            have h4 : FH w4.drew B f d (.slice a s.bytes.length cap) s := h.kept (kd k4) fun _ _ h => h
            generalize hM : (rdX s n).1.length = M at *
            rw [ek] at hk
            have hMl : p + M ≤ s.bytes.length := by omega
            have hMn : M ≤ n := by omega
            have fin : ∀ w5, w5 = setb w4.drew b (CB ((rdX s n).1.map byt ++ List.replicate (n - M) (.int .u8 0)) T.uint8) → ∀ w6, w6 = setb w5 f (CB [.int .i64 (s.pos + M), .int .i64 s.rdc, .bool s.cl, .bool s.ro, pt d 0] T.mem_File) → K (tup [.int .i64 M, .nilIface]) w6 := by
              rintro w5 rfl w6 rfl
              have k5 := Kp.setb w4.drew b (CB ((rdX s n).1.map byt ++ List.replicate (n - M) (.int .u8 0)) T.uint8)
              have h5 := h4.kept k5 fun x hx e => by
                subst e
                rcases hx with e | e | e
                · exact hbf e
                · exact hbd e
                · exact hbv e
              have h6 := h5.setPos (s.pos + M)
              refine hk _ h6 ?_ ?_
              · have k6 := Kp.setb (setb w4.drew b (CB ((rdX s n).1.map byt ++ List.replicate (n - M) (.int .u8 0)) T.uint8)) f (CB [.int .i64 (s.pos + M), .int .i64 s.rdc, .bool s.cl, .bool s.ro, pt d 0] T.mem_File)
                have q1 := (kd k4).trans (k5) (S := fun _ => False) (T := fun x => x = b)
                refine ⟨k6.os.trans (k5.os.trans k4.os), k6.tape.trans (k5.tape.trans k4.tape), k6.output.trans (k5.output.trans k4.output), ?_, ?_⟩
                · simp only [go_sem]; exact k4.size
                · intro x hx hn3
                  have n1 : x ≠ f := fun e => hn3 (.inl e)
                  have n2 : x ≠ b := fun e => hn3 (.inr e)
                  rw [bk_setb_ne _ _ _ _ n1, bk_setb_ne _ _ _ _ n2]
                  exact k4.block x hx id
              · rw [bk_setb_ne _ _ _ _ hbf]
                exact bk_setb_eq _ _ _ _ rfl (show b < w4.drew.heap.size from lb4)
            by_cases hz : s.bytes.length = 0
            · have hp0 : p = 0 := by omega
              have hM0 : M = 0 := by omega
              subst hp0 hM0
              have ei : ((0 : Nat) : Int) = 0 := rfl
              have sx : ∀ (L : Value → Prop), pu P (oSlice T.sl_uint8 (.slice a s.bytes.length cap) (some (.int .i64 0)) (some (.int .i64 0)) none) L = L (.slice a 0 cap) := fun L => oSlice_00 (size := 1) U.sl_uint8 (by kernel_rfl)
              have cp : ∀ (w : World) (L : Value → World → Prop), st P (oBuiltin .copy #[T.sl_uint8, T.sl_uint8] T.int #[false, false] #[sl b 0 n n, .slice a 0 cap]) w L = L (.int .i64 0) w := fun w L => oCopy0 U.sl_uint8 (by kernel_rfl)
              have er0 : (rdX s n).1 = [] := List.length_eq_zero_iff.1 hM
              have f5 := fin w4.drew (by
                rw [er0]
                simp only [List.map_nil, List.nil_append, Nat.sub_zero]
                exact (setb_same (w := w4.drew) hb4).symm) _ rfl
              rw [hp] at f5
              simp (disch := first | omega | (simp only [sZb, sZa, sZd] <;> omega) | (simp (disch := first | omega | (simp only [sZb, sZa, sZd] <;> omega) | fail) only [go_sem, hf4, hd4, hp, ei, Int.add_zero, sx, cp]; done) | fail) only [go_sem, dec_t, dec_f, w_u32, w_u64, w_u16, w_u8, w_i64, Int.reduceToNat, Int.reducePow, Nat.reducePow, hf4, hd4, hp, ei, Int.add_zero, sx, cp]
              simpa using f5
            · obtain ⟨b', cap', cur, ev, r1, r2, r3, r4, r5, r6⟩ := own_row h4.own hz
              injection ev with ev1 ev2 ev3
              subst ev1 ev3
              obtain ⟨o', eo, hro⟩ := part_at (w := w4.drew) (b := b') (cap := cap) r4 (by omega) (by simpa using r6) r1 p M hMl
              have sx : ∀ (L : Value → Prop), pu P (oSlice T.sl_uint8 (sl b' 0 s.bytes.length cap) (some (.int .i64 p)) (some (.int .i64 ((p : Int) + M))) none) L = L (sl b' o' M (cap - p)) := fun L => by
                rw [oSlice_sl (size := 1) L U.sl_uint8 (by kernel_rfl) (by omega) (by omega) (by omega)]
                rw [show (p : Int).toNat = p by omega, show ((p : Int) + M).toNat - p = M by omega, eo]
              have hpre : (rdX s n).1 = (s.bytes.drop p).take M := by
                have q := List.prefix_iff_eq_take.1 (List.take_prefix n (s.bytes.drop p))
                rw [← ed, hM] at q
                exact q
              have hl : ((s.bytes.drop p).take M).length = M := by rw [← hpre, hM]
              have cp : ∀ (L : Value → World → Prop), st P (oBuiltin .copy #[T.sl_uint8, T.sl_uint8] T.int #[false, false] #[sl b 0 n n, sl b' o' M (cap - p)]) w4.drew L = L (.int .i64 M) (setb w4.drew b (CB ((rdX s n).1.map byt ++ List.replicate (n - M) (.int .u8 0)) T.uint8)) := fun L => by
                rw [oCopy L w4.drew (tE := T.uint8) (l0 := List.replicate n (.int .u8 0)) (t := T.uint8) (l := (s.bytes.drop p).take M) U.sl_uint8 (by kernel_rfl) hb4 hl.symm (by omega) (by simp only [List.length_replicate]; omega) hro]
                rw [hl, ← hpre]
                simp
              have f5 := fin _ rfl _ rfl
              rw [hp] at f5
              have hf5 : bk (setb w4.drew b (CB ((rdX s n).1.map byt ++ List.replicate (n - M) (.int .u8 0)) T.uint8)) f = some (CB [.int .i64 s.pos, .int .i64 s.rdc, .bool s.cl, .bool s.ro, pt d 0] T.mem_File) := by
                rw [bk_setb_ne _ _ _ _ (Ne.symm hbf)]; exact hf4
              simp (disch := first | omega | (simp only [sZb, sZa, sZd] <;> omega) | (simp (disch := first | omega | (simp only [sZb, sZa, sZd] <;> omega) | fail) only [go_sem, hf4, hd4, hp, sx, cp, hf5]; done) | fail) only [go_sem, dec_t, dec_f, w_u32, w_u64, w_u16, w_u8, w_i64, Int.reduceToNat, Int.reducePow, Nat.reducePow, hf4, hd4, hp, sx, cp, hf5]
              exact f5
          · rw [erl]
            by_cases c3 : (n : Int) ≤ (s.bytes.length : Int) - p
            · simp (disch := first | omega | (simp only [sZb, sZa, sZd] <;> omega) | (simp (disch := first | omega | (simp only [sZb, sZa, sZd] <;> omega) | fail) only [go_sem, hf3, hd3, hp]; done) | fail) only [go_sem, dec_t, dec_f, w_u32, w_u64, w_u16, w_u8, w_i64, Int.reduceToNat, Int.reducePow, Nat.reducePow, hf3, hd3, hp]
              exact ⟨by rw [Nat.min_eq_left (by omega)], kd k3⟩
            · simp (disch := first | omega | (simp only [sZb, sZa, sZd] <;> omega) | (simp (disch := first | omega | (simp only [sZb, sZa, sZd] <;> omega) | fail) only [go_sem, hf3, hd3, hp]; done) | fail) only [go_sem, dec_t, dec_f, w_u32, w_u64, w_u16, w_u8, w_i64, Int.reduceToNat, Int.reducePow, Nat.reducePow, hf3, hd3, hp]
              refine ⟨?_, kd (kd k3)⟩
              have e9 : ((s.bytes.length : Int) - p) = (min n (s.bytes.length - p) : Nat) := by omega
              rw [e9]
        · simp (disch := first | omega | (simp only [sZb, sZa, sZd] <;> omega) | (simp (disch := first | omega | (simp only [sZb, sZa, sZd] <;> omega) | fail) only [go_sem, hf2, hd2]; done) | fail) only [go_sem, dec_t, dec_f, w_u32, w_u64, w_u16, w_u8, w_i64, Int.reduceToNat, Int.reducePow, Nat.reducePow, hf2, hd2]
          exact ⟨trivial, kd k2⟩
    · by_cases c1 : 0 < n ∧ s.pos = s.bytes.length
      · have g1 : (0 : Int) < n := by omega
        have g2 : s.pos = (s.bytes.length : Int) := c1.2
        simp (disch := first | omega | (simp only [sZb, sZa, sZd] <;> omega) | (simp (disch := first | omega | (simp only [sZb, sZa, sZd] <;> omega) | fail) only [go_sem, hf, hd, e1]; done) | fail) only [go_sem, dec_t, dec_f, w_u32, w_u64, w_u16, w_u8, w_i64, Int.reduceToNat, Int.reducePow, Nat.reducePow, hf, hd, e1]
        exact fin0 4 (by rw [rdX, if_pos c1]) _ (kd (kd (Kp.refl _ _)))
      · by_cases g1 : (0 : Int) < n
        · have g2 : ¬ s.pos = (s.bytes.length : Int) := fun e => c1 ⟨by omega, e⟩
          simp (disch := first | omega | (simp only [sZb, sZa, sZd] <;> omega) | (simp (disch := first | omega | (simp only [sZb, sZa, sZd] <;> omega) | fail) only [go_sem, hf, hd]; done) | fail) only [go_sem, dec_t, dec_f, w_u32, w_u64, w_u16, w_u8, w_i64, Int.reduceToNat, Int.reducePow, Nat.reducePow, hf, hd]
          exact ⟨trivial, kd (Kp.refl _ _), c1⟩
        · simp (disch := first | omega | (simp only [sZb, sZa, sZd] <;> omega) | (simp (disch := first | omega | (simp only [sZb, sZa, sZd] <;> omega) | fail) only [go_sem, hf, hd]; done) | fail) only [go_sem, dec_t, dec_f, w_u32, w_u64, w_u16, w_u8, w_i64, Int.reduceToNat, Int.reducePow, Nat.reducePow, hf, hd]
          exact ⟨trivial, kd (Kp.refl _ _), c1⟩
  · simp (disch := first | omega | (simp only [sZb, sZa, sZd] <;> omega) | (simp (disch := first | omega | (simp only [sZb, sZa, sZd] <;> omega) | fail) only [go_sem, hf, hc]; done) | fail) only [go_sem, dec_t, dec_f, w_u32, w_u64, w_u16, w_u8, w_i64, Int.reduceToNat, Int.reducePow, Nat.reducePow, hf, hc]
    exact ⟨trivial, trivial⟩
theorem readAt_fx {w : World} {K : Value → World → Prop} {B f d b n : Nat} {v : Value} {s : FX} {m : Nat → Nat × Nat} {off : Int} (h : FH w B f d v s) (hs : Sn w B m) (hc : s.cl = false) (h2 : 0 ≤ off ∧ off ≤ 4611686018427387903) (h3 : s.bytes.length ≤ 281474976710656) (hn : n ≤ 281474976710656)
    (hb : bk w b = some (CB (List.replicate n (.int .u8 0)) T.uint8)) (hbf : b ≠ f) (hbd : b ≠ d) (hbv : v.ownBlock ≠ some b)
    (hk : ∀ w', FH w' B f d v s → Kp w w' (fun k => k = f ∨ k = b) → bk w' b = some (CB ((rdX { s with pos := off } n).1.map byt ++ List.replicate (n - (rdX { s with pos := off } n).1.length) (.int .u8 0)) T.uint8) → K (tup [.int .i64 (rdX { s with pos := off } n).1.length, errV m (rdX { s with pos := off } n).2]) w') :
    Cl P Fn.mem_File_ReadAt #[pt f 0, sl b 0 n n, .int .i64 off] w K := by
  apply S_mem_File_ReadAt
  unfold F_mem_File_ReadAt
  have hf := h.bf
  obtain ⟨l1, l2⟩ := h.lt
  simp (disch := first | omega | (simp only [sZb, sZa, sZd] <;> omega) | (simp (disch := first | omega | (simp only [sZb, sZa, sZd] <;> omega) | fail) only [go_sem, hf]; done) | fail) only [go_sem, dec_t, dec_f, w_u32, w_u64, w_u16, w_u8, w_i64, Int.reduceToNat, Int.reducePow, Nat.reducePow, hf]
  have h5 := h.setPos off
  have k5 := Kp.setb w f (CB [.int .i64 off, .int .i64 s.rdc, .bool s.cl, .bool s.ro, pt d 0] T.mem_File)
  refine read_fx (m := m) h5 (hs.below (k5.below (fun x hx e => by have := h.hf; omega) (by have := h.hf; omega))) hc h2 h3 hn (by rw [bk_setb_ne _ _ _ _ hbf]; exact hb) hbf hbd hbv fun w2 F2 K2 kb => ?_
  have hf2 := F2.bf
  have l3 := bk_lt hf2
  simp (disch := first | omega | (simp only [sZb, sZa, sZd] <;> omega) | (simp (disch := first | omega | (simp only [sZb, sZa, sZd] <;> omega) | fail) only [go_sem, hf2]; done) | fail) only [go_sem, dec_t, dec_f, w_u32, w_u64, w_u16, w_u8, w_i64, Int.reduceToNat, Int.reducePow, Nat.reducePow, hf2]
  have F3 := F2.setPos s.pos
  refine hk _ F3 ?_ ?_
  · have k6 := Kp.setb w2 f (CB [.int .i64 s.pos, .int .i64 s.rdc, .bool s.cl, .bool s.ro, pt d 0] T.mem_File)
    have k5' : Kp w (setb w f (CB [.int .i64 off, .int .i64 s.rdc, .bool s.cl, .bool s.ro, pt d 0] T.mem_File)) (fun k => k = f ∨ k = b) := ⟨k5.os, k5.tape, k5.output, k5.size, fun k hk hn => k5.block k hk fun e => hn (.inl e)⟩
    exact (k5'.trans K2 fun _ _ h => h).trans k6 fun x hx e => .inl e
  · rw [bk_setb_ne _ _ _ _ hbf]; exact kb
def wrX (s : FX) (l : List UInt8) : List UInt8 :=
  if (s.bytes.length : Int) < s.pos then s.bytes ++ (List.replicate (s.pos.toNat - s.bytes.length) 0 ++ l) else s.bytes.take s.pos.toNat ++ l ++ s.bytes.drop (s.pos.toNat + l.length)
theorem FH.setData {w : World} {B f d : Nat} {v v' : Value} {s s' : FX} (h : FH w B f d v s) (e : s'.pos = s.pos ∧ s'.rdc = s.rdc ∧ s'.cl = s.cl ∧ s'.ro = s.ro) (o : w.ownsRow B T.uint8 1 v' s'.bytes.length (s'.bytes.map byt)) (n1 : v'.ownBlock ≠ some f) (n2 : v'.ownBlock ≠ some d) (hmd : s'.md.oneCell' = true) :
    FH (setb w d (CB [S s'.nm, v', s'.md, .bool s'.dir, .int .u32 s'.mode, .int .i64 s'.mt, .int .i64 s'.uid, .int .i64 s'.gid] T.mem_FileData)) B f d v' s' := by
  obtain ⟨l1, l2⟩ := h.lt
  have k := Kp.setb w d (CB [S s'.nm, v', s'.md, .bool s'.dir, .int .u32 s'.mode, .int .i64 s'.mt, .int .i64 s'.uid, .int .i64 s'.gid] T.mem_FileData)
  refine ⟨h.hf, h.hd, h.fd, ?_, bk_setb_eq _ _ _ _ rfl l2, hmd, own_kp o k fun x hx e => n2 (by rw [hx, e]), n1, n2⟩
  rw [bk_setb_ne _ _ _ _ h.fd, e.1, e.2.1, e.2.2.1, e.2.2.2]
  exact h.bf
set_option maxHeartbeats 8000000 in
theorem write_fx {w : World} {K : Value → World → Prop} {B f d : Nat} {v x : Value} {s : FX} {l : List UInt8} (h : FH w B f d v s) (hc : s.cl = false) (hro : s.ro = false) (hx : BS w x l) (hxf : x.ownBlock ≠ some f) (hxd : x.ownBlock ≠ some d) (h0 : 0 ≤ s.pos) (h1 : s.pos + l.length ≤ 140737488355328) (h2 : s.bytes.length ≤ 140737488355328)
    (hk : ∀ w' v', FH w' B f d v' { s with bytes := wrX s l, pos := s.pos + l.length, mt := 0 } → Kp w w' (Of f d v) → (v'.ownBlock = v.ownBlock ∨ ∀ k, v'.ownBlock = some k → w.heap.size ≤ k) → K (tup [.int .i64 l.length, .nilIface]) w') : Cl P Fn.mem_File_Write #[pt f 0, x] w K := by
  apply S_mem_File_Write
  unfold F_mem_File_Write
  have hf := h.bf
  have hd := h.bd
  have hmd := h.md1
  obtain ⟨l1, l2⟩ := h.lt
  have hfd := h.fd
  have hBf := h.hf
  have hBd := h.hd
  have hnf := h.nf
  have hnd := h.nd
  have hown := h.own
  have hlt := own_lt h.own
  obtain ⟨a, cap, ev, hcap⟩ := own_cap h.own
  obtain ⟨xa, xc, ex⟩ := BS_slice hx
  obtain ⟨p, hp⟩ := Int.eq_ofNat_of_zero_le h0
  refine jn_with (fun t w' => t = [.nilIface] ∧ w' = w) ?_ ?_
  · rintro t e w1 ⟨rfl, rfl⟩
    refine jn_with (fun t w' => t = [.nilIface] ∧ w' = w1) ?_ ?_
    · rintro t e w2 ⟨rfl, rfl⟩
      subst ex ev
      simp (disch := first | omega | (simp only [sZb, sZa, sZd] <;> omega) | (simp (disch := first | omega | (simp only [sZb, sZa, sZd] <;> omega) | fail) only [go_sem, hf, hd]; done) | fail) only [go_sem, dec_t, dec_f, w_u32, w_u64, w_u16, w_u8, w_i64, Int.reduceToNat, Int.reducePow, Nat.reducePow, hf, hd]
      refine jn_with (fun t w' => w' = w2 ∧ ((¬ p + l.length < s.bytes.length ∧ t = [.slice none 0 0]) ∨ (p + l.length < s.bytes.length ∧ ∃ g, a = some ⟨g, 0, none⟩ ∧ t = [sl g (p + l.length) (s.bytes.length - (p + l.length)) (cap - (p + l.length))]))) ?_ ?_
      · rintro t e w3 ⟨rfl, ht⟩
        refine jn_with (fun t w' => ∃ v', FH w' B f d v' { s with bytes := wrX s l } ∧ Kp w3 w' (Of f d (.slice a s.bytes.length cap)) ∧ (v'.ownBlock = (Value.slice a s.bytes.length cap).ownBlock ∨ ∀ k, v'.ownBlock = some k → w3.heap.size ≤ k)) ?_ ?_
        · rintro t e w4 ⟨v4, F4, K4, a4⟩
          have hf4 := F4.bf
          have hd4 := F4.bd
          obtain ⟨l14, l24⟩ := F4.lt
          simp (disch := first | omega | (simp only [sZb, sZa, sZd] <;> omega) | (simp (disch := first | omega | (simp only [sZb, sZa, sZd] <;> omega) | fail) only [go_sem, hf4]; done) | fail) only [go_sem, dec_t, dec_f, w_u32, w_u64, w_u16, w_u8, w_i64, Int.reduceToNat, Int.reducePow, Nat.reducePow, hf4]
          apply S_mem_setModTime
          unfold F_mem_setModTime
          simp (disch := first | omega | (simp only [sZb, sZa, sZd] <;> omega) | (simp (disch := first | omega | (simp only [sZb, sZa, sZd] <;> omega) | fail) only [go_sem, hd4, hf4]; done) | fail) only [go_sem, dec_t, dec_f, w_u32, w_u64, w_u16, w_u8, w_i64, Int.reduceToNat, Int.reducePow, Nat.reducePow, hd4, hf4]
          have F5 := F4.setData (s' := { s with bytes := wrX s l, mt := 0 }) ⟨rfl, rfl, rfl, rfl⟩ F4.own F4.nf F4.nd hmd
          have K5 := K4.trans (Kp.setb w4 d (CB [S s.nm, v4, s.md, .bool s.dir, .int .u32 s.mode, .int .i64 0, .int .i64 s.uid, .int .i64 s.gid] T.mem_FileData)) fun y _ e => .inr (.inl e)
          refine hk _ _ (F5.setPos (s.pos + l.length)) (K5.trans (Kp.setb _ f _) fun y _ e => .inl e) a4
        · have fin : ∀ w5 v5, bk w5 f = some (CB [.int .i64 s.pos, .int .i64 s.rdc, .bool s.cl, .bool s.ro, pt d 0] T.mem_File) → w5.ownsRow B T.uint8 1 v5 (wrX s l).length ((wrX s l).map byt) → v5.ownBlock ≠ some f → v5.ownBlock ≠ some d → Kp w3 w5 (Of f d (.slice a s.bytes.length cap)) → (v5.ownBlock = (Value.slice a s.bytes.length cap).ownBlock ∨ ∀ k, v5.ownBlock = some k → w3.heap.size ≤ k) → ∀ w6, w6 = setb w5 d (CB [S s.nm, v5, s.md, .bool s.dir, .int .u32 s.mode, .int .i64 s.mt, .int .i64 s.uid, .int .i64 s.gid] T.mem_FileData) →
              ∃ v', FH w6 B f d v' { s with bytes := wrX s l } ∧ Kp w3 w6 (Of f d (.slice a s.bytes.length cap)) ∧ (v'.ownBlock = (Value.slice a s.bytes.length cap).ownBlock ∨ ∀ k, v'.ownBlock = some k → w3.heap.size ≤ k) := by
            rintro w5 v5 f5 o5 n1 n2 K5 a5 w6 rfl
            have k := Kp.setb w5 d (CB [S s.nm, v5, s.md, .bool s.dir, .int .u32 s.mode, .int .i64 s.mt, .int .i64 s.uid, .int .i64 s.gid] T.mem_FileData)
            have z5 := K5.size
            refine ⟨v5, ⟨hBf, hBd, hfd, ?_, bk_setb_eq _ _ _ _ rfl (by omega), hmd, own_kp o5 k fun y hy e => n2 (by rw [hy, e]), n1, n2⟩, K5.trans k fun y _ e => .inr (.inl e), a5⟩
            rw [bk_setb_ne _ _ _ _ hfd]
            exact f5
          have fin2 : ∀ w6 v6, bk w6 f = some (CB [.int .i64 s.pos, .int .i64 s.rdc, .bool s.cl, .bool s.ro, pt d 0] T.mem_File) → w6.ownsRow B T.uint8 1 v6 (wrX s l).length ((wrX s l).map byt) → v6.ownBlock ≠ some f → v6.ownBlock ≠ some d → Kp w3 w6 (Of f d (.slice a s.bytes.length cap)) → (v6.ownBlock = (Value.slice a s.bytes.length cap).ownBlock ∨ ∀ k, v6.ownBlock = some k → w3.heap.size ≤ k) →
              st P (oBuiltin .append #[T.sl_uint8, T.sl_uint8] T.sl_uint8 #[false, false] #[v6, .slice none 0 0]) (setb w6 d (CB [S s.nm, v6, s.md, .bool s.dir, .int .u32 s.mode, .int .i64 s.mt, .int .i64 s.uid, .int .i64 s.gid] T.mem_FileData)).drew fun t100 w16 => hold P (oLoad T.p_mem_FileData (.pointer (some ⟨f, 4, none⟩))) (pt d 0) w16 ∧ st P (oStore T.sl_uint8 (.pointer (some ⟨d, 1, none⟩)) t100) w16 fun _ w17 =>
                ∃ v', FH w17 B f d v' { s with bytes := wrX s l } ∧ Kp w3 w17 (Of f d (.slice a s.bytes.length cap)) ∧ (v'.ownBlock = (Value.slice a s.bytes.length cap).ownBlock ∨ ∀ k, v'.ownBlock = some k → w3.heap.size ≤ k) := by
            intro w6 v6 hf6 o6 n61 n62 K6 a6
            have z6 := K6.size
            have o7 := own_kp o6 ((Kp.setb w6 d (CB [S s.nm, v6, s.md, .bool s.dir, .int .u32 s.mode, .int .i64 s.mt, .int .i64 s.uid, .int .i64 s.gid] T.mem_FileData)).trans (Kp.drew _ (fun k => k = d)) fun _ _ h => h) fun k hk e => n62 (by rw [hk, e])
            have one6 : v6.oneCell' = true := by obtain ⟨_, _, rfl⟩ := own_slice o6; rfl
            rw [app_nil o7]
            simp (disch := first | omega | (simp only [sZb, sZa, sZd] <;> omega) | (simp (disch := first | omega | (simp only [sZb, sZa, sZd] <;> omega) | fail) only [go_sem, hf6, one6]; done) | fail) only [go_sem, dec_t, dec_f, w_u32, w_u64, w_u16, w_u8, w_i64, Int.reduceToNat, Int.reducePow, Nat.reducePow, hf6, one6]
            refine ⟨trivial, ?_⟩
            rw [setb_same (w := (setb w6 d (CB [S s.nm, v6, s.md, .bool s.dir, .int .u32 s.mode, .int .i64 s.mt, .int .i64 s.uid, .int .i64 s.gid] T.mem_FileData)).drew) (by show bk (setb w6 d _) d = _; exact bk_setb_eq _ _ _ _ rfl (by omega))]
            exact fin w6.drew v6 hf6 o6 n61 n62 (K6.trans (Kp.drew _ (fun _ => False)) fun _ _ h => h.elim) a6 _ rfl
          rcases ht with ⟨g1, rfl⟩ | ⟨g1, g, rfl, rfl⟩
          · by_cases g2 : s.bytes.length < p
            · have ed : s.pos - (s.bytes.length : Int) = ((p - s.bytes.length : Nat) : Int) := by omega
              generalize hm : p - s.bytes.length = m at *
              simp (disch := first | omega | (simp only [sZb, sZa, sZd] <;> omega) | (simp (disch := first | omega | (simp only [sZb, sZa, sZd] <;> omega) | fail) only [go_sem, ed]; done) | fail) only [go_sem, dec_t, dec_f, w_u32, w_u64, w_u16, w_u8, w_i64, Int.reduceToNat, Int.reducePow, Nat.reducePow, ed]
              simp (disch := first | omega | (simp only [sZb, sZa, sZd] <;> omega) | (simp (disch := first | omega | (simp only [sZb, sZa, sZd] <;> omega) | fail) only [go_sem, hf, hd]; done) | fail) only [go_sem, dec_t, dec_f, w_u32, w_u64, w_u16, w_u8, w_i64, Int.reduceToNat, Int.reducePow, Nat.reducePow, hf, hd]
              rw [oMkB U.sl_uint8 (by kernel_rfl) m (by omega)]
              have oz : (w3.drew.alloc (CB (List.replicate m (.int .u8 0)) T.uint8)).ownsRow w3.heap.size T.uint8 1 (sl w3.heap.size 0 m m) m ((List.replicate m (0 : UInt8)).map byt) := ⟨by simp, .inr ⟨w3.heap.size, m, (List.replicate m (.int .u8 0)).toArray, rfl, Nat.le_refl _, heap_alloc_new w3.drew _, Nat.le_refl _, by simp only [maxLen]; omega, by simp, by rw [byt_zeros]; simp⟩⟩
              have B4 : Below w3.heap.size w3 (w3.drew.alloc (CB (List.replicate m (.int .u8 0)) T.uint8)) := by repeat (first | exact Below.refl _ _ | assumption | refine bel_setb ?_ (by first | exact Nat.le_refl _ | omega | (simp only [go_sem] <;> omega)) _ | refine Below.alloc ?_ (by first | exact Nat.le_refl _ | omega | (simp only [go_sem]; omega)) _ | refine Below.drew ?_)
              have z4 : (w3.drew.alloc (CB (List.replicate m (.int .u8 0)) T.uint8)).heap.size = w3.heap.size + 1 := by simp only [go_sem]
              rw [show sl w3.drew.heap.size 0 m m = sl w3.heap.size 0 m m from rfl]
              generalize w3.drew.alloc (CB (List.replicate m (.int .u8 0)) T.uint8) = w4 at *
              have hf4 := (bel_bk B4 l1).trans hf
              have hd4 := (bel_bk B4 l2).trans hd
              simp (disch := first | omega | (simp only [sZb, sZa, sZd] <;> omega) | (simp (disch := first | omega | (simp only [sZb, sZa, sZd] <;> omega) | fail) only [go_sem, hf4, hd4]; done) | fail) only [go_sem, dec_t, dec_f, w_u32, w_u64, w_u16, w_u8, w_i64, Int.reduceToNat, Int.reducePow, Nat.reducePow, hf4, hd4]
              refine ⟨trivial, trivial, trivial, ?_⟩
              refine oAppendBS U.sl_uint8 (by kernel_rfl) oz (BS_old hx B4 (Nat.le_refl _)) (by omega) (by omega) fun y w5 o5 g5 a5 => ?_
              have K5 := Kp.of_grown g5
              have z5 := K5.size
              have n5 : ∀ k, k < w3.heap.size → ¬ ((sl w3.heap.size 0 m m).ownBlock = some k) := fun k hk e => by
                have e2 : w3.heap.size = k := Option.some.inj e
                omega
              have hf5 := (K5.block f (by omega) (n5 f l1)).trans hf4
              have hd5 := (K5.block d (by omega) (n5 d l2)).trans hd4
              have own5 := own_kp (own_old hown B4 (Nat.le_refl _)) K5 fun k hk => n5 k (hlt k hk).2
              have y5 : ∀ k, y.ownBlock = some k → w3.heap.size ≤ k := fun k hk => (own_lt o5 k hk).1
              rw [← List.map_append] at o5
              have el : (List.replicate m (0 : UInt8) ++ l).length = m + l.length := by simp
              rw [← el] at o5
              have by5 := BS_own o5
              have B5 : Below w3.heap.size w3 w5 := B4.trans (K5.below (fun k hk => n5 k hk) (by omega))
              obtain ⟨ya, yc, ey⟩ := own_slice o5
              simp (disch := first | omega | (simp only [sZb, sZa, sZd] <;> omega) | (simp (disch := first | omega | (simp only [sZb, sZa, sZd] <;> omega) | fail) only [go_sem, hf5, hd5]; done) | fail) only [go_sem, dec_t, dec_f, w_u32, w_u64, w_u16, w_u8, w_i64, Int.reduceToNat, Int.reducePow, Nat.reducePow, hf5, hd5]
              refine ⟨trivial, trivial, trivial, ?_⟩
              refine oAppendBS U.sl_uint8 (by kernel_rfl) own5 by5 (by omega) (by omega) fun v6 w6 o6 g6 a6 => ?_
              have K6 := Kp.of_grown g6
              have z6 := K6.size
              have hf6 := (K6.block f (by omega) hnf).trans hf5
              have hd6 := (K6.block d (by omega) hnd).trans hd5
              have ew : wrX s l = s.bytes ++ (List.replicate m (0 : UInt8) ++ l) := by
                unfold wrX
                rw [if_pos (by omega)]
                congr 3
                omega
              rw [← List.map_append, ← ew] at o6
              rw [show s.bytes.length + (List.replicate m (0 : UInt8) ++ l).length = (wrX s l).length by rw [ew, List.length_append, List.length_append, List.length_append]] at o6
              have n61 : v6.ownBlock ≠ some f := fun e => by
                rcases a6 with h | h
                · exact hnf (by rw [← h]; exact e)
                · rw [h] at e; have := Option.some.inj e; omega
              have n62 : v6.ownBlock ≠ some d := fun e => by
                rcases a6 with h | h
                · exact hnd (by rw [← h]; exact e)
                · rw [h] at e; have := Option.some.inj e; omega
              have a6' : v6.ownBlock = (Value.slice a s.bytes.length cap).ownBlock ∨ ∀ k, v6.ownBlock = some k → w3.heap.size ≤ k := by
                rcases a6 with h | h
                · exact .inl h
                · exact .inr fun k hk => by rw [h] at hk; have := Option.some.inj hk; omega
              have K6' : Kp w3 w6 (Of f d (.slice a s.bytes.length cap)) := (Kp.of_below B5 _).trans K6 fun y _ e => .inr (.inr e)
              have one6 : v6.oneCell' = true := by obtain ⟨_, _, rfl⟩ := own_slice o6; rfl
              simp (disch := first | omega | (simp only [sZb, sZa, sZd] <;> omega) | (simp (disch := first | omega | (simp only [sZb, sZa, sZd] <;> omega) | fail) only [go_sem, hf6, hd6, one6]; done) | fail) only [go_sem, dec_t, dec_f, w_u32, w_u64, w_u16, w_u8, w_i64, Int.reduceToNat, Int.reducePow, Nat.reducePow, hf6, hd6, one6]
              refine ⟨trivial, ?_⟩
              exact fin2 w6 v6 hf6 o6 n61 n62 K6' a6'
            · simp (disch := first | omega | (simp only [sZb, sZa, sZd] <;> omega) | (simp (disch := first | omega | (simp only [sZb, sZa, sZd] <;> omega) | fail) only [go_sem, hp]; done) | fail) only [go_sem, dec_t, dec_f, w_u32, w_u64, w_u16, w_u8, w_i64, Int.reduceToNat, Int.reducePow, Nat.reducePow, hp]
              simp (disch := first | omega | (simp only [sZb, sZa, sZd] <;> omega) | (simp (disch := first | omega | (simp only [sZb, sZa, sZd] <;> omega) | fail) only [go_sem, hp, hf, hd]; done) | fail) only [go_sem, dec_t, dec_f, w_u32, w_u64, w_u16, w_u8, w_i64, Int.reduceToNat, Int.reducePow, Nat.reducePow, hp, hf, hd]
              obtain ⟨v4, o4, e4, sl4, _⟩ := own_hi U.sl_uint8 (by kernel_rfl) hown (p := p) (by omega)
              simp (disch := first | omega | (simp only [sZb, sZa, sZd] <;> omega) | (simp (disch := first | omega | (simp only [sZb, sZa, sZd] <;> omega) | fail) only [go_sem, hp, hf, hd, sl4]; done) | fail) only [go_sem, dec_t, dec_f, w_u32, w_u64, w_u16, w_u8, w_i64, Int.reduceToNat, Int.reducePow, Nat.reducePow, hp, hf, hd, sl4]
              refine oAppendBS (w := w3.drew) U.sl_uint8 (by kernel_rfl) (own_kp o4 (Kp.drew _ (fun _ => False)) fun _ _ h => h) (show BS w3.drew _ l from hx) (by omega) (by show B ≤ w3.heap.size; omega) fun v6 w6 o6 g6 a6 => ?_
              have K6 := Kp.of_grown g6
              have z6 : w3.heap.size ≤ w6.heap.size := K6.size
              rw [e4] at K6 a6
              have hf6 := (K6.block f l1 hnf).trans hf
              have hd6 := (K6.block d l2 hnd).trans hd
              have ew : wrX s l = s.bytes.take p ++ l := by
                unfold wrX
                rw [if_neg (by omega), hp]
                simp only [Int.toNat_natCast]
                rw [List.drop_of_length_le (by omega), List.append_nil]
              rw [← List.map_take, ← List.map_append, ← ew] at o6
              rw [show p + l.length = (wrX s l).length by rw [ew, List.length_append, List.length_take]; omega] at o6
              have n61 : v6.ownBlock ≠ some f := fun e => by
                rcases a6 with h | h
                · exact hnf (by rw [← h]; exact e)
                · rw [h] at e
                  have e2 : w3.heap.size = f := Option.some.inj e
                  omega
              have n62 : v6.ownBlock ≠ some d := fun e => by
                rcases a6 with h | h
                · exact hnd (by rw [← h]; exact e)
                · rw [h] at e
                  have e2 : w3.heap.size = d := Option.some.inj e
                  omega
              have a6' : v6.ownBlock = (Value.slice a s.bytes.length cap).ownBlock ∨ ∀ k, v6.ownBlock = some k → w3.heap.size ≤ k := by
                rcases a6 with h | h
                · exact .inl h
                · refine .inr fun k hk => ?_
                  rw [h] at hk
                  have e2 : w3.heap.size = k := Option.some.inj hk
                  omega
              have K6' : Kp w3 w6 (Of f d (.slice a s.bytes.length cap)) := ((Kp.drew w3 _).trans K6 (S := Of f d (.slice a s.bytes.length cap)) (T := fun k => (Value.slice a s.bytes.length cap).ownBlock = some k) fun y _ e => .inr (.inr e))
              have one6 : v6.oneCell' = true := by obtain ⟨_, _, rfl⟩ := own_slice o6; rfl
              rw [hp] at hf6
              simp (disch := first | omega | (simp only [sZb, sZa, sZd] <;> omega) | (simp (disch := first | omega | (simp only [sZb, sZa, sZd] <;> omega) | fail) only [go_sem, hf6, hd6, one6]; done) | fail) only [go_sem, dec_t, dec_f, w_u32, w_u64, w_u16, w_u8, w_i64, Int.reduceToNat, Int.reducePow, Nat.reducePow, hf6, hd6, one6]
              refine ⟨trivial, ?_⟩
              have q := fin2 w6 v6 (by rw [hp]; exact hf6) o6 n61 n62 K6' a6'
              rw [hp] at q
              exact q
          · obtain ⟨b', cap', cur, ev, r1, r2, r3, r4, r5, r6⟩ := own_row hown (by omega)
            injection ev with ev1 ev2 ev3
            injection ev1 with ev1
            injection ev1 with ev1
            subst ev1 ev3
            rw [Nat.mul_one] at r5 r6
            have gp : ¬ ((s.bytes.length : Int) < p) := by omega
            simp (disch := first | omega | (simp only [sZb, sZa, sZd] <;> omega) | (simp (disch := first | omega | (simp only [sZb, sZa, sZd] <;> omega) | fail) only [go_sem, hp, hf, hd]; done) | fail) only [go_sem, dec_t, dec_f, w_u32, w_u64, w_u16, w_u8, w_i64, Int.reduceToNat, Int.reducePow, Nat.reducePow, hp, hf, hd]
            have sl4 : ∀ (M : Value → Prop), pu P (oSlice T.sl_uint8 (sl g 0 s.bytes.length cap) none (some (.int .i64 p)) none) M = M (sl g 0 p cap) := fun M => by
              rw [oSlice_hi (size := 1) M U.sl_uint8 (by kernel_rfl) (by omega) (by omega), Int.toNat_natCast]
            simp (disch := first | omega | (simp only [sZb, sZa, sZd] <;> omega) | (simp (disch := first | omega | (simp only [sZb, sZa, sZd] <;> omega) | fail) only [go_sem, hp, hf, hd, sl4]; done) | fail) only [go_sem, dec_t, dec_f, w_u32, w_u64, w_u16, w_u8, w_i64, Int.reduceToNat, Int.reducePow, Nat.reducePow, hp, hf, hd, sl4]
            rw [oAppend_room (P := P) (w := w3.drew) U.sl_uint8 (by kernel_rfl) (BS_src U.sl_uint8 (show BS w3.drew _ l from hx)) (show bk w3.drew g = _ from r4) (by omega) (by omega)]
            obtain ⟨cur', ecur'⟩ : ∃ cur' : List Value, cur' = cur.take (0 + p) ++ l.map byt ++ cur.drop (0 + p + l.length) := ⟨_, rfl⟩
            rw [← ecur']
            rw [Nat.zero_add] at ecur'
            obtain ⟨q1, q2, q3, q4⟩ := over_list r5 r6 g1 r1 ecur'
            have gf : g ≠ f := fun e => hnf (by rw [e]; rfl)
            have gd : g ≠ d := fun e => hnd (by rw [e]; rfl)
            have lg : g < w3.heap.size := r3
            obtain ⟨wg, ewg⟩ : ∃ wg : World, wg = setb w3.drew g (CB cur' T.uint8) := ⟨_, rfl⟩
            have Kg : Kp w3 wg (Of f d (sl g 0 s.bytes.length cap)) := by
              rw [ewg]
              exact (Kp.drew w3 _).trans (Kp.setb w3.drew g (CB cur' T.uint8)) fun y _ e => .inr (.inr (by rw [e]; rfl))
            have zg : wg.heap.size = w3.heap.size := by rw [ewg]; simp only [go_sem]
            have hfg : bk wg f = some (CB [.int .i64 p, .int .i64 s.rdc, .bool s.cl, .bool s.ro, pt d 0] T.mem_File) := by rw [ewg, bk_setb_ne _ _ _ _ (Ne.symm gf), ← hp]; exact hf
            have hdg : bk wg d = some (CB [S s.nm, sl g 0 s.bytes.length cap, s.md, .bool s.dir, .int .u32 s.mode, .int .i64 s.mt, .int .i64 s.uid, .int .i64 s.gid] T.mem_FileData) := by rw [ewg, bk_setb_ne _ _ _ _ (Ne.symm gd)]; exact hd
            have hgg : bk wg g = some (CB cur' T.uint8) := by rw [ewg]; exact bk_setb_eq _ _ _ _ rfl lg
            rw [← ewg]
            clear ewg
            simp (disch := first | omega | (simp only [sZb, sZa, sZd] <;> omega) | (simp (disch := first | omega | (simp only [sZb, sZa, sZd] <;> omega) | fail) only [go_sem, hfg, hdg]; done) | fail) only [go_sem, dec_t, dec_f, w_u32, w_u64, w_u16, w_u8, w_i64, Int.reduceToNat, Int.reducePow, Nat.reducePow, hfg, hdg]
            refine ⟨trivial, ?_⟩
            obtain ⟨wh, ewh⟩ : ∃ wh : World, wh = (setb wg d (CB [S s.nm, sl g 0 (p + l.length) cap, s.md, .bool s.dir, .int .u32 s.mode, .int .i64 s.mt, .int .i64 s.uid, .int .i64 s.gid] T.mem_FileData)).drew := ⟨_, rfl⟩
            have Kh : Kp w3 wh (Of f d (sl g 0 s.bytes.length cap)) := by
              rw [ewh]
              exact (Kg.trans (Kp.setb wg d _) fun y _ e => .inr (.inl e)).trans (Kp.drew _ _) fun _ _ h => h
            have zh : wh.heap.size = w3.heap.size := by rw [ewh]; simp only [go_sem, zg]
            have hfh : bk wh f = some (CB [.int .i64 p, .int .i64 s.rdc, .bool s.cl, .bool s.ro, pt d 0] T.mem_File) := by rw [ewh]; show bk (setb wg d _) f = _; rw [bk_setb_ne _ _ _ _ hfd]; exact hfg
            have hdh : bk wh d = some (CB [S s.nm, sl g 0 (p + l.length) cap, s.md, .bool s.dir, .int .u32 s.mode, .int .i64 s.mt, .int .i64 s.uid, .int .i64 s.gid] T.mem_FileData) := by rw [ewh]; show bk (setb wg d _) d = _; exact bk_setb_eq _ _ _ _ rfl (by omega)
            have hgh : bk wh g = some (CB cur' T.uint8) := by rw [ewh]; show bk (setb wg d _) g = _; rw [bk_setb_ne _ _ _ _ gd]; exact hgg
            rw [← ewh]
            clear ewh
            have enl : ((s.bytes.drop (p + l.length)).map byt).length = s.bytes.length - (p + l.length) := by simp
            have srcT : Src P 1 T.sl_uint8 (sl g (p + l.length) (s.bytes.length - (p + l.length)) (cap - (p + l.length))) (s.bytes.length - (p + l.length)) ((s.bytes.drop (p + l.length)).map byt) wh := by
              refine src_row U.sl_uint8 ?_ enl.symm fun u hu => by obtain ⟨y, _, rfl⟩ := List.mem_map.1 hu; rfl
              rw [hgh, enl]
              simp only [rowOf]
              rw [if_pos (by simp only [List.size_toArray]; omega)]
              exact congrArg some q4
            rw [oAppend_room (P := P) (w := wh) U.sl_uint8 (by kernel_rfl) srcT hgh (by omega) (by omega)]
            have lhg : g < wh.heap.size := by omega
            obtain ⟨wi, ewi⟩ : ∃ wi : World, wi = setb wh g (CB (cur'.take (0 + (p + l.length)) ++ (s.bytes.drop (p + l.length)).map byt ++ cur'.drop (0 + (p + l.length) + (s.bytes.length - (p + l.length)))) T.uint8) := ⟨_, rfl⟩
            have en : p + l.length + (s.bytes.length - (p + l.length)) = s.bytes.length := by omega
            rw [← ewi]
            rw [Nat.zero_add, en] at ewi
            have Ki : Kp w3 wi (Of f d (sl g 0 s.bytes.length cap)) := by
              rw [ewi]
              exact Kh.trans (Kp.setb wh g _) fun y _ e => .inr (.inr (by rw [e]; rfl))
            have hfi : bk wi f = some (CB [.int .i64 p, .int .i64 s.rdc, .bool s.cl, .bool s.ro, pt d 0] T.mem_File) := by rw [ewi, bk_setb_ne _ _ _ _ (Ne.symm gf)]; exact hfh
            have hdi : bk wi d = some (CB [S s.nm, sl g 0 (p + l.length) cap, s.md, .bool s.dir, .int .u32 s.mode, .int .i64 s.mt, .int .i64 s.uid, .int .i64 s.gid] T.mem_FileData) := by rw [ewi, bk_setb_ne _ _ _ _ (Ne.symm gd)]; exact hdh
            have ldi := bk_lt hdi
            have ew : wrX s l = s.bytes.take p ++ l ++ s.bytes.drop (p + l.length) := by
              unfold wrX
              rw [if_neg (by omega), hp]
              simp only [Int.toNat_natCast]
            have ewl : (wrX s l).length = s.bytes.length := by rw [ew]; simp; omega
            have hcapm : cap ≤ maxLen := by
              rcases hown.2 with ⟨e, _⟩ | ⟨gb, cap', cur, e, h3, h4, h5, h6, _⟩
              · cases e
              · injection e with _ _ ec; rw [ec]; exact h6
            have oi : wi.ownsRow B T.uint8 1 (sl g 0 s.bytes.length cap) (wrX s l).length ((wrX s l).map byt) := by
              refine ⟨by simp, .inr ⟨g, cap, _, by rw [ewl], r2, by rw [ewi]; exact bk_setb_eq _ _ _ _ rfl lhg, by omega, hcapm, ?_, ?_⟩⟩
              · simp only [List.size_toArray, q1, Nat.mul_one]
              · rw [Nat.mul_one, ewl, ew]; exact q2
            rw [en]
            simp (disch := first | omega | (simp only [sZb, sZa, sZd] <;> omega) | (simp (disch := first | omega | (simp only [sZb, sZa, sZd] <;> omega) | fail) only [go_sem, hfi, hdi]; done) | fail) only [go_sem, dec_t, dec_f, w_u32, w_u64, w_u16, w_u8, w_i64, Int.reduceToNat, Int.reducePow, Nat.reducePow, hfi, hdi]
            refine ⟨trivial, ?_⟩
            have q := fin wi (sl g 0 s.bytes.length cap) (by rw [hp]; exact hfi) oi hnf hnd Ki (.inl rfl) _ rfl
            rw [hp] at q
            exact q
      · by_cases g1 : p + l.length < s.bytes.length
        · obtain ⟨b', cap', cur, ev, r1, r2, r3, r4, r5, r6⟩ := own_row hown (by omega)
          injection ev with ev1 ev2 ev3
          subst ev1 ev3
          have e1 : (l.length : Int) + p = ((p + l.length : Nat) : Int) := by omega
          simp (disch := first | omega | (simp only [sZb, sZa, sZd] <;> omega) | (simp (disch := first | omega | (simp only [sZb, sZa, sZd] <;> omega) | fail) only [go_sem, hp, e1, hf, hd]; done) | fail) only [go_sem, dec_t, dec_f, w_u32, w_u64, w_u16, w_u8, w_i64, Int.reduceToNat, Int.reducePow, Nat.reducePow, hp, e1, hf, hd]
          rw [oSlice_lo (size := 1) _ U.sl_uint8 (by kernel_rfl) (by omega) (by omega) (by omega)]
          refine ⟨trivial, .inr ⟨g1, b', rfl, ?_⟩⟩
          rw [Int.toNat_natCast, if_neg (by omega)]
          simp
        · simp (disch := first | omega | (simp only [sZb, sZa, sZd] <;> omega) | (simp (disch := first | omega | (simp only [sZb, sZa, sZd] <;> omega) | fail) only [go_sem, hp]; done) | fail) only [go_sem, dec_t, dec_f, w_u32, w_u64, w_u16, w_u8, w_i64, Int.reduceToNat, Int.reducePow, Nat.reducePow, hp]
          exact ⟨trivial, .inl ⟨g1, trivial⟩⟩
    · simp (disch := first | omega | (simp only [sZb, sZa, sZd] <;> omega) | (simp (disch := first | omega | (simp only [sZb, sZa, sZd] <;> omega) | fail) only [go_sem, hf, hro]; done) | fail) only [go_sem, dec_t, dec_f, w_u32, w_u64, w_u16, w_u8, w_i64, Int.reduceToNat, Int.reducePow, Nat.reducePow, hf, hro]
      exact ⟨trivial, trivial⟩
  · simp (disch := first | omega | (simp only [sZb, sZa, sZd] <;> omega) | (simp (disch := first | omega | (simp only [sZb, sZa, sZd] <;> omega) | fail) only [go_sem, hf, hc]; done) | fail) only [go_sem, dec_t, dec_f, w_u32, w_u64, w_u16, w_u8, w_i64, Int.reduceToNat, Int.reducePow, Nat.reducePow, hf, hc]
    exact ⟨trivial, trivial⟩
end Go.Proofs.YteblpejgenehfaaDoor.X
end
section
namespace Go.Proofs.YteblpejgenehfaaDoor.X
open Go Go.X Go.Proofs Go.RowKit
abbrev OwnOk (w : World) (v v' : Value) : Prop := v'.ownBlock = v.ownBlock ∨ ∀ k, v'.ownBlock = some k → w.heap.size ≤ k
theorem infoB8 : (P.info? T.uint8).map (fun i => (i.zero, i.size, i.bytes)) = some (some (.int .u8 0), 1, 1) := by kernel_rfl
section
variable {w : World} {K : Value → World → Prop} {B f d : Nat} {v x : Value} {s : FX} {m : Nat → Nat × Nat} {l : List UInt8}
theorem errV_ok (w : World) (C : Nat) (m : Nat → Nat × Nat) {k : Nat} (h : k = 0 ∨ k = 4 ∨ k = 5) : ErrV w C m k (errV m k) := by
  rcases h with rfl | rfl | rfl
  · exact .inl ⟨rfl, rfl⟩
  · exact .inr (.inl ⟨G.io_EOF, by decide, rfl, by decide⟩)
  · exact .inr (.inl ⟨G.io_ErrUnexpectedEOF, by decide, rfl, by decide⟩)
theorem rdX_err (s : FX) (n : Nat) : (rdX s n).2 = 0 ∨ (rdX s n).2 = 4 ∨ (rdX s n).2 = 5 := by
  unfold rdX
  split
  · exact .inr (.inl rfl)
  · split
    · exact .inr (.inr rfl)
    · exact .inl rfl
theorem rdX_len (s : FX) (n : Nat) : (rdX s n).1.length ≤ n ∧ (rdX s n).1.length ≤ s.bytes.length := by
  unfold rdX
  split
  · simp
  · split
    · simp
    · simp; omega
theorem pe_new {w w' : World} {op nm txt : List UInt8} (hb : bk w' w.heap.size = some (CB [S txt] T.errors_errorString)) (hp : bk w' (w.heap.size + 1) = some (CB [S op, S nm, er (w.heap.size, 0)] T.os_PathError)) : ErrV w' w.heap.size m (opCode op) (.iface T.p_os_PathError (pt (w.heap.size + 1) 0)) :=
  .inr (.inr (.inr ⟨op, (w.heap.size, 0), ⟨_, nm, rfl, hp, by omega⟩, ⟨rfl, Nat.le_refl _, txt, hb⟩, rfl⟩))
def wrR (s : FX) (l : List UInt8) : FX × Int × Int := if s.cl = true then (s, 3, 0) else if s.ro = true then (s, 6, 0) else ({ s with bytes := wrX s l, pos := s.pos + l.length, mt := 0 }, 0, l.length)
theorem write_any (h : FH w B f d v s) (hs : Sn w B m) (hx : BS w x l) (hxf : x.ownBlock ≠ some f) (hxd : x.ownBlock ≠ some d) (hb : s.cl = false → s.ro = false → 0 ≤ s.pos ∧ s.pos + l.length ≤ 140737488355328 ∧ s.bytes.length ≤ 140737488355328)
    (hk : ∀ w' v' y, FH w' B f d v' (wrR s l).1 → Kp w w' (Of f d v) → OwnOk w v v' → ErrV w' w.heap.size m (wrR s l).2.1 y → K (tup [.int .i64 (wrR s l).2.2, y]) w') : Cl P Fn.mem_File_Write #[pt f 0, x] w K := by
  unfold wrR at hk
  have hf := h.bf
  have hd := h.bd
  obtain ⟨lf, ld⟩ := h.lt
  by_cases hc : s.cl = true
  · rw [if_pos hc] at hk
    apply S_mem_File_Write
    unfold F_mem_File_Write
    refine jn_with (fun _ _ => False) (fun _ _ _ h => h.elim) ?_
    obtain ⟨q1, t1, e1⟩ := hs.at_ G.mem_ErrFileClosed (by decide)
    simp (disch := first | omega | (simp only [sZb, sZa, sZd] <;> omega) | (simp (disch := first | omega | (simp only [sZb, sZa, sZd] <;> omega) | fail) only [go_sem, hf, hc, e1]; done) | fail) only [go_sem, dec_t, dec_f, w_u32, w_u64, w_u16, w_u8, w_i64, Int.reduceToNat, Int.reducePow, Nat.reducePow, hf, hc, e1]
    exact hk _ v _ (h.old (by repeat (first | exact Below.refl _ _ | assumption | refine bel_setb ?_ (by first | exact Nat.le_refl _ | omega | (simp only [go_sem] <;> omega)) _ | refine Below.alloc ?_ (by first | exact Nat.le_refl _ | omega | (simp only [go_sem]; omega)) _ | refine Below.drew ?_))) (Kp.drew w _) (.inl rfl) (.inr (.inl ⟨G.mem_ErrFileClosed, by decide, rfl, (by decide : (3 : Int) = codeOf G.mem_ErrFileClosed)⟩))
  rw [if_neg hc] at hk
  have hc' : s.cl = false := by simpa using hc
  by_cases hr : s.ro = true
  · rw [if_pos hr] at hk
    apply S_mem_File_Write
    unfold F_mem_File_Write
    refine jn_with (fun t w' => t = [.nilIface] ∧ w' = w) ?_ ?_
    · rintro t e w1 ⟨rfl, rfl⟩
      refine jn_with (fun _ _ => False) (fun _ _ _ h => h.elim) ?_
      simp (disch := first | omega | (simp only [sZb, sZa, sZd] <;> omega) | (simp (disch := first | omega | (simp only [sZb, sZa, sZd] <;> omega) | fail) only [go_sem, hf, hd, hr]; done) | fail) only [go_sem, dec_t, dec_f, w_u32, w_u64, w_u16, w_u8, w_i64, Int.reduceToNat, Int.reducePow, Nat.reducePow, hf, hd, hr]
      refine new_spec ?_
      simp (disch := first | omega | (simp only [sZb, sZa, sZd] <;> omega) | (simp (disch := first | omega | (simp only [sZb, sZa, sZd] <;> omega) | fail) only [go_sem, hf, hd, mkPath]; done) | fail) only [go_sem, dec_t, dec_f, w_u32, w_u64, w_u16, w_u8, w_i64, Int.reduceToNat, Int.reducePow, Nat.reducePow, hf, hd, mkPath]
      refine ⟨trivial, trivial, ?_⟩
      obtain ⟨W2, e2⟩ : ∃ W2, W2 = (w1.drew.alloc (CB [S [102, 105, 108, 101, 32, 104, 97, 110, 100, 108, 101, 32, 105, 115, 32, 114, 101, 97, 100, 32, 111, 110, 108, 121]] T.errors_errorString)).alloc (CB [S [119, 114, 105, 116, 101], S s.nm, er (w1.heap.size, 0)] T.os_PathError) := ⟨_, rfl⟩
      have b1 : bk W2 w1.heap.size = some (CB [S [102, 105, 108, 101, 32, 104, 97, 110, 100, 108, 101, 32, 105, 115, 32, 114, 101, 97, 100, 32, 111, 110, 108, 121]] T.errors_errorString) := by
        rw [e2, bk_alloc_ne _ _ _ (by simp only [go_sem]; omega)]; exact bk_alloc_eq _ _ _ rfl
      have b2 : bk W2 (w1.heap.size + 1) = some (CB [S [119, 114, 105, 116, 101], S s.nm, er (w1.heap.size, 0)] T.os_PathError) := by
        rw [e2]; exact bk_alloc_eq _ _ _ (by simp only [go_sem])
      have BB : Below w1.heap.size w1 W2 := by rw [e2]; repeat (first | exact Below.refl _ _ | assumption | refine bel_setb ?_ (by first | exact Nat.le_refl _ | omega | (simp only [go_sem] <;> omega)) _ | refine Below.alloc ?_ (by first | exact Nat.le_refl _ | omega | (simp only [go_sem]; omega)) _ | refine Below.drew ?_)
      have := hk W2 v _ (h.old BB) (Kp.of_below BB _) (.inl rfl) (pe_new b1 b2)
      rw [e2] at this
      exact this
    · simp (disch := first | omega | (simp only [sZb, sZa, sZd] <;> omega) | (simp (disch := first | omega | (simp only [sZb, sZa, sZd] <;> omega) | fail) only [go_sem, hf, hc']; done) | fail) only [go_sem, dec_t, dec_f, w_u32, w_u64, w_u16, w_u8, w_i64, Int.reduceToNat, Int.reducePow, Nat.reducePow, hf, hc']
      exact ⟨trivial, trivial⟩
  · rw [if_neg hr] at hk
    have hr' : s.ro = false := by simpa using hr
    obtain ⟨b1, b2, b3⟩ := hb hc' hr'
    exact write_fx h hc' hr' hx hxf hxd b1 b2 b3 fun w' v' F' K' o' => hk w' v' _ F' K' o' (.inl ⟨rfl, rfl⟩)
theorem writeAt_any {off : Int} (h : FH w B f d v s) (hs : Sn w B m) (hx : BS w x l) (hxf : x.ownBlock ≠ some f) (hxd : x.ownBlock ≠ some d) (hb : s.cl = false → s.ro = false → 0 ≤ off ∧ off + l.length ≤ 140737488355328 ∧ s.bytes.length ≤ 140737488355328)
    (hk : ∀ w' v' y, FH w' B f d v' (wrR { s with pos := off } l).1 → Kp w w' (Of f d v) → OwnOk w v v' → ErrV w' w.heap.size m (wrR { s with pos := off } l).2.1 y → K (tup [.int .i64 (wrR { s with pos := off } l).2.2, y]) w') : Cl P Fn.mem_File_WriteAt #[pt f 0, x, .int .i64 off] w K := by
  apply S_mem_File_WriteAt
  unfold F_mem_File_WriteAt
  have hf := h.bf
  obtain ⟨l1, l2⟩ := h.lt
  simp (disch := first | omega | (simp only [sZb, sZa, sZd] <;> omega) | (simp (disch := first | omega | (simp only [sZb, sZa, sZd] <;> omega) | fail) only [go_sem, hf]; done) | fail) only [go_sem, dec_t, dec_f, w_u32, w_u64, w_u16, w_u8, w_i64, Int.reduceToNat, Int.reducePow, Nat.reducePow, hf]
  have h5 := h.setPos off
  have k5 := Kp.setb w f (CB [.int .i64 off, .int .i64 s.rdc, .bool s.cl, .bool s.ro, pt d 0] T.mem_File)
  have z5 : (setb w f (CB [.int .i64 off, .int .i64 s.rdc, .bool s.cl, .bool s.ro, pt d 0] T.mem_File)).heap.size = w.heap.size := by simp only [go_sem]
  have x5 := BS_kp hx k5 fun k hk e => hxf (by rw [hk, e])
  have s5 : Sn (setb w f (CB [.int .i64 off, .int .i64 s.rdc, .bool s.cl, .bool s.ro, pt d 0] T.mem_File)) B m := hs.below (k5.below (fun x hx e => by have := h.hf; omega) (by have := h.hf; omega))
  generalize setb w f (CB [.int .i64 off, .int .i64 s.rdc, .bool s.cl, .bool s.ro, pt d 0] T.mem_File) = w1 at *
  refine write_any h5 s5 x5 hxf hxd hb fun w2 v2 y F2 K2 a2 e2 => ?_
  rw [z5] at e2
  simp (disch := first | omega | (simp only [sZb, sZa, sZd] <;> omega) | (simp (disch := first | omega | (simp only [sZb, sZa, sZd] <;> omega) | fail) only [go_sem]; done) | fail) only [go_sem, dec_t, dec_f, w_u32, w_u64, w_u16, w_u8, w_i64, Int.reduceToNat, Int.reducePow, Nat.reducePow]
  refine hk w2 v2 y F2 ((Kp_mono k5 fun _ e => .inl e).trans K2 fun _ _ h => h) (a2.imp id fun h k hk => by rw [← z5]; exact h k hk) e2
def clR (s : FX) : FX := if s.ro = true then { s with cl := true } else { s with cl := true, mt := 0 }
theorem close_any (h : FH w B f d v s) (hk : ∀ w', FH w' B f d v (clR s) → Kp w w' (Of f d v) → K .nilIface w') : Cl P Fn.mem_File_Close #[pt f 0] w K := by
  apply S_mem_File_Close
  unfold F_mem_File_Close
  have hf := h.bf
  have hd := h.bd
  obtain ⟨lf, ld⟩ := h.lt
  have h1 := h.setHd s.pos s.rdc true s.ro
  have k1 := Kp.setb w f (CB [.int .i64 s.pos, .int .i64 s.rdc, .bool true, .bool s.ro, pt d 0] T.mem_File)
  have hfd := h.fd
  unfold clR at hk
  simp (disch := first | omega | (simp only [sZb, sZa, sZd] <;> omega) | (simp (disch := first | omega | (simp only [sZb, sZa, sZd] <;> omega) | fail) only [go_sem, hf]; done) | fail) only [go_sem, dec_t, dec_f, w_u32, w_u64, w_u16, w_u8, w_i64, Int.reduceToNat, Int.reducePow, Nat.reducePow, hf]
  generalize setb w f (CB [.int .i64 s.pos, .int .i64 s.rdc, .bool true, .bool s.ro, pt d 0] T.mem_File) = w1 at *
  have hf1 := h1.bf
  have hd1 := h1.bd
  obtain ⟨lf1, ld1⟩ := h1.lt
  by_cases hr : s.ro = true
  · rw [if_pos hr] at hk
    refine jn_with (fun t w' => w' = w1) ?_ ?_
    · rintro t e w2 rfl
      exact hk _ h1 (Kp_mono k1 fun _ e => .inl e)
    · simp (disch := first | omega | (simp only [sZb, sZa, sZd] <;> omega) | (simp (disch := first | omega | (simp only [sZb, sZa, sZd] <;> omega) | fail) only [go_sem, hf1, hr]; done) | fail) only [go_sem, dec_t, dec_f, w_u32, w_u64, w_u16, w_u8, w_i64, Int.reduceToNat, Int.reducePow, Nat.reducePow, hf1, hr]
  · rw [if_neg hr] at hk
    have hr' : s.ro = false := by simpa using hr
    obtain ⟨s1, es1⟩ : ∃ s1, s1 = { s with cl := true, mt := 0 } := ⟨_, rfl⟩
    rw [← es1] at hk
    refine jn_with (fun t w' => FH w' B f d v s1 ∧ Kp w w' (Of f d v)) ?_ ?_
    · rintro t e w2 ⟨h2, k2⟩
      exact hk _ h2 k2
    · simp (disch := first | omega | (simp only [sZb, sZa, sZd] <;> omega) | (simp (disch := first | omega | (simp only [sZb, sZa, sZd] <;> omega) | fail) only [go_sem, hf1, hr']; done) | fail) only [go_sem, dec_t, dec_f, w_u32, w_u64, w_u16, w_u8, w_i64, Int.reduceToNat, Int.reducePow, Nat.reducePow, hf1, hr']
      apply S_mem_setModTime
      unfold F_mem_setModTime
      simp (disch := first | omega | (simp only [sZb, sZa, sZd] <;> omega) | (simp (disch := first | omega | (simp only [sZb, sZa, sZd] <;> omega) | fail) only [go_sem, hd1]; done) | fail) only [go_sem, dec_t, dec_f, w_u32, w_u64, w_u16, w_u8, w_i64, Int.reduceToNat, Int.reducePow, Nat.reducePow, hd1]
      rw [es1]
      refine ⟨h1.setData (s' := { s with cl := true, mt := 0 }) ⟨rfl, rfl, rfl, rfl⟩ h1.own h1.nf h1.nd h1.md1, ?_⟩
      exact (Kp_mono k1 fun _ e => .inl e).trans (Kp.setb _ _ _) fun _ _ e => .inr (.inl e)
theorem stat_any (h : FH w B f d v s) (hk : K (tup [pt w.heap.size 0, .nilIface]) (w.alloc (CB [pt d 0] T.mem_FileInfo))) : Cl P Fn.mem_File_Stat #[pt f 0] w K := by
  apply S_mem_File_Stat
  unfold F_mem_File_Stat
  have hf := h.bf
  simp (disch := first | omega | (simp only [sZb, sZa, sZd] <;> omega) | (simp (disch := first | omega | (simp only [sZb, sZa, sZd] <;> omega) | fail) only [go_sem, hf]; done) | fail) only [go_sem, dec_t, dec_f, w_u32, w_u64, w_u16, w_u8, w_i64, Int.reduceToNat, Int.reducePow, Nat.reducePow, hf]
  exact hk
theorem name_any (h : FH w B f d v s) (hk : K (S s.nm) w) : Cl P Fn.mem_File_Name #[pt f 0] w K := by
  apply S_mem_File_Name
  unfold F_mem_File_Name
  have hf := h.bf
  have hd := h.bd
  simp (disch := first | omega | (simp only [sZb, sZa, sZd] <;> omega) | (simp (disch := first | omega | (simp only [sZb, sZa, sZd] <;> omega) | fail) only [go_sem, hf]; done) | fail) only [go_sem, dec_t, dec_f, w_u32, w_u64, w_u16, w_u8, w_i64, Int.reduceToNat, Int.reducePow, Nat.reducePow, hf]
  apply S_mem_FileData_Name
  unfold F_mem_FileData_Name
  simp (disch := first | omega | (simp only [sZb, sZa, sZd] <;> omega) | (simp (disch := first | omega | (simp only [sZb, sZa, sZd] <;> omega) | fail) only [go_sem, hd]; done) | fail) only [go_sem, dec_t, dec_f, w_u32, w_u64, w_u16, w_u8, w_i64, Int.reduceToNat, Int.reducePow, Nat.reducePow, hd]
  exact hk
def trR (s : FX) (n : Int) : FX × Int := if s.cl = true then (s, 3) else if s.ro = true then (s, 6) else if n < 0 then (s, 7) else ({ s with bytes := if (s.bytes.length : Int) < n then s.bytes ++ List.replicate (n.toNat - s.bytes.length) 0 else s.bytes.take n.toNat, mt := 0 }, 0)
set_option maxHeartbeats 4000000 in
theorem trunc_any {n : Int} (h : FH w B f d v s) (hs : Sn w B m) (hn : n ≤ 281474976710) (hb : s.bytes.length ≤ 281474976710)
    (hk : ∀ w' v' y, FH w' B f d v' (trR s n).1 → Kp w w' (Of f d v) → OwnOk w v v' → ErrV w' w.heap.size m (trR s n).2 y → K y w') : Cl P Fn.mem_File_Truncate #[pt f 0, .int .i64 n] w K := by
  apply S_mem_File_Truncate
  unfold F_mem_File_Truncate
  unfold trR at hk
  have hf := h.bf
  have hd := h.bd
  obtain ⟨lf, ld⟩ := h.lt
  by_cases hc : s.cl = true
  · rw [if_pos hc] at hk
    refine jn_with (fun _ _ => False) (fun _ _ _ h => h.elim) ?_
    obtain ⟨q1, t1, e1⟩ := hs.at_ G.mem_ErrFileClosed (by decide)
    simp (disch := first | omega | (simp only [sZb, sZa, sZd] <;> omega) | (simp (disch := first | omega | (simp only [sZb, sZa, sZd] <;> omega) | fail) only [go_sem, hf, hc, e1]; done) | fail) only [go_sem, dec_t, dec_f, w_u32, w_u64, w_u16, w_u8, w_i64, Int.reduceToNat, Int.reducePow, Nat.reducePow, hf, hc, e1]
    exact hk _ v _ h (Kp.refl w _) (.inl rfl) (.inr (.inl ⟨G.mem_ErrFileClosed, by decide, rfl, (by decide : (3 : Int) = codeOf G.mem_ErrFileClosed)⟩))
  rw [if_neg hc] at hk
  have hc' : s.cl = false := by simpa using hc
  refine jn_with (fun t w' => w' = w) ?_ ?_
  · rintro t e w1 rfl
    by_cases hr : s.ro = true
    · rw [if_pos hr] at hk
      refine jn_with (fun _ _ => False) (fun _ _ _ h => h.elim) ?_
      simp (disch := first | omega | (simp only [sZb, sZa, sZd] <;> omega) | (simp (disch := first | omega | (simp only [sZb, sZa, sZd] <;> omega) | fail) only [go_sem, hf, hd, hr]; done) | fail) only [go_sem, dec_t, dec_f, w_u32, w_u64, w_u16, w_u8, w_i64, Int.reduceToNat, Int.reducePow, Nat.reducePow, hf, hd, hr]
      refine new_spec ?_
      simp (disch := first | omega | (simp only [sZb, sZa, sZd] <;> omega) | (simp (disch := first | omega | (simp only [sZb, sZa, sZd] <;> omega) | fail) only [go_sem, hf, hd, mkPath]; done) | fail) only [go_sem, dec_t, dec_f, w_u32, w_u64, w_u16, w_u8, w_i64, Int.reduceToNat, Int.reducePow, Nat.reducePow, hf, hd, mkPath]
      refine ⟨trivial, trivial, ?_⟩
      obtain ⟨W2, e2⟩ : ∃ W2, W2 = (w1.drew.alloc (CB [S [102, 105, 108, 101, 32, 104, 97, 110, 100, 108, 101, 32, 105, 115, 32, 114, 101, 97, 100, 32, 111, 110, 108, 121]] T.errors_errorString)).alloc (CB [S [116, 114, 117, 110, 99, 97, 116, 101], S s.nm, er (w1.heap.size, 0)] T.os_PathError) := ⟨_, rfl⟩
      have b1 : bk W2 w1.heap.size = some (CB [S [102, 105, 108, 101, 32, 104, 97, 110, 100, 108, 101, 32, 105, 115, 32, 114, 101, 97, 100, 32, 111, 110, 108, 121]] T.errors_errorString) := by
        rw [e2, bk_alloc_ne _ _ _ (by simp only [go_sem]; omega)]; exact bk_alloc_eq _ _ _ rfl
      have b2 : bk W2 (w1.heap.size + 1) = some (CB [S [116, 114, 117, 110, 99, 97, 116, 101], S s.nm, er (w1.heap.size, 0)] T.os_PathError) := by
        rw [e2]; exact bk_alloc_eq _ _ _ (by simp only [go_sem])
      have BB : Below w1.heap.size w1 W2 := by rw [e2]; repeat (first | exact Below.refl _ _ | assumption | refine bel_setb ?_ (by first | exact Nat.le_refl _ | omega | (simp only [go_sem] <;> omega)) _ | refine Below.alloc ?_ (by first | exact Nat.le_refl _ | omega | (simp only [go_sem]; omega)) _ | refine Below.drew ?_)
      have := hk W2 v _ (h.old BB) (Kp.of_below BB _) (.inl rfl) (pe_new b1 b2)
      rw [e2] at this
      exact this
    · rw [if_neg hr] at hk
      have hr' : s.ro = false := by simpa using hr
      refine jn_with (fun t w' => w' = w1) ?_ ?_
      · rintro t e w2 rfl
        by_cases hn0 : n < 0
        · rw [if_pos hn0] at hk
          refine jn_with (fun _ _ => False) (fun _ _ _ h => h.elim) ?_
          obtain ⟨q1, t1, e1⟩ := hs.at_ G.mem_ErrOutOfRange (by decide)
          simp (disch := first | omega | (simp only [sZb, sZa, sZd] <;> omega) | (simp (disch := first | omega | (simp only [sZb, sZa, sZd] <;> omega) | fail) only [go_sem, e1]; done) | fail) only [go_sem, dec_t, dec_f, w_u32, w_u64, w_u16, w_u8, w_i64, Int.reduceToNat, Int.reducePow, Nat.reducePow, e1]
          exact hk _ v _ h (Kp.refl w2 _) (.inl rfl) (.inr (.inl ⟨G.mem_ErrOutOfRange, by decide, rfl, (by decide : (7 : Int) = codeOf G.mem_ErrOutOfRange)⟩))
        · rw [if_neg hn0] at hk
          refine jn_with (fun t w' => w' = w2) ?_ ?_
          · rintro t e w3 rfl
            obtain ⟨x, rfl⟩ := Int.eq_ofNat_of_zero_le (show 0 ≤ n by omega)
            rw [Int.toNat_natCast] at hk
            obtain ⟨nb, enb⟩ : ∃ nb, nb = (if (s.bytes.length : Int) < (x : Int) then s.bytes ++ List.replicate (x - s.bytes.length) 0 else s.bytes.take x) := ⟨_, rfl⟩
            rw [← enb] at hk
            obtain ⟨a, cap, ev⟩ := own_slice h.own
            refine jn_with (fun t w' => ∃ v', FH w' B f d v' { s with bytes := nb } ∧ Kp w3 w' (Of f d v) ∧ OwnOk w3 v v') ?_ ?_
            · rintro t e w4 ⟨v4, h4, k4, o4⟩
              have hf4 := h4.bf
              have hd4 := h4.bd
              obtain ⟨lf4, ld4⟩ := h4.lt
              simp (disch := first | omega | (simp only [sZb, sZa, sZd] <;> omega) | (simp (disch := first | omega | (simp only [sZb, sZa, sZd] <;> omega) | fail) only [go_sem, hf4]; done) | fail) only [go_sem, dec_t, dec_f, w_u32, w_u64, w_u16, w_u8, w_i64, Int.reduceToNat, Int.reducePow, Nat.reducePow, hf4]
              apply S_mem_setModTime
              unfold F_mem_setModTime
              simp (disch := first | omega | (simp only [sZb, sZa, sZd] <;> omega) | (simp (disch := first | omega | (simp only [sZb, sZa, sZd] <;> omega) | fail) only [go_sem, hd4]; done) | fail) only [go_sem, dec_t, dec_f, w_u32, w_u64, w_u16, w_u8, w_i64, Int.reduceToNat, Int.reducePow, Nat.reducePow, hd4]
              refine hk _ v4 _ (h4.setData (s' := { s with bytes := nb, mt := 0 }) ⟨rfl, rfl, rfl, rfl⟩ h4.own h4.nf h4.nd h4.md1) (k4.trans (Kp.setb _ _ _) fun _ _ e => .inr (.inl e)) o4 (.inl ⟨rfl, rfl⟩)
            · by_cases hlt : (s.bytes.length : Int) < (x : Int)
              · rw [if_pos hlt] at enb
                have es : ((x : Int) - (s.bytes.length : Int)) = ((x - s.bytes.length : Nat) : Int) := by omega
                subst ev
                simp (disch := first | omega | (simp only [sZb, sZa, sZd] <;> omega) | (simp (disch := first | omega | (simp only [sZb, sZa, sZd] <;> omega) | fail) only [go_sem, hf, hd, es]; done) | fail) only [go_sem, dec_t, dec_f, w_u32, w_u64, w_u16, w_u8, w_i64, Int.reduceToNat, Int.reducePow, Nat.reducePow, hf, hd, es]
                have D1 : Below w3.heap.size w3 w3.drew := by repeat (first | exact Below.refl _ _ | assumption | refine bel_setb ?_ (by first | exact Nat.le_refl _ | omega | (simp only [go_sem] <;> omega)) _ | refine Below.alloc ?_ (by first | exact Nat.le_refl _ | omega | (simp only [go_sem]; omega)) _ | refine Below.drew ?_)
                refine oAppendZ U.sl_uint8 infoB8 U.int (own_old h.own D1 (Nat.le_refl _)) (by omega) (by omega) (by have := h.hf; show B ≤ w3.heap.size; omega) fun v5 w5 o5 g5 a5 => ?_
                have K5 : Kp w3 w5 (fun k => (Value.slice a s.bytes.length cap).ownBlock = some k) := (Kp.drew w3 _).trans (Kp.of_grown g5) fun _ _ h => h
                have hf5 : bk w5 f = _ := (K5.block f lf h.nf).trans hf
                have hd5 : bk w5 d = _ := (K5.block d ld h.nd).trans hd
                have n5f : v5.ownBlock ≠ some f := fun e => by
                  rcases a5 with a5 | a5
                  · exact h.nf (by rw [← a5]; exact e)
                  · rw [a5] at e; have := Option.some.inj e; have e9 : w3.drew.heap.size = w3.heap.size := rfl; omega
                have n5d : v5.ownBlock ≠ some d := fun e => by
                  rcases a5 with a5 | a5
                  · exact h.nd (by rw [← a5]; exact e)
                  · rw [a5] at e; have := Option.some.inj e; have e9 : w3.drew.heap.size = w3.heap.size := rfl; omega
                have one5 : v5.oneCell' = true := by obtain ⟨_, _, rfl⟩ := own_slice o5; rfl
                have ld5 := bk_lt hd5
                simp (disch := first | omega | (simp only [sZb, sZa, sZd] <;> omega) | (simp (disch := first | omega | (simp only [sZb, sZa, sZd] <;> omega) | fail) only [go_sem, hf5, hd5, one5]; done) | fail) only [go_sem, dec_t, dec_f, w_u32, w_u64, w_u16, w_u8, w_i64, Int.reduceToNat, Int.reducePow, Nat.reducePow, hf5, hd5, one5]
                refine ⟨trivial, v5, ?_, ?_, ?_⟩
                · have o6 : w5.ownsRow B T.uint8 1 v5 nb.length (nb.map byt) := by
                    rw [enb]
                    have e1 : (s.bytes ++ List.replicate (x - s.bytes.length) 0).length = s.bytes.length + (x - s.bytes.length) := by simp
                    rw [e1, List.map_append, byt_zeros]
                    exact o5
                  have kd := Kp.setb w5 d (CB [S s.nm, v5, s.md, .bool s.dir, .int .u32 s.mode, .int .i64 s.mt, .int .i64 s.uid, .int .i64 s.gid] T.mem_FileData)
                  refine ⟨h.hf, h.hd, h.fd, ?_, bk_setb_eq _ _ _ _ rfl ld5, h.md1, own_kp o6 kd fun k hk e => n5d (by rw [hk, e]), n5f, n5d⟩
                  rw [bk_setb_ne _ _ _ _ h.fd]; exact hf5
                · exact (Kp_mono K5 fun _ e => .inr (.inr e)).trans (Kp.setb _ _ _) fun _ _ e => .inr (.inl e)
                · rcases a5 with a5 | a5
                  · exact .inl a5
                  · exact .inr fun k hk => by rw [a5] at hk; have := Option.some.inj hk; have e9 : w3.drew.heap.size = w3.heap.size := rfl; omega
              · rw [if_neg hlt] at enb
                obtain ⟨v5, o5, a5, _, s5⟩ := own_hi U.sl_uint8 (by kernel_rfl) h.own (p := x) (by omega)
                subst ev
                have one5 : v5.oneCell' = true := by obtain ⟨_, _, rfl⟩ := own_slice o5; rfl
                simp (disch := first | omega | (simp only [sZb, sZa, sZd] <;> omega) | (simp (disch := first | omega | (simp only [sZb, sZa, sZd] <;> omega) | fail) only [go_sem, hf, hd, s5, one5]; done) | fail) only [go_sem, dec_t, dec_f, w_u32, w_u64, w_u16, w_u8, w_i64, Int.reduceToNat, Int.reducePow, Nat.reducePow, hf, hd, s5, one5]
                refine ⟨v5, ?_, ?_, .inl a5⟩
                · have o6 : w3.drew.ownsRow B T.uint8 1 v5 nb.length (nb.map byt) := by
                    rw [enb]
                    have e1 : (s.bytes.take x).length = x := by simp; omega
                    rw [e1, List.map_take]
                    exact o5
                  have kd := Kp.setb w3.drew d (CB [S s.nm, v5, s.md, .bool s.dir, .int .u32 s.mode, .int .i64 s.mt, .int .i64 s.uid, .int .i64 s.gid] T.mem_FileData)
                  refine ⟨h.hf, h.hd, h.fd, ?_, bk_setb_eq _ _ _ _ rfl ld, h.md1, own_kp o6 kd fun k hk e => h.nd (by rw [← a5, hk, e]), by rw [a5]; exact h.nf, by rw [a5]; exact h.nd⟩
                  rw [bk_setb_ne _ _ _ _ h.fd]; exact hf
                · exact (Kp.drew w3 _).trans (Kp.setb _ _ _) fun _ _ e => .inr (.inl e)
          · simp (disch := first | omega | (simp only [sZb, sZa, sZd] <;> omega) | (simp (disch := first | omega | (simp only [sZb, sZa, sZd] <;> omega) | fail) only [go_sem]; done) | fail) only [go_sem, dec_t, dec_f, w_u32, w_u64, w_u16, w_u8, w_i64, Int.reduceToNat, Int.reducePow, Nat.reducePow]
      · simp (disch := first | omega | (simp only [sZb, sZa, sZd] <;> omega) | (simp (disch := first | omega | (simp only [sZb, sZa, sZd] <;> omega) | fail) only [go_sem, hf, hr']; done) | fail) only [go_sem, dec_t, dec_f, w_u32, w_u64, w_u16, w_u8, w_i64, Int.reduceToNat, Int.reducePow, Nat.reducePow, hf, hr']
  · simp (disch := first | omega | (simp only [sZb, sZa, sZd] <;> omega) | (simp (disch := first | omega | (simp only [sZb, sZa, sZd] <;> omega) | fail) only [go_sem, hf, hc']; done) | fail) only [go_sem, dec_t, dec_f, w_u32, w_u64, w_u16, w_u8, w_i64, Int.reduceToNat, Int.reducePow, Nat.reducePow, hf, hc']
end
end Go.Proofs.YteblpejgenehfaaDoor.X
end
