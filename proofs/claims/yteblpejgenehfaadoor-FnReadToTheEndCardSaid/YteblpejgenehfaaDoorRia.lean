/- FnReadIsReadAt: the walk. No condition beside the form's own. -/
import Derived.Test.YteblpejgenehfaaDoorScr
import Derived.Test.YteblpejgenehfaaDoorSen
set_option linter.unusedVariables false
set_option linter.unusedSimpArgs false
set_option maxRecDepth 100000
namespace Go.Proofs.YteblpejgenehfaaDoor.X
open Go Go.X Go.Proofs Go.RowKit

theorem flat_at {size : Nat} : ∀ (cs : List (List Value)), (∀ c ∈ cs, c.length = size) → ∀ i (hi : i < cs.length), (cs.flatten.drop (i * size)).take size = cs[i]
  | [], _, i, hi => absurd hi (by simp)
  | c :: r, h, i, hi => by
    have hc := h c (List.mem_cons_self ..)
    cases i with
    | zero =>
      rw [Nat.zero_mul, List.drop_zero, List.flatten_cons, List.take_append_of_le_length (by omega), List.take_of_length_le (by omega)]
      rfl
    | succ i =>
      have hi2 : i < r.length := by simpa using hi
      rw [List.flatten_cons, Nat.succ_mul, Nat.add_comm, ← List.drop_drop, List.drop_append_of_le_length (by omega), ← hc, List.drop_length, List.nil_append, hc]
      exact flat_at r (fun x hx => h x (List.mem_cons_of_mem _ hx)) i hi2
theorem own_elem {w : World} {B size n : Nat} {e : TypeId} {v : Value} {cs : List (List Value)} (h : w.ownsRow B e size v n cs.flatten) (hc : ∀ c ∈ cs, c.length = size) (hn : cs.length = n) (h0 : n ≠ 0) :
    ∃ b cap, v = sl b 0 n cap ∧ n ≤ cap ∧ b < w.heap.size ∧ B ≤ b ∧ ∀ i (hi : i < cs.length), rowOf (bk w b) (i * size) size = some cs[i] := by
  obtain ⟨b, cap, cur, rfl, q1, q2, q3, q4, q5, q6⟩ := own_row h h0
  refine ⟨b, cap, rfl, q1, q3, q2, fun i hi => ?_⟩
  rw [q4]
  simp only [rowOf]
  have hmul : (i + 1) * size ≤ n * size := Nat.mul_le_mul_right _ (by omega)
  have hmul2 : n * size ≤ cap * size := Nat.mul_le_mul_right _ q1
  rw [Nat.succ_mul] at hmul
  rw [if_pos (by simp only [List.size_toArray]; omega)]
  congr 1
  have e1 := flat_at cs hc i hi
  rw [← q6, List.drop_take, List.take_take, Nat.min_eq_left (by omega)] at e1
  exact e1

deriving instance DecidableEq for Ans
theorem Ans.eq_iff {A A' : Ans} : A = A' ↔ A.e = A'.e ∧ A.n = A'.n ∧ A.off = A'.off ∧ A.data = A'.data := by
  cases A; cases A'; simp

set_option maxHeartbeats 2000000 in
theorem same_spec {w : World} {K : Value → World → Prop} {A A' : Ans} {x x' : Value} (h1 : BS w x A.data) (h2 : BS w x' A'.data) (hk : ∀ w', Below w.heap.size w w' → K (.bool (decide (A = A'))) w') : Cl P Fn.spec_SameAnswer #[AG (ansL A.e A.n A.off x), AG (ansL A'.e A'.n A'.off x')] w K := by
  apply S_spec_SameAnswer
  unfold F_spec_SameAnswer
  have o1 := BS_one h1
  have o2 := BS_one h2
  have BB : Below w.heap.size w ((w.alloc (ansB A.e A.n A.off x)).alloc (ansB A'.e A'.n A'.off x')) := by repeat (first | exact Below.refl _ _ | assumption | refine bel_setb ?_ (by first | exact Nat.le_refl _ | omega | (simp only [go_sem] <;> omega)) _ | refine Below.alloc ?_ (by first | exact Nat.le_refl _ | omega | (simp only [go_sem]; omega)) _ | refine Below.drew ?_)
  have cv1 : ∀ (L : Value → World → Prop), st P (oConv T.sl_uint8 T.string x) ((w.alloc (ansB A.e A.n A.off x)).alloc (ansB A'.e A'.n A'.off x')) L = L (S A.data) ((w.alloc (ansB A.e A.n A.off x)).alloc (ansB A'.e A'.n A'.off x')) := fun L => stConvBS U.string U.sl_uint8 U.uint8 (BS_old h1 BB (Nat.le_refl _))
  have cv2 : ∀ (L : Value → World → Prop), st P (oConv T.sl_uint8 T.string x') ((w.alloc (ansB A.e A.n A.off x)).alloc (ansB A'.e A'.n A'.off x')) L = L (S A'.data) ((w.alloc (ansB A.e A.n A.off x)).alloc (ansB A'.e A'.n A'.off x')) := fun L => stConvBS U.string U.sl_uint8 U.uint8 (BS_old h2 BB (Nat.le_refl _))
  have no : A ≠ A' → K (.bool false) ((w.alloc (ansB A.e A.n A.off x)).alloc (ansB A'.e A'.n A'.off x')) := fun h => by
    have := hk _ BB
    rwa [decide_eq_false h] at this
  have l0 : bk ((w.alloc (ansB A.e A.n A.off x)).alloc (ansB A'.e A'.n A'.off x')) w.heap.size = some (ansB A.e A.n A.off x) := by simp (disch := first | omega | (simp only [size_setb, size_alloc', size_drew'] <;> omega) | (simp (disch := first | omega | (simp only [size_setb, size_alloc', size_drew'] <;> omega) | fail) only [go_sem]; done) | fail) only [go_sem, dec_t, dec_f, w_u32, w_u64, w_u16, w_u8, w_i64, Int.reduceToNat, Int.reducePow, Nat.reducePow]
  have l1 : bk ((w.alloc (ansB A.e A.n A.off x)).alloc (ansB A'.e A'.n A'.off x')) (w.heap.size + 1) = some (ansB A'.e A'.n A'.off x') := by simp (disch := first | omega | (simp only [size_setb, size_alloc', size_drew'] <;> omega) | (simp (disch := first | omega | (simp only [size_setb, size_alloc', size_drew'] <;> omega) | fail) only [go_sem]; done) | fail) only [go_sem, dec_t, dec_f, w_u32, w_u64, w_u16, w_u8, w_i64, Int.reduceToNat, Int.reducePow, Nat.reducePow]
  have z1 : (w.alloc (ansB A.e A.n A.off x)).heap.size = w.heap.size + 1 := by simp only [go_sem]
  rw [oBox_agg, oBox_agg, z1]
  generalize (w.alloc (ansB A.e A.n A.off x)).alloc (ansB A'.e A'.n A'.off x') = w2 at *
  refine jn_with (fun t w' => w' = w2 ∧ A = A') ?_ ?_
  · rintro t e w3 ⟨rfl, eA⟩
    refine jn_with (fun t w' => w' = w3) ?_ ?_
    · rintro t e w4 rfl
      refine jn_with (fun t w' => w' = w4) ?_ ?_
      · rintro t e w5 rfl
        have := hk _ BB
        rwa [decide_eq_true eA] at this
      · simp (disch := first | omega | (simp only [size_setb, size_alloc', size_drew'] <;> omega) | (simp (disch := first | omega | (simp only [size_setb, size_alloc', size_drew'] <;> omega) | fail) only [go_sem, l0]; done) | fail) only [go_sem, dec_t, dec_f, w_u32, w_u64, w_u16, w_u8, w_i64, Int.reduceToNat, Int.reducePow, Nat.reducePow, l0]
        refine lp_intro (fun t w' => t = [.int .i64 0] ∧ w' = w4) (fun _ _ => 0) ⟨rfl, rfl⟩ ?_
        rintro t e w5 ⟨rfl, rfl⟩
        simp (disch := first | omega | (simp only [size_setb, size_alloc', size_drew'] <;> omega) | (simp (disch := first | omega | (simp only [size_setb, size_alloc', size_drew'] <;> omega) | fail) only [go_sem]; done) | fail) only [go_sem, dec_t, dec_f, w_u32, w_u64, w_u16, w_u8, w_i64, Int.reduceToNat, Int.reducePow, Nat.reducePow]
        exact jn_with (fun _ _ => False) (fun _ _ _ h => h.elim) trivial
    · simp (disch := first | omega | (simp only [size_setb, size_alloc', size_drew'] <;> omega) | (simp (disch := first | omega | (simp only [size_setb, size_alloc', size_drew'] <;> omega) | fail) only [go_sem, l0]; done) | fail) only [go_sem, dec_t, dec_f, w_u32, w_u64, w_u16, w_u8, w_i64, Int.reduceToNat, Int.reducePow, Nat.reducePow, l0]
      refine lp_intro (fun t w' => t = [.int .i64 0] ∧ w' = w3) (fun _ _ => 0) ⟨rfl, rfl⟩ ?_
      rintro t e w5 ⟨rfl, rfl⟩
      simp (disch := first | omega | (simp only [size_setb, size_alloc', size_drew'] <;> omega) | (simp (disch := first | omega | (simp only [size_setb, size_alloc', size_drew'] <;> omega) | fail) only [go_sem]; done) | fail) only [go_sem, dec_t, dec_f, w_u32, w_u64, w_u16, w_u8, w_i64, Int.reduceToNat, Int.reducePow, Nat.reducePow]
      exact jn_with (fun _ _ => False) (fun _ _ _ h => h.elim) trivial
  · have n1 := fun h : A = A' => Ans.eq_iff.1 h
    by_cases c1 : A.e = A'.e
    · by_cases c2 : A.n = A'.n
      · by_cases c3 : A.off = A'.off
        · by_cases c4 : A.data = A'.data
          · have eA : A = A' := Ans.eq_iff.2 ⟨c1, c2, c3, c4⟩
            simp (disch := first | omega | (simp only [size_setb, size_alloc', size_drew'] <;> omega) | (simp (disch := first | omega | (simp only [size_setb, size_alloc', size_drew'] <;> omega) | fail) only [go_sem, l0, l1, cv1, cv2, c1, c2, c3, c4, ne_eq, not_true_eq_false, decide_false]; done) | fail) only [go_sem, dec_t, dec_f, w_u32, w_u64, w_u16, w_u8, w_i64, Int.reduceToNat, Int.reducePow, Nat.reducePow, l0, l1, cv1, cv2, c1, c2, c3, c4, ne_eq, not_true_eq_false, decide_false]
            exact ⟨trivial, eA⟩
          · have q := no fun h => c4 (n1 h).2.2.2
            simp (disch := first | omega | (simp only [size_setb, size_alloc', size_drew'] <;> omega) | (simp (disch := first | omega | (simp only [size_setb, size_alloc', size_drew'] <;> omega) | fail) only [go_sem, l0, l1, cv1, cv2, c1, c2, c3, c4, ne_eq, not_true_eq_false, not_false_eq_true, decide_true, decide_false]; done) | fail) only [go_sem, dec_t, dec_f, w_u32, w_u64, w_u16, w_u8, w_i64, Int.reduceToNat, Int.reducePow, Nat.reducePow, l0, l1, cv1, cv2, c1, c2, c3, c4, ne_eq, not_true_eq_false, not_false_eq_true, decide_true, decide_false]
            exact q
        · have q := no fun h => c3 (n1 h).2.2.1
          simp (disch := first | omega | (simp only [size_setb, size_alloc', size_drew'] <;> omega) | (simp (disch := first | omega | (simp only [size_setb, size_alloc', size_drew'] <;> omega) | fail) only [go_sem, l0, l1, cv1, cv2, c1, c2, c3, ne_eq, not_true_eq_false, not_false_eq_true, decide_true, decide_false]; done) | fail) only [go_sem, dec_t, dec_f, w_u32, w_u64, w_u16, w_u8, w_i64, Int.reduceToNat, Int.reducePow, Nat.reducePow, l0, l1, cv1, cv2, c1, c2, c3, ne_eq, not_true_eq_false, not_false_eq_true, decide_true, decide_false]
          exact q
      · have q := no fun h => c2 (n1 h).2.1
        simp (disch := first | omega | (simp only [size_setb, size_alloc', size_drew'] <;> omega) | (simp (disch := first | omega | (simp only [size_setb, size_alloc', size_drew'] <;> omega) | fail) only [go_sem, l0, l1, cv1, cv2, c1, c2, ne_eq, not_true_eq_false, not_false_eq_true, decide_true, decide_false]; done) | fail) only [go_sem, dec_t, dec_f, w_u32, w_u64, w_u16, w_u8, w_i64, Int.reduceToNat, Int.reducePow, Nat.reducePow, l0, l1, cv1, cv2, c1, c2, ne_eq, not_true_eq_false, not_false_eq_true, decide_true, decide_false]
        exact q
    · have q := no fun h => c1 (n1 h).1
      simp (disch := first | omega | (simp only [size_setb, size_alloc', size_drew'] <;> omega) | (simp (disch := first | omega | (simp only [size_setb, size_alloc', size_drew'] <;> omega) | fail) only [go_sem, l0, l1, cv1, cv2, c1, ne_eq, not_true_eq_false, not_false_eq_true, decide_true, decide_false]; done) | fail) only [go_sem, dec_t, dec_f, w_u32, w_u64, w_u16, w_u8, w_i64, Int.reduceToNat, Int.reducePow, Nat.reducePow, l0, l1, cv1, cv2, c1, ne_eq, not_true_eq_false, not_false_eq_true, decide_true, decide_false]
      exact q
theorem cell_row {ob : Option Obj} {i n : Nat} {l : List Value} (h : rowOf ob i n = some l) (j : Nat) (hj : j < n) : cellOf ob (i + j) = l[j]? := by
  obtain ⟨c, t, fz, e1, e2, e3⟩ := rowOf_inv h
  rw [e1]
  show c[i + j]? = l[j]?
  rw [← e3, List.getElem?_take_of_lt hj, List.getElem?_drop, Array.getElem?_toList]
/-- The steps of the law. -/
def mkStp (op : Int) (data : List UInt8) (v : Value) (off wh n : Int) : Stp := ⟨op, [], [], 0, 0, 0, v, data, off, wh, n⟩
abbrev stpZ : List Value := [.int .i64 0, S [], S [], .int .i64 0, .int .i64 0, .int .i64 0, .slice none 0 0, .int .i64 0, .int .i64 0, .int .i64 0]

set_option maxHeartbeats 4000000 in
theorem FnReadIsReadAt_law {w : World} {t0 : Value} {data : List UInt8} {ro : Bool} {p n : Int} {m : Nat → Nat × Nat} (hd : BS w t0 data) (hdl : data.length ≤ 140737488351232) (hs : Sn w w.heap.size m) :
    Cl P Fn.laws_FnReadIsReadAt #[t0, .bool ro, .int .i64 p, .int .i64 n] w fun v w' => v = .bool true ∧ Below w.heap.size w w' := by
  apply S_laws_FnReadIsReadAt
  unfold F_laws_FnReadIsReadAt
  obtain ⟨a0, c0, rfl⟩ := BS_slice hd
  by_cases h1 : (2147483647 : Int) < data.length
  · repeat (first | refine jn_intro ?_ | refine fun (_ : Env) => ?_ | simp (disch := first | omega | (simp only [size_setb, size_alloc', size_drew'] <;> omega) | (simp (disch := first | omega | (simp only [size_setb, size_alloc', size_drew'] <;> omega) | fail) only [go_sem]; done) | fail) only [go_sem, dec_t, dec_f, w_u32, w_u64, w_u16, w_u8, w_i64, Int.reduceToNat, Int.reducePow, Nat.reducePow])
    exact ⟨trivial, Below.refl _ _⟩
  refine jn_with (fun t w' => w' = w) ?_ (by simp (disch := first | omega | (simp only [size_setb, size_alloc', size_drew'] <;> omega) | (simp (disch := first | omega | (simp only [size_setb, size_alloc', size_drew'] <;> omega) | fail) only [go_sem]; done) | fail) only [go_sem, dec_t, dec_f, w_u32, w_u64, w_u16, w_u8, w_i64, Int.reduceToNat, Int.reducePow, Nat.reducePow])
  rintro t e w0 rfl
  by_cases g1 : (4096 : Int) < data.length
  · repeat (first | refine jn_intro ?_ | refine fun (_ : Env) => ?_ | simp (disch := first | omega | (simp only [size_setb, size_alloc', size_drew'] <;> omega) | (simp (disch := first | omega | (simp only [size_setb, size_alloc', size_drew'] <;> omega) | fail) only [go_sem]; done) | fail) only [go_sem, dec_t, dec_f, w_u32, w_u64, w_u16, w_u8, w_i64, Int.reduceToNat, Int.reducePow, Nat.reducePow])
    exact ⟨trivial, Below.refl _ _⟩
  by_cases g2 : p < 0
  · repeat (first | refine jn_intro ?_ | refine fun (_ : Env) => ?_ | simp (disch := first | omega | (simp only [size_setb, size_alloc', size_drew'] <;> omega) | (simp (disch := first | omega | (simp only [size_setb, size_alloc', size_drew'] <;> omega) | fail) only [go_sem]; done) | fail) only [go_sem, dec_t, dec_f, w_u32, w_u64, w_u16, w_u8, w_i64, Int.reduceToNat, Int.reducePow, Nat.reducePow])
    exact ⟨trivial, Below.refl _ _⟩
  by_cases g3 : 10000 < p
  · repeat (first | refine jn_intro ?_ | refine fun (_ : Env) => ?_ | simp (disch := first | omega | (simp only [size_setb, size_alloc', size_drew'] <;> omega) | (simp (disch := first | omega | (simp only [size_setb, size_alloc', size_drew'] <;> omega) | fail) only [go_sem]; done) | fail) only [go_sem, dec_t, dec_f, w_u32, w_u64, w_u16, w_u8, w_i64, Int.reduceToNat, Int.reducePow, Nat.reducePow])
    exact ⟨trivial, Below.refl _ _⟩
  by_cases g4 : n < 0
  · repeat (first | refine jn_intro ?_ | refine fun (_ : Env) => ?_ | simp (disch := first | omega | (simp only [size_setb, size_alloc', size_drew'] <;> omega) | (simp (disch := first | omega | (simp only [size_setb, size_alloc', size_drew'] <;> omega) | fail) only [go_sem]; done) | fail) only [go_sem, dec_t, dec_f, w_u32, w_u64, w_u16, w_u8, w_i64, Int.reduceToNat, Int.reducePow, Nat.reducePow])
    exact ⟨trivial, Below.refl _ _⟩
  by_cases g5 : 10000 < n
  · repeat (first | refine jn_intro ?_ | refine fun (_ : Env) => ?_ | simp (disch := first | omega | (simp only [size_setb, size_alloc', size_drew'] <;> omega) | (simp (disch := first | omega | (simp only [size_setb, size_alloc', size_drew'] <;> omega) | fail) only [go_sem]; done) | fail) only [go_sem, dec_t, dec_f, w_u32, w_u64, w_u16, w_u8, w_i64, Int.reduceToNat, Int.reducePow, Nat.reducePow])
    exact ⟨trivial, Below.refl _ _⟩
  refine jn_with (fun t w' => w' = w0) ?_ (by simp (disch := first | omega | (simp only [size_setb, size_alloc', size_drew'] <;> omega) | (simp (disch := first | omega | (simp only [size_setb, size_alloc', size_drew'] <;> omega) | fail) only [go_sem]; done) | fail) only [go_sem, dec_t, dec_f, w_u32, w_u64, w_u16, w_u8, w_i64, Int.reduceToNat, Int.reducePow, Nat.reducePow])
  rintro t e w1 rfl
  simp (disch := first | omega | (simp only [size_setb, size_alloc', size_drew'] <;> omega) | (simp (disch := first | omega | (simp only [size_setb, size_alloc', size_drew'] <;> omega) | fail) only [go_sem]; done) | fail) only [go_sem, dec_t, dec_f, w_u32, w_u64, w_u16, w_u8, w_i64, Int.reduceToNat, Int.reducePow, Nat.reducePow]
  rw [oBuildSliceM (size := 10) (z := AG stpZ) (zs := stpZ ++ stpZ ++ stpZ ++ stpZ) (out := (mkStp 16 [] (.slice none 0 0) p 0 0).cells ++ (mkStp 13 [] (.slice none 0 0) p 0 n).cells ++ (mkStp 12 [] (.slice none 0 0) 0 0 n).cells ++ (mkStp 16 [] (.slice none 0 0) 0 1 0).cells) U.sl_impl_Step (by kernel_rfl) (by decide) (by decide) (by rfl) (by rfl) (by rfl)]
  have bW : Below w1.heap.size w1 (w1.alloc (CB ((mkStp 16 [] (.slice none 0 0) p 0 0).cells ++ (mkStp 13 [] (.slice none 0 0) p 0 n).cells ++ (mkStp 12 [] (.slice none 0 0) 0 0 n).cells ++ (mkStp 16 [] (.slice none 0 0) 0 1 0).cells) T.impl_Step)) := Below.alloc (Below.refl _ _) (Nat.le_refl _) _
  have kW : bk (w1.alloc (CB ((mkStp 16 [] (.slice none 0 0) p 0 0).cells ++ (mkStp 13 [] (.slice none 0 0) p 0 n).cells ++ (mkStp 12 [] (.slice none 0 0) 0 0 n).cells ++ (mkStp 16 [] (.slice none 0 0) 0 1 0).cells) T.impl_Step)) w1.heap.size = some (CB ((mkStp 16 [] (.slice none 0 0) p 0 0).cells ++ (mkStp 13 [] (.slice none 0 0) p 0 n).cells ++ (mkStp 12 [] (.slice none 0 0) 0 0 n).cells ++ (mkStp 16 [] (.slice none 0 0) 0 1 0).cells) T.impl_Step) := bk_alloc_eq _ _ _ rfl
  have zW : (w1.alloc (CB ((mkStp 16 [] (.slice none 0 0) p 0 0).cells ++ (mkStp 13 [] (.slice none 0 0) p 0 n).cells ++ (mkStp 12 [] (.slice none 0 0) 0 0 n).cells ++ (mkStp 16 [] (.slice none 0 0) 0 1 0).cells) T.impl_Step)).heap.size = w1.heap.size + 1 := by simp only [go_sem]
  generalize (w1.alloc (CB ((mkStp 16 [] (.slice none 0 0) p 0 0).cells ++ (mkStp 13 [] (.slice none 0 0) p 0 n).cells ++ (mkStp 12 [] (.slice none 0 0) 0 0 n).cells ++ (mkStp 16 [] (.slice none 0 0) 0 1 0).cells) T.impl_Step)) = w2 at *
  have hs2 : Sn w2 w2.heap.size m := ⟨fun g hg => ⟨by have := ((hs.below bW).at_ g hg).1; omega, ((hs.below bW).at_ g hg).2⟩, fun g hg => ⟨by have := ((hs.below bW).cell g hg).1; omega, ((hs.below bW).cell g hg).2⟩, hs.inj⟩
  have hq : StepsAt w2 (sl w1.heap.size 0 4 4) [mkStp 16 [] (.slice none 0 0) p 0 0, mkStp 13 [] (.slice none 0 0) p 0 n, mkStp 12 [] (.slice none 0 0) 0 0 n, mkStp 16 [] (.slice none 0 0) 0 1 0] := by
    refine ⟨fun q hq => ?_, .inr ⟨w1.heap.size, 0, 4, rfl, by omega, fun i hi => ?_⟩⟩
    · simp only [List.mem_cons, List.not_mem_nil, or_false] at hq
      rcases hq with rfl | rfl | rfl | rfl <;> exact .inl ⟨rfl, _, _, rfl⟩
    · rw [kW]
      match i, hi with
      | 0, _ | 1, _ | 2, _ | 3, _ => rfl
  have hr := Runs.cons (does_seek (q := mkStp 16 [] (.slice none 0 0) p 0 0) (s := ⟨data, 0, false, ro⟩) rfl rfl (by show _ ≤ p ∧ p ≤ _; omega) (by show _ ≤ (0 : Int) ∧ (0 : Int) ≤ _; omega) (by show data.length ≤ _; omega))
    (Runs.cons (does_readAt (q := mkStp 13 [] (.slice none 0 0) p 0 n) (s := ⟨data, p, false, ro⟩) rfl rfl (by show 0 ≤ p ∧ p ≤ _; omega) (by show data.length ≤ _; omega))
    (Runs.cons (does_read (q := mkStp 12 [] (.slice none 0 0) 0 0 n) (s := ⟨data, p, false, ro⟩) rfl rfl (by show 0 ≤ p ∧ p ≤ _; omega) (by show data.length ≤ _; omega))
    (Runs.cons (does_seek (q := mkStp 16 [] (.slice none 0 0) 0 1 0) (s := ⟨data, p + (rdF ⟨data, p, false, ro⟩ (want n)).1.length, false, ro⟩) rfl rfl (by show _ ≤ (0 : Int) ∧ (0 : Int) ≤ _; omega) (by
      have := (rdF_len ⟨data, p, false, ro⟩ (want n)).2
      have h6 : (rdF ⟨data, p, false, ro⟩ (want n)).1.length ≤ data.length := this
      show _ ≤ p + ((rdF ⟨data, p, false, ro⟩ (want n)).1.length : Int) ∧ p + ((rdF ⟨data, p, false, ro⟩ (want n)).1.length : Int) ≤ _
      omega) (by show data.length ≤ _; omega)) (Runs.nil _))))
  refine script_spec (m := m) (BS_old hd bW (Nat.le_refl _)) (by omega) hs2 hq (by simp) hr (by show data.length ≤ _; omega) fun w3 av lv cs B3 o3 hcl hA hlv => ?_
  replace o3 : w3.ownsRow w2.heap.size T.impl_Answer 6 av 4 cs.flatten := o3
  replace hcl : cs.length = 4 := hcl
  have hcl6 : ∀ c ∈ cs, c.length = 6 := fun c hc => by
    obtain ⟨i, hi, rfl⟩ := List.getElem_of_mem hc
    obtain ⟨x, e, _⟩ := hA i hi (by simp; omega)
    rw [e]; rfl
  obtain ⟨b, cap, rfl, q1, q2, q3, rows⟩ := own_elem o3 hcl6 (by omega) (by omega)
  obtain ⟨x1, e1, bs1, _⟩ := hA 1 (by omega) (by simp)
  obtain ⟨x2, e2, bs2, _⟩ := hA 2 (by omega) (by simp)
  obtain ⟨x3, e3, bs3, _⟩ := hA 3 (by omega) (by simp)
  have hl : (rdF ⟨data, p, false, ro⟩ (want n)).1.length ≤ data.length := (rdF_len ⟨data, p, false, ro⟩ (want n)).2
  generalize hrd : rdF ⟨data, p, false, ro⟩ (want n) = rd at *
  replace e1 : cs[1] = ansL rd.2 0 0 x1 := by rw [e1, ← hrd]; rfl
  replace e2 : cs[2] = ansL rd.2 0 0 x2 := by rw [e2, ← hrd]; rfl
  replace e3 : cs[3] = ansL 0 0 (p + rd.1.length) x3 := by rw [e3, ← hrd]; show ansL 0 0 (_ + 0) x3 = _; rw [Int.add_zero]
  replace bs1 : BS w3 x1 rd.1 := by rw [← hrd]; exact bs1
  replace bs2 : BS w3 x2 rd.1 := by rw [← hrd]; exact bs2
  have r1 := rows 1 (by omega)
  have r2 := rows 2 (by omega)
  have r3 := rows 3 (by omega)
  rw [e1] at r1
  rw [e2] at r2
  rw [e3] at r3
  have ix : ∀ (j : Nat) (i : Int), i = j → j < 4 → ∀ (L : Value → Prop), pu P (oIdxA T.sl_impl_Answer (sl b 0 4 cap) (.int .i64 i)) L = L (pt b (j * 6)) := fun j i e hj L => by
    subst e
    rw [oIdxA_sl (size := 6) L U.sl_impl_Answer (by kernel_rfl) (by omega) (by omega)]
    rw [Int.toNat_natCast, Nat.zero_add]
  have ix1 : ∀ (L : Value → Prop), pu P (oIdxA T.sl_impl_Answer (sl b 0 4 cap) (.int .i64 1)) L = L (pt b 6) := ix 1 1 rfl (by omega)
  have ix2 : ∀ (L : Value → Prop), pu P (oIdxA T.sl_impl_Answer (sl b 0 4 cap) (.int .i64 2)) L = L (pt b 12) := ix 2 2 rfl (by omega)
  have ix3 : ∀ (L : Value → Prop), pu P (oIdxA T.sl_impl_Answer (sl b 0 4 cap) (.int .i64 3)) L = L (pt b 18) := ix 3 3 rfl (by omega)
  replace r1 : rowOf (bk w3 b) 6 6 = _ := r1
  replace r2 : rowOf (bk w3 b) 12 6 = _ := r2
  replace r3 : rowOf (bk w3 b) 18 6 = _ := r3
  obtain ⟨ax2, cx2, hx2⟩ := BS_slice bs2
  clear hA rows hr bs3
  simp (disch := first | omega | (simp only [size_setb, size_alloc', size_drew'] <;> omega) | (simp (disch := first | omega | (simp only [size_setb, size_alloc', size_drew'] <;> omega) | fail) only [go_sem, ix1, ix2, r1, r2]; done) | fail) only [go_sem, dec_t, dec_f, w_u32, w_u64, w_u16, w_u8, w_i64, Int.reduceToNat, Int.reducePow, Nat.reducePow, ix1, ix2, r1, r2]
  refine same_spec (A := ⟨rd.2, 0, 0, rd.1⟩) (A' := ⟨rd.2, 0, 0, rd.1⟩) bs1 bs2 fun w4 b4 => ?_
  have b4 : Below w3.heap.size w3 w4 := ((Below.refl _ w3).drew).trans b4
  have k4 : bk w4 b = bk w3 b := bel_bk b4 q2
  have cc3 : cellOf (bk w4 b) 20 = some (.int .i64 (p + rd.1.length)) := by rw [k4]; exact cell_row r3 2 (by omega)
  have cc2 : cellOf (bk w4 b) 15 = some x2 := by rw [k4]; exact cell_row r2 3 (by omega)
  have B4 : Below w1.heap.size w1 w4 := bW.trans ((B3.trans (b4.mono B3.size)).mono bW.size)
  have hlv4 : BS w4 lv data := BS_old (show BS w3 lv data from hlv) b4 (Nat.le_refl _)
  have hd4 : BS w4 (.slice a0 data.length c0) data := BS_old hd B4 (Nat.le_refl _)
  have cvl : ∀ (L : Value → Prop), X.rd P (oConv T.sl_uint8 T.string lv) w4 L = L (S data) := fun L => rdConvBS U.string U.sl_uint8 U.uint8 hlv4
  have cvd : ∀ (L : Value → Prop), X.rd P (oConv T.sl_uint8 T.string (.slice a0 data.length c0)) w4 L = L (S data) := fun L => rdConvBS U.string U.sl_uint8 U.uint8 hd4
  subst hx2
  simp (disch := first | omega | (simp only [size_setb, size_alloc', size_drew'] <;> omega) | (simp (disch := first | omega | (simp only [size_setb, size_alloc', size_drew'] <;> omega) | fail) only [go_sem, ix2, ix3, cc2, cc3, decide_true, cvl, cvd]; done) | fail) only [go_sem, dec_t, dec_f, w_u32, w_u64, w_u16, w_u8, w_i64, Int.reduceToNat, Int.reducePow, Nat.reducePow, ix2, ix3, cc2, cc3, decide_true, cvl, cvd]
  exact ⟨trivial, B4⟩
theorem FnReadIsReadAt_walk (v0 : Value) (l0 : List UInt8) (ro : Bool) (p n : Int) (w : World) (bs : BS w v0 l0) (hl : l0.length ≤ 140737488351232) (wp : (Lit.int .i64 p).wf = true) (wn : (Lit.int .i64 n).wf = true) (hL : laidMet P (senL.map senD) w) :
    Cl P Fn.laws_FnReadIsReadAt #[v0, .bool ro, .int .i64 p, .int .i64 n] w fun v w' => v = .bool true ∧ Below w.heap.size w w' := by
  obtain ⟨m, hs⟩ := sn_of hL
  exact FnReadIsReadAt_law bs hl hs
end Go.Proofs.YteblpejgenehfaaDoor.X
