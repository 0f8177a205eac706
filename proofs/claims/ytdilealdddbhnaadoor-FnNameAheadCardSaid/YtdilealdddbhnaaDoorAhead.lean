/- FnNameAhead: the walk. No condition beside the form's own. -/
import Derived.Test.YtdilealdddbhnaaDoorXU
import Derived.Test.YtdilealdddbhnaaDoorXDeep
import Derived.Test.YtdilealdddbhnaaDoorXLaid
import Derived.Test.YtdilealdddbhnaaDoorXF0
set_option linter.unusedVariables false
set_option linter.unusedSimpArgs false
set_option maxRecDepth 100000
namespace Go.Proofs.YtdilealdddbhnaaDoor.X
open Go Go.X Go.Proofs Go.RowKit

def preL : List (Nat × List UInt8) := [(2, [115, 121, 115, 116, 101, 109, 46, 112, 111, 115, 105, 120, 95, 97, 99, 108, 95, 97, 99, 99, 101, 115, 115]), (3, [115, 121, 115, 116, 101, 109, 46, 112, 111, 115, 105, 120, 95, 97, 99, 108, 95, 100, 101, 102, 97, 117, 108, 116]), (8, [115, 121, 115, 116, 101, 109, 46, 114, 105, 99, 104, 97, 99, 108]), (7, [115, 121, 115, 116, 101, 109, 46]), (1, [117, 115, 101, 114, 46]), (4, [116, 114, 117, 115, 116, 101, 100, 46]), (6, [115, 101, 99, 117, 114, 105, 116, 121, 46])]
def XA : List Value := [.int .u8 2, S [115, 121, 115, 116, 101, 109, 46, 112, 111, 115, 105, 120, 95, 97, 99, 108, 95, 97, 99, 99, 101, 115, 115], .int .u8 3, S [115, 121, 115, 116, 101, 109, 46, 112, 111, 115, 105, 120, 95, 97, 99, 108, 95, 100, 101, 102, 97, 117, 108, 116], .int .u8 8, S [115, 121, 115, 116, 101, 109, 46, 114, 105, 99, 104, 97, 99, 108], .int .u8 7, S [115, 121, 115, 116, 101, 109, 46], .int .u8 1, S [117, 115, 101, 114, 46], .int .u8 4, S [116, 114, 117, 115, 116, 101, 100, 46], .int .u8 6, S [115, 101, 99, 117, 114, 105, 116, 121, 46]]
/-- The prefixes stand in their variable. -/
def Pre (w : World) : Prop := ∃ t, bk w G.compactext4_xattrPrefixes = some (CB XA t)
theorem Pre.below {w w' : World} (h : Pre w) (hb : Below w.heap.size w w') : Pre w' := by
  obtain ⟨t, h⟩ := h
  exact ⟨t, (bel_bk hb (bk_lt h)).trans h⟩
def cmpL : List (Nat × List UInt8) → List UInt8 → Nat × List UInt8
  | [], l => (0, l)
  | p :: r, l => if l.take p.2.length = p.2 then (p.1, l.drop p.2.length) else cmpL r l
def decL : List (Nat × List UInt8) → Nat → List UInt8 → List UInt8
  | [], _, l => l
  | p :: r, i, l => if i = p.1 then p.2 ++ l else decL r i l
theorem XA_at (i : Nat) (h : i < 7) : (XA.drop (i * 2)).take 2 = [.int .u8 (preL.getD i (0, [])).1, S (preL.getD i (0, [])).2] := by
  match i, h with
  | 0, _ | 1, _ | 2, _ | 3, _ | 4, _ | 5, _ | 6, _ => rfl
theorem preL_drop (i : Nat) (h : i < 7) : preL.drop i = preL.getD i (0, []) :: preL.drop (i + 1) := by
  match i, h with
  | 0, _ | 1, _ | 2, _ | 3, _ | 4, _ | 5, _ | 6, _ => rfl
theorem preL_len (i : Nat) (h : i < 7) : (preL.getD i (0, [])).2.length ≤ 30 ∧ (preL.getD i (0, [])).1 ≤ 8 := by
  match i, h with
  | 0, _ | 1, _ | 2, _ | 3, _ | 4, _ | 5, _ | 6, _ => decide
theorem has_spec {l p : List UInt8} {w : World} {K : Value → World → Prop} (hl : l.length ≤ 140737488351232) (hp : p.length ≤ 140737488351232) (h : K (.bool (decide (l.take p.length = p))) w) : Cl P Fn.strings_HasPrefix #[S l, S p] w K := by
  apply S_strings_HasPrefix
  unfold F_strings_HasPrefix
  simp (disch := first | omega | (simp only [size_setb, size_alloc', size_drew'] <;> omega) | (simp (disch := first | omega | (simp only [size_setb, size_alloc', size_drew'] <;> omega) | fail) only [go_sem]; done) | fail) only [go_sem, dec_t, dec_f, w_u32, w_u64, w_u16, w_u8, w_i64, Int.reduceToNat, Int.reducePow, Nat.reducePow]
  apply S_stringslite_HasPrefix
  unfold F_stringslite_HasPrefix
  by_cases q : (p.length : Int) ≤ l.length
  · simp (disch := first | omega | (simp only [size_setb, size_alloc', size_drew'] <;> omega) | (simp (disch := first | omega | (simp only [size_setb, size_alloc', size_drew'] <;> omega) | fail) only [go_sem]; done) | fail) only [go_sem, dec_t, dec_f, w_u32, w_u64, w_u16, w_u8, w_i64, Int.reduceToNat, Int.reducePow, Nat.reducePow]
    rw [oSliceS_hi (h := U.string) (h0 := by omega) (h1 := by omega)]
    simp (disch := first | omega | (simp only [size_setb, size_alloc', size_drew'] <;> omega) | (simp (disch := first | omega | (simp only [size_setb, size_alloc', size_drew'] <;> omega) | fail) only [go_sem]; done) | fail) only [go_sem, dec_t, dec_f, w_u32, w_u64, w_u16, w_u8, w_i64, Int.reduceToNat, Int.reducePow, Nat.reducePow]
    exact h
  · simp (disch := first | omega | (simp only [size_setb, size_alloc', size_drew'] <;> omega) | (simp (disch := first | omega | (simp only [size_setb, size_alloc', size_drew'] <;> omega) | fail) only [go_sem]; done) | fail) only [go_sem, dec_t, dec_f, w_u32, w_u64, w_u16, w_u8, w_i64, Int.reduceToNat, Int.reducePow, Nat.reducePow]
    have e : ¬ (l.take p.length = p) := fun e => by have := congrArg List.length e; rw [List.length_take] at this; omega
    rwa [decide_eq_false e] at h

theorem compress_spec {l : List UInt8} {w : World} {K : Value → World → Prop} (hl : l.length ≤ 140737488351232) (hp : Pre w) (h : ∀ w', Below w.heap.size w w' → K (tup [.int .u8 (cmpL preL l).1, S (cmpL preL l).2]) w') : Cl P Fn.impl_CompressName #[S l] w K := by
  apply S_impl_CompressName
  unfold F_impl_CompressName
  simp (disch := first | omega | (simp only [size_setb, size_alloc', size_drew'] <;> omega) | (simp (disch := first | omega | (simp only [size_setb, size_alloc', size_drew'] <;> omega) | fail) only [go_sem]; done) | fail) only [go_sem, dec_t, dec_f, w_u32, w_u64, w_u16, w_u8, w_i64, Int.reduceToNat, Int.reducePow, Nat.reducePow]
  apply S_compactext4_DoorCompress
  unfold F_compactext4_DoorCompress
  simp (disch := first | omega | (simp only [size_setb, size_alloc', size_drew'] <;> omega) | (simp (disch := first | omega | (simp only [size_setb, size_alloc', size_drew'] <;> omega) | fail) only [go_sem]; done) | fail) only [go_sem, dec_t, dec_f, w_u32, w_u64, w_u16, w_u8, w_i64, Int.reduceToNat, Int.reducePow, Nat.reducePow]
  apply S_compactext4_compressXattrName
  unfold F_compactext4_compressXattrName
  obtain ⟨tt, hx⟩ := hp
  have hX : (rowOf (bk w G.compactext4_xattrPrefixes) 0 14) = some XA := by rw [hx]; rfl
  refine jn_with (fun t w' => Below w.heap.size w w' ∧ cmpL preL l = (0, l)) ?_ ?_
  · rintro t e w1 ⟨b1, e1⟩
    simp (disch := first | omega | (simp only [size_setb, size_alloc', size_drew'] <;> omega) | (simp (disch := first | omega | (simp only [size_setb, size_alloc', size_drew'] <;> omega) | fail) only [go_sem]; done) | fail) only [go_sem, dec_t, dec_f, w_u32, w_u64, w_u16, w_u8, w_i64, Int.reduceToNat, Int.reducePow, Nat.reducePow]
    rw [e1] at h
    exact h _ b1
  rw [M.ld_arr7_struct___Index_uint8__Prefix_string__ _ _ _ _ (by rw [hX]; rfl)]
  rw [hX]
  simp (disch := first | omega | (simp only [size_setb, size_alloc', size_drew'] <;> omega) | (simp (disch := first | omega | (simp only [size_setb, size_alloc', size_drew'] <;> omega) | fail) only [go_sem]; done) | fail) only [go_sem, dec_t, dec_f, w_u32, w_u64, w_u16, w_u8, w_i64, Int.reduceToNat, Int.reducePow, Nat.reducePow]
  refine lp_intro (fun t w' => Below w.heap.size w w' ∧ ∃ i : Nat, t = [.int .i64 i] ∧ i ≤ 7 ∧ cmpL preL l = cmpL (preL.drop i) l) (fun t _ => 8 - (RowKit.intOf (gs t 0)).toNat) ⟨Below.refl _ _, 0, rfl, by omega, rfl⟩ ?_
  rintro t e w1 ⟨b1, i, rfl, hi, hc⟩
  by_cases g : (i : Int) < 7
  · simp (disch := first | omega | (simp only [size_setb, size_alloc', size_drew'] <;> omega) | (simp (disch := first | omega | (simp only [size_setb, size_alloc', size_drew'] <;> omega) | fail) only [go_sem]; done) | fail) only [go_sem, dec_t, dec_f, w_u32, w_u64, w_u16, w_u8, w_i64, Int.reduceToNat, Int.reducePow, Nat.reducePow]
    have hi7 : i < 7 := by omega
    rw [preL_drop i hi7] at hc
    have hq := preL_len i hi7
    have z1 := b1.size
    refine jn_with (fun t w' => t = [] ∧ w' = w1) ?_ ⟨rfl, rfl⟩
    rintro t e w2 ⟨rfl, rfl⟩
    refine jn_with (fun t w' => t = [] ∧ Below w.heap.size w w' ∧ cmpL preL l = cmpL (preL.drop (i + 1)) l) ?_ ?_
    · rintro t e w3 ⟨rfl, b3, hc3⟩
      refine ⟨⟨b3, i + 1, rfl, by omega, hc3⟩, ?_⟩
      simp only [RowKit.intOf]
      omega
    · rw [oIdx_arrN (size := 2) Tryd.underlying83 Tryd.underlying82 rfl (by kernel_rfl) _ _ _ (by omega) (by omega)]
      rw [show (i : Int).toNat = i by omega, XA_at i hi7]
      generalize preL.getD i (0, []) = p at *
      simp (disch := first | omega | (simp only [size_setb, size_alloc', size_drew'] <;> omega) | (simp (disch := first | omega | (simp only [size_setb, size_alloc', size_drew'] <;> omega) | fail) only [go_sem]; done) | fail) only [go_sem, dec_t, dec_f, w_u32, w_u64, w_u16, w_u8, w_i64, Int.reduceToNat, Int.reducePow, Nat.reducePow]
      refine has_spec hl (by omega) ?_
      by_cases c : l.take p.2.length = p.2
      · have hle : p.2.length ≤ l.length := by have := congrArg List.length c; rw [List.length_take] at this; omega
        rw [cmpL, if_pos c] at hc
        rw [hc] at h
        simp (disch := first | omega | (simp only [size_setb, size_alloc', size_drew'] <;> omega) | (simp (disch := first | omega | (simp only [size_setb, size_alloc', size_drew'] <;> omega) | fail) only [go_sem, c, decide_true]; done) | fail) only [go_sem, dec_t, dec_f, w_u32, w_u64, w_u16, w_u8, w_i64, Int.reduceToNat, Int.reducePow, Nat.reducePow, c, decide_true]
        rw [oSliceS_lo (h := U.string) (h0 := by omega) (h1 := by omega)]
        simp (disch := first | omega | (simp only [size_setb, size_alloc', size_drew'] <;> omega) | (simp (disch := first | omega | (simp only [size_setb, size_alloc', size_drew'] <;> omega) | fail) only [go_sem]; done) | fail) only [go_sem, dec_t, dec_f, w_u32, w_u64, w_u16, w_u8, w_i64, Int.reduceToNat, Int.reducePow, Nat.reducePow]
        refine h _ ?_
        repeat (first | exact Below.refl _ _ | assumption | refine bel_setb ?_ (by first | exact Nat.le_refl _ | omega | (simp only [go_sem] <;> omega)) _ | refine Below.alloc ?_ (by first | exact Nat.le_refl _ | omega | (simp only [go_sem]; omega)) _ | refine Below.drew ?_)
      · rw [cmpL, if_neg c] at hc
        simp (disch := first | omega | (simp only [size_setb, size_alloc', size_drew'] <;> omega) | (simp (disch := first | omega | (simp only [size_setb, size_alloc', size_drew'] <;> omega) | fail) only [go_sem, c, decide_false]; done) | fail) only [go_sem, dec_t, dec_f, w_u32, w_u64, w_u16, w_u8, w_i64, Int.reduceToNat, Int.reducePow, Nat.reducePow, c, decide_false]
        refine ⟨trivial, ?_, hc⟩
        repeat (first | exact Below.refl _ _ | assumption | refine bel_setb ?_ (by first | exact Nat.le_refl _ | omega | (simp only [go_sem] <;> omega)) _ | refine Below.alloc ?_ (by first | exact Nat.le_refl _ | omega | (simp only [go_sem]; omega)) _ | refine Below.drew ?_)
  · have e7 : i = 7 := by omega
    subst e7
    simp (disch := first | omega | (simp only [size_setb, size_alloc', size_drew'] <;> omega) | (simp (disch := first | omega | (simp only [size_setb, size_alloc', size_drew'] <;> omega) | fail) only [go_sem]; done) | fail) only [go_sem, dec_t, dec_f, w_u32, w_u64, w_u16, w_u8, w_i64, Int.reduceToNat, Int.reducePow, Nat.reducePow]
    refine jn_with (fun _ _ => False) (fun _ _ _ h => h.elim) ?_
    exact ⟨b1, hc⟩

theorem decompress_spec {n : Nat} {l : List UInt8} {w : World} {K : Value → World → Prop} (hl : l.length ≤ 140737488351232) (hp : Pre w) (h : ∀ w', Below w.heap.size w w' → K (S (decL preL n l)) w') : Cl P Fn.impl_DecompressName #[.int .u8 n, S l] w K := by
  apply S_impl_DecompressName
  unfold F_impl_DecompressName
  simp (disch := first | omega | (simp only [size_setb, size_alloc', size_drew'] <;> omega) | (simp (disch := first | omega | (simp only [size_setb, size_alloc', size_drew'] <;> omega) | fail) only [go_sem]; done) | fail) only [go_sem, dec_t, dec_f, w_u32, w_u64, w_u16, w_u8, w_i64, Int.reduceToNat, Int.reducePow, Nat.reducePow]
  apply S_compactext4_DoorDecompress
  unfold F_compactext4_DoorDecompress
  simp (disch := first | omega | (simp only [size_setb, size_alloc', size_drew'] <;> omega) | (simp (disch := first | omega | (simp only [size_setb, size_alloc', size_drew'] <;> omega) | fail) only [go_sem]; done) | fail) only [go_sem, dec_t, dec_f, w_u32, w_u64, w_u16, w_u8, w_i64, Int.reduceToNat, Int.reducePow, Nat.reducePow]
  apply S_compactext4_decompressXattrName
  unfold F_compactext4_decompressXattrName
  obtain ⟨tt, hx⟩ := hp
  have hX : (rowOf (bk w G.compactext4_xattrPrefixes) 0 14) = some XA := by rw [hx]; rfl
  refine jn_with (fun t w' => Below w.heap.size w w' ∧ decL preL n l = l) ?_ ?_
  · rintro t e w1 ⟨b1, e1⟩
    simp (disch := first | omega | (simp only [size_setb, size_alloc', size_drew'] <;> omega) | (simp (disch := first | omega | (simp only [size_setb, size_alloc', size_drew'] <;> omega) | fail) only [go_sem]; done) | fail) only [go_sem, dec_t, dec_f, w_u32, w_u64, w_u16, w_u8, w_i64, Int.reduceToNat, Int.reducePow, Nat.reducePow]
    rw [e1] at h
    exact h _ b1
  rw [M.ld_arr7_struct___Index_uint8__Prefix_string__ _ _ _ _ (by rw [hX]; rfl)]
  rw [hX]
  simp (disch := first | omega | (simp only [size_setb, size_alloc', size_drew'] <;> omega) | (simp (disch := first | omega | (simp only [size_setb, size_alloc', size_drew'] <;> omega) | fail) only [go_sem]; done) | fail) only [go_sem, dec_t, dec_f, w_u32, w_u64, w_u16, w_u8, w_i64, Int.reduceToNat, Int.reducePow, Nat.reducePow]
  refine lp_intro (fun t w' => Below w.heap.size w w' ∧ ∃ i : Nat, t = [.int .i64 i] ∧ i ≤ 7 ∧ decL preL n l = decL (preL.drop i) n l) (fun t _ => 8 - (RowKit.intOf (gs t 0)).toNat) ⟨Below.refl _ _, 0, rfl, by omega, rfl⟩ ?_
  rintro t e w1 ⟨b1, i, rfl, hi, hc⟩
  by_cases g : (i : Int) < 7
  · simp (disch := first | omega | (simp only [size_setb, size_alloc', size_drew'] <;> omega) | (simp (disch := first | omega | (simp only [size_setb, size_alloc', size_drew'] <;> omega) | fail) only [go_sem]; done) | fail) only [go_sem, dec_t, dec_f, w_u32, w_u64, w_u16, w_u8, w_i64, Int.reduceToNat, Int.reducePow, Nat.reducePow]
    have hi7 : i < 7 := by omega
    rw [preL_drop i hi7] at hc
    have hq := preL_len i hi7
    have z1 := b1.size
    refine jn_with (fun t w' => t = [] ∧ w' = w1) ?_ ⟨rfl, rfl⟩
    rintro t e w2 ⟨rfl, rfl⟩
    refine jn_with (fun t w' => t = [] ∧ Below w.heap.size w w' ∧ decL preL n l = decL (preL.drop (i + 1)) n l) ?_ ?_
    · rintro t e w3 ⟨rfl, b3, hc3⟩
      refine ⟨⟨b3, i + 1, rfl, by omega, hc3⟩, ?_⟩
      simp only [RowKit.intOf]
      omega
    · rw [oIdx_arrN (size := 2) Tryd.underlying83 Tryd.underlying82 rfl (by kernel_rfl) _ _ _ (by omega) (by omega)]
      rw [show (i : Int).toNat = i by omega, XA_at i hi7]
      generalize preL.getD i (0, []) = p at *
      simp (disch := first | omega | (simp only [size_setb, size_alloc', size_drew'] <;> omega) | (simp (disch := first | omega | (simp only [size_setb, size_alloc', size_drew'] <;> omega) | fail) only [go_sem]; done) | fail) only [go_sem, dec_t, dec_f, w_u32, w_u64, w_u16, w_u8, w_i64, Int.reduceToNat, Int.reducePow, Nat.reducePow]
      by_cases c : n = p.1
      · rw [decL, if_pos c] at hc
        rw [hc] at h
        simp (disch := first | omega | (simp only [size_setb, size_alloc', size_drew'] <;> omega) | (simp (disch := first | omega | (simp only [size_setb, size_alloc', size_drew'] <;> omega) | fail) only [go_sem, c, decide_true]; done) | fail) only [go_sem, dec_t, dec_f, w_u32, w_u64, w_u16, w_u8, w_i64, Int.reduceToNat, Int.reducePow, Nat.reducePow, c, decide_true]
        refine h _ ?_
        repeat (first | exact Below.refl _ _ | assumption | refine bel_setb ?_ (by first | exact Nat.le_refl _ | omega | (simp only [go_sem] <;> omega)) _ | refine Below.alloc ?_ (by first | exact Nat.le_refl _ | omega | (simp only [go_sem]; omega)) _ | refine Below.drew ?_)
      · have c2 : ¬ ((n : Int) = p.1) := by omega
        rw [decL, if_neg c] at hc
        simp (disch := first | omega | (simp only [size_setb, size_alloc', size_drew'] <;> omega) | (simp (disch := first | omega | (simp only [size_setb, size_alloc', size_drew'] <;> omega) | fail) only [go_sem, c2, decide_false]; done) | fail) only [go_sem, dec_t, dec_f, w_u32, w_u64, w_u16, w_u8, w_i64, Int.reduceToNat, Int.reducePow, Nat.reducePow, c2, decide_false]
        refine ⟨trivial, ?_, hc⟩
        repeat (first | exact Below.refl _ _ | assumption | refine bel_setb ?_ (by first | exact Nat.le_refl _ | omega | (simp only [go_sem] <;> omega)) _ | refine Below.alloc ?_ (by first | exact Nat.le_refl _ | omega | (simp only [go_sem]; omega)) _ | refine Below.drew ?_)
  · have e7 : i = 7 := by omega
    subst e7
    simp (disch := first | omega | (simp only [size_setb, size_alloc', size_drew'] <;> omega) | (simp (disch := first | omega | (simp only [size_setb, size_alloc', size_drew'] <;> omega) | fail) only [go_sem]; done) | fail) only [go_sem, dec_t, dec_f, w_u32, w_u64, w_u16, w_u8, w_i64, Int.reduceToNat, Int.reducePow, Nat.reducePow]
    refine jn_with (fun _ _ => False) (fun _ _ _ h => h.elim) ?_
    exact ⟨b1, hc⟩

theorem take_more {a b q : List UInt8} (h : a.take q.length = q) : (a ++ b).take q.length = q := by
  have hl : q.length ≤ a.length := by have := congrArg List.length h; rw [List.length_take] at this; omega
  rw [List.take_append_of_le_length hl, h]
theorem take_less {a b p q : List UInt8} (hp : a.take p.length = p) (hq : (a ++ b).take q.length = q) (hn : a.take q.length ≠ q) : q.take p.length = p := by
  have hl : p.length ≤ a.length := by have := congrArg List.length hp; rw [List.length_take] at this; omega
  have hlt : a.length < q.length := by
    refine Nat.lt_of_not_le fun hle => hn ?_
    rw [List.take_append_of_le_length hle] at hq
    exact hq
  rw [← hq, List.take_take, Nat.min_eq_left (by omega), List.take_append_of_le_length hl, hp]
theorem dec_cmp : ∀ (ps : List (Nat × List UInt8)) (l : List UInt8), (ps.map (·.1)).Nodup → (∀ p ∈ ps, p.1 ≠ 0) → decL ps (cmpL ps l).1 (cmpL ps l).2 = l
  | [], l, _, _ => rfl
  | p :: r, l, hn, h0 => by
    have hn2 := List.nodup_cons.1 hn
    by_cases c : l.take p.2.length = p.2
    · rw [cmpL, if_pos c, decL, if_pos rfl]
      have := List.take_append_drop p.2.length l
      rwa [c] at this
    · rw [cmpL, if_neg c, decL, if_neg, dec_cmp r l hn2.2 fun q hq => h0 q (List.mem_cons_of_mem _ hq)]
      have key : ∀ (ps : List (Nat × List UInt8)), (cmpL ps l).1 = 0 ∨ (cmpL ps l).1 ∈ ps.map (·.1) := by
        intro ps
        induction ps with
        | nil => exact .inl rfl
        | cons q s ih =>
          rw [cmpL]
          split
          · exact .inr (by simp)
          · rcases ih with h | h
            · exact .inl h
            · exact .inr (List.mem_cons_of_mem _ h)
      intro e
      rcases key r with h | h
      · exact h0 p (List.mem_cons_self ..) (by rw [← e, h])
      · rw [e] at h; exact hn2.1 h
theorem dec_comp (l : List UInt8) : decL preL (cmpL preL l).1 (cmpL preL l).2 = l := dec_cmp preL l (by decide) (by decide)
theorem cmp_len (l : List UInt8) : (cmpL preL l).2.length ≤ l.length ∧ (cmpL preL l).1 ≤ 8 := by
  have : ∀ (ps : List (Nat × List UInt8)), (∀ p ∈ ps, p.1 ≤ 8) → (cmpL ps l).2.length ≤ l.length ∧ (cmpL ps l).1 ≤ 8 := by
    intro ps
    induction ps with
    | nil => intro _; exact ⟨Nat.le_refl _, by simp [cmpL]⟩
    | cons p r ih =>
      intro h
      rw [cmpL]
      split
      · exact ⟨by simp, h p (List.mem_cons_self ..)⟩
      · exact ih fun q hq => h q (List.mem_cons_of_mem _ hq)
  exact this preL (by decide)
/-- A name that has a prefix, and more behind it. -/
theorem ahead (l m : List UInt8) (h0 : (cmpL preL l).1 ≠ 0) : ((cmpL preL (l ++ m)).1 = (cmpL preL l).1 ∧ (cmpL preL (l ++ m)).2 = (cmpL preL l).2 ++ m) ∨
    ((cmpL preL (l ++ m)).1 ≠ (cmpL preL l).1 ∧ (cmpL preL l).1 = 7 ∧ ((cmpL preL (l ++ m)).1 = 2 ∨ (cmpL preL (l ++ m)).1 = 3 ∨ (cmpL preL (l ++ m)).1 = 8)) := by
  have dr : ∀ (q : List UInt8), l.take q.length = q → (l ++ m).drop q.length = l.drop q.length ++ m := fun q h => by
    have hl : q.length ≤ l.length := by have := congrArg List.length h; rw [List.length_take] at this; omega
    rw [List.drop_append_of_le_length hl]
  have mem : ∀ (ps : List (Nat × List UInt8)), (cmpL ps l).1 ≠ 0 → ∃ p ∈ ps, l.take p.2.length = p.2 ∧ (cmpL ps l).1 = p.1 := by
    intro ps
    induction ps with
    | nil => intro h; exact absurd rfl h
    | cons q s ih =>
      intro h
      by_cases c : l.take q.2.length = q.2
      · exact ⟨q, List.mem_cons_self .., c, by rw [cmpL, if_pos c]⟩
      · rw [cmpL, if_neg c] at h ⊢
        obtain ⟨p, h1, h2⟩ := ih h
        exact ⟨p, List.mem_cons_of_mem _ h1, h2⟩
  have gen : ∀ (ps : List (Nat × List UInt8)), ps.Pairwise (fun p p' => p.1 ≠ p'.1 ∧ (p.2.take p'.2.length = p'.2 → p'.1 = 7 ∧ (p.1 = 2 ∨ p.1 = 3 ∨ p.1 = 8))) → (cmpL ps l).1 ≠ 0 →
      ((cmpL ps (l ++ m)).1 = (cmpL ps l).1 ∧ (cmpL ps (l ++ m)).2 = (cmpL ps l).2 ++ m) ∨
      ((cmpL ps (l ++ m)).1 ≠ (cmpL ps l).1 ∧ (cmpL ps l).1 = 7 ∧ ((cmpL ps (l ++ m)).1 = 2 ∨ (cmpL ps (l ++ m)).1 = 3 ∨ (cmpL ps (l ++ m)).1 = 8)) := by
    intro ps
    induction ps with
    | nil => intro _ h; exact absurd rfl h
    | cons p r ih =>
      intro hp h
      have hp2 := List.pairwise_cons.1 hp
      by_cases c : l.take p.2.length = p.2
      · left
        rw [cmpL, cmpL, if_pos c, if_pos (take_more c)]
        exact ⟨rfl, dr p.2 c⟩
      · rw [cmpL, if_neg c] at h
        rw [cmpL, cmpL, if_neg c]
        by_cases d : (l ++ m).take p.2.length = p.2
        · right
          obtain ⟨p', h1, h2, h3⟩ := mem r h
          rw [if_pos d, h3]
          have h4 := hp2.1 p' h1
          exact ⟨h4.1, (h4.2 (take_less h2 d c)).1, (h4.2 (take_less h2 d c)).2⟩
        · rw [if_neg d]
          exact ih hp2.2 h
  exact gen preL (by decide) h0

theorem FnNameAhead_law {a m : List UInt8} {w : World} (ha : a.length ≤ 140737488351232) (hm : m.length ≤ 140737488351232) (hp : Pre w) : Cl P Fn.laws_FnNameAhead #[S a, S m] w fun v w' => v = .bool true ∧ Below w.heap.size w w' := by
  apply S_laws_FnNameAhead
  unfold F_laws_FnNameAhead
  by_cases h1 : (2147483647 : Int) < a.length
  · repeat (first | refine jn_intro ?_ | refine fun (_ : Env) => ?_ | simp (disch := first | omega | (simp only [size_setb, size_alloc', size_drew'] <;> omega) | (simp (disch := first | omega | (simp only [size_setb, size_alloc', size_drew'] <;> omega) | fail) only [go_sem]; done) | fail) only [go_sem, dec_t, dec_f, w_u32, w_u64, w_u16, w_u8, w_i64, Int.reduceToNat, Int.reducePow, Nat.reducePow])
    exact ⟨trivial, Below.refl _ _⟩
  by_cases h2 : (2147483647 : Int) < m.length
  · repeat (first | refine jn_intro ?_ | refine fun (_ : Env) => ?_ | simp (disch := first | omega | (simp only [size_setb, size_alloc', size_drew'] <;> omega) | (simp (disch := first | omega | (simp only [size_setb, size_alloc', size_drew'] <;> omega) | fail) only [go_sem]; done) | fail) only [go_sem, dec_t, dec_f, w_u32, w_u64, w_u16, w_u8, w_i64, Int.reduceToNat, Int.reducePow, Nat.reducePow])
    exact ⟨trivial, Below.refl _ _⟩
  repeat (first | refine jn_intro ?_ | refine fun (_ : Env) => ?_ | simp (disch := first | omega | (simp only [size_setb, size_alloc', size_drew'] <;> omega) | (simp (disch := first | omega | (simp only [size_setb, size_alloc', size_drew'] <;> omega) | fail) only [go_sem]; done) | fail) only [go_sem, dec_t, dec_f, w_u32, w_u64, w_u16, w_u8, w_i64, Int.reduceToNat, Int.reducePow, Nat.reducePow])
  refine compress_spec ha hp fun w1 b1 => ?_
  have hl := cmp_len a
  have hl2 := cmp_len (a ++ m)
  have hd := dec_comp a
  have hd2 := dec_comp (a ++ m)
  have hah := ahead a m
  rw [List.length_append] at hl2
  have dua : decL preL 1 [97] = [117, 115, 101, 114, 46, 97] := rfl
  have hp1 := hp.below b1
  have cs : ∀ (K : Value → World → Prop), (∀ w', Below w1.heap.size w1 w' → K (tup [.int .u8 (cmpL preL (a ++ m)).1, S (cmpL preL (a ++ m)).2]) w') → Cl P Fn.impl_CompressName #[S (a ++ m)] w1 K := fun K h => compress_spec (by simp only [List.length_append]; omega) hp1 h
  generalize cmpL preL (a ++ m) = c2 at *
  generalize cmpL preL a = c at *
  obtain ⟨n, r⟩ := c
  obtain ⟨n2, r2⟩ := c2
  simp only at hl hl2 hd hd2 hah cs
  simp only [oExtract2_0, oExtract2_1]
  have dec : ∀ {K : Value → World → Prop}, (∀ w', Below w1.heap.size w1 w' → ∀ w'', Below w'.heap.size w' w'' → K (.bool true) w'') → Cl P Fn.impl_DecompressName #[.int .u8 n, S r] w1 fun t30 w25 =>
      pu P (oBin .eql T.string false false t30 (S a)) fun t32 =>
      gd t32 true w25 (fun K20 => Cl P Fn.impl_DecompressName #[.int .u8 1, S [97]] w25 K20) fun t34 w26 =>
      gd t32 true w26 (fun K21 => pu P (oBin .eql T.string false true t34 (S [117, 115, 101, 114, 46, 97])) fun v => K21 v w26) fun t35 w27 =>
      pu P (oPick t32 t35 (.bool false)) fun t36 => K t36 w27 := fun {K} h => by
    refine decompress_spec (by omega) hp1 fun w2 b2 => ?_
    rw [hd]
    simp (disch := first | omega | (simp only [size_setb, size_alloc', size_drew'] <;> omega) | (simp (disch := first | omega | (simp only [size_setb, size_alloc', size_drew'] <;> omega) | fail) only [go_sem, decide_true]; done) | fail) only [go_sem, dec_t, dec_f, w_u32, w_u64, w_u16, w_u8, w_i64, Int.reduceToNat, Int.reducePow, Nat.reducePow, decide_true]
    refine decompress_spec (n := 1) (by simp) (hp1.below b2) fun w3 b3 => ?_
    rw [dua]
    simp (disch := first | omega | (simp only [size_setb, size_alloc', size_drew'] <;> omega) | (simp (disch := first | omega | (simp only [size_setb, size_alloc', size_drew'] <;> omega) | fail) only [go_sem, decide_true]; done) | fail) only [go_sem, dec_t, dec_f, w_u32, w_u64, w_u16, w_u8, w_i64, Int.reduceToNat, Int.reducePow, Nat.reducePow, decide_true]
    exact h _ b2 _ b3
  by_cases c1 : r = []
  · subst c1
    refine jn_with (fun _ _ => False) (fun _ _ _ h => h.elim) ?_
    simp (disch := first | omega | (simp only [size_setb, size_alloc', size_drew'] <;> omega) | (simp (disch := first | omega | (simp only [size_setb, size_alloc', size_drew'] <;> omega) | fail) only [go_sem, decide_true]; done) | fail) only [go_sem, dec_t, dec_f, w_u32, w_u64, w_u16, w_u8, w_i64, Int.reduceToNat, Int.reducePow, Nat.reducePow, decide_true]
    refine dec fun w2 b2 w3 b3 => ?_
    exact ⟨rfl, (b1.trans (b2.mono b1.size)).trans (b3.mono (Nat.le_trans b1.size b2.size))⟩
  by_cases c2 : n = 0
  · subst c2
    refine jn_with (fun _ _ => False) (fun _ _ _ h => h.elim) ?_
    have c3 : ((0 : Nat) : Int) = 0 := by omega
    simp (disch := first | omega | (simp only [size_setb, size_alloc', size_drew'] <;> omega) | (simp (disch := first | omega | (simp only [size_setb, size_alloc', size_drew'] <;> omega) | fail) only [go_sem, c1, c3, decide_true, decide_false]; done) | fail) only [go_sem, dec_t, dec_f, w_u32, w_u64, w_u16, w_u8, w_i64, Int.reduceToNat, Int.reducePow, Nat.reducePow, c1, c3, decide_true, decide_false]
    refine dec fun w2 b2 w3 b3 => ?_
    exact ⟨rfl, (b1.trans (b2.mono b1.size)).trans (b3.mono (Nat.le_trans b1.size b2.size))⟩
  · have c3 : ¬ (n : Int) = 0 := by omega
    refine jn_with (fun t w' => w' = w1) ?_ ?_
    · rintro t e w' rfl
      refine cs _ fun w2 b2 => ?_
      have b12 := b1.trans (b2.mono b1.size)
      simp only [oExtract2_0, oExtract2_1]
      rcases hah c2 with ⟨e1, e2⟩ | ⟨e1, e2, e3⟩
      · subst e1 e2
        refine jn_with (fun _ _ => False) (fun _ _ _ h => h.elim) ?_
        simp (disch := first | omega | (simp only [size_setb, size_alloc', size_drew'] <;> omega) | (simp (disch := first | omega | (simp only [size_setb, size_alloc', size_drew'] <;> omega) | fail) only [go_sem, decide_true]; done) | fail) only [go_sem, dec_t, dec_f, w_u32, w_u64, w_u16, w_u8, w_i64, Int.reduceToNat, Int.reducePow, Nat.reducePow, decide_true]
        exact ⟨trivial, b12⟩
      · have e4 : ¬ ((n2 : Int) = n) := by omega
        subst e2
        refine jn_with (fun t w' => w' = w2) ?_ ?_
        · rintro t e w4 rfl
          have fin : ∀ (K : Value → World → Prop), (∀ w'', Below w.heap.size w w'' → K (S (a ++ m)) w'') → Cl P Fn.impl_DecompressName #[.int .u8 n2, S r2] w4 K := fun K h => by
            refine decompress_spec (by omega) (hp1.below b2) fun w3 b3 => ?_
            rw [hd2]
            exact h _ (b12.trans (b3.mono b12.size))
          rcases e3 with e3 | e3 | e3
          · subst e3
            simp (disch := first | omega | (simp only [size_setb, size_alloc', size_drew'] <;> omega) | (simp (disch := first | omega | (simp only [size_setb, size_alloc', size_drew'] <;> omega) | fail) only [go_sem, decide_true, decide_false]; done) | fail) only [go_sem, dec_t, dec_f, w_u32, w_u64, w_u16, w_u8, w_i64, Int.reduceToNat, Int.reducePow, Nat.reducePow, decide_true, decide_false]
            refine fin _ fun w3 b3 => ?_
            simp (disch := first | omega | (simp only [size_setb, size_alloc', size_drew'] <;> omega) | (simp (disch := first | omega | (simp only [size_setb, size_alloc', size_drew'] <;> omega) | fail) only [go_sem, decide_true]; done) | fail) only [go_sem, dec_t, dec_f, w_u32, w_u64, w_u16, w_u8, w_i64, Int.reduceToNat, Int.reducePow, Nat.reducePow, decide_true]
            exact ⟨trivial, b3⟩
          · subst e3
            simp (disch := first | omega | (simp only [size_setb, size_alloc', size_drew'] <;> omega) | (simp (disch := first | omega | (simp only [size_setb, size_alloc', size_drew'] <;> omega) | fail) only [go_sem, decide_true, decide_false]; done) | fail) only [go_sem, dec_t, dec_f, w_u32, w_u64, w_u16, w_u8, w_i64, Int.reduceToNat, Int.reducePow, Nat.reducePow, decide_true, decide_false]
            refine fin _ fun w3 b3 => ?_
            simp (disch := first | omega | (simp only [size_setb, size_alloc', size_drew'] <;> omega) | (simp (disch := first | omega | (simp only [size_setb, size_alloc', size_drew'] <;> omega) | fail) only [go_sem, decide_true]; done) | fail) only [go_sem, dec_t, dec_f, w_u32, w_u64, w_u16, w_u8, w_i64, Int.reduceToNat, Int.reducePow, Nat.reducePow, decide_true]
            exact ⟨trivial, b3⟩
          · subst e3
            simp (disch := first | omega | (simp only [size_setb, size_alloc', size_drew'] <;> omega) | (simp (disch := first | omega | (simp only [size_setb, size_alloc', size_drew'] <;> omega) | fail) only [go_sem, decide_true, decide_false]; done) | fail) only [go_sem, dec_t, dec_f, w_u32, w_u64, w_u16, w_u8, w_i64, Int.reduceToNat, Int.reducePow, Nat.reducePow, decide_true, decide_false]
            refine fin _ fun w3 b3 => ?_
            simp (disch := first | omega | (simp only [size_setb, size_alloc', size_drew'] <;> omega) | (simp (disch := first | omega | (simp only [size_setb, size_alloc', size_drew'] <;> omega) | fail) only [go_sem, decide_true]; done) | fail) only [go_sem, dec_t, dec_f, w_u32, w_u64, w_u16, w_u8, w_i64, Int.reduceToNat, Int.reducePow, Nat.reducePow, decide_true]
            exact ⟨trivial, b3⟩
        · simp (disch := first | omega | (simp only [size_setb, size_alloc', size_drew'] <;> omega) | (simp (disch := first | omega | (simp only [size_setb, size_alloc', size_drew'] <;> omega) | fail) only [go_sem, decide_false]; done) | fail) only [go_sem, dec_t, dec_f, w_u32, w_u64, w_u16, w_u8, w_i64, Int.reduceToNat, Int.reducePow, Nat.reducePow, decide_false]
    · simp (disch := first | omega | (simp only [size_setb, size_alloc', size_drew'] <;> omega) | (simp (disch := first | omega | (simp only [size_setb, size_alloc', size_drew'] <;> omega) | fail) only [go_sem, c1, decide_false]; done) | fail) only [go_sem, dec_t, dec_f, w_u32, w_u64, w_u16, w_u8, w_i64, Int.reduceToNat, Int.reducePow, Nat.reducePow, c1, decide_false]

abbrev preD : DataW Unit := .agg ((preL.map fun p => ((p.1 : Int), p.2)).map fun p => .agg [.lit (.int .u8 p.1), .lit (.string p.2)])
theorem pre_of {r : List (String × DataW Unit)} {W : World} (h : laidMet P (("pub-marram/pub/hcsshim/ext4/inner/compactext4.xattrPrefixes", preD) :: r) W) : Pre W := by
  obtain ⟨l, tt, fuel, p, hb, hd⟩ := laid_block (g := G.compactext4_xattrPrefixes) (t := T.arr7_struct___Index_uint8__Prefix_string__) h (by kernel_rfl) (by kernel_rfl) (fun fuel cs x hx e => by
    obtain ⟨_, _, _, _, hl, _⟩ := DataW.trod_array Tryd.underlying83 hx
    rw [e] at hl
    exact absurd hl (by decide +kernel))
  have := trod_pairs (k := .u8) _ Tryd.underlying83 Tryd.underlying82 rfl rfl (by kernel_rfl) (by kernel_rfl) (by kernel_rfl) (by kernel_rfl) U.uint8 U.string hd
  subst this
  exact ⟨tt, hb⟩
theorem FnNameAhead_walk {r : List (String × DataW Unit)} (a m : List UInt8) (w : World) (ha : a.length ≤ 140737488351232) (hm : m.length ≤ 140737488351232) (hL : laidMet P (("pub-marram/pub/hcsshim/ext4/inner/compactext4.xattrPrefixes", preD) :: r) w) :
    Cl P Fn.laws_FnNameAhead #[S a, S m] w fun v w' => v = .bool true ∧ Below w.heap.size w w' := FnNameAhead_law ha hm (pre_of hL)
end Go.Proofs.YtdilealdddbhnaaDoor.X
