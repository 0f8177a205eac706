/- Attributes: what their names are without prefixes; how much room they want. No condition. -/
import Derived.Test.YtfiepdikejoeeaaDoorF1
import Derived.Test.YtfiepdikejoeeaaDoorXLaid
import Derived.Test.YtfiepdikejoeeaaDoorXFit
set_option linter.unusedVariables false
set_option linter.unusedSimpArgs false
set_option maxRecDepth 100000
namespace Go.Proofs.YtfiepdikejoeeaaDoor.X
open Go Go.X Go.Proofs Go.RowKit

def preL : List (Nat × List UInt8) := [(2, [115, 121, 115, 116, 101, 109, 46, 112, 111, 115, 105, 120, 95, 97, 99, 108, 95, 97, 99, 99, 101, 115, 115]), (3, [115, 121, 115, 116, 101, 109, 46, 112, 111, 115, 105, 120, 95, 97, 99, 108, 95, 100, 101, 102, 97, 117, 108, 116]), (8, [115, 121, 115, 116, 101, 109, 46, 114, 105, 99, 104, 97, 99, 108]), (7, [115, 121, 115, 116, 101, 109, 46]), (1, [117, 115, 101, 114, 46]), (4, [116, 114, 117, 115, 116, 101, 100, 46]), (6, [115, 101, 99, 117, 114, 105, 116, 121, 46])]
def XA : List Value := [.int .u8 2, S [115, 121, 115, 116, 101, 109, 46, 112, 111, 115, 105, 120, 95, 97, 99, 108, 95, 97, 99, 99, 101, 115, 115], .int .u8 3, S [115, 121, 115, 116, 101, 109, 46, 112, 111, 115, 105, 120, 95, 97, 99, 108, 95, 100, 101, 102, 97, 117, 108, 116], .int .u8 8, S [115, 121, 115, 116, 101, 109, 46, 114, 105, 99, 104, 97, 99, 108], .int .u8 7, S [115, 121, 115, 116, 101, 109, 46], .int .u8 1, S [117, 115, 101, 114, 46], .int .u8 4, S [116, 114, 117, 115, 116, 101, 100, 46], .int .u8 6, S [115, 101, 99, 117, 114, 105, 116, 121, 46]]
/-- The prefixes stand in their variable. -/
def Pre (w : World) : Prop := ∃ t, bk w G.compactext4_xattrPrefixes = some (CB XA t)
theorem Pre.below {w w' : World} (h : Pre w) (hb : Below w.heap.size w w') : Pre w' := by
  obtain ⟨t, h⟩ := h
  exact ⟨t, (bel_bk hb (bk_lt h)).trans h⟩
def cmpL : List (Nat × List UInt8) → List UInt8 → Nat × List UInt8
  | [], l => (0, l)
  | p :: r, l => if l.take p.2.length = p.2 then (p.1, l.drop p.2.length) else cmpL r l
theorem XA_at (i : Nat) (h : i < 7) : (XA.drop (i * 2)).take 2 = [.int .u8 (preL.getD i (0, [])).1, S (preL.getD i (0, [])).2] := by
  match i, h with
  | 0, _ | 1, _ | 2, _ | 3, _ | 4, _ | 5, _ | 6, _ => rfl
theorem preL_drop (i : Nat) (h : i < 7) : preL.drop i = preL.getD i (0, []) :: preL.drop (i + 1) := by
  match i, h with
  | 0, _ | 1, _ | 2, _ | 3, _ | 4, _ | 5, _ | 6, _ => rfl
theorem preL_len (i : Nat) (h : i < 7) : (preL.getD i (0, [])).2.length ≤ 30 ∧ (preL.getD i (0, [])).1 ≤ 8 := by
  match i, h with
  | 0, _ | 1, _ | 2, _ | 3, _ | 4, _ | 5, _ | 6, _ => decide
theorem has_spec {l p : List UInt8} {w : World} {K : Value → World → Prop} (hl : l.length ≤ 140737488351232) (hp : p.length ≤ 140737488351232) (h : K (.bool (decide (l.take p.length = p))) w) : Cl P Fn.strings_HasPrefix #[S l, S p] w K := by
  apply S_strings_HasPrefix
  unfold F_strings_HasPrefix
  simp (disch := first | omega | (simp only [size_setb, size_alloc', size_drew'] <;> omega) | (simp (disch := first | omega | (simp only [size_setb, size_alloc', size_drew'] <;> omega) | fail) only [go_sem]; done) | fail) only [go_sem, dec_t, dec_f, w_u32, w_u64, w_u16, w_u8, w_i64, Int.reduceToNat, Int.reducePow, Nat.reducePow]
  apply S_stringslite_HasPrefix
  unfold F_stringslite_HasPrefix
  by_cases q : (p.length : Int) ≤ l.length
  · simp (disch := first | omega | (simp only [size_setb, size_alloc', size_drew'] <;> omega) | (simp (disch := first | omega | (simp only [size_setb, size_alloc', size_drew'] <;> omega) | fail) only [go_sem]; done) | fail) only [go_sem, dec_t, dec_f, w_u32, w_u64, w_u16, w_u8, w_i64, Int.reduceToNat, Int.reducePow, Nat.reducePow]
    rw [oSliceS_hi (h := U.string) (h0 := by omega) (h1 := by omega)]
    simp (disch := first | omega | (simp only [size_setb, size_alloc', size_drew'] <;> omega) | (simp (disch := first | omega | (simp only [size_setb, size_alloc', size_drew'] <;> omega) | fail) only [go_sem, decide_true]; done) | fail) only [go_sem, dec_t, dec_f, w_u32, w_u64, w_u16, w_u8, w_i64, Int.reduceToNat, Int.reducePow, Nat.reducePow, decide_true]
    exact h
  · simp (disch := first | omega | (simp only [size_setb, size_alloc', size_drew'] <;> omega) | (simp (disch := first | omega | (simp only [size_setb, size_alloc', size_drew'] <;> omega) | fail) only [go_sem]; done) | fail) only [go_sem, dec_t, dec_f, w_u32, w_u64, w_u16, w_u8, w_i64, Int.reduceToNat, Int.reducePow, Nat.reducePow]
    have e : ¬ (l.take p.length = p) := fun e => by have := congrArg List.length e; rw [List.length_take] at this; omega
    rwa [decide_eq_false e] at h

theorem compress_spec {l : List UInt8} {w : World} {K : Value → World → Prop} (hl : l.length ≤ 140737488351232) (hp : Pre w) (h : ∀ w', Below w.heap.size w w' → K (tup [.int .u8 (cmpL preL l).1, S (cmpL preL l).2]) w') : Cl P Fn.compactext4_compressXattrName #[S l] w K := by
  apply S_compactext4_compressXattrName
  unfold F_compactext4_compressXattrName
  obtain ⟨tt, hx⟩ := hp
  have hX : (rowOf (bk w G.compactext4_xattrPrefixes) 0 14) = some XA := by rw [hx]; rfl
  refine jn_with (fun t w' => Below w.heap.size w w' ∧ cmpL preL l = (0, l)) ?_ ?_
  · rintro t e w1 ⟨b1, e1⟩
    rw [e1] at h
    exact h _ b1
  rw [M.ld_arr7_struct___Index_uint8__Prefix_string__ _ _ _ _ (by rw [hX]; rfl)]
  rw [hX]
  simp (disch := first | omega | (simp only [size_setb, size_alloc', size_drew'] <;> omega) | (simp (disch := first | omega | (simp only [size_setb, size_alloc', size_drew'] <;> omega) | fail) only [go_sem]; done) | fail) only [go_sem, dec_t, dec_f, w_u32, w_u64, w_u16, w_u8, w_i64, Int.reduceToNat, Int.reducePow, Nat.reducePow]
  refine lp_intro (fun t w' => Below w.heap.size w w' ∧ ∃ i : Nat, t = [.int .i64 i] ∧ i ≤ 7 ∧ cmpL preL l = cmpL (preL.drop i) l) (fun t _ => 8 - (RowKit.intOf (gs t 0)).toNat) ⟨Below.refl _ _, 0, rfl, by omega, rfl⟩ ?_
  rintro t e w1 ⟨b1, i, rfl, hi, hc⟩
  by_cases g : (i : Int) < 7
  · simp (disch := first | omega | (simp only [size_setb, size_alloc', size_drew'] <;> omega) | (simp (disch := first | omega | (simp only [size_setb, size_alloc', size_drew'] <;> omega) | fail) only [go_sem]; done) | fail) only [go_sem, dec_t, dec_f, w_u32, w_u64, w_u16, w_u8, w_i64, Int.reduceToNat, Int.reducePow, Nat.reducePow]
    have hi7 : i < 7 := by omega
    rw [preL_drop i hi7] at hc
    have hq := preL_len i hi7
    have z1 := b1.size
    refine jn_with (fun t w' => t = [] ∧ w' = w1) ?_ ⟨rfl, rfl⟩
    rintro t e w2 ⟨rfl, rfl⟩
    refine jn_with (fun t w' => t = [] ∧ Below w.heap.size w w' ∧ cmpL preL l = cmpL (preL.drop (i + 1)) l) ?_ ?_
    · rintro t e w3 ⟨rfl, b3, hc3⟩
      refine ⟨⟨b3, i + 1, rfl, by omega, hc3⟩, ?_⟩
      simp only [RowKit.intOf]
      omega
    · rw [oIdx_arrN (size := 2) Tryd.underlying60 Tryd.underlying59 rfl (by kernel_rfl) _ _ _ (by omega) (by omega)]
      rw [show (i : Int).toNat = i by omega, XA_at i hi7]
      generalize preL.getD i (0, []) = p at *
      simp (disch := first | omega | (simp only [size_setb, size_alloc', size_drew'] <;> omega) | (simp (disch := first | omega | (simp only [size_setb, size_alloc', size_drew'] <;> omega) | fail) only [go_sem]; done) | fail) only [go_sem, dec_t, dec_f, w_u32, w_u64, w_u16, w_u8, w_i64, Int.reduceToNat, Int.reducePow, Nat.reducePow]
      refine has_spec hl (by omega) ?_
      by_cases c : l.take p.2.length = p.2
      · have hle : p.2.length ≤ l.length := by have := congrArg List.length c; rw [List.length_take] at this; omega
        rw [cmpL, if_pos c] at hc
        rw [hc] at h
        simp (disch := first | omega | (simp only [size_setb, size_alloc', size_drew'] <;> omega) | (simp (disch := first | omega | (simp only [size_setb, size_alloc', size_drew'] <;> omega) | fail) only [go_sem, c, decide_true]; done) | fail) only [go_sem, dec_t, dec_f, w_u32, w_u64, w_u16, w_u8, w_i64, Int.reduceToNat, Int.reducePow, Nat.reducePow, c, decide_true]
        rw [oSliceS_lo (h := U.string) (h0 := by omega) (h1 := by omega)]
        simp (disch := first | omega | (simp only [size_setb, size_alloc', size_drew'] <;> omega) | (simp (disch := first | omega | (simp only [size_setb, size_alloc', size_drew'] <;> omega) | fail) only [go_sem]; done) | fail) only [go_sem, dec_t, dec_f, w_u32, w_u64, w_u16, w_u8, w_i64, Int.reduceToNat, Int.reducePow, Nat.reducePow]
        refine h _ ?_
        repeat (first | exact Below.refl _ _ | assumption | refine bel_setb ?_ (by first | exact Nat.le_refl _ | omega | (simp only [go_sem] <;> omega)) _ | refine Below.alloc ?_ (by first | exact Nat.le_refl _ | omega | (simp only [go_sem]; omega)) _ | refine Below.drew ?_)
      · rw [cmpL, if_neg c] at hc
        simp (disch := first | omega | (simp only [size_setb, size_alloc', size_drew'] <;> omega) | (simp (disch := first | omega | (simp only [size_setb, size_alloc', size_drew'] <;> omega) | fail) only [go_sem, c, decide_false]; done) | fail) only [go_sem, dec_t, dec_f, w_u32, w_u64, w_u16, w_u8, w_i64, Int.reduceToNat, Int.reducePow, Nat.reducePow, c, decide_false]
        refine ⟨trivial, ?_, hc⟩
        repeat (first | exact Below.refl _ _ | assumption | refine bel_setb ?_ (by first | exact Nat.le_refl _ | omega | (simp only [go_sem] <;> omega)) _ | refine Below.alloc ?_ (by first | exact Nat.le_refl _ | omega | (simp only [go_sem]; omega)) _ | refine Below.drew ?_)
  · have e7 : i = 7 := by omega
    subst e7
    simp (disch := first | omega | (simp only [size_setb, size_alloc', size_drew'] <;> omega) | (simp (disch := first | omega | (simp only [size_setb, size_alloc', size_drew'] <;> omega) | fail) only [go_sem]; done) | fail) only [go_sem, dec_t, dec_f, w_u32, w_u64, w_u16, w_u8, w_i64, Int.reduceToNat, Int.reducePow, Nat.reducePow]
    refine jn_with (fun _ _ => False) (fun _ _ _ h => h.elim) ?_
    exact ⟨b1, hc⟩

theorem cmp_len (l : List UInt8) : (cmpL preL l).2.length ≤ l.length ∧ (cmpL preL l).1 ≤ 8 := by
  have : ∀ (ps : List (Nat × List UInt8)), (∀ p ∈ ps, p.1 ≤ 8) → (cmpL ps l).2.length ≤ l.length ∧ (cmpL ps l).1 ≤ 8 := by
    intro ps
    induction ps with
    | nil => intro _; exact ⟨Nat.le_refl _, by simp [cmpL]⟩
    | cons p r ih =>
      intro h
      rw [cmpL]
      split
      · exact ⟨by simp, h p (List.mem_cons_self ..)⟩
      · exact ih fun q hq => h q (List.mem_cons_of_mem _ hq)
  exact this preL (by decide)
abbrev preD : DataW Unit := .agg ((preL.map fun p => ((p.1 : Int), p.2)).map fun p => .agg [.lit (.int .u8 p.1), .lit (.string p.2)])
theorem pre_of {r : List (String × DataW Unit)} {W : World} (h : laidMet P (("pub-marram/pub/hcsshim/ext4/inner/compactext4.xattrPrefixes", preD) :: r) W) : Pre W := by
  obtain ⟨l, tt, fuel, p, hb, hd⟩ := laid_block (g := G.compactext4_xattrPrefixes) (t := T.arr7_struct___Index_uint8__Prefix_string__) h (by kernel_rfl) (by kernel_rfl) (fun fuel cs x hx e => by
    obtain ⟨_, _, _, _, hl, _⟩ := DataW.trod_array Tryd.underlying60 hx
    rw [e] at hl
    exact absurd hl (by decide +kernel))
  have := trod_pairs (k := .u8) _ Tryd.underlying60 Tryd.underlying59 rfl rfl (by kernel_rfl) (by kernel_rfl) (by kernel_rfl) (by kernel_rfl) U.uint8 U.string hd
  subst this
  exact ⟨tt, hb⟩

theorem begins_spec {l p : List UInt8} {w : World} {K : Value → World → Prop} (hl : l.length ≤ 140737488351232) (hp : p.length ≤ 140737488351232) (h : K (.bool (decide (l.take p.length = p))) w) : Cl P Fn.spec_Begins #[S l, S p] w K := by
  apply S_spec_Begins
  unfold F_spec_Begins
  by_cases q : (p.length : Int) ≤ l.length
  · simp (disch := first | omega | (simp only [size_setb, size_alloc', size_drew'] <;> omega) | (simp (disch := first | omega | (simp only [size_setb, size_alloc', size_drew'] <;> omega) | fail) only [go_sem]; done) | fail) only [go_sem, dec_t, dec_f, w_u32, w_u64, w_u16, w_u8, w_i64, Int.reduceToNat, Int.reducePow, Nat.reducePow]
    rw [oSliceS_hi (h := U.string) (h0 := by omega) (h1 := by omega)]
    simp (disch := first | omega | (simp only [size_setb, size_alloc', size_drew'] <;> omega) | (simp (disch := first | omega | (simp only [size_setb, size_alloc', size_drew'] <;> omega) | fail) only [go_sem, decide_true]; done) | fail) only [go_sem, dec_t, dec_f, w_u32, w_u64, w_u16, w_u8, w_i64, Int.reduceToNat, Int.reducePow, Nat.reducePow, decide_true]
    exact h
  · simp (disch := first | omega | (simp only [size_setb, size_alloc', size_drew'] <;> omega) | (simp (disch := first | omega | (simp only [size_setb, size_alloc', size_drew'] <;> omega) | fail) only [go_sem]; done) | fail) only [go_sem, dec_t, dec_f, w_u32, w_u64, w_u16, w_u8, w_i64, Int.reduceToNat, Int.reducePow, Nat.reducePow]
    have e : ¬ (l.take p.length = p) := fun e => by have := congrArg List.length e; rw [List.length_take] at this; omega
    rwa [decide_eq_false e] at h
theorem prefix_spec {i : Nat} (hi : i < 7) {w : World} {K : Value → World → Prop} (h : K (tup [S (preL.getD i (0, [])).2, .bool true]) w) : Cl P Fn.spec_prefix #[.int .u64 (preL.getD i (0, [])).1] w K := by
  apply S_spec_prefix
  unfold F_spec_prefix
  refine jn_with (fun _ _ => False) (fun _ _ _ h => h.elim) ?_
  match i, hi with
  | 0, _ | 1, _ | 2, _ | 3, _ | 4, _ | 5, _ | 6, _ =>
    simp only [preL, List.getD_cons_zero, List.getD_cons_succ] at h ⊢
    simp (disch := first | omega | (simp only [size_setb, size_alloc', size_drew'] <;> omega) | (simp (disch := first | omega | (simp only [size_setb, size_alloc', size_drew'] <;> omega) | fail) only [go_sem, decide_true, decide_false]; done) | fail) only [go_sem, dec_t, dec_f, w_u32, w_u64, w_u16, w_u8, w_i64, Int.reduceToNat, Int.reducePow, Nat.reducePow, decide_true, decide_false]
    exact h
def idxL : List Value := [.int .u64 2, .int .u64 3, .int .u64 8, .int .u64 7, .int .u64 1, .int .u64 4, .int .u64 6]
theorem idxL_at (i : Nat) (h : i < 7) : idxL[i]? = some (.int .u64 (preL.getD i (0, [])).1) := by
  match i, h with
  | 0, _ | 1, _ | 2, _ | 3, _ | 4, _ | 5, _ | 6, _ => rfl
theorem prefixed_spec {l : List UInt8} {w : World} {K : Value → World → Prop} (hl : l.length ≤ 140737488351232) (h : ∀ n w', Below w.heap.size w w' → K (tup [.int .u64 n, S (cmpL preL l).2]) w') : Cl P Fn.spec_Prefixed #[S l] w K := by
  apply S_spec_Prefixed
  unfold F_spec_Prefixed
  refine jn_with (fun t w' => Below w.heap.size w w' ∧ cmpL preL l = (0, l)) ?_ ?_
  · rintro t e w1 ⟨b1, e1⟩
    rw [e1] at h
    exact h _ _ b1
  rw [oBuildSliceM (z := .int .u64 0) (size := 1) (zs := List.replicate 7 (.int .u64 0)) (out := idxL) U.sl_uint64 (by kernel_rfl) (by omega) (by omega) rfl (by kernel_rfl) (by kernel_rfl)]
  have h0 : bk (w.alloc (CB idxL T.uint64)) w.heap.size = some (CB idxL T.uint64) := bk_alloc_eq _ _ _ rfl
  have B0 : Below w.heap.size w (w.alloc (CB idxL T.uint64)) := by repeat (first | exact Below.refl _ _ | assumption | refine bel_setb ?_ (by first | exact Nat.le_refl _ | omega | (simp only [go_sem] <;> omega)) _ | refine Below.alloc ?_ (by first | exact Nat.le_refl _ | omega | (simp only [go_sem]; omega)) _ | refine Below.drew ?_)
  have z0 : (w.alloc (CB idxL T.uint64)).heap.size = w.heap.size + 1 := by simp only [go_sem]
  generalize w.alloc (CB idxL T.uint64) = w0 at *
  simp (disch := first | omega | (simp only [size_setb, size_alloc', size_drew'] <;> omega) | (simp (disch := first | omega | (simp only [size_setb, size_alloc', size_drew'] <;> omega) | fail) only [go_sem]; done) | fail) only [go_sem, dec_t, dec_f, w_u32, w_u64, w_u16, w_u8, w_i64, Int.reduceToNat, Int.reducePow, Nat.reducePow]
  refine lp_intro (fun t w' => w' = w0 ∧ ∃ i : Nat, t = [.int .i64 i] ∧ i ≤ 7 ∧ cmpL preL l = cmpL (preL.drop i) l) (fun t _ => 8 - (RowKit.intOf (gs t 0)).toNat) ⟨rfl, 0, rfl, by omega, rfl⟩ ?_
  rintro t e w1 ⟨rfl, i, rfl, hi, hc⟩
  by_cases g : (i : Int) < 7
  · simp (disch := first | omega | (simp only [size_setb, size_alloc', size_drew'] <;> omega) | (simp (disch := first | omega | (simp only [size_setb, size_alloc', size_drew'] <;> omega) | fail) only [go_sem]; done) | fail) only [go_sem, dec_t, dec_f, w_u32, w_u64, w_u16, w_u8, w_i64, Int.reduceToNat, Int.reducePow, Nat.reducePow]
    have hi7 : i < 7 := by omega
    rw [preL_drop i hi7] at hc
    have hq := preL_len i hi7
    refine jn_with (fun t w' => t = [] ∧ w' = w1) ?_ ⟨rfl, rfl⟩
    rintro t e w2 ⟨rfl, rfl⟩
    refine jn_with (fun t w' => t = [] ∧ w' = w2 ∧ cmpL preL l = cmpL (preL.drop (i + 1)) l) ?_ ?_
    · rintro t e w3 ⟨rfl, rfl, hc3⟩
      refine ⟨⟨rfl, i + 1, rfl, by omega, hc3⟩, ?_⟩
      simp only [RowKit.intOf]
      omega
    · rw [oIdxA_sl (size := 1) _ U.sl_uint64 (by kernel_rfl) (by omega) (by omega), Int.toNat_natCast, Nat.mul_one, Nat.zero_add]
      have hcell : cellOf (bk w2 w.heap.size) i = some (.int .u64 (preL.getD i (0, [])).1) := by rw [h0]; exact (cellOf_CB _ _ _).trans (idxL_at i hi7)
      simp (disch := first | omega | (simp only [size_setb, size_alloc', size_drew'] <;> omega) | (simp (disch := first | omega | (simp only [size_setb, size_alloc', size_drew'] <;> omega) | fail) only [go_sem, hcell]; done) | fail) only [go_sem, dec_t, dec_f, w_u32, w_u64, w_u16, w_u8, w_i64, Int.reduceToNat, Int.reducePow, Nat.reducePow, hcell]
      refine prefix_spec hi7 ?_
      generalize preL.getD i (0, []) = p at *
      simp (disch := first | omega | (simp only [size_setb, size_alloc', size_drew'] <;> omega) | (simp (disch := first | omega | (simp only [size_setb, size_alloc', size_drew'] <;> omega) | fail) only [go_sem]; done) | fail) only [go_sem, dec_t, dec_f, w_u32, w_u64, w_u16, w_u8, w_i64, Int.reduceToNat, Int.reducePow, Nat.reducePow]
      refine begins_spec hl (by omega) ?_
      by_cases c : l.take p.2.length = p.2
      · have hle : p.2.length ≤ l.length := by have := congrArg List.length c; rw [List.length_take] at this; omega
        rw [cmpL, if_pos c] at hc
        rw [hc] at h
        simp (disch := first | omega | (simp only [size_setb, size_alloc', size_drew'] <;> omega) | (simp (disch := first | omega | (simp only [size_setb, size_alloc', size_drew'] <;> omega) | fail) only [go_sem, c, decide_true]; done) | fail) only [go_sem, dec_t, dec_f, w_u32, w_u64, w_u16, w_u8, w_i64, Int.reduceToNat, Int.reducePow, Nat.reducePow, c, decide_true]
        rw [oSliceS_lo (h := U.string) (h0 := by omega) (h1 := by omega)]
        simp (disch := first | omega | (simp only [size_setb, size_alloc', size_drew'] <;> omega) | (simp (disch := first | omega | (simp only [size_setb, size_alloc', size_drew'] <;> omega) | fail) only [go_sem]; done) | fail) only [go_sem, dec_t, dec_f, w_u32, w_u64, w_u16, w_u8, w_i64, Int.reduceToNat, Int.reducePow, Nat.reducePow]
        refine h _ _ ?_
        repeat (first | exact Below.refl _ _ | assumption | refine bel_setb ?_ (by first | exact Nat.le_refl _ | omega | (simp only [go_sem] <;> omega)) _ | refine Below.alloc ?_ (by first | exact Nat.le_refl _ | omega | (simp only [go_sem]; omega)) _ | refine Below.drew ?_)
      · rw [cmpL, if_neg c] at hc
        simp (disch := first | omega | (simp only [size_setb, size_alloc', size_drew'] <;> omega) | (simp (disch := first | omega | (simp only [size_setb, size_alloc', size_drew'] <;> omega) | fail) only [go_sem, c, decide_false]; done) | fail) only [go_sem, dec_t, dec_f, w_u32, w_u64, w_u16, w_u8, w_i64, Int.reduceToNat, Int.reducePow, Nat.reducePow, c, decide_false]
        exact ⟨trivial, trivial, hc⟩
  · have e7 : i = 7 := by omega
    subst e7
    simp (disch := first | omega | (simp only [size_setb, size_alloc', size_drew'] <;> omega) | (simp (disch := first | omega | (simp only [size_setb, size_alloc', size_drew'] <;> omega) | fail) only [go_sem]; done) | fail) only [go_sem, dec_t, dec_f, w_u32, w_u64, w_u16, w_u8, w_i64, Int.reduceToNat, Int.reducePow, Nat.reducePow]
    refine jn_with (fun _ _ => False) (fun _ _ _ h => h.elim) ?_
    exact ⟨B0, hc⟩
/-- How much room an attribute wants. -/
def rm (n d : List UInt8) : Nat := 16 + ((cmpL preL n).2.length + 3) / 4 * 4 + (d.length + 3) / 4 * 4
theorem room_spec {n d : List UInt8} {v : Value} {w : World} {K : Value → World → Prop} (hl : n.length ≤ 140737488351232) (hv : BS w v d) (hd : d.length ≤ 140737488351232) (h : ∀ w', Below w.heap.size w w' → K (.int .i64 (rm n d)) w') : Cl P Fn.spec_room #[AG [S n, v]] w K := by
  apply S_spec_room
  unfold F_spec_room
  obtain ⟨a, cap, rfl⟩ := BS_slice hv
  rw [oBox_agg]
  have h0 : bk (w.alloc (CB [S n, .slice a d.length cap] T.spec_Xattr)) w.heap.size = some (CB [S n, .slice a d.length cap] T.spec_Xattr) := bk_alloc_eq _ _ _ rfl
  have B0 : Below w.heap.size w (w.alloc (CB [S n, .slice a d.length cap] T.spec_Xattr)) := by repeat (first | exact Below.refl _ _ | assumption | refine bel_setb ?_ (by first | exact Nat.le_refl _ | omega | (simp only [go_sem] <;> omega)) _ | refine Below.alloc ?_ (by first | exact Nat.le_refl _ | omega | (simp only [go_sem]; omega)) _ | refine Below.drew ?_)
  have z0 : (w.alloc (CB [S n, .slice a d.length cap] T.spec_Xattr)).heap.size = w.heap.size + 1 := by simp only [go_sem]
  generalize w.alloc (CB [S n, .slice a d.length cap] T.spec_Xattr) = w0 at *
  simp (disch := first | omega | (simp only [size_setb, size_alloc', size_drew'] <;> omega) | (simp (disch := first | omega | (simp only [size_setb, size_alloc', size_drew'] <;> omega) | fail) only [go_sem, h0]; done) | fail) only [go_sem, dec_t, dec_f, w_u32, w_u64, w_u16, w_u8, w_i64, Int.reduceToNat, Int.reducePow, Nat.reducePow, h0]
  refine prefixed_spec hl fun m w1 b1 => ?_
  have h1 : bk w1 w.heap.size = some (CB [S n, .slice a d.length cap] T.spec_Xattr) := (bel_bk b1 (by omega)).trans h0
  have B1 := B0.trans (b1.mono (by omega))
  have hm := (cmp_len n).1
  have hk := h w1 B1
  unfold rm at hk
  generalize (cmpL preL n).2 = r at *
  simp (disch := first | omega | (simp only [size_setb, size_alloc', size_drew'] <;> omega) | (simp (disch := first | omega | (simp only [size_setb, size_alloc', size_drew'] <;> omega) | fail) only [go_sem, h1]; done) | fail) only [go_sem, dec_t, dec_f, w_u32, w_u64, w_u16, w_u8, w_i64, Int.reduceToNat, Int.reducePow, Nat.reducePow, h1]
  rw [Int.tdiv_eq_ediv_of_nonneg (by omega), Int.tdiv_eq_ediv_of_nonneg (by omega)]
  simp (disch := first | omega | (simp only [size_setb, size_alloc', size_drew'] <;> omega) | (simp (disch := first | omega | (simp only [size_setb, size_alloc', size_drew'] <;> omega) | fail) only [go_sem]; done) | fail) only [go_sem, dec_t, dec_f, w_u32, w_u64, w_u16, w_u8, w_i64, Int.reduceToNat, Int.reducePow, Nat.reducePow]
  rw [show (16 + (r.length + 3) / 4 * 4 + (d.length + 3) / 4 * 4 : Nat) = (16 + ((r.length : Int) + 3) / 4 * 4 + ((d.length : Int) + 3) / 4 * 4 : Int) by omega] at hk
  exact hk
end Go.Proofs.YtfiepdikejoeeaaDoor.X
