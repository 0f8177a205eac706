/- FnAttributeHash: the walk. No condition beside the form's own. -/
import Derived.Test.YtdilealdddbhnaaXU
import Derived.Test.YtdilealdddbhnaaXOpen
import Derived.Test.YtdilealdddbhnaaXF0
import Derived.Test.YtdilealdddbhnaaXF1
set_option linter.unusedVariables false
set_option linter.unusedSimpArgs false
set_option maxRecDepth 100000
namespace Go.Proofs.Ytdilealdddbhnaa.X
open Go Go.X Go.Proofs Go.RowKit

theorem cv8_32 (K : Value → Prop) (x : BitVec 8) : pu P (oConv T.uint8 T.uint32 (V8 x)) K = K (V32 (x.setWidth 32)) := convV8_32 K U.uint8 U.uint32 x
theorem cv8_64 (K : Value → Prop) (x : BitVec 8) : pu P (oConv T.uint8 T.uint64 (V8 x)) K = K (V64 (x.setWidth 64)) := convV8_64 K U.uint8 U.uint64 x
theorem cv64_32 (K : Value → Prop) (x : BitVec 64) : pu P (oConv T.uint64 T.uint32 (V64 x)) K = K (V32 (x.setWidth 32)) := convV64_32 K U.uint64 U.uint32 x

/-- The byte at a place, zero behind the last one. -/
def bt (l : List UInt8) (i : Nat) : BitVec 8 := (l.getD i 0).toBitVec
/-- Four bytes, the lowest first. -/
def w4 (l : List UInt8) (i : Nat) : BitVec 32 := (bt l i).setWidth 32 ||| (bt l (i + 1)).setWidth 32 <<< 8 ||| (bt l (i + 2)).setWidth 32 <<< 16 ||| (bt l (i + 3)).setWidth 32 <<< 24
def stA (h : BitVec 32) (b : BitVec 8) : BitVec 32 := h <<< 5 ^^^ h >>> 27 ^^^ b.setWidth 32
def stB (h : BitVec 32) (d : BitVec 32) : BitVec 32 := h <<< 16 ^^^ h >>> 16 ^^^ d
def hA (l : List UInt8) : Nat → BitVec 32
  | 0 => 0
  | n + 1 => stA (hA l n) (bt l n)
def hB (h : BitVec 32) (l : List UInt8) : Nat → BitVec 32
  | 0 => h
  | n + 1 => stB (hB h l n) (w4 l (4 * n))

theorem cell_byt {w : World} {b o : Nat} {l : List UInt8} (h : rowB w b o l) {i : Nat} (hi : i < l.length) : cellOf (bk w b) (o + i) = some (V8 (bt l i)) := by
  rw [rowB_cell h hi, byt_V, bt]
  simp [List.getD, hi]

theorem get32_spec {b o cap : Nat} {l : List UInt8} {w : World} {K : Value → World → Prop} (r : rowB w b o l) (h4 : 4 ≤ l.length) (h : K (V32 (w4 l 0)) w.drew) : Cl P Fn.compactext4_get32 #[sl b o l.length cap] w K := by
  apply S_compactext4_get32
  unfold F_compactext4_get32
  have c0 : cellOf (bk w b) (o + 0 * 1) = some (V8 (bt l 0)) := cell_byt r (by omega)
  have c1 : cellOf (bk w b) (o + 1 * 1) = some (V8 (bt l 1)) := cell_byt r (by omega)
  have c2 : cellOf (bk w b) (o + 2 * 1) = some (V8 (bt l 2)) := cell_byt r (by omega)
  have c3 : cellOf (bk w b) (o + 3 * 1) = some (V8 (bt l 3)) := cell_byt r (by omega)
  have ix : ∀ (L : Value → Prop) (i : Int), 0 ≤ i → i < l.length → pu P (oIdxA T.sl_uint8 (sl b o l.length cap) (.int .i64 i)) L = L (pt b (o + i.toNat * 1)) := fun L i h0 h1 => oIdxA_sl (size := 1) L U.sl_uint8 (by kernel_rfl) h0 h1
  simp (disch := first | omega | (simp only [size_setb, size_alloc', size_drew'] <;> omega) | (simp (disch := first | omega | (simp only [size_setb, size_alloc', size_drew'] <;> omega) | fail) only [go_sem, ix, c0, c1, c2, c3, cv8_32]; done) | fail) only [go_sem, dec_t, dec_f, w_u32, w_u64, w_u16, w_u8, w_i64, Int.reduceToNat, Int.reducePow, Nat.reducePow, ix, c0, c1, c2, c3, cv8_32]
  exact h

theorem ix_str (L : Value → Prop) (n : List UInt8) (i : Nat) (h : i < n.length) : pu P (oIdx T.string (S n) (.int .i64 i)) L = L (V8 (bt n i)) := by
  rw [oIdxS L T.string n .i64 i U.string (by omega) (by omega)]
  rfl

theorem bt_part (l : List UInt8) (i m j : Nat) (hj : j < m) : bt ((l.drop i).take m) j = bt l (i + j) := by
  unfold bt
  congr 1
  simp only [List.getD, List.getElem?_take_of_lt hj, List.getElem?_drop]
theorem bt_pad (l : List UInt8) (i m j : Nat) : bt (l.drop i ++ List.replicate m 0) j = bt l (i + j) := by
  unfold bt
  congr 1
  simp only [List.getD, List.getElem?_append, List.getElem?_drop, List.getElem?_replicate, List.length_drop]
  by_cases h : j < l.length - i
  · rw [if_pos h]
  · rw [if_neg h, List.getElem?_eq_none (show l.length ≤ i + j by omega)]
    split <;> rfl
theorem w4_part (l : List UInt8) (i : Nat) : w4 ((l.drop i).take 4) 0 = w4 l i := by
  unfold w4
  rw [bt_part _ _ _ _ (by omega), bt_part _ _ _ _ (by omega), bt_part _ _ _ _ (by omega), bt_part _ _ _ _ (by omega)]
  rfl
theorem w4_pad (l : List UInt8) (i m : Nat) : w4 (l.drop i ++ List.replicate m 0) 0 = w4 l i := by
  unfold w4
  rw [bt_pad, bt_pad, bt_pad, bt_pad]
  rfl
theorem BS_inv {w : World} {a : Option Addr} {n cap : Nat} {l : List UInt8} (h : BS w (.slice a n cap) l) (hl : l ≠ []) : ∃ b o, a = some ⟨b, o, none⟩ ∧ n = l.length ∧ l.length ≤ cap ∧ rowB w b o l ∧ b < w.heap.size := by
  rcases h with ⟨e, _⟩ | ⟨b, o, c, e, h1, h2, h3⟩
  · exact absurd e hl
  · injection e with e1 e2 e3
    subst e1 e2 e3
    exact ⟨b, o, rfl, rfl, h1, h2, h3⟩

set_option maxHeartbeats 4000000 in
theorem hashEntry_spec {n l : List UInt8} {v : Value} {w : World} {K : Value → World → Prop} (hv : BS w v l) (hn : n.length ≤ 281474976710656) (hl : l.length ≤ 281474976710656)
    (h : ∀ w', Below w.heap.size w w' → K (V32 (hB (hA n n.length) l ((l.length + 3) / 4))) w') : Cl P Fn.compactext4_hashXattrEntry #[S n, v] w K := by
  apply S_compactext4_hashXattrEntry
  unfold F_compactext4_hashXattrEntry
  obtain ⟨a, cap, rfl⟩ := BS_slice hv
  refine jn_with (fun s w' => s = [V32 (hA n n.length)] ∧ w' = w) ?_ ?_
  · rintro s u w1 ⟨rfl, rfl⟩
    refine jn_with (fun s w' => s = [V32 (hB (hA n n.length) l (l.length / 4))] ∧ Below w1.heap.size w1 w') ?_ ?_
    · rintro s u w2 ⟨rfl, B2⟩
      refine jn_with (fun s w' => s = [V32 (hB (hA n n.length) l ((l.length + 3) / 4))] ∧ Below w1.heap.size w1 w') ?_ ?_
      · rintro s u w3 ⟨rfl, B3⟩
        exact h _ B3
      · have e4 : (l.length : Int).tmod 4 = (l.length % 4 : Nat) := by rw [Int.tmod_eq_emod_of_nonneg (by omega)]; omega
        by_cases g : l.length % 4 = 0
        · have g' : ¬ ((l.length % 4 : Nat) : Int) ≠ 0 := by omega
          simp (disch := first | omega | (simp only [size_setb, size_alloc', size_drew'] <;> omega) | (simp (disch := first | omega | (simp only [size_setb, size_alloc', size_drew'] <;> omega) | fail) only [go_sem, e4, g]; done) | fail) only [go_sem, dec_t, dec_f, w_u32, w_u64, w_u16, w_u8, w_i64, Int.reduceToNat, Int.reducePow, Nat.reducePow, e4, g]
          refine ⟨?_, B2⟩
          rw [show (l.length + 3) / 4 = l.length / 4 by omega]
        · have g' : ((l.length % 4 : Nat) : Int) ≠ 0 := by omega
          obtain ⟨b, o, rfl, _, hc, r, hb⟩ := BS_inv hv (by intro e; subst e; exact g rfl)
          simp (disch := first | omega | (simp only [size_setb, size_alloc', size_drew'] <;> omega) | (simp (disch := first | omega | (simp only [size_setb, size_alloc', size_drew'] <;> omega) | fail) only [go_sem, e4, g']; done) | fail) only [go_sem, dec_t, dec_f, w_u32, w_u64, w_u16, w_u8, w_i64, Int.reduceToNat, Int.reducePow, Nat.reducePow, e4, g']
          rw [oSlice_arr (size := 1) _ Try.underlying98 (by kernel_rfl)]
          rw [oAndNot3 _ _ _ _ _ (by omega)]
          rw [oSlice_lo (size := 1) _ U.sl_uint8 (by kernel_rfl) (by omega) (by omega) (by omega)]
          have hcap : ¬ cap = ((l.length / 4 * 4 : Nat) : Int).toNat := by omega
          rw [if_neg hcap]
          have eT : ((l.length / 4 * 4 : Nat) : Int).toNat = l.length / 4 * 4 := by omega
          rw [eT]
          have hd : (l.drop (l.length / 4 * 4)).length = l.length % 4 := by simp; omega
          have r2 : rowB w1 b (o + l.length / 4 * 4 * 1) (l.drop (l.length / 4 * 4)) := by
            have := rowB_part r (l.length / 4 * 4) (l.length % 4) (by omega)
            rw [List.take_of_length_le (by omega)] at this
            simpa using this
          have B4 : Below w1.heap.size w1 ((w2.alloc (CB [.int .u8 0, .int .u8 0, .int .u8 0, .int .u8 0] T.arr4_uint8)).drew) := by
            have z := B2.size
            exact (B2.alloc z _).drew
          have bkA : bk ((w2.alloc (CB [.int .u8 0, .int .u8 0, .int .u8 0, .int .u8 0] T.arr4_uint8)).drew) w2.heap.size = some (CB [.int .u8 0, .int .u8 0, .int .u8 0, .int .u8 0] T.arr4_uint8) := bk_alloc_eq w2 _ _ rfl
          rw [oCopy _ _ U.sl_uint8 (by kernel_rfl) bkA (by omega) (by omega) (by simp only [List.length_cons, List.length_nil]; omega) (rowB_old r2 B4 hb)]
          simp (disch := first | omega | (simp only [size_setb, size_alloc', size_drew'] <;> omega) | (simp (disch := first | omega | (simp only [size_setb, size_alloc', size_drew'] <;> omega) | fail) only [go_sem]; done) | fail) only [go_sem, dec_t, dec_f, w_u32, w_u64, w_u16, w_u8, w_i64, Int.reduceToNat, Int.reducePow, Nat.reducePow]
          rw [oSlice_arr (size := 1) _ Try.underlying98 (by kernel_rfl)]
          have z2 := B2.size
          have r3 : rowB (setb (w2.alloc (CB [.int .u8 0, .int .u8 0, .int .u8 0, .int .u8 0] T.arr4_uint8)).drew w2.heap.size (CB ([.int .u8 0, .int .u8 0, .int .u8 0, .int .u8 0].take 0 ++ (l.drop (l.length / 4 * 4)).map byt ++ [.int .u8 0, .int .u8 0, .int .u8 0, .int .u8 0].drop (0 + (l.drop (l.length / 4 * 4)).length)) T.arr4_uint8)) w2.heap.size 0 (l.drop (l.length / 4 * 4) ++ List.replicate (4 - l.length % 4) 0) := by
            unfold rowB
            rw [bk_setb_eq _ _ _ _ rfl (by simp only [go_sem]; omega)]
            have hr : l.length % 4 = 1 ∨ l.length % 4 = 2 ∨ l.length % 4 = 3 := by omega
            rw [rowOf_L _ _ _ _ (by simp; omega), rowL_le _ _ _ (by simp; omega)]
            congr 1
            rw [List.drop_zero, List.take_of_length_le (by simp; omega)]
            rw [hd]
            rcases hr with e | e | e <;> rw [e] <;> simp <;> rfl
          have hp : (l.drop (l.length / 4 * 4) ++ List.replicate (4 - l.length % 4) 0).length = 4 := by rw [List.length_append, hd, List.length_replicate]; omega
          have BA : Below w1.heap.size w1 (setb (w2.alloc (CB [.int .u8 0, .int .u8 0, .int .u8 0, .int .u8 0] T.arr4_uint8)).drew w2.heap.size (CB ([.int .u8 0, .int .u8 0, .int .u8 0, .int .u8 0].take 0 ++ (l.drop (l.length / 4 * 4)).map byt ++ [.int .u8 0, .int .u8 0, .int .u8 0, .int .u8 0].drop (0 + (l.drop (l.length / 4 * 4)).length)) T.arr4_uint8)) := bel_setb B4 z2 _
          simp only [Nat.zero_add] at r3 BA
          generalize (setb (w2.alloc (CB [.int .u8 0, .int .u8 0, .int .u8 0, .int .u8 0] T.arr4_uint8)).drew w2.heap.size (CB ([.int .u8 0, .int .u8 0, .int .u8 0, .int .u8 0].take 0 ++ (l.drop (l.length / 4 * 4)).map byt ++ [.int .u8 0, .int .u8 0, .int .u8 0, .int .u8 0].drop ((l.drop (l.length / 4 * 4)).length)) T.arr4_uint8)) = wA at r3 BA ⊢
          rw [show sl w2.heap.size 0 4 4 = sl w2.heap.size 0 (l.drop (l.length / 4 * 4) ++ List.replicate (4 - l.length % 4) 0).length 4 by rw [hp]]
          refine get32_spec r3 (by omega) ?_
          rw [w4_pad]
          simp (disch := first | omega | (simp only [size_setb, size_alloc', size_drew'] <;> omega) | (simp (disch := first | omega | (simp only [size_setb, size_alloc', size_drew'] <;> omega) | fail) only [go_sem]; done) | fail) only [go_sem, dec_t, dec_f, w_u32, w_u64, w_u16, w_u8, w_i64, Int.reduceToNat, Int.reducePow, Nat.reducePow]
          refine ⟨?_, BA.drew⟩
          rw [show (l.length + 3) / 4 = l.length / 4 + 1 by omega, show l.length / 4 * 4 = 4 * (l.length / 4) by omega]
          rfl
    · refine lp_intro (fun s w' => (∃ k : Nat, s = [V32 (hB (hA n n.length) l k), .int .i64 (4 * k : Nat)] ∧ 4 * k ≤ l.length) ∧ Below w1.heap.size w1 w') (fun s _ => l.length - (intOf (gs s 1)).toNat) ⟨⟨0, rfl, by omega⟩, Below.refl _ _⟩ ?_
      rintro s u w2 ⟨⟨k, rfl, hk⟩, B2⟩
      by_cases g : ((4 * k : Nat) : Int) + 3 < l.length
      · refine jn_with (fun s w' => s = [] ∧ w' = w2) ?_ ?_
        · rintro s u w3 ⟨rfl, rfl⟩
          obtain ⟨b, o, rfl, _, hc, r, hb⟩ := BS_inv hv (by intro e; subst e; simp only [List.length_nil] at g; omega)
          simp (disch := first | omega | (simp only [size_setb, size_alloc', size_drew'] <;> omega) | (simp (disch := first | omega | (simp only [size_setb, size_alloc', size_drew'] <;> omega) | fail) only [go_sem]; done) | fail) only [go_sem, dec_t, dec_f, w_u32, w_u64, w_u16, w_u8, w_i64, Int.reduceToNat, Int.reducePow, Nat.reducePow]
          rw [oSlice_sl (size := 1) _ U.sl_uint8 (by kernel_rfl) (by omega) (by omega) (by omega)]
          rw [if_neg (by omega)]
          have hp : ((l.drop (4 * k)).take 4).length = 4 := by simp; omega
          rw [show (((4 * k : Nat) : Int)).toNat = 4 * k by omega, show (((4 * k : Nat) : Int) + 4).toNat - 4 * k = ((l.drop (4 * k)).take 4).length by omega, show o + 4 * k * 1 = o + 4 * k by omega]
          refine get32_spec (rowB_old (rowB_part r (4 * k) 4 (by omega)) B2 hb) (by omega) ?_
          rw [w4_part]
          simp (disch := first | omega | (simp only [size_setb, size_alloc', size_drew'] <;> omega) | (simp (disch := first | omega | (simp only [size_setb, size_alloc', size_drew'] <;> omega) | fail) only [go_sem]; done) | fail) only [go_sem, dec_t, dec_f, w_u32, w_u64, w_u16, w_u8, w_i64, Int.reduceToNat, Int.reducePow, Nat.reducePow]
          refine ⟨⟨⟨k + 1, ?_, by omega⟩, B2.drew⟩, ?_⟩
          · rw [show ((4 * k : Nat) : Int) + 4 = ((4 * (k + 1) : Nat) : Int) by omega]; rfl
          · simp only [intOf]
            omega
        · simp (disch := first | omega | (simp only [size_setb, size_alloc', size_drew'] <;> omega) | (simp (disch := first | omega | (simp only [size_setb, size_alloc', size_drew'] <;> omega) | fail) only [go_sem]; done) | fail) only [go_sem, dec_t, dec_f, w_u32, w_u64, w_u16, w_u8, w_i64, Int.reduceToNat, Int.reducePow, Nat.reducePow]
          exact ⟨trivial, trivial⟩
      · have e : k = l.length / 4 := by omega
        subst e
        refine jn_with (fun _ _ => False) (fun _ _ _ h => h.elim) ?_
        simp (disch := first | omega | (simp only [size_setb, size_alloc', size_drew'] <;> omega) | (simp (disch := first | omega | (simp only [size_setb, size_alloc', size_drew'] <;> omega) | fail) only [go_sem]; done) | fail) only [go_sem, dec_t, dec_f, w_u32, w_u64, w_u16, w_u8, w_i64, Int.reduceToNat, Int.reducePow, Nat.reducePow]
        exact ⟨trivial, B2⟩
  · refine lp_intro (fun s w' => w' = w ∧ ∃ k : Nat, s = [V32 (hA n k), .int .i64 k] ∧ k ≤ n.length) (fun s _ => n.length - (intOf (gs s 1)).toNat) ⟨rfl, 0, rfl, by omega⟩ ?_
    rintro s u w1 ⟨rfl, k, rfl, hk⟩
    by_cases g : (k : Int) < n.length
    · refine jn_with (fun s w' => s = [] ∧ w' = w1) ?_ ?_
      · rintro s u w2 ⟨rfl, rfl⟩
        simp (disch := first | omega | (simp only [size_setb, size_alloc', size_drew'] <;> omega) | (simp (disch := first | omega | (simp only [size_setb, size_alloc', size_drew'] <;> omega) | fail) only [go_sem, ix_str, cv8_32]; done) | fail) only [go_sem, dec_t, dec_f, w_u32, w_u64, w_u16, w_u8, w_i64, Int.reduceToNat, Int.reducePow, Nat.reducePow, ix_str, cv8_32]
        refine ⟨⟨trivial, k + 1, rfl, by omega⟩, ?_⟩
        simp only [intOf]
        omega
      · simp (disch := first | omega | (simp only [size_setb, size_alloc', size_drew'] <;> omega) | (simp (disch := first | omega | (simp only [size_setb, size_alloc', size_drew'] <;> omega) | fail) only [go_sem]; done) | fail) only [go_sem, dec_t, dec_f, w_u32, w_u64, w_u16, w_u8, w_i64, Int.reduceToNat, Int.reducePow, Nat.reducePow]
        exact ⟨trivial, trivial⟩
    · have e : k = n.length := by omega
      subst e
      refine jn_with (fun _ _ => False) (fun _ _ _ h => h.elim) ?_
      simp (disch := first | omega | (simp only [size_setb, size_alloc', size_drew'] <;> omega) | (simp (disch := first | omega | (simp only [size_setb, size_alloc', size_drew'] <;> omega) | fail) only [go_sem]; done) | fail) only [go_sem, dec_t, dec_f, w_u32, w_u64, w_u16, w_u8, w_i64, Int.reduceToNat, Int.reducePow, Nat.reducePow]
      exact ⟨trivial, trivial⟩
theorem le_w4 (b0 b1 b2 b3 : BitVec 8) : (((((0#64 <<< 8 ||| b3.setWidth 64) <<< 8 ||| b2.setWidth 64) <<< 8 ||| b1.setWidth 64) <<< 8 ||| b0.setWidth 64).setWidth 32) = b0.setWidth 32 ||| b1.setWidth 32 <<< 8 ||| b2.setWidth 32 <<< 16 ||| b3.setWidth 32 <<< 24 := by
  apply BitVec.eq_of_toNat_eq
  have h0 := b0.isLt
  have h1 := b1.isLt
  have h2 := b2.isLt
  have h3 := b3.isLt
  simp only [BitVec.toNat_setWidth, BitVec.toNat_or, BitVec.toNat_shiftLeft, Nat.shiftLeft_eq, BitVec.toNat_ofNat]
  generalize b0.toNat = a0 at *
  generalize b1.toNat = a1 at *
  generalize b2.toNat = a2 at *
  generalize b3.toNat = a3 at *
  have m : ∀ a, a < 2 ^ 8 → a % 2 ^ 64 = a := fun a h => Nat.mod_eq_of_lt (by omega)
  have m' : ∀ a, a < 2 ^ 8 → a % 2 ^ 32 = a := fun a h => Nat.mod_eq_of_lt (by omega)
  rw [m a0 h0, m a1 h1, m a2 h2, m a3 h3, m' a0 h0, m' a1 h1, m' a2 h2, m' a3 h3]
  have o : ∀ x a, a < 2 ^ 8 → x < 2 ^ 50 → x * 2 ^ 8 % 2 ^ 64 ||| a = x * 256 + a := fun x a h hx => by
    rw [Nat.or_comm, or_add 8 h (by omega)]; omega
  rw [show (0 : Nat) % 2 ^ 64 * 2 ^ 8 % 2 ^ 64 ||| a3 = a3 by simp]
  rw [o a3 a2 h2 (by omega), o _ a1 h1 (by omega), o _ a0 h0 (by omega)]
  rw [or_add 8 h0 (by omega), or_add 16 (x := a0 + a1 * 2 ^ 8 % 2 ^ 32) (y := a2 * 2 ^ 16 % 2 ^ 32) (by omega) (by omega), or_add 24 (by omega) (by omega)]
  omega
def leR (l : List UInt8) (at0 : Nat) : Nat → BitVec 64
  | 0 => 0
  | j + 1 => leR l at0 j <<< 8 ||| (bt l (at0 + (3 - j))).setWidth 64
theorem leR_4 (l : List UInt8) (i : Nat) : (leR l i 4).setWidth 32 = w4 l i := le_w4 (bt l i) (bt l (i + 1)) (bt l (i + 2)) (bt l (i + 3))
theorem bt_far {l : List UInt8} {i : Nat} (h : l.length ≤ i) : bt l i = 0 := by
  unfold bt
  rw [List.getD, List.getElem?_eq_none h]; rfl
theorem le_spec {l : List UInt8} {v : Value} {i : Nat} {w : World} {K : Value → World → Prop} (hv : BS w v l) (hl : l.length ≤ 281474976710656) (hi : i ≤ 281474976710660)
    (h : K (V64 (leR l i 4)) w) : Cl P Fn.spec_le #[v, .int .u64 i, .int .u64 4] w K := by
  apply S_spec_le
  unfold F_spec_le
  obtain ⟨a, cap, rfl⟩ := BS_slice hv
  refine jn_with (fun s w' => s = [V64 (leR l i 4)] ∧ w' = w) ?_ ?_
  · rintro s u w1 ⟨rfl, rfl⟩
    exact h
  · refine lp_intro (fun s w' => w' = w ∧ ∃ j : Nat, s = [V64 (leR l i j), .int .u64 (4 - j : Nat)] ∧ j ≤ 4) (fun s _ => (intOf (gs s 1)).toNat) ⟨rfl, 0, rfl, by omega⟩ ?_
    rintro s u w1 ⟨rfl, j, rfl, hj⟩
    by_cases g : ((4 - j : Nat) : Int) > 0
    · refine jn_with (fun s w' => s = [] ∧ w' = w1) ?_ ?_
      · rintro s u w2 ⟨rfl, rfl⟩
        refine jn_with (fun s w' => s = [V64 (leR l i (j + 1))] ∧ w' = w2) ?_ ?_
        · rintro s u w3 ⟨rfl, rfl⟩
          simp (disch := first | omega | (simp only [size_setb, size_alloc', size_drew'] <;> omega) | (simp (disch := first | omega | (simp only [size_setb, size_alloc', size_drew'] <;> omega) | fail) only [go_sem]; done) | fail) only [go_sem, dec_t, dec_f, w_u32, w_u64, w_u16, w_u8, w_i64, Int.reduceToNat, Int.reducePow, Nat.reducePow]
          refine ⟨⟨trivial, j + 1, ?_, by omega⟩, ?_⟩
          · rw [show ((4 - j : Nat) : Int) - 1 = ((4 - (j + 1) : Nat) : Int) by omega]
          · simp only [intOf]
            omega
        · have e1 : IntKind.u64.wrap ((i : Int) + ((4 - j : Nat) : Int)) = (i : Int) + ((4 - j : Nat) : Int) := w_u64 (by omega) (by omega)
          have e2 : IntKind.u64.wrap ((i : Int) + ((4 - j : Nat) : Int) - 1) = ((i + (3 - j) : Nat) : Int) := by rw [w_u64 (by omega) (by omega)]; omega
          by_cases q : i + (3 - j) < l.length
          · obtain ⟨b, o, rfl, _, hc, r, hb⟩ := BS_inv hv (by intro e; subst e; simp only [List.length_nil] at q; omega)
            have ix : ∀ (L : Value → Prop), pu P (oIdxA T.sl_uint8 (sl b o l.length cap) (.int .u64 ((i + (3 - j) : Nat) : Int))) L = L (pt b (o + (i + (3 - j)))) := fun L => by
              rw [oIdxA_sl (size := 1) L U.sl_uint8 (by kernel_rfl) (by omega) (by omega)]
              rw [show ((i + (3 - j) : Nat) : Int).toNat * 1 = i + (3 - j) by omega]
            have cc : cellOf (bk w2 b) (o + (i + (3 - j))) = some (V8 (bt l (i + (3 - j)))) := cell_byt r q
            simp (disch := first | omega | (simp only [size_setb, size_alloc', size_drew'] <;> omega) | (simp (disch := first | omega | (simp only [size_setb, size_alloc', size_drew'] <;> omega) | fail) only [go_sem, e1, e2]; done) | fail) only [go_sem, dec_t, dec_f, w_u32, w_u64, w_u16, w_u8, w_i64, Int.reduceToNat, Int.reducePow, Nat.reducePow, e1, e2]
            simp (disch := first | omega | (simp only [size_setb, size_alloc', size_drew'] <;> omega) | (simp (disch := first | omega | (simp only [size_setb, size_alloc', size_drew'] <;> omega) | fail) only [go_sem, e1, e2, ix, cc, cv8_64]; done) | fail) only [go_sem, dec_t, dec_f, w_u32, w_u64, w_u16, w_u8, w_i64, Int.reduceToNat, Int.reducePow, Nat.reducePow, e1, e2, ix, cc, cv8_64]
            exact ⟨rfl, trivial⟩
          · simp (disch := first | omega | (simp only [size_setb, size_alloc', size_drew'] <;> omega) | (simp (disch := first | omega | (simp only [size_setb, size_alloc', size_drew'] <;> omega) | fail) only [go_sem, e1, e2]; done) | fail) only [go_sem, dec_t, dec_f, w_u32, w_u64, w_u16, w_u8, w_i64, Int.reduceToNat, Int.reducePow, Nat.reducePow, e1, e2]
            refine ⟨?_, trivial⟩
            rw [show leR l i (j + 1) = leR l i j <<< 8 ||| (bt l (i + (3 - j))).setWidth 64 from rfl, bt_far (by omega)]
            simp
      · simp (disch := first | omega | (simp only [size_setb, size_alloc', size_drew'] <;> omega) | (simp (disch := first | omega | (simp only [size_setb, size_alloc', size_drew'] <;> omega) | fail) only [go_sem]; done) | fail) only [go_sem, dec_t, dec_f, w_u32, w_u64, w_u16, w_u8, w_i64, Int.reduceToNat, Int.reducePow, Nat.reducePow]
        exact ⟨trivial, trivial⟩
    · have e : j = 4 := by omega
      subst e
      refine jn_with (fun _ _ => False) (fun _ _ _ h => h.elim) ?_
      simp (disch := first | omega | (simp only [size_setb, size_alloc', size_drew'] <;> omega) | (simp (disch := first | omega | (simp only [size_setb, size_alloc', size_drew'] <;> omega) | fail) only [go_sem]; done) | fail) only [go_sem, dec_t, dec_f, w_u32, w_u64, w_u16, w_u8, w_i64, Int.reduceToNat, Int.reducePow, Nat.reducePow]
      exact ⟨trivial, trivial⟩

theorem attributeHash_spec {n l : List UInt8} {v0 v : Value} {w : World} {K : Value → World → Prop} (hv0 : BS w v0 n) (hv : BS w v l) (hn : n.length ≤ 281474976710656) (hl : l.length ≤ 281474976710656)
    (h : ∀ w', Below w.heap.size w w' → K (V32 (hB (hA n n.length) l ((l.length + 3) / 4))) w') : Cl P Fn.spec_attributeHash #[v0, v] w K := by
  apply S_spec_attributeHash
  unfold F_spec_attributeHash
  obtain ⟨a0, cap0, rfl⟩ := BS_slice hv0
  obtain ⟨a, cap, rfl⟩ := BS_slice hv
  refine jn_with (fun s w' => s = [V32 (hA n n.length)] ∧ w' = w) ?_ ?_
  · rintro s u w1 ⟨rfl, rfl⟩
    refine jn_with (fun s w' => s = [V32 (hB (hA n n.length) l ((l.length + 3) / 4))] ∧ w' = w1) ?_ ?_
    · rintro s u w2 ⟨rfl, rfl⟩
      exact h _ (Below.refl _ _)
    · refine lp_intro (fun s w' => w' = w1 ∧ ∃ k : Nat, s = [V32 (hB (hA n n.length) l k), .int .i64 (4 * k : Nat)] ∧ k ≤ (l.length + 3) / 4) (fun s _ => l.length - (intOf (gs s 1)).toNat) ⟨rfl, 0, rfl, by omega⟩ ?_
      rintro s u w2 ⟨rfl, k, rfl, hk⟩
      by_cases g : ((4 * k : Nat) : Int) < l.length
      · refine jn_with (fun s w' => s = [] ∧ w' = w2) ?_ ?_
        · rintro s u w3 ⟨rfl, rfl⟩
          have cv : ∀ (L : Value → Prop), pu P (oConv T.int T.uint64 (.int .i64 (4 * k : Nat))) L = L (.int .u64 (4 * k : Nat)) := fun L => by
            rw [V.int__uint64, w_u64 (by omega) (by omega)]
          simp (disch := first | omega | (simp only [size_setb, size_alloc', size_drew'] <;> omega) | (simp (disch := first | omega | (simp only [size_setb, size_alloc', size_drew'] <;> omega) | fail) only [go_sem, cv]; done) | fail) only [go_sem, dec_t, dec_f, w_u32, w_u64, w_u16, w_u8, w_i64, Int.reduceToNat, Int.reducePow, Nat.reducePow, cv]
          refine le_spec hv hl (by omega) ?_
          simp (disch := first | omega | (simp only [size_setb, size_alloc', size_drew'] <;> omega) | (simp (disch := first | omega | (simp only [size_setb, size_alloc', size_drew'] <;> omega) | fail) only [go_sem, cv64_32]; done) | fail) only [go_sem, dec_t, dec_f, w_u32, w_u64, w_u16, w_u8, w_i64, Int.reduceToNat, Int.reducePow, Nat.reducePow, cv64_32]
          rw [leR_4]
          refine ⟨⟨trivial, k + 1, ?_, by omega⟩, ?_⟩
          · rw [show ((4 * k : Nat) : Int) + 4 = ((4 * (k + 1) : Nat) : Int) by omega]; rfl
          · simp only [intOf]
            omega
        · simp (disch := first | omega | (simp only [size_setb, size_alloc', size_drew'] <;> omega) | (simp (disch := first | omega | (simp only [size_setb, size_alloc', size_drew'] <;> omega) | fail) only [go_sem]; done) | fail) only [go_sem, dec_t, dec_f, w_u32, w_u64, w_u16, w_u8, w_i64, Int.reduceToNat, Int.reducePow, Nat.reducePow]
          exact ⟨trivial, trivial⟩
      · have e : k = (l.length + 3) / 4 := by omega
        subst e
        refine jn_with (fun _ _ => False) (fun _ _ _ h => h.elim) ?_
        simp (disch := first | omega | (simp only [size_setb, size_alloc', size_drew'] <;> omega) | (simp (disch := first | omega | (simp only [size_setb, size_alloc', size_drew'] <;> omega) | fail) only [go_sem]; done) | fail) only [go_sem, dec_t, dec_f, w_u32, w_u64, w_u16, w_u8, w_i64, Int.reduceToNat, Int.reducePow, Nat.reducePow]
        exact ⟨trivial, trivial⟩
  · simp (disch := first | omega | (simp only [size_setb, size_alloc', size_drew'] <;> omega) | (simp (disch := first | omega | (simp only [size_setb, size_alloc', size_drew'] <;> omega) | fail) only [go_sem]; done) | fail) only [go_sem, dec_t, dec_f, w_u32, w_u64, w_u16, w_u8, w_i64, Int.reduceToNat, Int.reducePow, Nat.reducePow]
    refine lp_intro (fun s w' => w' = w ∧ ∃ k : Nat, s = [V32 (hA n k), .int .i64 k] ∧ k ≤ n.length) (fun s _ => n.length - (intOf (gs s 1)).toNat) ⟨rfl, 0, rfl, by omega⟩ ?_
    rintro s u w1 ⟨rfl, k, rfl, hk⟩
    by_cases g : (k : Int) < n.length
    · simp (disch := first | omega | (simp only [size_setb, size_alloc', size_drew'] <;> omega) | (simp (disch := first | omega | (simp only [size_setb, size_alloc', size_drew'] <;> omega) | fail) only [go_sem]; done) | fail) only [go_sem, dec_t, dec_f, w_u32, w_u64, w_u16, w_u8, w_i64, Int.reduceToNat, Int.reducePow, Nat.reducePow]
      refine jn_with (fun s w' => s = [] ∧ w' = w1) ?_ ⟨rfl, rfl⟩
      rintro s u w2 ⟨rfl, rfl⟩
      obtain ⟨b, o, rfl, _, hc, r, hb⟩ := BS_inv hv0 (by intro e; subst e; simp only [List.length_nil] at g; omega)
      have ix : ∀ (L : Value → Prop), pu P (oIdxA T.sl_uint8 (sl b o n.length cap0) (.int .i64 (k : Int))) L = L (pt b (o + k)) := fun L => by
        rw [oIdxA_sl (size := 1) L U.sl_uint8 (by kernel_rfl) (by omega) (by omega)]
        rw [show (k : Int).toNat * 1 = k by omega]
      have cc : cellOf (bk w2 b) (o + k) = some (V8 (bt n k)) := cell_byt r (by omega)
      simp (disch := first | omega | (simp only [size_setb, size_alloc', size_drew'] <;> omega) | (simp (disch := first | omega | (simp only [size_setb, size_alloc', size_drew'] <;> omega) | fail) only [go_sem, ix, cc, cv8_32]; done) | fail) only [go_sem, dec_t, dec_f, w_u32, w_u64, w_u16, w_u8, w_i64, Int.reduceToNat, Int.reducePow, Nat.reducePow, ix, cc, cv8_32]
      refine ⟨⟨trivial, k + 1, rfl, by omega⟩, ?_⟩
      simp only [intOf]
      omega
    · have e : k = n.length := by omega
      subst e
      simp (disch := first | omega | (simp only [size_setb, size_alloc', size_drew'] <;> omega) | (simp (disch := first | omega | (simp only [size_setb, size_alloc', size_drew'] <;> omega) | fail) only [go_sem]; done) | fail) only [go_sem, dec_t, dec_f, w_u32, w_u64, w_u16, w_u8, w_i64, Int.reduceToNat, Int.reducePow, Nat.reducePow]
      refine jn_with (fun _ _ => False) (fun _ _ _ h => h.elim) ?_
      exact ⟨trivial, trivial⟩

theorem dup_spec {l : List UInt8} {v : Value} {w : World} {K : Value → World → Prop} (hv : BS w v l) (hl : l.length ≤ 281474976710656) (h : ∀ v' w', Below w.heap.size w w' → BS w' v' l → K v' w') : Cl P Fn.laws_dup #[v] w K := by
  apply S_laws_dup
  unfold F_laws_dup
  rw [oBuildSlice0 (n := 1) _ _ U.sl_uint8 (by kernel_rfl)]
  have hB : Below w.heap.size w (w.alloc (CB [] T.uint8)) := (Below.refl _ _).alloc (Nat.le_refl _) _
  refine oAppend_empty _ _ U.sl_uint8 (z := .int .u8 0) (by kernel_rfl) (BS_old hv hB (Nat.le_refl _)) hl fun v' w' h1 h2 => ?_
  exact h _ _ (bel_on h1 hB hB.size) h2
theorem hashXattr_spec {n l : List UInt8} {v : Value} {w : World} {K : Value → World → Prop} (hv : BS w v l) (hn : n.length ≤ 281474976710656) (hl : l.length ≤ 281474976710656)
    (h : ∀ w', Below w.heap.size w w' → K (V32 (hB (hA n n.length) l ((l.length + 3) / 4))) w') : Cl P Fn.impl_HashXattr #[S n, v] w K := by
  apply S_impl_HashXattr
  unfold F_impl_HashXattr
  refine oAppend_empty _ _ U.sl_uint8 (z := .int .u8 0) (by kernel_rfl) hv hl fun v' w1 h1 h2 => ?_
  simp (disch := first | omega | (simp only [size_setb, size_alloc', size_drew'] <;> omega) | (simp (disch := first | omega | (simp only [size_setb, size_alloc', size_drew'] <;> omega) | fail) only [go_sem]; done) | fail) only [go_sem, dec_t, dec_f, w_u32, w_u64, w_u16, w_u8, w_i64, Int.reduceToNat, Int.reducePow, Nat.reducePow]
  apply S_compactext4_DoorHash
  unfold F_compactext4_DoorHash
  simp (disch := first | omega | (simp only [size_setb, size_alloc', size_drew'] <;> omega) | (simp (disch := first | omega | (simp only [size_setb, size_alloc', size_drew'] <;> omega) | fail) only [go_sem]; done) | fail) only [go_sem, dec_t, dec_f, w_u32, w_u64, w_u16, w_u8, w_i64, Int.reduceToNat, Int.reducePow, Nat.reducePow]
  refine hashEntry_spec h2 hn hl fun w2 h3 => ?_
  exact h _ (bel_on h3 h1 h1.size)
theorem hashOf_spec {n l : List UInt8} {v : Value} {w : World} {K : Value → World → Prop} (hv : BS w v l) (hn : n.length ≤ 281474976710656) (hl : l.length ≤ 281474976710656)
    (h : ∀ w', Below w.heap.size w w' → K (V32 (hB (hA n n.length) l ((l.length + 3) / 4))) w') : Cl P Fn.spec_HashOf #[S n, v] w K := by
  apply S_spec_HashOf
  unfold F_spec_HashOf
  refine oConvSB _ _ U.string U.sl_uint8 U.uint8 n fun cap w1 hc r z B1 => ?_
  simp (disch := first | omega | (simp only [size_setb, size_alloc', size_drew'] <;> omega) | (simp (disch := first | omega | (simp only [size_setb, size_alloc', size_drew'] <;> omega) | fail) only [go_sem]; done) | fail) only [go_sem, dec_t, dec_f, w_u32, w_u64, w_u16, w_u8, w_i64, Int.reduceToNat, Int.reducePow, Nat.reducePow]
  refine attributeHash_spec (n := n) (.inr ⟨_, _, _, rfl, hc, r, by omega⟩) (BS_old hv B1 (Nat.le_refl _)) hn hl fun w2 h2 => ?_
  exact h _ (bel_on h2 B1 B1.size)
theorem FnAttributeHash_law {n l : List UInt8} {v : Value} {w : World} (hv : BS w v l) (hn : n.length ≤ 281474976710656) (hl : l.length ≤ 281474976710656) :
    Cl P Fn.laws_FnAttributeHash #[S n, v] w fun v w' => v = .bool true ∧ Below w.heap.size w w' := by
  apply S_laws_FnAttributeHash
  unfold F_laws_FnAttributeHash
  obtain ⟨a, cap, rfl⟩ := BS_slice hv
  refine jn_with (fun s w' => s = [] ∧ w' = w) ?_ ?_
  · rintro s u w1 ⟨rfl, rfl⟩
    simp (disch := first | omega | (simp only [size_setb, size_alloc', size_drew'] <;> omega) | (simp (disch := first | omega | (simp only [size_setb, size_alloc', size_drew'] <;> omega) | fail) only [go_sem]; done) | fail) only [go_sem, dec_t, dec_f, w_u32, w_u64, w_u16, w_u8, w_i64, Int.reduceToNat, Int.reducePow, Nat.reducePow]
    refine dup_spec hv hl fun v' w2 h2 hv2 => ?_
    refine hashXattr_spec hv2 hn hl fun w3 h3 => ?_
    have B3 := bel_on h3 h2 h2.size
    refine hashOf_spec (BS_old hv B3 (Nat.le_refl _)) hn hl fun w4 h4 => ?_
    have B4 := bel_on h4 B3 B3.size
    simp (disch := first | omega | (simp only [size_setb, size_alloc', size_drew'] <;> omega) | (simp (disch := first | omega | (simp only [size_setb, size_alloc', size_drew'] <;> omega) | fail) only [go_sem, decide_true]; done) | fail) only [go_sem, dec_t, dec_f, w_u32, w_u64, w_u16, w_u8, w_i64, Int.reduceToNat, Int.reducePow, Nat.reducePow, decide_true]
    exact ⟨by simp, B4⟩
  · by_cases g1 : (2147483647 : Int) < n.length
    · simp (disch := first | omega | (simp only [size_setb, size_alloc', size_drew'] <;> omega) | (simp (disch := first | omega | (simp only [size_setb, size_alloc', size_drew'] <;> omega) | fail) only [go_sem]; done) | fail) only [go_sem, dec_t, dec_f, w_u32, w_u64, w_u16, w_u8, w_i64, Int.reduceToNat, Int.reducePow, Nat.reducePow]
      exact ⟨trivial, Below.refl _ _⟩
    by_cases g2 : (2147483647 : Int) < l.length
    · simp (disch := first | omega | (simp only [size_setb, size_alloc', size_drew'] <;> omega) | (simp (disch := first | omega | (simp only [size_setb, size_alloc', size_drew'] <;> omega) | fail) only [go_sem]; done) | fail) only [go_sem, dec_t, dec_f, w_u32, w_u64, w_u16, w_u8, w_i64, Int.reduceToNat, Int.reducePow, Nat.reducePow]
      exact ⟨trivial, Below.refl _ _⟩
    simp (disch := first | omega | (simp only [size_setb, size_alloc', size_drew'] <;> omega) | (simp (disch := first | omega | (simp only [size_setb, size_alloc', size_drew'] <;> omega) | fail) only [go_sem]; done) | fail) only [go_sem, dec_t, dec_f, w_u32, w_u64, w_u16, w_u8, w_i64, Int.reduceToNat, Int.reducePow, Nat.reducePow]
    exact ⟨trivial, trivial⟩
theorem FnAttributeHash_walk (n : List UInt8) (v : Value) (l : List UInt8) (w : World) (hn : n.length ≤ 140737488351232) (hv : BS w v l) (hl : l.length ≤ 140737488351232) :
    Cl P Fn.laws_FnAttributeHash #[S n, v] w fun v w' => v = .bool true ∧ Below w.heap.size w w' := FnAttributeHash_law hv (by omega) (by omega)
end Go.Proofs.Ytdilealdddbhnaa.X
