/- FnExtents: the walk. No condition beside the form's own. -/
import Derived.Test.YtdilealdddbhnaaXU
import Derived.Test.YtdilealdddbhnaaXOwn
import Derived.Laws.MakeOwn
import Derived.Test.YtdilealdddbhnaaXF0
set_option linter.unusedVariables false
set_option linter.unusedSimpArgs false
set_option maxRecDepth 100000
namespace Go.Proofs.Ytdilealdddbhnaa.X
open Go Go.X Go.Proofs Go.RowKit

/-- The extent with this number: its block, its length, where it begins in the image. -/
def xt (s o u k : Nat) : List Value := [.int .u32 (o + 32768 * k : Nat), .int .u16 (min 32768 (u - (o + 32768 * k)) : Nat), .int .u32 (s + (o + 32768 * k) : Nat)]
def xts (s o u : Nat) : Nat → List Value
  | 0 => []
  | k + 1 => xts s o u k ++ xt s o u k
/-- How many there are. -/
def xn (o u : Nat) : Nat := (u - o + 32767) / 32768
theorem own_mono {w : World} {B C : Nat} {e : TypeId} {size : Nat} {v : Value} {n : Nat} {xs : List Value} (h : w.ownsRow B e size v n xs) (hC : C ≤ B) : w.ownsRow C e size v n xs := by
  refine ⟨h.1, ?_⟩
  rcases h.2 with h | ⟨g, cap, cur, h1, h2, h3⟩
  · exact .inl h
  · exact .inr ⟨g, cap, cur, h1, Nat.le_trans hC h2, h3⟩
theorem xts_len (s o u k : Nat) : (xts s o u k).length = k * 3 := by
  induction k with
  | zero => rfl
  | succ k ih => simp only [xts, List.length_append, ih, xt, List.length_cons, List.length_nil]; omega

theorem put_ext {v : Value} {n B : Nat} {xs l : List Value} {w : World} {K : Value → World → Prop} (hv : w.ownsRow B T.impl_Extent 3 v n xs) (hl : l.length = 3) (h1 : ∀ u ∈ l, u.oneCell' = true) (hn : n ≤ 1000000000) (hB : B ≤ w.heap.size)
    (h : ∀ v' w', w'.ownsRow B T.impl_Extent 3 v' (n + 1) (xs ++ l) → Below B w w' → K v' w') :
    st P (oBuildSlice T.sl_impl_Extent 1 #[(0, AG l)]) w fun t31 w4 => st P (oBuiltin .append #[T.sl_impl_Extent, T.sl_impl_Extent] T.sl_impl_Extent #[false, false] #[v, t31]) w4 K := by
  rw [oBuildSliceN (size := 3) (z := AG [.int .u32 0, .int .u16 0, .int .u32 0]) _ _ U.sl_impl_Extent (by kernel_rfl) (by omega) (by omega) hl]
  have hb : Below w.heap.size w (w.alloc (CB l T.impl_Extent)) := (Below.refl _ _).alloc (Nat.le_refl _) _
  refine oAppend_own (size := 3) (bytes := 12) (z := AG [.int .u32 0, .int .u16 0, .int .u32 0]) _ _ U.sl_impl_Extent (by kernel_rfl) rfl (by omega) (own_old hv hb (Nat.le_refl _)) (by omega) ?_ h1 (by simp only [maxLen]; omega) (by omega) (by simp only [go_sem]; omega) fun v' w' g1 g2 => ?_
  · rw [bk_alloc_eq _ _ _ rfl, rowOf_L _ _ _ _ (by omega), rowL_le _ _ _ (by omega), List.drop_zero, List.take_of_length_le (by omega)]
  · exact h _ _ g1 ((hb.mono hB).trans g2)

theorem xt_one (s o u k : Nat) : ∀ v ∈ xt s o u k, v.oneCell' = true := by
  intro v hv
  simp only [xt, List.mem_cons, List.not_mem_nil, or_false] at hv
  rcases hv with rfl | rfl | rfl <;> rfl

theorem specExtents {s o u : Nat} {w : World} {K : Value → World → Prop} (hs : s + u ≤ 4294967295) (hu : u ≤ 2147483648)
    (h : ∀ v w', w'.ownsRow w.heap.size T.impl_Extent 3 v (xn o u) (xts s o u (xn o u)) → Below w.heap.size w w' → K v w') (ho : o ≤ 4294967295) :
    Cl P Fn.spec_Extents #[.int .u32 s, .int .u32 o, .int .u32 u] w K := by
  apply S_spec_Extents
  unfold F_spec_Extents
  have c1 : ∀ (L : Value → Prop) (x : Nat), x ≤ 4294967295 → pu P (oConv T.uint32 T.uint64 (.int .u32 x)) L = L (.int .u64 x) := fun L x hx => by
    rw [V.uint32__uint64, w_u64 (by omega) (by omega)]
  refine jn_with (fun t w' => ∃ v, t = [v] ∧ w'.ownsRow w.heap.size T.impl_Extent 3 v (xn o u) (xts s o u (xn o u)) ∧ Below w.heap.size w w') ?_ ?_
  · rintro t e w1 ⟨v, rfl, hv, hb⟩
    exact h _ _ hv hb
  · rw [c1 _ _ ho]
    refine lp_intro (fun t w' => ∃ k v, t = [v, .int .u64 (o + 32768 * k : Nat)] ∧ k ≤ xn o u ∧ w'.ownsRow w.heap.size T.impl_Extent 3 v k (xts s o u k) ∧ Below w.heap.size w w') (fun t _ => (u + 32768 - (intOf (gs t 1)).toNat)) ⟨0, _, rfl, by omega, own_nil _ _ _ _, Below.refl _ _⟩ ?_
    rintro t e w1 ⟨k, v, rfl, hk, hv, hb⟩
    by_cases g : ((o + 32768 * k : Nat) : Int) < u
    · refine jn_with (fun t w' => t = [] ∧ w' = w1) ?_ ?_
      · rintro t e w2 ⟨rfl, rfl⟩
        have c2 : ∀ (L : Value → Prop), pu P (oConv T.uint64 T.uint32 (.int .u64 (o + 32768 * k : Nat))) L = L (.int .u32 (o + 32768 * k : Nat)) := fun L => by
          rw [V.uint64__uint32, w_u32 (by omega) (by omega)]
        have c3 : ∀ (L : Value → Prop) (x : Int), 0 ≤ x → x ≤ 65535 → pu P (oConv T.uint64 T.uint16 (.int .u64 x)) L = L (.int .u16 x) := fun L x h0 h1 => by
          rw [V.uint64__uint16, w_u16 (by omega) (by omega)]
        simp (disch := first | omega | (simp only [size_setb, size_alloc', size_drew'] <;> omega) | (simp (disch := first | omega | (simp only [size_setb, size_alloc', size_drew'] <;> omega) | fail) only [go_sem, c1, c2, c3]; done) | fail) only [go_sem, dec_t, dec_f, w_u32, w_u64, w_u16, w_u8, w_i64, Int.reduceToNat, Int.reducePow, Nat.reducePow, c1, c2, c3]
        have ex : AG [.int .u32 (o + 32768 * k : Nat), .int .u16 (min 32768 ((u : Int) - (o + 32768 * k : Nat))), .int .u32 ((s : Int) + (o + 32768 * k : Nat))] = AG (xt s o u k) := by
          unfold xt
          rw [show (min 32768 ((u : Int) - (o + 32768 * k : Nat))) = ((min 32768 (u - (o + 32768 * k)) : Nat) : Int) by omega]
          rfl
        rw [ex]
        refine put_ext hv rfl (xt_one _ _ _ _) (by unfold xn at hk; omega) (Nat.le_trans (Nat.le_refl _) hb.size) fun v' w' g1 g2 => ?_
        refine ⟨⟨k + 1, v', ?_, by unfold xn; omega, g1, hb.trans g2⟩, ?_⟩
        · rw [show ((o + 32768 * k : Nat) : Int) + 32768 = ((o + 32768 * (k + 1) : Nat) : Int) by omega]
        · simp only [intOf]
          omega
      · simp (disch := first | omega | (simp only [size_setb, size_alloc', size_drew'] <;> omega) | (simp (disch := first | omega | (simp only [size_setb, size_alloc', size_drew'] <;> omega) | fail) only [go_sem, c1]; done) | fail) only [go_sem, dec_t, dec_f, w_u32, w_u64, w_u16, w_u8, w_i64, Int.reduceToNat, Int.reducePow, Nat.reducePow, c1]
        exact ⟨trivial, trivial⟩
    · have e1 : k = xn o u := by unfold xn at hk ⊢; omega
      refine jn_with (fun _ _ => False) (fun _ _ _ h => h.elim) ?_
      simp (disch := first | omega | (simp only [size_setb, size_alloc', size_drew'] <;> omega) | (simp (disch := first | omega | (simp only [size_setb, size_alloc', size_drew'] <;> omega) | fail) only [go_sem, c1]; done) | fail) only [go_sem, dec_t, dec_f, w_u32, w_u64, w_u16, w_u8, w_i64, Int.reduceToNat, Int.reducePow, Nat.reducePow, c1]
      subst e1
      exact ⟨_, rfl, hv, hb⟩

/-- A leaf as it is laid. -/
def lf (s o u k : Nat) : List Value := [.int .u32 (o + 32768 * k : Nat), .int .u16 (min 32768 (u - (o + 32768 * k)) : Nat), .int .u16 0, .int .u32 (s + (o + 32768 * k) : Nat)]
def lfs (s o u : Nat) : Nat → List Value
  | 0 => []
  | k + 1 => lfs s o u k ++ lf s o u k
abbrev z4 : List Value := [.int .u32 0, .int .u16 0, .int .u16 0, .int .u32 0]
def zL : Nat → List Value
  | 0 => []
  | n + 1 => z4 ++ zL n
theorem lfs_len (s o u k : Nat) : (lfs s o u k).length = k * 4 := by
  induction k with
  | zero => rfl
  | succ k ih => simp only [lfs, List.length_append, ih, lf, List.length_cons, List.length_nil]; omega
theorem zL_len (n : Nat) : (zL n).length = n * 4 := by
  induction n with
  | zero => rfl
  | succ k ih => simp only [zL, List.length_append, ih, List.length_cons, List.length_nil]; omega
theorem zL_get : ∀ (n j : Nat), j < n * 4 → (zL n)[j]? = z4[j % 4]?
  | 0, j, h => by omega
  | n + 1, j, h => by
    rw [zL, List.getElem?_append]
    by_cases g : j < 4
    · rw [if_pos (by simpa using g), Nat.mod_eq_of_lt g]
    · rw [if_neg (by simpa using g), show z4.length = 4 from rfl, zL_get n (j - 4) (by omega)]
      congr 1
      omega
theorem made_zL (n : Nat) : (madeCells (AG z4).cells (n * 4)) = (zL n).toArray := by
  apply Array.toList_inj.1
  apply List.ext_getElem?
  intro j
  by_cases h : j < n * 4
  · rw [show (zL n).toArray.toList = zL n from rfl, zL_get n j h]
    have h4 : j % 4 = 0 ∨ j % 4 = 1 ∨ j % 4 = 2 ∨ j % 4 = 3 := by omega
    have hc : (AG z4).cells = z4.toArray := rfl
    simp only [madeCells, hc]
    rw [Array.getElem?_toList, Array.getElem?_map, Array.getElem?_range, if_pos h]
    show some (z4.toArray[j % 4]!) = _
    rcases h4 with e | e | e | e <;> rw [e] <;> rfl
  · rw [List.getElem?_eq_none (by simp [madeCells]; omega), List.getElem?_eq_none (by rw [show (zL n).toArray.toList = zL n from rfl, zL_len]; omega)]
theorem sto_mid (a z r xs : List Value) (t : TypeId) (n m : Nat) (ha : a.length = n) (hz : z.length = m) (hx : xs.length = m) (h1 : xs.all (·.oneCell') = true) : stoNOf (some (CB (a ++ (z ++ r)) t)) n m xs = some (CB (a ++ xs ++ r) t) := by
  rw [stoNOf_CB _ _ _ _ _ (by simp; omega), if_pos ⟨hx, h1⟩]
  subst ha hz
  rw [List.take_left, ← List.drop_drop, List.drop_left, List.drop_left]

theorem oMake {w : World} {K : Value → World → Prop} (n : Nat) (hn : n ≤ 340) (h : K (sl w.heap.size 0 n n) (w.alloc (CB (zL n) T.format_ExtentLeafNode))) : st P (oMkSlice T.sl_format_ExtentLeafNode (.int .i64 n) (.int .i64 n)) w K := by
  have hi : (P.info? T.format_ExtentLeafNode).map (fun i => (i.zero, i.size, i.bytes)) = some (some (AG z4), 4, 12) := by kernel_rfl
  cases hie : P.info? T.format_ExtentLeafNode with
  | none => rw [hie] at hi; cases hi
  | some i =>
  rw [hie] at hi
  simp only [Option.map_some, Option.some.injEq, Prod.mk.injEq] at hi
  obtain ⟨hz, hs, hb⟩ := hi
  have hr := run_make (P := P) w T.sl_format_ExtentLeafNode T.format_ExtentLeafNode i (AG z4) U.sl_format_ExtentLeafNode hie hz .i64 .i64 n n (by omega) (by omega) (by rw [hb]; omega) (by omega)
  rw [hs, show (n : Int).toNat = n by omega, made_zL] at hr
  have e := st_eq_value (K := K) (run_v' hr)
  rw [show st P (oMkSlice T.sl_format_ExtentLeafNode (.int .i64 n) (.int .i64 n)) w K = K (sl w.heap.size 0 n n) (w.alloc (CB (zL n) T.format_ExtentLeafNode)) from e]
  exact h

abbrev z5 : List Value := [.int .u16 0, .int .u16 0, .int .u16 0, .int .u16 0, .int .u32 0]
theorem fillExtents_spec {s o u n bH bE B : Nat} {w : World} {K : Value → World → Prop} (hs : s + u ≤ 4294967295) (hu : u ≤ 2147483648) (ho : o < u) (hn : n = xn o u) (h340 : n ≤ 340)
    (hH : bk w bH = some (CB z5 T.format_ExtentHeader)) (hE : bk w bE = some (CB (zL n) T.format_ExtentLeafNode)) (hne : bH ≠ bE) (gH : B ≤ bH) (gE : B ≤ bE)
    (h : ∀ v w', Below B w w' → bk w' bE = some (CB (lfs s o u n) T.format_ExtentLeafNode) → K v w') : Cl P Fn.compactext4_fillExtents #[pt bH 0, sl bE 0 n n, .int .u32 s, .int .u32 o, .int .u32 u] w K := by
  apply S_compactext4_fillExtents
  unfold F_compactext4_fillExtents
  have cp : ∀ (L : Value → Prop), pu P (oBuiltin .cap #[T.sl_format_ExtentLeafNode] T.int #[false] #[sl bE 0 n n]) L = L (.int .i64 n) := fun L => pu_builtin L (s := Builtin.cap_ #[T.sl_format_ExtentLeafNode] T.int #[sl bE 0 n n]) rfl (by
    simp only [Builtin.cap_]
    simp [rp_bind, rp_underlying U.sl_format_ExtentLeafNode, goInt])
  have cv : ∀ (L : Value → Prop), pu P (oConv T.int T.uint16 (.int .i64 n)) L = L (.int .u16 n) := fun L => by rw [V.int__uint16, w_u16 (by omega) (by omega)]
  have zH := bk_lt hH
  have zE := bk_lt hE
  simp (disch := first | omega | (simp only [size_setb, size_alloc', size_drew'] <;> omega) | (simp (disch := first | omega | (simp only [size_setb, size_alloc', size_drew'] <;> omega) | fail) only [go_sem, cp, cv, hH]; done) | fail) only [go_sem, dec_t, dec_f, w_u32, w_u64, w_u16, w_u8, w_i64, Int.reduceToNat, Int.reducePow, Nat.reducePow, cp, cv, hH]
  have B0 : Below B w (setb w bH (CB [.int .u16 62218, .int .u16 n, .int .u16 n, .int .u16 0, .int .u32 0] T.format_ExtentHeader)) := bel_setb (Below.refl _ _) gH _
  have E0 : bk (setb w bH (CB [.int .u16 62218, .int .u16 n, .int .u16 n, .int .u16 0, .int .u32 0] T.format_ExtentHeader)) bE = some (CB (zL n) T.format_ExtentLeafNode) := by rw [bk_setb_ne _ _ _ _ (Ne.symm hne)]; exact hE
  generalize setb w bH (CB [.int .u16 62218, .int .u16 n, .int .u16 n, .int .u16 0, .int .u32 0] T.format_ExtentHeader) = w0 at B0 E0 ⊢
  refine lp_intro (fun t w' => ∃ i : Nat, t = [.int .i64 i] ∧ i ≤ n ∧ Below B w w' ∧ bk w' bE = some (CB (lfs s o u i ++ zL (n - i)) T.format_ExtentLeafNode)) (fun t _ => n - (intOf (gs t 0)).toNat) ⟨0, rfl, by omega, B0, E0⟩ ?_
  rintro t e w1 ⟨i, rfl, hi, B1, E1⟩
  by_cases g : (i : Int) < n
  · simp (disch := first | omega | (simp only [size_setb, size_alloc', size_drew'] <;> omega) | (simp (disch := first | omega | (simp only [size_setb, size_alloc', size_drew'] <;> omega) | fail) only [go_sem]; done) | fail) only [go_sem, dec_t, dec_f, w_u32, w_u64, w_u16, w_u8, w_i64, Int.reduceToNat, Int.reducePow, Nat.reducePow]
    refine jn_with (fun t w' => t = [] ∧ w' = w1) ?_ ⟨rfl, rfl⟩
    · rintro t e w2 ⟨rfl, rfl⟩
      refine jn_with (fun t w' => t = [] ∧ Below B w w' ∧ bk w' bE = some (CB (lfs s o u (i + 1) ++ zL (n - (i + 1))) T.format_ExtentLeafNode)) ?_ ?_
      · rintro t e w3 ⟨rfl, B3, E3⟩
        refine ⟨⟨i + 1, rfl, by omega, B3, E3⟩, ?_⟩
        simp only [intOf]
        omega
      · have hx : o + 32768 * i < u := by unfold xn at hn; omega
        have ci : ∀ (L : Value → Prop), pu P (oConv T.int T.uint32 (.int .i64 i)) L = L (.int .u32 i) := fun L => by rw [V.int__uint32, w_u32 (by omega) (by omega)]
        simp (disch := first | omega | (simp only [size_setb, size_alloc', size_drew'] <;> omega) | (simp (disch := first | omega | (simp only [size_setb, size_alloc', size_drew'] <;> omega) | fail) only [go_sem, ci]; done) | fail) only [go_sem, dec_t, dec_f, w_u32, w_u64, w_u16, w_u8, w_i64, Int.reduceToNat, Int.reducePow, Nat.reducePow, ci]
        refine jn_with (fun t w' => t = [.int .u32 (min 32768 (u - (o + 32768 * i)) : Nat)] ∧ w' = w2) ?_ ?_
        · rintro t e w3 ⟨rfl, rfl⟩
          have cj : ∀ (L : Value → Prop), pu P (oConv T.uint32 T.uint16 (.int .u32 (min 32768 (u - (o + 32768 * i)) : Nat))) L = L (.int .u16 (min 32768 (u - (o + 32768 * i)) : Nat)) := fun L => by rw [V.uint32__uint16, w_u16 (by omega) (by omega)]
          have ix : ∀ (L : Value → Prop), pu P (oIdxA T.sl_format_ExtentLeafNode (sl bE 0 n n) (.int .i64 i)) L = L (pt bE (i * 4)) := fun L => by
            rw [oIdxA_sl (size := 4) L U.sl_format_ExtentLeafNode (by kernel_rfl) (by omega) (by omega), show 0 + (i : Int).toNat * 4 = i * 4 by omega]
          simp (disch := first | omega | (simp only [size_setb, size_alloc', size_drew'] <;> omega) | (simp (disch := first | omega | (simp only [size_setb, size_alloc', size_drew'] <;> omega) | fail) only [go_sem, cj, ix]; done) | fail) only [go_sem, dec_t, dec_f, w_u32, w_u64, w_u16, w_u8, w_i64, Int.reduceToNat, Int.reducePow, Nat.reducePow, cj, ix]
          have ex : AG [.int .u32 ((o : Int) + (i : Int) * 32768), .int .u16 (min 32768 (u - (o + 32768 * i)) : Nat), .int .u16 0, .int .u32 ((s : Int) + ((o : Int) + (i : Int) * 32768))] = AG (lf s o u i) := by
            unfold lf
            rw [show ((o : Int) + (i : Int) * 32768) = ((o + 32768 * i : Nat) : Int) by omega, show (s : Int) + ((o + 32768 * i : Nat) : Int) = ((s + (o + 32768 * i) : Nat) : Int) by omega]
          rw [ex]
          have hst : stoNOf (bk w3 bE) (i * 4) 4 (lf s o u i) = some (CB (lfs s o u (i + 1) ++ zL (n - (i + 1))) T.format_ExtentLeafNode) := by
            rw [E1, show zL (n - i) = z4 ++ zL (n - (i + 1)) by rw [show n - i = (n - (i + 1)) + 1 by omega]; rfl]
            exact sto_mid _ _ _ _ _ _ _ (lfs_len _ _ _ _) rfl rfl rfl
          rw [M.st_format_ExtentLeafNode _ _ _ _ _ (by rw [hst]; rfl), hst]
          exact ⟨trivial, bel_setb B1 gE _, bk_setb_eq _ _ _ _ rfl (bk_lt E1)⟩
        · by_cases q : ((u : Int) - ((o : Int) + (i : Int) * 32768)) > 32768
          · simp (disch := first | omega | (simp only [size_setb, size_alloc', size_drew'] <;> omega) | (simp (disch := first | omega | (simp only [size_setb, size_alloc', size_drew'] <;> omega) | fail) only [go_sem]; done) | fail) only [go_sem, dec_t, dec_f, w_u32, w_u64, w_u16, w_u8, w_i64, Int.reduceToNat, Int.reducePow, Nat.reducePow]
            rw [show min 32768 (u - (o + 32768 * i)) = 32768 by omega]
            exact ⟨rfl, trivial⟩
          · simp (disch := first | omega | (simp only [size_setb, size_alloc', size_drew'] <;> omega) | (simp (disch := first | omega | (simp only [size_setb, size_alloc', size_drew'] <;> omega) | fail) only [go_sem]; done) | fail) only [go_sem, dec_t, dec_f, w_u32, w_u64, w_u16, w_u8, w_i64, Int.reduceToNat, Int.reducePow, Nat.reducePow]
            rw [show ((u : Int) - ((o : Int) + (i : Int) * 32768)) = ((min 32768 (u - (o + 32768 * i)) : Nat) : Int) by omega]
            exact ⟨rfl, trivial⟩
  · have e1 : i = n := by omega
    subst e1
    simp (disch := first | omega | (simp only [size_setb, size_alloc', size_drew'] <;> omega) | (simp (disch := first | omega | (simp only [size_setb, size_alloc', size_drew'] <;> omega) | fail) only [go_sem]; done) | fail) only [go_sem, dec_t, dec_f, w_u32, w_u64, w_u16, w_u8, w_i64, Int.reduceToNat, Int.reducePow, Nat.reducePow]
    refine jn_with (fun _ _ => False) (fun _ _ _ h => h.elim) ?_
    refine h _ _ B1 ?_
    rw [E1, Nat.sub_self, show zL 0 = [] from rfl, List.append_nil]

theorem lfs_at (s o u : Nat) : ∀ (n i : Nat), i < n → ((lfs s o u n).drop (i * 4)).take 4 = lf s o u i
  | 0, i, h => by omega
  | n + 1, i, h => by
    rw [lfs]
    by_cases g : i < n
    · have hl := lfs_len s o u n
      rw [List.drop_append_of_le_length (by omega), List.take_append_of_le_length (by simp; omega)]
      exact lfs_at s o u n i g
    · have e : i = n := by omega
      subst e
      rw [show i * 4 = (lfs s o u i).length from (lfs_len s o u i).symm, List.drop_left]
      rfl
theorem door_spec {s o u n : Nat} {w : World} {K : Value → World → Prop} (hs : s + u ≤ 4294967295) (hu : u ≤ 2147483648) (ho : o < u) (hn : n = xn o u) (h340 : n ≤ 340)
    (h : ∀ b w', Below w.heap.size w w' → b < w'.heap.size → bk w' b = some (CB (lfs s o u n) T.format_ExtentLeafNode) → K (sl b 0 n n) w') : Cl P Fn.compactext4_DoorExtents #[.int .i64 n, .int .u32 s, .int .u32 o, .int .u32 u] w K := by
  apply S_compactext4_DoorExtents
  unfold F_compactext4_DoorExtents
  simp (disch := first | omega | (simp only [size_setb, size_alloc', size_drew'] <;> omega) | (simp (disch := first | omega | (simp only [size_setb, size_alloc', size_drew'] <;> omega) | fail) only [go_sem]; done) | fail) only [go_sem, dec_t, dec_f, w_u32, w_u64, w_u16, w_u8, w_i64, Int.reduceToNat, Int.reducePow, Nat.reducePow]
  refine oMake n h340 ?_
  simp (disch := first | omega | (simp only [size_setb, size_alloc', size_drew'] <;> omega) | (simp (disch := first | omega | (simp only [size_setb, size_alloc', size_drew'] <;> omega) | fail) only [go_sem]; done) | fail) only [go_sem, dec_t, dec_f, w_u32, w_u64, w_u16, w_u8, w_i64, Int.reduceToNat, Int.reducePow, Nat.reducePow]
  have hH : bk ((w.alloc (CB z5 T.format_ExtentHeader)).alloc (CB (zL n) T.format_ExtentLeafNode)) w.heap.size = some (CB z5 T.format_ExtentHeader) := by
    rw [bk_alloc_ne _ _ _ (by simp only [go_sem]; omega)]
    exact bk_alloc_eq w _ _ rfl
  have hE : bk ((w.alloc (CB z5 T.format_ExtentHeader)).alloc (CB (zL n) T.format_ExtentLeafNode)) (w.heap.size + 1) = some (CB (zL n) T.format_ExtentLeafNode) := bk_alloc_eq _ _ _ (by simp only [go_sem])
  have B0 : Below w.heap.size w ((w.alloc (CB z5 T.format_ExtentHeader)).alloc (CB (zL n) T.format_ExtentLeafNode)) := ((Below.refl _ _).alloc (Nat.le_refl _) _).alloc (by simp only [go_sem]; omega) _
  refine fillExtents_spec (B := w.heap.size) hs hu ho hn h340 hH hE (by omega) (by omega) (by omega) fun v w' h1 h2 => ?_
  exact h _ _ (B0.trans h1) (bk_lt h2) h2

set_option maxHeartbeats 4000000 in
theorem fill_spec {s o u n : Nat} {w : World} {K : Value → World → Prop} (hs : s + u ≤ 4294967295) (hu : u ≤ 2147483648) (ho : o < u) (hn : n = xn o u) (h340 : n ≤ 340)
    (h : ∀ v w', w'.ownsRow w.heap.size T.impl_Extent 3 v n (xts s o u n) → Below w.heap.size w w' → K v w') : Cl P Fn.impl_FillExtents #[.int .i64 n, .int .u32 s, .int .u32 o, .int .u32 u] w K := by
  apply S_impl_FillExtents
  unfold F_impl_FillExtents
  refine jn_with (fun t w' => t = [] ∧ w' = w) ?_ ?_
  · rintro t e w1 ⟨rfl, rfl⟩
    refine jn_with (fun t w' => ∃ v, t = [v] ∧ w'.ownsRow w1.heap.size T.impl_Extent 3 v n (xts s o u n) ∧ Below w1.heap.size w1 w') ?_ ?_
    · rintro t e w2 ⟨v, rfl, hv, hb⟩
      exact h _ _ hv hb
    · simp (disch := first | omega | (simp only [size_setb, size_alloc', size_drew'] <;> omega) | (simp (disch := first | omega | (simp only [size_setb, size_alloc', size_drew'] <;> omega) | fail) only [go_sem]; done) | fail) only [go_sem, dec_t, dec_f, w_u32, w_u64, w_u16, w_u8, w_i64, Int.reduceToNat, Int.reducePow, Nat.reducePow]
      refine door_spec hs hu ho hn h340 fun b w2 B2 zb hb => ?_
      simp (disch := first | omega | (simp only [size_setb, size_alloc', size_drew'] <;> omega) | (simp (disch := first | omega | (simp only [size_setb, size_alloc', size_drew'] <;> omega) | fail) only [go_sem]; done) | fail) only [go_sem, dec_t, dec_f, w_u32, w_u64, w_u16, w_u8, w_i64, Int.reduceToNat, Int.reducePow, Nat.reducePow]
      refine lp_intro (fun t w' => ∃ (i : Nat) (v : Value), t = [v, .int .i64 i] ∧ i ≤ n ∧ w'.ownsRow w2.heap.size T.impl_Extent 3 v i (xts s o u i) ∧ Below w2.heap.size w2 w') (fun t _ => n - (intOf (gs t 1)).toNat) ⟨0, _, rfl, by omega, own_nil _ _ _ _, Below.refl _ _⟩ ?_
      rintro t e w3 ⟨i, v, rfl, hi, hv, B3⟩
      have z3 := B3.size
      by_cases g : (i : Int) < n
      · simp (disch := first | omega | (simp only [size_setb, size_alloc', size_drew'] <;> omega) | (simp (disch := first | omega | (simp only [size_setb, size_alloc', size_drew'] <;> omega) | fail) only [go_sem]; done) | fail) only [go_sem, dec_t, dec_f, w_u32, w_u64, w_u16, w_u8, w_i64, Int.reduceToNat, Int.reducePow, Nat.reducePow]
        refine jn_with (fun t w' => t = [] ∧ w' = w3) ?_ ⟨rfl, rfl⟩
        rintro t e w4 ⟨rfl, rfl⟩
        have ix : ∀ (L : Value → Prop), pu P (oIdxA T.sl_format_ExtentLeafNode (sl b 0 n n) (.int .i64 i)) L = L (pt b (i * 4)) := fun L => by
          rw [oIdxA_sl (size := 4) L U.sl_format_ExtentLeafNode (by kernel_rfl) (by omega) (by omega), show 0 + (i : Int).toNat * 4 = i * 4 by omega]
        have row : rowOf (bk w4 b) (i * 4) 4 = some (lf s o u i) := by
          have hl := lfs_len s o u n
          rw [bel_bk B3 zb, hb, rowOf_L _ _ _ _ (by omega), rowL_le _ _ _ (by omega), lfs_at s o u n i (by omega)]
        rw [ix, M.ld_format_ExtentLeafNode _ _ _ _ (by rw [row]; rfl), row]
        rw [show (some (lf s o u i)).getD [] = lf s o u i from rfl]
        unfold lf
        simp (disch := first | omega | (simp only [size_setb, size_alloc', size_drew'] <;> omega) | (simp (disch := first | omega | (simp only [size_setb, size_alloc', size_drew'] <;> omega) | fail) only [go_sem]; done) | fail) only [go_sem, dec_t, dec_f, w_u32, w_u64, w_u16, w_u8, w_i64, Int.reduceToNat, Int.reducePow, Nat.reducePow]
        have BB : Below w4.heap.size w4 (setb (w4.alloc (CB [.int .u32 0, .int .u16 0, .int .u16 0, .int .u32 0] T.format_ExtentLeafNode)) w4.heap.size (CB [.int .u32 (o + 32768 * i : Nat), .int .u16 (min 32768 (u - (o + 32768 * i)) : Nat), .int .u16 0, .int .u32 (s + (o + 32768 * i) : Nat)] T.format_ExtentLeafNode)) := bel_setb ((Below.refl _ _).alloc (Nat.le_refl _) _) (Nat.le_refl _) _
        generalize setb (w4.alloc (CB [.int .u32 0, .int .u16 0, .int .u16 0, .int .u32 0] T.format_ExtentLeafNode)) w4.heap.size (CB [.int .u32 (o + 32768 * i : Nat), .int .u16 (min 32768 (u - (o + 32768 * i)) : Nat), .int .u16 0, .int .u32 (s + (o + 32768 * i) : Nat)] T.format_ExtentLeafNode) = w5 at BB ⊢
        have z5 := BB.size
        refine put_ext (l := xt s o u i) (own_old hv BB (Nat.le_refl _)) rfl (xt_one _ _ _ _) (by omega) (by omega) fun v' w' g1 g2 => ?_
        refine ⟨⟨i + 1, v', rfl, by omega, g1, (bel_on BB B3 z3).trans g2⟩, ?_⟩
        simp only [intOf]
        omega
      · have e1 : i = n := by omega
        subst e1
        simp (disch := first | omega | (simp only [size_setb, size_alloc', size_drew'] <;> omega) | (simp (disch := first | omega | (simp only [size_setb, size_alloc', size_drew'] <;> omega) | fail) only [go_sem]; done) | fail) only [go_sem, dec_t, dec_f, w_u32, w_u64, w_u16, w_u8, w_i64, Int.reduceToNat, Int.reducePow, Nat.reducePow]
        refine jn_with (fun _ _ => False) (fun _ _ _ h => h.elim) ?_
        have z2 := B2.size
        exact ⟨_, rfl, own_mono hv z2, B2.trans (B3.mono z2)⟩
  · have hx : (u - o + 32767) / 32768 = n := hn.symm
    have c1 : ∀ (L : Value → Prop) (x : Nat), x ≤ 4294967295 → pu P (oConv T.uint32 T.uint64 (.int .u32 x)) L = L (.int .u64 x) := fun L x hx => by
      rw [V.uint32__uint64, w_u64 (by omega) (by omega)]
    have c2 : ∀ (L : Value → Prop), pu P (oConv T.int T.uint64 (.int .i64 n)) L = L (.int .u64 n) := fun L => by
      rw [V.int__uint64, w_u64 (by omega) (by omega)]
    have q : ((u : Int) - (o : Int) + 32767).tdiv 32768 = n := by
      rw [Int.tdiv_eq_ediv_of_nonneg (by omega)]; omega
    have n1 : ¬ (n : Int) < 1 := by unfold xn at hn; omega
    simp (disch := first | omega | (simp only [size_setb, size_alloc', size_drew'] <;> omega) | (simp (disch := first | omega | (simp only [size_setb, size_alloc', size_drew'] <;> omega) | fail) only [go_sem, c1, c2, q]; done) | fail) only [go_sem, dec_t, dec_f, w_u32, w_u64, w_u16, w_u8, w_i64, Int.reduceToNat, Int.reducePow, Nat.reducePow, c1, c2, q]
    exact ⟨trivial, trivial⟩

theorem fill_bad {n : Int} {s o u : Nat} {w : World} {K : Value → World → Prop} (hn : -9223372036854775808 ≤ n ∧ n ≤ 9223372036854775807) (hu : u ≤ 2147483648) (ho : o ≤ 4294967295) (hbad : ¬ (1 ≤ n ∧ n ≤ 340 ∧ o < u ∧ n = xn o u)) (h : K (.slice none 0 0) w) :
    Cl P Fn.impl_FillExtents #[.int .i64 n, .int .u32 s, .int .u32 o, .int .u32 u] w K := by
  apply S_impl_FillExtents
  unfold F_impl_FillExtents
  refine jn_with (fun _ _ => False) (fun _ _ _ h => h.elim) ?_
  by_cases g1 : n < 1
  · simp (disch := first | omega | (simp only [size_setb, size_alloc', size_drew'] <;> omega) | (simp (disch := first | omega | (simp only [size_setb, size_alloc', size_drew'] <;> omega) | fail) only [go_sem]; done) | fail) only [go_sem, dec_t, dec_f, w_u32, w_u64, w_u16, w_u8, w_i64, Int.reduceToNat, Int.reducePow, Nat.reducePow]
    exact h
  by_cases g2 : 340 < n
  · simp (disch := first | omega | (simp only [size_setb, size_alloc', size_drew'] <;> omega) | (simp (disch := first | omega | (simp only [size_setb, size_alloc', size_drew'] <;> omega) | fail) only [go_sem]; done) | fail) only [go_sem, dec_t, dec_f, w_u32, w_u64, w_u16, w_u8, w_i64, Int.reduceToNat, Int.reducePow, Nat.reducePow]
    exact h
  by_cases g3 : (u : Int) ≤ o
  · simp (disch := first | omega | (simp only [size_setb, size_alloc', size_drew'] <;> omega) | (simp (disch := first | omega | (simp only [size_setb, size_alloc', size_drew'] <;> omega) | fail) only [go_sem]; done) | fail) only [go_sem, dec_t, dec_f, w_u32, w_u64, w_u16, w_u8, w_i64, Int.reduceToNat, Int.reducePow, Nat.reducePow]
    exact h
  have c1 : ∀ (L : Value → Prop) (x : Nat), x ≤ 4294967295 → pu P (oConv T.uint32 T.uint64 (.int .u32 x)) L = L (.int .u64 x) := fun L x hx => by
    rw [V.uint32__uint64, w_u64 (by omega) (by omega)]
  have c2 : ∀ (L : Value → Prop), pu P (oConv T.int T.uint64 (.int .i64 n)) L = L (.int .u64 n) := fun L => by
    rw [V.int__uint64, w_u64 (by omega) (by omega)]
  have q : ((u : Int) - (o : Int) + 32767).tdiv 32768 = (xn o u : Nat) := by
    rw [Int.tdiv_eq_ediv_of_nonneg (by omega)]; unfold xn; omega
  have xb : xn o u ≤ 65536 := by unfold xn; omega
  have q2 : n ≠ (xn o u : Nat) := fun e => hbad ⟨by omega, by omega, by omega, e⟩
  simp (disch := first | omega | (simp only [size_setb, size_alloc', size_drew'] <;> omega) | (simp (disch := first | omega | (simp only [size_setb, size_alloc', size_drew'] <;> omega) | fail) only [go_sem, c1, c2, q]; done) | fail) only [go_sem, dec_t, dec_f, w_u32, w_u64, w_u16, w_u8, w_i64, Int.reduceToNat, Int.reducePow, Nat.reducePow, c1, c2, q]
  exact h
theorem xts_at (s o u : Nat) : ∀ (n i : Nat), i < n → ((xts s o u n).drop (i * 3)).take 3 = xt s o u i
  | 0, i, h => by omega
  | n + 1, i, h => by
    rw [xts]
    by_cases g : i < n
    · have hl := xts_len s o u n
      rw [List.drop_append_of_le_length (by omega), List.take_append_of_le_length (by simp; omega)]
      exact xts_at s o u n i g
    · have e : i = n := by omega
      subst e
      rw [show i * 3 = (xts s o u i).length from (xts_len s o u i).symm, List.drop_left]
      rfl
theorem own_at {w : World} {B : Nat} {v : Value} {s o u n i : Nat} (h : w.ownsRow B T.impl_Extent 3 v n (xts s o u n)) (hi : i < n) :
    ∃ b cap, v = sl b 0 n cap ∧ b < w.heap.size ∧ rowOf (bk w b) (i * 3) 3 = some (xt s o u i) := by
  obtain ⟨b, cap, cur, rfl, h1, h2, h3, h4, h5, h6⟩ := own_row h (by omega)
  refine ⟨b, cap, rfl, h3, ?_⟩
  rw [h4, rowOf_L _ _ _ _ (by omega), rowL_le _ _ _ (by omega), ← xts_at s o u n i hi, ← h6, List.drop_take, List.take_take, show min 3 (n * 3 - i * 3) = 3 by omega]

set_option maxHeartbeats 4000000 in
theorem FnExtents_law {n : Int} {s o u : Nat} {w : World} (hn : -9223372036854775808 ≤ n ∧ n ≤ 9223372036854775807) (hs : s ≤ 4294967295) (ho : o ≤ 4294967295) (hu : u ≤ 4294967295) :
    Cl P Fn.laws_FnExtents #[.int .i64 n, .int .u32 s, .int .u32 o, .int .u32 u] w fun v w' => v = .bool true ∧ Below w.heap.size w w' := by
  apply S_laws_FnExtents
  unfold F_laws_FnExtents
  have c1 : ∀ (L : Value → Prop) (x : Nat), x ≤ 4294967295 → pu P (oConv T.uint32 T.uint64 (.int .u32 x)) L = L (.int .u64 x) := fun L x hx => by
    rw [V.uint32__uint64, w_u64 (by omega) (by omega)]
  refine jn_with (fun t w' => t = [] ∧ w' = w ∧ o ≤ u ∧ s + u ≤ 4294967295 ∧ u ≤ 2147483648) ?_ ?_
  · rintro t e w1 ⟨rfl, rfl, ho, hs, hu⟩
    have one : ∀ (w2 : World) (K : Value → World → Prop), (∀ a c w3, Below w2.heap.size w2 w3 → K (.slice a 1 c) w3) → Cl P Fn.impl_FillExtents #[.int .i64 1, .int .u32 0, .int .u32 0, .int .u32 1] w2 K := fun w2 K h =>
      fill_spec (s := 0) (o := 0) (u := 1) (n := 1) (by omega) (by omega) (by omega) rfl (by omega) fun v w3 h1 h2 => by
        obtain ⟨a, c, rfl⟩ := own_slice h1
        exact h a c w3 h2
    by_cases good : 1 ≤ n ∧ n ≤ 340 ∧ o < u ∧ n = xn o u
    · obtain ⟨g1, g2, g3, g4⟩ := good
      have gm : xn o u ≤ 340 := by omega
      generalize hm : xn o u = m at g4 gm
      subst g4
      simp (disch := first | omega | (simp only [size_setb, size_alloc', size_drew'] <;> omega) | (simp (disch := first | omega | (simp only [size_setb, size_alloc', size_drew'] <;> omega) | fail) only [go_sem]; done) | fail) only [go_sem, dec_t, dec_f, w_u32, w_u64, w_u16, w_u8, w_i64, Int.reduceToNat, Int.reducePow, Nat.reducePow]
      refine fill_spec hs hu g3 hm.symm gm fun v1 w2 h1 B1 => ?_
      refine specExtents hs hu (fun v2 w3 h2 B2 => ?_) (by omega)
      rw [hm] at h2
      have h1' := own_old h1 B2 (Nat.le_refl _)
      have B3 : Below w1.heap.size w1 w3 := bel_on B2 B1 B1.size
      obtain ⟨a1, k1, e1⟩ := own_slice h1'
      obtain ⟨a2, k2, e2⟩ := own_slice h2
      subst e1 e2
      refine jn_with (fun t w' => t = [] ∧ w' = w3) ?_ ?_
      · rintro t e w4 ⟨rfl, rfl⟩
        refine jn_with (fun t w' => t = [] ∧ w' = w4) ?_ ?_
        · rintro t e w5 ⟨rfl, rfl⟩
          refine jn_with (fun t w' => t = [] ∧ Below w1.heap.size w1 w') ?_ ?_
          · rintro t e w6 ⟨rfl, B6⟩
            exact ⟨trivial, B6⟩
          · simp (disch := first | omega | (simp only [size_setb, size_alloc', size_drew'] <;> omega) | (simp (disch := first | omega | (simp only [size_setb, size_alloc', size_drew'] <;> omega) | fail) only [go_sem]; done) | fail) only [go_sem, dec_t, dec_f, w_u32, w_u64, w_u16, w_u8, w_i64, Int.reduceToNat, Int.reducePow, Nat.reducePow]
            refine lp_intro (fun t w' => ∃ i : Nat, t = [.int .i64 i] ∧ i ≤ m ∧ Below w5.heap.size w5 w') (fun t _ => m - (intOf (gs t 0)).toNat) ⟨0, rfl, by omega, Below.refl _ _⟩ ?_
            rintro t e w6 ⟨i, rfl, hi, B6⟩
            by_cases g : (i : Int) < m
            · simp (disch := first | omega | (simp only [size_setb, size_alloc', size_drew'] <;> omega) | (simp (disch := first | omega | (simp only [size_setb, size_alloc', size_drew'] <;> omega) | fail) only [go_sem]; done) | fail) only [go_sem, dec_t, dec_f, w_u32, w_u64, w_u16, w_u8, w_i64, Int.reduceToNat, Int.reducePow, Nat.reducePow]
              refine jn_with (fun t w' => t = [] ∧ w' = w6) ?_ ⟨rfl, rfl⟩
              rintro t e w7 ⟨rfl, rfl⟩
              refine jn_with (fun t w' => t = [] ∧ w' = w7.drew) ?_ ?_
              · rintro t e w8 ⟨rfl, rfl⟩
                refine ⟨⟨i + 1, rfl, by omega, B6.drew⟩, ?_⟩
                simp only [intOf]
                omega
              · obtain ⟨b1, c1', e1, z1, r1⟩ := own_at h1' (show i < m by omega)
                obtain ⟨b2, c2', e2, z2, r2⟩ := own_at h2 (show i < m by omega)
                rw [e1, e2]
                have ix : ∀ (L : Value → Prop) (b c : Nat), pu P (oIdxA T.sl_impl_Extent (sl b 0 m c) (.int .i64 i)) L = L (pt b (i * 3)) := fun L b c => by
                  rw [oIdxA_sl (size := 3) L U.sl_impl_Extent (by kernel_rfl) (by omega) (by omega), show 0 + (i : Int).toNat * 3 = i * 3 by omega]
                rw [← bel_bk B6 z1] at r1
                rw [← bel_bk B6 z2] at r2
                rw [ix, M.rd_impl_Extent _ _ _ _ (by rw [bk_drew, r1]; rfl), ix, M.rd_impl_Extent _ _ _ _ (by rw [bk_drew, r2]; rfl), bk_drew, bk_drew, r1, r2]
                rw [show (some (xt s o u i)).getD [] = xt s o u i from rfl]
                unfold xt
                simp (disch := first | omega | (simp only [size_setb, size_alloc', size_drew'] <;> omega) | (simp (disch := first | omega | (simp only [size_setb, size_alloc', size_drew'] <;> omega) | fail) only [go_sem, decide_true, Bool.and_true]; done) | fail) only [go_sem, dec_t, dec_f, w_u32, w_u64, w_u16, w_u8, w_i64, Int.reduceToNat, Int.reducePow, Nat.reducePow, decide_true, Bool.and_true]
                exact ⟨trivial, trivial⟩
            · have e1 : i = m := by omega
              subst e1
              simp (disch := first | omega | (simp only [size_setb, size_alloc', size_drew'] <;> omega) | (simp (disch := first | omega | (simp only [size_setb, size_alloc', size_drew'] <;> omega) | fail) only [go_sem]; done) | fail) only [go_sem, dec_t, dec_f, w_u32, w_u64, w_u16, w_u8, w_i64, Int.reduceToNat, Int.reducePow, Nat.reducePow]
              refine jn_with (fun _ _ => False) (fun _ _ _ h => h.elim) ?_
              exact ⟨trivial, bel_on B6 B3 B3.size⟩
        · have z : ¬ (m : Int) ≠ m := by omega
          simp (disch := first | omega | (simp only [size_setb, size_alloc', size_drew'] <;> omega) | (simp (disch := first | omega | (simp only [size_setb, size_alloc', size_drew'] <;> omega) | fail) only [go_sem]; done) | fail) only [go_sem, dec_t, dec_f, w_u32, w_u64, w_u16, w_u8, w_i64, Int.reduceToNat, Int.reducePow, Nat.reducePow]
          exact ⟨trivial, trivial⟩
      · have z : ¬ (m : Int) ≠ m := by omega
        have z2 : ¬ (340 : Int) < m := by omega
        simp (disch := first | omega | (simp only [size_setb, size_alloc', size_drew'] <;> omega) | (simp (disch := first | omega | (simp only [size_setb, size_alloc', size_drew'] <;> omega) | fail) only [go_sem]; done) | fail) only [go_sem, dec_t, dec_f, w_u32, w_u64, w_u16, w_u8, w_i64, Int.reduceToNat, Int.reducePow, Nat.reducePow]
        exact ⟨trivial, trivial⟩
    · simp (disch := first | omega | (simp only [size_setb, size_alloc', size_drew'] <;> omega) | (simp (disch := first | omega | (simp only [size_setb, size_alloc', size_drew'] <;> omega) | fail) only [go_sem]; done) | fail) only [go_sem, dec_t, dec_f, w_u32, w_u64, w_u16, w_u8, w_i64, Int.reduceToNat, Int.reducePow, Nat.reducePow]
      refine fill_bad hn hu (by omega) good ?_
      refine specExtents hs hu (fun v2 w3 h2 B2 => ?_) (by omega)
      obtain ⟨a2, k2, e2⟩ := own_slice h2
      subst e2
      by_cases q1 : n = (xn o u : Nat)
      · by_cases q2 : (340 : Int) < n
        · have q3 : ¬ n ≠ (xn o u : Nat) := by omega
          refine jn_with (fun _ _ => False) (fun _ _ _ h => h.elim) ?_
          simp (disch := first | omega | (simp only [size_setb, size_alloc', size_drew'] <;> omega) | (simp (disch := first | omega | (simp only [size_setb, size_alloc', size_drew'] <;> omega) | fail) only [go_sem, decide_true]; done) | fail) only [go_sem, dec_t, dec_f, w_u32, w_u64, w_u16, w_u8, w_i64, Int.reduceToNat, Int.reducePow, Nat.reducePow, decide_true]
          refine one _ _ fun a c w5 h5 => ?_
          simp (disch := first | omega | (simp only [size_setb, size_alloc', size_drew'] <;> omega) | (simp (disch := first | omega | (simp only [size_setb, size_alloc', size_drew'] <;> omega) | fail) only [go_sem]; done) | fail) only [go_sem, dec_t, dec_f, w_u32, w_u64, w_u16, w_u8, w_i64, Int.reduceToNat, Int.reducePow, Nat.reducePow]
          exact ⟨trivial, bel_on h5 B2 B2.size⟩
        · have n0 : n = 0 := by
            by_cases p1 : 1 ≤ n
            · exfalso
              by_cases p2 : o < u
              · exact good ⟨p1, by omega, p2, q1⟩
              · have : xn o u = 0 := by unfold xn; omega
                omega
            · omega
          subst n0
          have x0 : xn o u = 0 := by omega
          rw [x0]
          refine jn_with (fun t w' => t = [] ∧ w' = w3) ?_ ?_
          · rintro t e w4 ⟨rfl, rfl⟩
            refine jn_with (fun t w' => t = [] ∧ w' = w4) ?_ ?_
            · rintro t e w5 ⟨rfl, rfl⟩
              refine jn_with (fun t w' => t = [] ∧ w' = w5) ?_ ?_
              · rintro t e w6 ⟨rfl, rfl⟩
                simp (disch := first | omega | (simp only [size_setb, size_alloc', size_drew'] <;> omega) | (simp (disch := first | omega | (simp only [size_setb, size_alloc', size_drew'] <;> omega) | fail) only [go_sem]; done) | fail) only [go_sem, dec_t, dec_f, w_u32, w_u64, w_u16, w_u8, w_i64, Int.reduceToNat, Int.reducePow, Nat.reducePow]
                refine one _ _ fun a c w5 h5 => ?_
                simp (disch := first | omega | (simp only [size_setb, size_alloc', size_drew'] <;> omega) | (simp (disch := first | omega | (simp only [size_setb, size_alloc', size_drew'] <;> omega) | fail) only [go_sem]; done) | fail) only [go_sem, dec_t, dec_f, w_u32, w_u64, w_u16, w_u8, w_i64, Int.reduceToNat, Int.reducePow, Nat.reducePow]
                exact ⟨trivial, bel_on h5 B2 B2.size⟩
              · simp (disch := first | omega | (simp only [size_setb, size_alloc', size_drew'] <;> omega) | (simp (disch := first | omega | (simp only [size_setb, size_alloc', size_drew'] <;> omega) | fail) only [go_sem]; done) | fail) only [go_sem, dec_t, dec_f, w_u32, w_u64, w_u16, w_u8, w_i64, Int.reduceToNat, Int.reducePow, Nat.reducePow]
                refine lp_intro (fun t w' => t = [.int .i64 0] ∧ w' = w5) (fun _ _ => 0) ⟨rfl, rfl⟩ ?_
                rintro t e w6 ⟨rfl, rfl⟩
                simp (disch := first | omega | (simp only [size_setb, size_alloc', size_drew'] <;> omega) | (simp (disch := first | omega | (simp only [size_setb, size_alloc', size_drew'] <;> omega) | fail) only [go_sem]; done) | fail) only [go_sem, dec_t, dec_f, w_u32, w_u64, w_u16, w_u8, w_i64, Int.reduceToNat, Int.reducePow, Nat.reducePow]
                refine jn_with (fun _ _ => False) (fun _ _ _ h => h.elim) ?_
                exact ⟨trivial, trivial⟩
            · simp (disch := first | omega | (simp only [size_setb, size_alloc', size_drew'] <;> omega) | (simp (disch := first | omega | (simp only [size_setb, size_alloc', size_drew'] <;> omega) | fail) only [go_sem]; done) | fail) only [go_sem, dec_t, dec_f, w_u32, w_u64, w_u16, w_u8, w_i64, Int.reduceToNat, Int.reducePow, Nat.reducePow]
              exact ⟨trivial, trivial⟩
          · simp (disch := first | omega | (simp only [size_setb, size_alloc', size_drew'] <;> omega) | (simp (disch := first | omega | (simp only [size_setb, size_alloc', size_drew'] <;> omega) | fail) only [go_sem]; done) | fail) only [go_sem, dec_t, dec_f, w_u32, w_u64, w_u16, w_u8, w_i64, Int.reduceToNat, Int.reducePow, Nat.reducePow]
            exact ⟨trivial, trivial⟩
      · refine jn_with (fun _ _ => False) (fun _ _ _ h => h.elim) ?_
        simp (disch := first | omega | (simp only [size_setb, size_alloc', size_drew'] <;> omega) | (simp (disch := first | omega | (simp only [size_setb, size_alloc', size_drew'] <;> omega) | fail) only [go_sem, decide_true]; done) | fail) only [go_sem, dec_t, dec_f, w_u32, w_u64, w_u16, w_u8, w_i64, Int.reduceToNat, Int.reducePow, Nat.reducePow, decide_true]
        refine one _ _ fun a c w5 h5 => ?_
        simp (disch := first | omega | (simp only [size_setb, size_alloc', size_drew'] <;> omega) | (simp (disch := first | omega | (simp only [size_setb, size_alloc', size_drew'] <;> omega) | fail) only [go_sem]; done) | fail) only [go_sem, dec_t, dec_f, w_u32, w_u64, w_u16, w_u8, w_i64, Int.reduceToNat, Int.reducePow, Nat.reducePow]
        exact ⟨trivial, bel_on h5 B2 B2.size⟩
  · by_cases g1 : (u : Int) < o
    · simp (disch := first | omega | (simp only [size_setb, size_alloc', size_drew'] <;> omega) | (simp (disch := first | omega | (simp only [size_setb, size_alloc', size_drew'] <;> omega) | fail) only [go_sem, c1]; done) | fail) only [go_sem, dec_t, dec_f, w_u32, w_u64, w_u16, w_u8, w_i64, Int.reduceToNat, Int.reducePow, Nat.reducePow, c1]
      exact ⟨trivial, Below.refl _ _⟩
    by_cases g2 : (4294967295 : Int) < (s : Int) + u
    · simp (disch := first | omega | (simp only [size_setb, size_alloc', size_drew'] <;> omega) | (simp (disch := first | omega | (simp only [size_setb, size_alloc', size_drew'] <;> omega) | fail) only [go_sem, c1]; done) | fail) only [go_sem, dec_t, dec_f, w_u32, w_u64, w_u16, w_u8, w_i64, Int.reduceToNat, Int.reducePow, Nat.reducePow, c1]
      exact ⟨trivial, Below.refl _ _⟩
    by_cases g3 : (2147483648 : Int) < u
    · simp (disch := first | omega | (simp only [size_setb, size_alloc', size_drew'] <;> omega) | (simp (disch := first | omega | (simp only [size_setb, size_alloc', size_drew'] <;> omega) | fail) only [go_sem, c1]; done) | fail) only [go_sem, dec_t, dec_f, w_u32, w_u64, w_u16, w_u8, w_i64, Int.reduceToNat, Int.reducePow, Nat.reducePow, c1]
      exact ⟨trivial, Below.refl _ _⟩
    simp (disch := first | omega | (simp only [size_setb, size_alloc', size_drew'] <;> omega) | (simp (disch := first | omega | (simp only [size_setb, size_alloc', size_drew'] <;> omega) | fail) only [go_sem, c1]; done) | fail) only [go_sem, dec_t, dec_f, w_u32, w_u64, w_u16, w_u8, w_i64, Int.reduceToNat, Int.reducePow, Nat.reducePow, c1]
    exact ⟨trivial, trivial, by omega, by omega, by omega⟩

theorem FnExtents_walk (n s o u : Int) (w : World) (wn : (Lit.int .i64 n).wf = true) (ws : (Lit.int .u32 s).wf = true) (wo : (Lit.int .u32 o).wf = true) (wu : (Lit.int .u32 u).wf = true) :
    Cl P Fn.laws_FnExtents #[.int .i64 n, .int .u32 s, .int .u32 o, .int .u32 u] w fun v w' => v = .bool true ∧ Below w.heap.size w w' := by
  simp only [Lit.wf, Bool.and_eq_true, decide_eq_true_eq] at wn ws wo wu
  have hn : -9223372036854775808 ≤ n ∧ n ≤ 9223372036854775807 := ⟨wn.1, wn.2⟩
  have hs : 0 ≤ s ∧ s ≤ 4294967295 := ⟨ws.1, ws.2⟩
  have ho : 0 ≤ o ∧ o ≤ 4294967295 := ⟨wo.1, wo.2⟩
  have hu : 0 ≤ u ∧ u ≤ 4294967295 := ⟨wu.1, wu.2⟩
  obtain ⟨s, rfl⟩ := Int.eq_ofNat_of_zero_le hs.1
  obtain ⟨o, rfl⟩ := Int.eq_ofNat_of_zero_le ho.1
  obtain ⟨u, rfl⟩ := Int.eq_ofNat_of_zero_le hu.1
  exact FnExtents_law hn (by omega) (by omega) (by omega)
end Go.Proofs.Ytdilealdddbhnaa.X
