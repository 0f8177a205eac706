/- FnNormalize: the walk. No condition beside the form's own. -/
import Derived.Test.YtdilealdddbhnaaXU
import Derived.Test.YtdilealdddbhnaaPa
import Derived.Lib.CleanSame2
import Derived.Lib.CleanSame
import Derived.Lib.JoinSame2
import Derived.Lib.CleanLen
import Derived.Test.YtdilealdddbhnaaXF0
import Derived.Test.YtdilealdddbhnaaXF1
set_option linter.unusedVariables false
set_option linter.unusedSimpArgs false
set_option maxRecDepth 100000
namespace Go.Proofs.Ytdilealdddbhnaa.X
open Go Go.X Go.Proofs Go.RowKit Go.Lib Go.Shelf

/-- The form of a name that is kept. -/
def norm (l : List UInt8) : List UInt8 := if Pa.clean l = [46] ∨ Pa.clean l = [46, 46] then [47] else Pa.clean l

theorem normalize_spec {l : List UInt8} {w : World} {K : Value → World → Prop} (hl : l.length ≤ 281474976710656) (h : ∀ w', Below w.heap.size w w' → K (S (norm l)) w') : Cl P Fn.impl_Normalize #[S l] w K := by
  apply S_impl_Normalize
  unfold F_impl_Normalize
  simp (disch := first | omega | (simp only [size_setb, size_alloc', size_drew'] <;> omega) | (simp (disch := first | omega | (simp only [size_setb, size_alloc', size_drew'] <;> omega) | fail) only [go_sem]; done) | fail) only [go_sem, dec_t, dec_f, w_u32, w_u64, w_u16, w_u8, w_i64, Int.reduceToNat, Int.reducePow, Nat.reducePow]
  apply S_afero_DoorNormalize
  unfold F_afero_DoorNormalize
  simp (disch := first | omega | (simp only [size_setb, size_alloc', size_drew'] <;> omega) | (simp (disch := first | omega | (simp only [size_setb, size_alloc', size_drew'] <;> omega) | fail) only [go_sem]; done) | fail) only [go_sem, dec_t, dec_f, w_u32, w_u64, w_u16, w_u8, w_i64, Int.reduceToNat, Int.reducePow, Nat.reducePow]
  apply S_afero_normalizePath
  unfold F_afero_normalizePath
  rw [C.path_Clean]
  refine clean_spec hl fun w1 h1 => ?_
  unfold norm at h
  by_cases g1 : Pa.clean l = [46]
  · rw [if_pos (.inl g1)] at h
    simp (disch := first | omega | (simp only [size_setb, size_alloc', size_drew'] <;> omega) | (simp (disch := first | omega | (simp only [size_setb, size_alloc', size_drew'] <;> omega) | fail) only [go_sem, g1, decide_true]; done) | fail) only [go_sem, dec_t, dec_f, w_u32, w_u64, w_u16, w_u8, w_i64, Int.reduceToNat, Int.reducePow, Nat.reducePow, g1, decide_true]
    exact h _ h1
  by_cases g2 : Pa.clean l = [46, 46]
  · rw [if_pos (.inr g2)] at h
    have e : decide (([46, 46] : List UInt8) = [46]) = false := rfl
    simp (disch := first | omega | (simp only [size_setb, size_alloc', size_drew'] <;> omega) | (simp (disch := first | omega | (simp only [size_setb, size_alloc', size_drew'] <;> omega) | fail) only [go_sem, g2, e, decide_true]; done) | fail) only [go_sem, dec_t, dec_f, w_u32, w_u64, w_u16, w_u8, w_i64, Int.reduceToNat, Int.reducePow, Nat.reducePow, g2, e, decide_true]
    exact h _ h1
  · rw [if_neg (by simp [g1, g2])] at h
    simp (disch := first | omega | (simp only [size_setb, size_alloc', size_drew'] <;> omega) | (simp (disch := first | omega | (simp only [size_setb, size_alloc', size_drew'] <;> omega) | fail) only [go_sem, g1, g2, decide_false]; done) | fail) only [go_sem, dec_t, dec_f, w_u32, w_u64, w_u16, w_u8, w_i64, Int.reduceToNat, Int.reducePow, Nat.reducePow, g1, g2, decide_false]
    exact h _ h1

/-- The elements from a place on. -/
def rest (l : List UInt8) (i : Nat) : List (List UInt8) := if i ≤ l.length then Pa.els (l.drop i) else []
theorem rest_step {l : List UInt8} {i j : Nat} (hi : i ≤ j) (hj : j ≤ l.length) (hno : ∀ k (hk : k < l.length), i ≤ k → k < j → l[k] ≠ 47) (hend : j = l.length ∨ ∃ h : j < l.length, l[j] = 47) :
    rest l i = (l.drop i).take (j - i) :: rest l (j + 1) := by
  have e1 : l.drop i = (l.drop i).take (j - i) ++ l.drop j := by
    have h := (List.take_append_drop (j - i) (l.drop i)).symm
    rw [List.drop_drop, show i + (j - i) = j by omega] at h
    exact h
  have hnot : 47 ∉ (l.drop i).take (j - i) := by
    intro hm
    obtain ⟨k, hk, e⟩ := List.getElem_of_mem hm
    simp only [List.length_take, List.length_drop] at hk
    rw [List.getElem_take, List.getElem_drop] at e
    exact hno (i + k) (by omega) (by omega) (by omega) e
  have hh : l.drop j = [] ∨ (l.drop j).head? = some 47 := by
    rcases hend with h | ⟨h, e⟩
    · exact .inl (by rw [h]; simp)
    · right
      rw [List.head?_drop, List.getElem?_eq_getElem h, e]
  have e2 := Pa.els_elem ((l.drop i).take (j - i)) (l.drop j) hnot hh
  rw [← e1] at e2
  unfold rest
  rw [if_pos (by omega), e2]
  congr 1
  rcases hend with h | ⟨h, e⟩
  · subst h
    rw [if_neg (by omega), List.drop_length]; rfl
  · rw [if_pos (by omega), List.drop_eq_getElem_cons h]; rfl
theorem own_take {w : World} {B : Nat} {e : TypeId} {size n cap b : Nat} {xs : List Value} (h : w.ownsRow B e size (sl b 0 n cap) n xs) {m : Nat} (hm : m ≤ n) : w.ownsRow B e size (sl b 0 m cap) m (xs.take (m * size)) := by
  refine ⟨?_, ?_⟩
  · rw [List.length_take, h.1]
    have := Nat.mul_le_mul_right size hm
    omega
  · rcases h.2 with ⟨h1, _⟩ | ⟨g, cap', cur, h1, h2, h3, h4, h5, h6, h7⟩
    · cases h1
    · injection h1 with e1 e2 e3
      injection e1 with e1
      injection e1 with e1
      subst e1 e3
      refine .inr ⟨_, _, cur, rfl, h2, h3, by omega, h5, h6, ?_⟩
      rw [← h7, List.take_take, Nat.min_eq_left (Nat.mul_le_mul_right size hm)]

theorem put_str {v : Value} {n B : Nat} {xs : List Value} {l : List UInt8} {w : World} {K : Value → World → Prop} (hv : w.ownsRow B T.string 1 v n xs) (hn : n ≤ 1000000000) (hB : B ≤ w.heap.size)
    (h : ∀ b c w', w'.ownsRow B T.string 1 (sl b 0 (n + 1) c) (n + 1) (xs ++ [S l]) → Below B w w' → K (sl b 0 (n + 1) c) w') :
    st P (oBuildSlice T.sl_string 1 #[(0, S l)]) w fun t31 w4 => st P (oBuiltin .append #[T.sl_string, T.sl_string] T.sl_string #[false, false] #[v, t31]) w4 K := by
  rw [oBuildSlice1 (z := S []) _ _ U.sl_string (by kernel_rfl) rfl]
  have hb : Below w.heap.size w (w.alloc (CB [S l] T.string)) := (Below.refl _ _).alloc (Nat.le_refl _) _
  refine oAppend_own (size := 1) (bytes := 16) (z := S []) (news := [S l]) _ _ U.sl_string (by kernel_rfl) rfl (by omega) (own_old hv hb (Nat.le_refl _)) rfl ?_ (fun u hu => by simp only [List.mem_singleton] at hu; subst hu; rfl) (by simp only [maxLen]; omega) (by omega) (by simp only [go_sem]; omega) fun v' w' g1 g2 => ?_
  · rw [bk_alloc_eq _ _ _ rfl]
    rfl
  · obtain ⟨b, cap, cur, rfl, _⟩ := own_row g1 (by omega)
    exact h _ _ _ g1 ((hb.mono hB).trans g2)

/-- What the elements come to. -/
def outOf (l : List UInt8) : List (List UInt8) := (Pa.els l).foldl (Pa.cleanStep (l.head? == some 47)) []

theorem step_mem (ro : Bool) (st : List (List UInt8)) (e : List UInt8) : ∀ x ∈ Pa.cleanStep ro st e, x ∈ st ∨ (x = e ∧ e ≠ [46]) := by
  intro x hx
  unfold Pa.cleanStep at hx
  by_cases c1 : e = [] ∨ e = [46]
  · rw [if_pos c1] at hx; exact .inl hx
  rw [if_neg c1] at hx
  have c2 : e ≠ [46] := fun h => c1 (.inr h)
  by_cases c3 : e = [46, 46]
  · rw [if_pos c3] at hx
    cases st with
    | nil =>
      cases ro with
      | true => simp at hx
      | false => simp at hx; exact .inr ⟨hx, c2⟩
    | cons y r =>
      simp only at hx
      by_cases c4 : y = [46, 46]
      · rw [if_pos c4] at hx
        rcases List.mem_cons.1 hx with h | h
        · exact .inr ⟨h, c2⟩
        · exact .inl h
      · rw [if_neg c4] at hx
        exact .inl (List.mem_cons_of_mem _ hx)
  · rw [if_neg c3] at hx
    rcases List.mem_cons.1 hx with h | h
    · exact .inr ⟨h, c2⟩
    · exact .inl h
theorem fold_mem (ro : Bool) : ∀ (es st : List (List UInt8)), ∀ x ∈ es.foldl (Pa.cleanStep ro) st, x ∈ st ∨ (x ∈ es ∧ x ≠ [46])
  | [], st, x, hx => .inl hx
  | e :: es, st, x, hx => by
    rw [List.foldl_cons] at hx
    rcases fold_mem ro es _ x hx with h | h
    · rcases step_mem ro st e x h with h | ⟨h, h2⟩
      · exact .inl h
      · subst h; exact .inr ⟨List.mem_cons_self .., h2⟩
    · exact .inr ⟨List.mem_cons_of_mem _ h.1, h.2⟩
theorem els_len : ∀ (l : List UInt8), ∀ x ∈ Pa.els l, x.length ≤ l.length
  | [], x, hx => by simp [Pa.els] at hx; subst hx; simp
  | c :: t, x, hx => by
    have ih := els_len t
    unfold Pa.els at hx
    by_cases hc : c = 47
    · rw [if_pos hc] at hx
      rcases List.mem_cons.1 hx with h | h
      · subst h; simp
      · have := ih x h; simp only [List.length_cons]; omega
    · rw [if_neg hc] at hx
      cases he : Pa.els t with
      | nil =>
        rw [he] at hx
        simp at hx; subst hx; simp
      | cons e r =>
        rw [he] at hx ih
        rcases List.mem_cons.1 hx with h | h
        · subst h
          have := ih e (List.mem_cons_self ..)
          simp only [List.length_cons]; omega
        · have := ih x (List.mem_cons_of_mem _ h)
          simp only [List.length_cons]; omega
theorem out_mem (l : List UInt8) : ∀ x ∈ outOf l, x.length ≤ l.length ∧ x ≠ [46] := by
  intro x hx
  rcases fold_mem _ _ _ x hx with h | h
  · cases h
  · exact ⟨els_len l x h.1, h.2⟩
/-- The elements put behind one another. -/
def jf (ro : Bool) (xs : List (List UInt8)) : List UInt8 := if ro = true then xs.flatMap (47 :: ·) else [47].intercalate xs
theorem inter_cons2 (x y : List UInt8) (r : List (List UInt8)) : ([47] : List UInt8).intercalate (x :: y :: r) = x ++ 47 :: ([47] : List UInt8).intercalate (y :: r) := by
  simp [List.intercalate]
theorem flat_inter : ∀ (xs : List (List UInt8)), xs ≠ [] → xs.flatMap (47 :: ·) = 47 :: ([47] : List UInt8).intercalate xs
  | [], h => absurd rfl h
  | [x], _ => by simp [List.intercalate]
  | x :: y :: r, _ => by
    rw [List.flatMap_cons, flat_inter (y :: r) (by simp), inter_cons2]
    simp
theorem inter_dot (xs : List (List UInt8)) (h : ∀ x ∈ xs, x ≠ [46]) : ([47] : List UInt8).intercalate xs ≠ [46] := by
  match xs, h with
  | [], _ => simp [List.intercalate]
  | [x], h => simpa [List.intercalate] using h x (by simp)
  | x :: y :: r, _ =>
    rw [inter_cons2]
    intro e
    have : (47 : UInt8) ∈ x ++ 47 :: ([47] : List UInt8).intercalate (y :: r) := by simp
    rw [e] at this
    simp at this
theorem norm_eq (l : List UInt8) : norm l = if jf (l.head? == some 47) (outOf l).reverse = [] ∨ jf (l.head? == some 47) (outOf l).reverse = [46, 46] then [47] else jf (l.head? == some 47) (outOf l).reverse := by
  unfold norm
  rw [Pa.clean_eq_cleanEls]
  by_cases hne : l = []
  · subst hne
    rfl
  · cases hro : (l.head? == some 47) with
    | true =>
      rw [Pa.cleanEls_abs l hne hro]
      have e : (Pa.els l).foldl (Pa.cleanStep true) [] = outOf l := by rw [outOf, hro]
      rw [e, if_neg (by simp)]
      simp only [jf, if_true]
      by_cases q : (outOf l).reverse = []
      · rw [q]; rfl
      · rw [flat_inter _ q, if_neg (by simp)]
    | false =>
      rw [Pa.cleanEls_rel l hne hro]
      have e : (Pa.els l).foldl (Pa.cleanStep false) [] = outOf l := by rw [outOf, hro]
      rw [e]
      simp only [jf, Bool.false_eq_true, if_false]
      have hd := inter_dot (outOf l).reverse (fun x hx => (out_mem l x (List.mem_reverse.1 hx)).2)
      generalize ([47] : List UInt8).intercalate (outOf l).reverse = z at hd ⊢
      by_cases q : z = []
      · subst q; rfl
      · rw [if_neg q]
        simp [q, hd]

theorem jf_snoc (ro : Bool) (xs : List (List UInt8)) (x : List UInt8) : jf ro (xs ++ [x]) = (if xs ≠ [] ∨ ro = true then jf ro xs ++ [47] else jf ro xs) ++ x := by
  cases ro with
  | true => simp [jf]
  | false =>
    by_cases h : xs = []
    · subst h; simp [jf, List.intercalate]
    · simp only [jf, Bool.false_eq_true, if_false, or_false]
      rw [Pa.inter_snoc x xs h, if_pos h]
      simp
theorem take_snoc {xs : List (List UInt8)} {i : Nat} (h : i < xs.length) : xs.take (i + 1) = xs.take i ++ [xs[i]] := by
  rw [List.take_succ_eq_append_getElem h]

set_option maxHeartbeats 4000000 in
theorem memName_spec {l : List UInt8} {w : World} {K : Value → World → Prop} (hl : l.length ≤ 400) (h : ∀ w', Below w.heap.size w w' → K (S (norm l)) w') : Cl P Fn.spec_MemName #[S l] w K := by
  apply S_spec_MemName
  unfold F_spec_MemName
  have hro : ∀ (L : Value → World → Prop), L (.bool (l.head? == some 47)) w.drew →
      (gd (.bool (decide ((l.length : Int) > 0))) true w.drew (fun K1 => K1 (S l) w.drew) fun t16 w1 =>
        gd (.bool (decide ((l.length : Int) > 0))) true w1 (fun K2 => pu P (oIdx T.string t16 (.int .i64 0)) fun v => K2 v w1) fun t17 w2 =>
        gd (.bool (decide ((l.length : Int) > 0))) true w2 (fun K3 => pu P (oBin .eql T.uint8 false true t17 (.int .u8 47)) fun v => K3 v w2) fun t18 w3 =>
        pu P (oPick (.bool (decide ((l.length : Int) > 0))) t18 (.bool false)) fun t19 => L t19 w3) := by
    intro L hL
    cases l with
    | nil =>
      have g : ¬ ((([] : List UInt8).length : Int) > 0) := by simp
      simp (disch := first | omega | (simp only [size_setb, size_alloc', size_drew'] <;> omega) | (simp (disch := first | omega | (simp only [size_setb, size_alloc', size_drew'] <;> omega) | fail) only [go_sem]; done) | fail) only [go_sem, dec_t, dec_f, w_u32, w_u64, w_u16, w_u8, w_i64, Int.reduceToNat, Int.reducePow, Nat.reducePow]
      exact hL
    | cons c r =>
      have g : (((c :: r).length : Int) > 0) := by simp only [List.length_cons]; omega
      have ix : ∀ (L : Value → Prop), pu P (oIdx T.string (S (c :: r)) (.int .i64 0)) L = L (.int .u8 c.toNat) := fun L => oIdxS L T.string (c :: r) .i64 0 U.string (by omega) g
      simp (disch := first | omega | (simp only [size_setb, size_alloc', size_drew'] <;> omega) | (simp (disch := first | omega | (simp only [size_setb, size_alloc', size_drew'] <;> omega) | fail) only [go_sem, ix]; done) | fail) only [go_sem, dec_t, dec_f, w_u32, w_u64, w_u16, w_u8, w_i64, Int.reduceToNat, Int.reducePow, Nat.reducePow, ix]
      have e : decide ((c.toNat : Int) = 47) = ((c :: r).head? == some 47) := by
        by_cases q : c = 47
        · subst q; rfl
        · have q2 : ¬ (c.toNat : Int) = 47 := fun x => q (UInt8.toNat_inj.1 (by rw [show (47 : UInt8).toNat = 47 from rfl]; omega))
          simp [q, q2]
      rw [e]
      exact hL
  rw [V.len_string]
  rw [oGtr]
  refine hro _ ?_
  generalize hroo : (l.head? == some 47) = ro
  rw [oBuildSlice0 (n := 1) _ _ U.sl_string (by kernel_rfl)]
  refine jn_with (fun t w' => ∃ b cap st, t = [sl b 0 st.length cap] ∧ w'.ownsRow w.heap.size T.string 1 (sl b 0 st.length cap) st.length (st.reverse.map S) ∧ Below w.heap.size w w' ∧ st = outOf l ∧ st.length ≤ 1000) ?_ ?_
  · rintro t e w1 ⟨b, cap, st, rfl, hv, B1, hst, hle⟩
    have hlen : ∀ x ∈ st.reverse, x.length ≤ 400 := fun x hx => by
      have := (out_mem l x (by rw [← hst]; exact List.mem_reverse.1 hx)).1
      omega
    have hnl := norm_eq l
    rw [hroo, ← hst] at hnl
    have hrl : st.reverse.length = st.length := List.length_reverse
    generalize st.reverse = xs at hlen hnl hrl hv
    refine jn_with (fun t w' => t = [S (jf ro xs)] ∧ Below w.heap.size w w') ?_ ?_
    · rintro t e w2 ⟨rfl, B2⟩
      refine jn_with (fun t w' => t = [] ∧ w' = w2 ∧ norm l = jf ro xs) ?_ ?_
      · rintro t e w3 ⟨rfl, rfl, hn⟩
        have := h _ B2
        rw [hn] at this
        exact this
      · have hk := h _ B2
        rw [hnl] at hk
        by_cases c1 : jf ro xs = []
        · rw [if_pos (.inl c1)] at hk
          simp (disch := first | omega | (simp only [size_setb, size_alloc', size_drew'] <;> omega) | (simp (disch := first | omega | (simp only [size_setb, size_alloc', size_drew'] <;> omega) | fail) only [go_sem, c1, decide_true]; done) | fail) only [go_sem, dec_t, dec_f, w_u32, w_u64, w_u16, w_u8, w_i64, Int.reduceToNat, Int.reducePow, Nat.reducePow, c1, decide_true]
          exact hk
        by_cases c2 : jf ro xs = [46, 46]
        · rw [if_pos (.inr c2)] at hk
          have n1 : decide (([46, 46] : List UInt8) = []) = false := rfl
          simp (disch := first | omega | (simp only [size_setb, size_alloc', size_drew'] <;> omega) | (simp (disch := first | omega | (simp only [size_setb, size_alloc', size_drew'] <;> omega) | fail) only [go_sem, c2, n1, decide_true]; done) | fail) only [go_sem, dec_t, dec_f, w_u32, w_u64, w_u16, w_u8, w_i64, Int.reduceToNat, Int.reducePow, Nat.reducePow, c2, n1, decide_true]
          exact hk
        · have e1 : norm l = jf ro xs := by rw [hnl, if_neg (by simp [c1, c2])]
          simp (disch := first | omega | (simp only [size_setb, size_alloc', size_drew'] <;> omega) | (simp (disch := first | omega | (simp only [size_setb, size_alloc', size_drew'] <;> omega) | fail) only [go_sem, c1, c2, decide_false]; done) | fail) only [go_sem, dec_t, dec_f, w_u32, w_u64, w_u16, w_u8, w_i64, Int.reduceToNat, Int.reducePow, Nat.reducePow, c1, c2, decide_false]
          exact ⟨trivial, trivial, e1⟩
    · simp (disch := first | omega | (simp only [size_setb, size_alloc', size_drew'] <;> omega) | (simp (disch := first | omega | (simp only [size_setb, size_alloc', size_drew'] <;> omega) | fail) only [go_sem]; done) | fail) only [go_sem, dec_t, dec_f, w_u32, w_u64, w_u16, w_u8, w_i64, Int.reduceToNat, Int.reducePow, Nat.reducePow]
      refine lp_intro (fun t w' => w' = w1 ∧ ∃ i : Nat, t = [S (jf ro (xs.take i)), .int .i64 i] ∧ i ≤ xs.length ∧ (jf ro (xs.take i)).length ≤ i * 401) (fun t _ => xs.length - (RowKit.intOf (gs t 1)).toNat) ⟨rfl, 0, ?_, by omega, ?_⟩ ?_
      · cases ro <;> rfl
      · cases ro <;> simp [jf, List.intercalate]
      rintro t e w2 ⟨rfl, i, rfl, hi, hjl⟩
      by_cases g : (i : Int) < st.length
      · have hix : i < xs.length := by omega
        simp (disch := first | omega | (simp only [size_setb, size_alloc', size_drew'] <;> omega) | (simp (disch := first | omega | (simp only [size_setb, size_alloc', size_drew'] <;> omega) | fail) only [go_sem]; done) | fail) only [go_sem, dec_t, dec_f, w_u32, w_u64, w_u16, w_u8, w_i64, Int.reduceToNat, Int.reducePow, Nat.reducePow]
        refine jn_with (fun t w' => t = [] ∧ w' = w2) ?_ ⟨rfl, rfl⟩
        rintro t e w3 ⟨rfl, rfl⟩
        have hxl := hlen xs[i] (List.getElem_mem hix)
        have hsn := jf_snoc ro (xs.take i) xs[i]
        rw [← take_snoc hix] at hsn
        have hlen2 : (jf ro (xs.take (i + 1))).length ≤ (i + 1) * 401 := by
          rw [hsn]
          split <;> simp only [List.length_append, List.length_cons, List.length_nil] <;> omega
        refine jn_with (fun t w' => w' = w3 ∧ t = [S (jf ro (xs.take (i + 1)))]) ?_ ?_
        · rintro t e w4 ⟨rfl, rfl⟩
          simp (disch := first | omega | (simp only [size_setb, size_alloc', size_drew'] <;> omega) | (simp (disch := first | omega | (simp only [size_setb, size_alloc', size_drew'] <;> omega) | fail) only [go_sem]; done) | fail) only [go_sem, dec_t, dec_f, w_u32, w_u64, w_u16, w_u8, w_i64, Int.reduceToNat, Int.reducePow, Nat.reducePow]
          refine ⟨⟨trivial, i + 1, rfl, by omega, hlen2⟩, ?_⟩
          simp only [RowKit.intOf]
          omega
        · have ix : ∀ (L : Value → Prop), pu P (oIdxA T.sl_string (sl b 0 st.length cap) (.int .i64 i)) L = L (pt b i) := fun L => by
            rw [oIdxA_sl (size := 1) L U.sl_string (by kernel_rfl) (by omega) (by omega)]
            rw [show 0 + (i : Int).toNat * 1 = i by omega]
          have cell : cellOf (bk w3 b) i = some (S xs[i]) := by
            obtain ⟨b', cap', cur, e1, q1, q2, q3, q4, q5, q6⟩ := own_row hv (by omega)
            injection e1 with e1 e2 e3
            injection e1 with e1
            injection e1 with e1
            subst e1 e3
            rw [q4, cellOf_CB]
            have h7 : (cur.take (st.length * 1))[i]? = some (S xs[i]) := by rw [q6]; simp [hix]
            rwa [List.getElem?_take_of_lt (by omega)] at h7
          simp (disch := first | omega | (simp only [size_setb, size_alloc', size_drew'] <;> omega) | (simp (disch := first | omega | (simp only [size_setb, size_alloc', size_drew'] <;> omega) | fail) only [go_sem, ix, cell]; done) | fail) only [go_sem, dec_t, dec_f, w_u32, w_u64, w_u16, w_u8, w_i64, Int.reduceToNat, Int.reducePow, Nat.reducePow, ix, cell]
          have i0 : (xs.take i ≠ []) ↔ 0 < i := by
            rw [Ne, List.take_eq_nil_iff, not_or]
            refine ⟨fun h => by omega, fun h => ⟨by omega, fun h2 => by rw [h2] at hix; simp at hix⟩⟩
          refine jn_with (fun t w' => w' = w3 ∧ t = [S (if List.take i xs ≠ [] ∨ ro = true then jf ro (List.take i xs) ++ [47] else jf ro (List.take i xs))]) ?_ ?_
          · rintro t e w4 ⟨rfl, rfl⟩
            have hq : (if List.take i xs ≠ [] ∨ ro = true then jf ro (List.take i xs) ++ [47] else jf ro (List.take i xs)).length ≤ i * 401 + 1 := by
              split
              · simp only [List.length_append, List.length_cons, List.length_nil]; omega
              · omega
            rw [gs0, oAddS _ T.string _ _ _ _ (by omega), ← hsn]
            exact ⟨rfl, rfl⟩
          · by_cases q : (0 : Int) < i
            · have hc : List.take i xs ≠ [] ∨ ro = true := .inl (i0.2 (by omega))
              rw [if_pos hc]
              simp (disch := first | omega | (simp only [size_setb, size_alloc', size_drew'] <;> omega) | (simp (disch := first | omega | (simp only [size_setb, size_alloc', size_drew'] <;> omega) | fail) only [go_sem]; done) | fail) only [go_sem, dec_t, dec_f, w_u32, w_u64, w_u16, w_u8, w_i64, Int.reduceToNat, Int.reducePow, Nat.reducePow]
              rw [oAddS _ T.string _ _ _ _ (by simp only [List.length_cons, List.length_nil]; omega)]
              exact ⟨trivial, rfl⟩
            · cases ro with
              | true =>
                rw [if_pos (.inr rfl)]
                simp (disch := first | omega | (simp only [size_setb, size_alloc', size_drew'] <;> omega) | (simp (disch := first | omega | (simp only [size_setb, size_alloc', size_drew'] <;> omega) | fail) only [go_sem]; done) | fail) only [go_sem, dec_t, dec_f, w_u32, w_u64, w_u16, w_u8, w_i64, Int.reduceToNat, Int.reducePow, Nat.reducePow]
                rw [oAddS _ T.string _ _ _ _ (by simp only [List.length_cons, List.length_nil]; omega)]
                exact ⟨trivial, rfl⟩
              | false =>
                have hc : ¬ (List.take i xs ≠ [] ∨ false = true) := by rw [i0]; simp; omega
                rw [if_neg hc]
                simp (disch := first | omega | (simp only [size_setb, size_alloc', size_drew'] <;> omega) | (simp (disch := first | omega | (simp only [size_setb, size_alloc', size_drew'] <;> omega) | fail) only [go_sem]; done) | fail) only [go_sem, dec_t, dec_f, w_u32, w_u64, w_u16, w_u8, w_i64, Int.reduceToNat, Int.reducePow, Nat.reducePow]
                exact ⟨trivial, trivial⟩
      · have e1 : i = xs.length := by omega
        subst e1
        simp (disch := first | omega | (simp only [size_setb, size_alloc', size_drew'] <;> omega) | (simp (disch := first | omega | (simp only [size_setb, size_alloc', size_drew'] <;> omega) | fail) only [go_sem]; done) | fail) only [go_sem, dec_t, dec_f, w_u32, w_u64, w_u16, w_u8, w_i64, Int.reduceToNat, Int.reducePow, Nat.reducePow]
        refine jn_with (fun _ _ => False) (fun _ _ _ h => h.elim) ?_
        rw [List.take_length]
        exact ⟨rfl, B1⟩
  · refine lp_intro (fun t w' => ∃ b cap st, ∃ i : Nat, t = [sl b 0 st.length cap, .int .i64 i] ∧ w'.ownsRow w.heap.size T.string 1 (sl b 0 st.length cap) st.length (st.reverse.map S) ∧ Below w.heap.size w w' ∧ st.length ≤ i ∧ i ≤ l.length + 1 ∧ (ro = true → ∀ x ∈ st, x ≠ [46, 46]) ∧ (rest l i).foldl (Pa.cleanStep ro) st = outOf l)
      (fun t _ => l.length + 2 - (RowKit.intOf (gs t 1)).toNat) ⟨w.heap.size, 0, [], 0, rfl, ?_, ((Below.refl _ _).drew).alloc (Nat.le_refl _) _, by simp, by omega, (fun _ x hx => by cases hx), ?_⟩ ?_
    · refine ⟨rfl, .inr ⟨_, _, #[], rfl, Nat.le_refl _, bk_alloc_eq w.drew _ _ rfl, by simp, by simp [maxLen], by simp, by simp⟩⟩
    · rw [rest, if_pos (by omega), List.drop_zero, outOf, hroo]
    rintro t e w1 ⟨b, cap, st, i, rfl, hv, B1, hsi, hi, hdd, hst⟩
    by_cases g : (i : Int) < l.length
    · simp (disch := first | omega | (simp only [size_setb, size_alloc', size_drew'] <;> omega) | (simp (disch := first | omega | (simp only [size_setb, size_alloc', size_drew'] <;> omega) | fail) only [go_sem]; done) | fail) only [go_sem, dec_t, dec_f, w_u32, w_u64, w_u16, w_u8, w_i64, Int.reduceToNat, Int.reducePow, Nat.reducePow]
      refine jn_with (fun t w' => t = [] ∧ w' = w1) ?_ ⟨rfl, rfl⟩
      rintro t e w2 ⟨rfl, rfl⟩
      refine jn_with (fun t w' => w' = w2 ∧ ∃ j : Nat, t = [.int .i64 j] ∧ i ≤ j ∧ j ≤ l.length ∧ (∀ k (hk : k < l.length), i ≤ k → k < j → l[k] ≠ 47) ∧ (j = l.length ∨ ∃ h : j < l.length, l[j] = 47)) ?_ ?_
      · rintro t e w3 ⟨rfl, j, rfl, hij, hjl, hno, hend⟩
        have hstep := rest_step hij hjl hno hend
        have hmove : ∀ (st' : List (List UInt8)), st' = Pa.cleanStep ro st ((l.drop i).take (j - i)) → (rest l (j + 1)).foldl (Pa.cleanStep ro) st' = outOf l := fun st' h' => by
          rw [← hst, hstep, List.foldl_cons, h']
        refine jn_with (fun t w' => ∃ b cap st', t = [sl b 0 st'.length cap] ∧ w'.ownsRow w.heap.size T.string 1 (sl b 0 st'.length cap) st'.length (st'.reverse.map S) ∧ Below w.heap.size w w' ∧ st'.length ≤ st.length + 1 ∧ (ro = true → ∀ x ∈ st', x ≠ [46, 46]) ∧ st' = Pa.cleanStep ro st ((l.drop i).take (j - i))) ?_ ?_
        · rintro t e w4 ⟨b', cap', st', rfl, hv', B4, hle', hdd', hst'⟩
          simp (disch := first | omega | (simp only [size_setb, size_alloc', size_drew'] <;> omega) | (simp (disch := first | omega | (simp only [size_setb, size_alloc', size_drew'] <;> omega) | fail) only [go_sem]; done) | fail) only [go_sem, dec_t, dec_f, w_u32, w_u64, w_u16, w_u8, w_i64, Int.reduceToNat, Int.reducePow, Nat.reducePow]
          refine ⟨⟨b', cap', st', j + 1, rfl, hv', B4, by omega, by omega, hdd', hmove st' hst'⟩, ?_⟩
          simp only [RowKit.intOf]
          omega
        · have sx : ∀ (L : Value → Prop), pu P (oSlice T.string (S l) (some (.int .i64 i)) (some (.int .i64 j)) none) L = L (S ((l.drop i).take (j - i))) := fun L => by
            rw [oSliceS L T.string l .i64 .i64 i j U.string (by omega) (by omega) (by omega)]
            rw [show (i : Int).toNat = i by omega, show (j : Int).toNat = j by omega]
          rw [gs0, sx]
          generalize ((l.drop i).take (j - i)) = el at *
          by_cases c1 : el = []
          · simp (disch := first | omega | (simp only [size_setb, size_alloc', size_drew'] <;> omega) | (simp (disch := first | omega | (simp only [size_setb, size_alloc', size_drew'] <;> omega) | fail) only [go_sem, c1, decide_true]; done) | fail) only [go_sem, dec_t, dec_f, w_u32, w_u64, w_u16, w_u8, w_i64, Int.reduceToNat, Int.reducePow, Nat.reducePow, c1, decide_true]
            exact ⟨b, cap, st, rfl, hv, B1, by omega, hdd, by simp [Pa.cleanStep, c1]⟩
          by_cases c2 : el = [46]
          · have e1 : decide (([46] : List UInt8) = []) = false := rfl
            simp (disch := first | omega | (simp only [size_setb, size_alloc', size_drew'] <;> omega) | (simp (disch := first | omega | (simp only [size_setb, size_alloc', size_drew'] <;> omega) | fail) only [go_sem, c2, e1, decide_true]; done) | fail) only [go_sem, dec_t, dec_f, w_u32, w_u64, w_u16, w_u8, w_i64, Int.reduceToNat, Int.reducePow, Nat.reducePow, c2, e1, decide_true]
            exact ⟨b, cap, st, rfl, hv, B1, by omega, hdd, by simp [Pa.cleanStep, c2]⟩
          by_cases c3 : el = [46, 46]
          · have n1 : decide (([46, 46] : List UInt8) = []) = false := rfl
            have n2 : decide (([46, 46] : List UInt8) = [46]) = false := rfl
            have n3 : (([46, 46] : List UInt8) ≠ [46, 46]) = False := by simp
            subst c3
            have push : ∀ (w4 : World), w4 = w3 → (ro = false) → Pa.cleanStep ro st [46, 46] = [46, 46] :: st → X.st P (oBuildSlice T.sl_string 1 #[(0, S [46, 46])]) w4 fun t53 w22 => X.st P (oBuiltin .append #[T.sl_string, T.sl_string] T.sl_string #[false, false] #[sl b 0 st.length cap, t53]) w22 fun t54 w23 =>
                ∃ b cap st', [t54] = [sl b 0 st'.length cap] ∧ w23.ownsRow w.heap.size T.string 1 (sl b 0 st'.length cap) st'.length (List.map S st'.reverse) ∧ Below w.heap.size w w23 ∧ st'.length ≤ st.length + 1 ∧ (ro = true → ∀ (x : List UInt8), x ∈ st' → x ≠ [46, 46]) ∧ st' = Pa.cleanStep ro st [46, 46] := by
              rintro w4 rfl hr hc
              refine put_str hv (by omega) B1.size fun b' c' w' g1 g2 => ?_
              refine ⟨b', c', [46, 46] :: st, rfl, by simpa using g1, B1.trans g2, by simp, ?_, hc.symm⟩
              intro h; rw [hr] at h; cases h
            cases st with
            | nil =>
              have z : ¬ ((0 : Int) < (([] : List (List UInt8)).length : Int)) := by simp
              cases ro with
              | true =>
                simp (disch := first | omega | (simp only [size_setb, size_alloc', size_drew'] <;> omega) | (simp (disch := first | omega | (simp only [size_setb, size_alloc', size_drew'] <;> omega) | fail) only [go_sem, n1, n2, n3, decide_false]; done) | fail) only [go_sem, dec_t, dec_f, w_u32, w_u64, w_u16, w_u8, w_i64, Int.reduceToNat, Int.reducePow, Nat.reducePow, n1, n2, n3, decide_false]
                exact ⟨b, cap, [], rfl, hv, B1, by omega, fun _ => hdd rfl, rfl⟩
              | false =>
                simp (disch := first | omega | (simp only [size_setb, size_alloc', size_drew'] <;> omega) | (simp (disch := first | omega | (simp only [size_setb, size_alloc', size_drew'] <;> omega) | fail) only [go_sem, n1, n2, n3, decide_false]; done) | fail) only [go_sem, dec_t, dec_f, w_u32, w_u64, w_u16, w_u8, w_i64, Int.reduceToNat, Int.reducePow, Nat.reducePow, n1, n2, n3, decide_false]
                exact push _ rfl rfl rfl
            | cons x r =>
              have z : ((0 : Int) < ((x :: r).length : Int)) := by simp only [List.length_cons]; omega
              obtain ⟨b', cap', cur, e1, q1, q2, q3, q4, q5, q6⟩ := own_row hv (by simp)
              injection e1 with e1 e2 e3
              injection e1 with e1
              injection e1 with e1
              subst e1 e3
              have ix : ∀ (L : Value → Prop), pu P (oIdxA T.sl_string (sl b 0 (x :: r).length cap) (.int .i64 (((x :: r).length : Int) - 1))) L = L (pt b r.length) := fun L => by
                rw [oIdxA_sl (size := 1) L U.sl_string (by kernel_rfl) (by omega) (by omega)]
                rw [show 0 + (((x :: r).length : Int) - 1).toNat * 1 = r.length by simp only [List.length_cons]; omega]
              have cell : cellOf (bk w3 b) r.length = some (S x) := by
                rw [q4, cellOf_CB]
                have h7 : (cur.take ((x :: r).length * 1))[r.length]? = some (S x) := by rw [q6]; simp
                rwa [List.getElem?_take_of_lt (by simp)] at h7
              by_cases c4 : x = [46, 46]
              · have hr : ro = false := by
                  cases ro with
                  | false => rfl
                  | true => exact absurd c4 (hdd rfl x (by simp))
                subst hr
                have n4 : (x ≠ [46, 46]) = False := by simp [c4]
                simp (disch := first | omega | (simp only [size_setb, size_alloc', size_drew'] <;> omega) | (simp (disch := first | omega | (simp only [size_setb, size_alloc', size_drew'] <;> omega) | fail) only [go_sem, n1, n2, n3, n4, decide_false, ix, cell]; done) | fail) only [go_sem, dec_t, dec_f, w_u32, w_u64, w_u16, w_u8, w_i64, Int.reduceToNat, Int.reducePow, Nat.reducePow, n1, n2, n3, n4, decide_false, ix, cell]
                exact push _ rfl rfl (by simp [Pa.cleanStep, c4])
              · have n4 : (x ≠ [46, 46]) = True := by simp [c4]
                simp (disch := first | omega | (simp only [size_setb, size_alloc', size_drew'] <;> omega) | (simp (disch := first | omega | (simp only [size_setb, size_alloc', size_drew'] <;> omega) | fail) only [go_sem, n1, n2, n3, n4, decide_false, decide_true, ix, cell]; done) | fail) only [go_sem, dec_t, dec_f, w_u32, w_u64, w_u16, w_u8, w_i64, Int.reduceToNat, Int.reducePow, Nat.reducePow, n1, n2, n3, n4, decide_false, decide_true, ix, cell]
                rw [oSlice_hi (size := 1) _ U.sl_string (by kernel_rfl) (by omega) (by omega)]
                rw [show (((x :: r).length : Int) - 1).toNat = r.length by simp only [List.length_cons]; omega]
                have hv2 := own_take hv (show r.length ≤ (x :: r).length by simp)
                refine ⟨b, cap, r, rfl, by simpa using hv2, B1, by simp only [List.length_cons]; omega, fun h y hy => hdd h y (List.mem_cons_of_mem _ hy), by simp [Pa.cleanStep, c4]⟩
          · simp (disch := first | omega | (simp only [size_setb, size_alloc', size_drew'] <;> omega) | (simp (disch := first | omega | (simp only [size_setb, size_alloc', size_drew'] <;> omega) | fail) only [go_sem, c1, c2, c3, decide_false]; done) | fail) only [go_sem, dec_t, dec_f, w_u32, w_u64, w_u16, w_u8, w_i64, Int.reduceToNat, Int.reducePow, Nat.reducePow, c1, c2, c3, decide_false]
            refine put_str hv (by omega) B1.size fun b' c' w' g1 g2 => ?_
            refine ⟨b', c', el :: st, rfl, by simpa using g1, B1.trans g2, by simp, ?_, by simp [Pa.cleanStep, c1, c2, c3]⟩
            intro h x hx
            rcases List.mem_cons.1 hx with rfl | hx
            · exact c3
            · exact hdd h x hx
      · refine lp_intro (fun t w' => w' = w2 ∧ ∃ j : Nat, t = [.int .i64 j] ∧ i ≤ j ∧ j ≤ l.length ∧ (∀ k (hk : k < l.length), i ≤ k → k < j → l[k] ≠ 47)) (fun t _ => l.length - (RowKit.intOf (gs t 0)).toNat) ⟨rfl, i, rfl, by omega, by omega, fun k _ h1 h2 => by omega⟩ ?_
        rintro t e w3 ⟨rfl, j, rfl, hij, hjl, hno⟩
        by_cases q : (j : Int) < l.length
        · have hj : j < l.length := by omega
          have ix : ∀ (L : Value → Prop), pu P (oIdx T.string (S l) (.int .i64 j)) L = L (.int .u8 l[j].toNat) := fun L => by
            rw [oIdxS L T.string l .i64 j U.string (by omega) q]
            rw [show (j : Int).toNat = j by omega]
            simp [List.getD, hj]
          by_cases q2 : l[j] = 47
          · have q3 : ¬ ((l[j].toNat : Int) ≠ 47) := by rw [q2]; decide
            refine jn_with (fun _ _ => False) (fun _ _ _ h => h.elim) ?_
            simp (disch := first | omega | (simp only [size_setb, size_alloc', size_drew'] <;> omega) | (simp (disch := first | omega | (simp only [size_setb, size_alloc', size_drew'] <;> omega) | fail) only [go_sem, ix]; done) | fail) only [go_sem, dec_t, dec_f, w_u32, w_u64, w_u16, w_u8, w_i64, Int.reduceToNat, Int.reducePow, Nat.reducePow, ix]
            exact ⟨trivial, j, rfl, hij, hjl, hno, .inr ⟨hj, q2⟩⟩
          · have q3 : (l[j].toNat : Int) ≠ 47 := fun x => q2 (UInt8.toNat_inj.1 (by rw [show (47 : UInt8).toNat = 47 from rfl]; omega))
            refine jn_with (fun t w' => t = [] ∧ w' = w3) ?_ ?_
            · rintro t e w4 ⟨rfl, rfl⟩
              simp (disch := first | omega | (simp only [size_setb, size_alloc', size_drew'] <;> omega) | (simp (disch := first | omega | (simp only [size_setb, size_alloc', size_drew'] <;> omega) | fail) only [go_sem]; done) | fail) only [go_sem, dec_t, dec_f, w_u32, w_u64, w_u16, w_u8, w_i64, Int.reduceToNat, Int.reducePow, Nat.reducePow]
              refine ⟨⟨trivial, j + 1, rfl, by omega, by omega, ?_⟩, ?_⟩
              · intro k hk h1 h2
                by_cases ek : k = j
                · subst ek; exact q2
                · exact hno k hk h1 (by omega)
              · simp only [RowKit.intOf]
                omega
            · simp (disch := first | omega | (simp only [size_setb, size_alloc', size_drew'] <;> omega) | (simp (disch := first | omega | (simp only [size_setb, size_alloc', size_drew'] <;> omega) | fail) only [go_sem, ix]; done) | fail) only [go_sem, dec_t, dec_f, w_u32, w_u64, w_u16, w_u8, w_i64, Int.reduceToNat, Int.reducePow, Nat.reducePow, ix]
              exact ⟨trivial, trivial⟩
        · refine jn_with (fun _ _ => False) (fun _ _ _ h => h.elim) ?_
          simp (disch := first | omega | (simp only [size_setb, size_alloc', size_drew'] <;> omega) | (simp (disch := first | omega | (simp only [size_setb, size_alloc', size_drew'] <;> omega) | fail) only [go_sem]; done) | fail) only [go_sem, dec_t, dec_f, w_u32, w_u64, w_u16, w_u8, w_i64, Int.reduceToNat, Int.reducePow, Nat.reducePow]
          exact ⟨trivial, j, rfl, hij, hjl, hno, .inl (by omega)⟩
    · simp (disch := first | omega | (simp only [size_setb, size_alloc', size_drew'] <;> omega) | (simp (disch := first | omega | (simp only [size_setb, size_alloc', size_drew'] <;> omega) | fail) only [go_sem]; done) | fail) only [go_sem, dec_t, dec_f, w_u32, w_u64, w_u16, w_u8, w_i64, Int.reduceToNat, Int.reducePow, Nat.reducePow]
      refine jn_with (fun _ _ => False) (fun _ _ _ h => h.elim) ?_
      refine ⟨b, cap, st, rfl, hv, B1, ?_, by omega⟩
      rw [← hst]
      unfold rest
      by_cases q : i ≤ l.length
      · rw [if_pos q, List.drop_eq_nil_of_le (by omega)]
        simp [Pa.els, Pa.cleanStep]
      · rw [if_neg q]; rfl
theorem els_no47 : ∀ (l : List UInt8), ∀ x ∈ Pa.els l, 47 ∉ x
  | [], x, hx => by simp [Pa.els] at hx; subst hx; simp
  | c :: t, x, hx => by
    have ih := els_no47 t
    unfold Pa.els at hx
    by_cases hc : c = 47
    · rw [if_pos hc] at hx
      rcases List.mem_cons.1 hx with h | h
      · subst h; simp
      · exact ih x h
    · rw [if_neg hc] at hx
      cases he : Pa.els t with
      | nil =>
        rw [he] at hx
        simp at hx; subst hx; simp; exact fun h => hc h.symm
      | cons e r =>
        rw [he] at hx ih
        rcases List.mem_cons.1 hx with h | h
        · subst h
          have := ih e (List.mem_cons_self ..)
          simp only [List.mem_cons, not_or]
          exact ⟨fun h => hc h.symm, this⟩
        · exact ih x (List.mem_cons_of_mem _ h)
/-- A stack of elements that stays as it is. -/
def Gd (ro : Bool) : List (List UInt8) → Prop
  | [] => True
  | x :: r => x ≠ [] ∧ x ≠ [46] ∧ 47 ∉ x ∧ (x = [46, 46] → ro = false ∧ ∀ y, r.head? = some y → y = [46, 46]) ∧ Gd ro r
theorem gd_step (ro : Bool) (st : List (List UInt8)) (e : List UInt8) (h : Gd ro st) (he : 47 ∉ e) : Gd ro (Pa.cleanStep ro st e) := by
  unfold Pa.cleanStep
  by_cases c1 : e = [] ∨ e = [46]
  · rw [if_pos c1]; exact h
  rw [if_neg c1]
  by_cases c3 : e = [46, 46]
  · rw [if_pos c3]
    cases st with
    | nil =>
      cases ro with
      | true => trivial
      | false => exact ⟨by simp [c3], by simp [c3], he, fun _ => ⟨rfl, fun y hy => by cases hy⟩, trivial⟩
    | cons y r =>
      simp only
      by_cases c4 : y = [46, 46]
      · rw [if_pos c4]
        exact ⟨by simp [c3], by simp [c3], he, fun _ => ⟨(h.2.2.2.1 c4).1, fun z hz => by cases hz; exact c4⟩, h⟩
      · rw [if_neg c4]; exact h.2.2.2.2
  · rw [if_neg c3]
    exact ⟨fun q => c1 (.inl q), fun q => c1 (.inr q), he, fun q => absurd q c3, h⟩
theorem gd_fold (ro : Bool) : ∀ (es st : List (List UInt8)), Gd ro st → (∀ e ∈ es, 47 ∉ e) → Gd ro (es.foldl (Pa.cleanStep ro) st)
  | [], st, h, _ => h
  | e :: es, st, h, he => gd_fold ro es _ (gd_step ro st e h (he e (List.mem_cons_self ..))) fun x hx => he x (List.mem_cons_of_mem _ hx)
theorem fold_gd (ro : Bool) : ∀ (st : List (List UInt8)), Gd ro st → st.reverse.foldl (Pa.cleanStep ro) [] = st
  | [], _ => rfl
  | x :: r, h => by
    rw [List.reverse_cons, List.foldl_append, fold_gd ro r h.2.2.2.2]
    show Pa.cleanStep ro r x = x :: r
    by_cases c : x = [46, 46]
    · obtain ⟨h1, h2⟩ := h.2.2.2.1 c
      subst c h1
      cases r with
      | nil => rfl
      | cons y r =>
        obtain rfl := h2 y rfl
        rfl
    · exact Pa.step_elem ro r x h.1 h.2.1 c
theorem els_self : ∀ (x : List UInt8), 47 ∉ x → Pa.els x = [x]
  | x, h => by
    have := Pa.els_elem x [] h (.inl rfl)
    rw [List.append_nil] at this
    rw [this]; rfl
theorem flat_self : ∀ (xs : List (List UInt8)), (∀ x ∈ xs, 47 ∉ x) → xs.flatMap Pa.els = xs
  | [], _ => rfl
  | x :: r, h => by
    rw [List.flatMap_cons, els_self x (h x (List.mem_cons_self ..)), flat_self r fun y hy => h y (List.mem_cons_of_mem _ hy)]
    rfl
theorem gd_mem {ro : Bool} : ∀ {st : List (List UInt8)}, Gd ro st → ∀ x ∈ st, x ≠ [] ∧ 47 ∉ x
  | [], _, x, hx => by cases hx
  | y :: r, h, x, hx => by
    rcases List.mem_cons.1 hx with rfl | hx
    · exact ⟨h.1, h.2.2.1⟩
    · exact gd_mem h.2.2.2.2 x hx
theorem clean_idem (l : List UInt8) : Pa.clean (Pa.clean l) = Pa.clean l := by
  by_cases hne : l = []
  · subst hne; rfl
  have el : ∀ ro (xs : List (List UInt8)), xs ≠ [] → Gd ro xs.reverse → Pa.els (([47] : List UInt8).intercalate xs) = xs := by
    intro ro xs hx hg
    cases xs with
    | nil => exact absurd rfl hx
    | cons y Y =>
      rw [Pa.els_J, flat_self]
      intro x hx
      exact (gd_mem hg x (List.mem_reverse.2 hx)).2
  rw [Pa.clean_eq_cleanEls l]
  have key : ∀ ro, Gd ro ((Pa.els l).foldl (Pa.cleanStep ro) []) := fun ro => gd_fold ro _ _ trivial (els_no47 l)
  cases hro : (l.head? == some 47) with
  | true =>
    rw [Pa.cleanEls_abs l hne hro]
    have k := key true
    generalize (Pa.els l).foldl (Pa.cleanStep true) [] = s at k ⊢
    rw [Pa.clean_eq_cleanEls, Pa.cleanEls_abs _ (by simp) (by simp), Pa.els_slash, List.foldl_cons]
    show 47 :: ([47] : List UInt8).intercalate (List.foldl (Pa.cleanStep true) [] (Pa.els (([47] : List UInt8).intercalate s.reverse))).reverse = _
    by_cases hs : s = []
    · subst hs; rfl
    · rw [el true s.reverse (by simpa using hs) (by simpa using k), fold_gd true s k]
  | false =>
    rw [Pa.cleanEls_rel l hne hro]
    have k := key false
    generalize (Pa.els l).foldl (Pa.cleanStep false) [] = s at k ⊢
    by_cases hs : s = []
    · subst hs; rfl
    · have e := el false s.reverse (by simpa using hs) (by simpa using k)
      obtain ⟨y, Y, hY⟩ : ∃ y Y, s.reverse = y :: Y := by
        cases h : s.reverse with
        | nil => exact absurd (List.reverse_eq_nil_iff.1 h) hs
        | cons y Y => exact ⟨y, Y, rfl⟩
      have hy := gd_mem k y (by rw [← List.mem_reverse, hY]; simp)
      have hj := Pa.J_head y Y hy.1
      rw [← hY] at hj
      rw [if_neg hj.2, Pa.clean_eq_cleanEls, Pa.cleanEls_rel _ hj.2, e, fold_gd false s k, if_neg hj.2]
      rw [hj.1]
      cases y with
      | nil => exact absurd rfl hy.1
      | cons c t =>
        have : c ≠ 47 := fun h => hy.2 (by simp [h])
        simpa using this
theorem norm_idem (l : List UInt8) : norm (norm l) = norm l := by
  by_cases h : Pa.clean l = [46] ∨ Pa.clean l = [46, 46]
  · have e : norm l = [47] := if_pos h
    rw [e]; rfl
  · have e : norm l = Pa.clean l := if_neg h
    rw [e, norm, clean_idem, if_neg h]
theorem norm_len (l : List UInt8) : (norm l).length ≤ l.length + 1 := by
  unfold norm
  split
  · simp
  · exact Pa.clean_length_le_succ l

theorem FnNormalize_walk (a : List UInt8) (w : World) (hn : a.length ≤ 140737488351232) : Cl P Fn.laws_FnNormalize #[S a] w fun v w' => v = .bool true ∧ Below w.heap.size w w' := by
  apply S_laws_FnNormalize
  unfold F_laws_FnNormalize
  by_cases h1 : (2147483647 : Int) < a.length
  · repeat (first | refine jn_intro ?_ | refine fun (_ : Env) => ?_ | simp (disch := first | omega | (simp only [size_setb, size_alloc', size_drew'] <;> omega) | (simp (disch := first | omega | (simp only [size_setb, size_alloc', size_drew'] <;> omega) | fail) only [go_sem]; done) | fail) only [go_sem, dec_t, dec_f, w_u32, w_u64, w_u16, w_u8, w_i64, Int.reduceToNat, Int.reducePow, Nat.reducePow])
    exact ⟨trivial, Below.refl _ _⟩
  by_cases h2 : (400 : Int) < a.length
  · repeat (first | refine jn_intro ?_ | refine fun (_ : Env) => ?_ | simp (disch := first | omega | (simp only [size_setb, size_alloc', size_drew'] <;> omega) | (simp (disch := first | omega | (simp only [size_setb, size_alloc', size_drew'] <;> omega) | fail) only [go_sem]; done) | fail) only [go_sem, dec_t, dec_f, w_u32, w_u64, w_u16, w_u8, w_i64, Int.reduceToNat, Int.reducePow, Nat.reducePow])
    exact ⟨trivial, Below.refl _ _⟩
  repeat (first | refine jn_intro ?_ | refine fun (_ : Env) => ?_ | simp (disch := first | omega | (simp only [size_setb, size_alloc', size_drew'] <;> omega) | (simp (disch := first | omega | (simp only [size_setb, size_alloc', size_drew'] <;> omega) | fail) only [go_sem]; done) | fail) only [go_sem, dec_t, dec_f, w_u32, w_u64, w_u16, w_u8, w_i64, Int.reduceToNat, Int.reducePow, Nat.reducePow])
  refine normalize_spec (by omega) fun w1 b1 => ?_
  refine memName_spec (by omega) fun w2 b2 => ?_
  have b3 := b1.trans (b2.mono b1.size)
  simp (disch := first | omega | (simp only [size_setb, size_alloc', size_drew'] <;> omega) | (simp (disch := first | omega | (simp only [size_setb, size_alloc', size_drew'] <;> omega) | fail) only [go_sem, decide_true]; done) | fail) only [go_sem, dec_t, dec_f, w_u32, w_u64, w_u16, w_u8, w_i64, Int.reduceToNat, Int.reducePow, Nat.reducePow, decide_true]
  have hl := norm_len a
  refine normalize_spec (by omega) fun w3 b4 => ?_
  rw [norm_idem]
  simp (disch := first | omega | (simp only [size_setb, size_alloc', size_drew'] <;> omega) | (simp (disch := first | omega | (simp only [size_setb, size_alloc', size_drew'] <;> omega) | fail) only [go_sem, decide_true]; done) | fail) only [go_sem, dec_t, dec_f, w_u32, w_u64, w_u16, w_u8, w_i64, Int.reduceToNat, Int.reducePow, Nat.reducePow, decide_true]
  exact ⟨trivial, b3.trans (b4.mono b3.size)⟩
end Go.Proofs.Ytdilealdddbhnaa.X
