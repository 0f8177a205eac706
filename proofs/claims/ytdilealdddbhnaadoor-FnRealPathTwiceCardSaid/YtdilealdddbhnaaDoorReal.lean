/- FnRealPathTwice: the walk. No condition beside the form's own. -/
import Derived.Test.YtdilealdddbhnaaDoorSp
import Derived.Test.YtdilealdddbhnaaDoorPj
import Derived.Test.YtdilealdddbhnaaDoorXErr
import Derived.Test.YtdilealdddbhnaaDoorXLaid
set_option linter.unusedVariables false
set_option linter.unusedSimpArgs false
set_option maxRecDepth 100000
namespace Go.Proofs.YtdilealdddbhnaaDoor.X
open Go Go.X Go.Proofs Go.RowKit Go.Lib Go.Shelf

/-! ### Plain laws -/
abbrev J (xs : List (List UInt8)) : List UInt8 := ([47] : List UInt8).intercalate xs
/-- The elements that count. -/
def ne (l : List UInt8) : List (List UInt8) := (elm l).filter (· ≠ [46])
theorem fold_ne (ro : Bool) : ∀ (es st : List (List UInt8)), (∀ x ∈ es, x ≠ [46, 46]) → es.foldl (Pa.cleanStep ro) st = ((es.filter (· ≠ [])).filter (· ≠ [46])).reverse ++ st
  | [], _, _ => rfl
  | e :: es, st, h => by
    have ih := fold_ne ro es
    have h2 : ∀ x ∈ es, x ≠ [46, 46] := fun x hx => h x (List.mem_cons_of_mem _ hx)
    have h3 := h e (List.mem_cons_self ..)
    by_cases c1 : e = []
    · subst c1
      rw [List.foldl_cons, Pa.step_nil, ih st h2, List.filter_cons_of_neg (by simp)]
    by_cases c2 : e = [46]
    · subst c2
      rw [List.foldl_cons, Pa.step_dot, ih st h2, List.filter_cons_of_pos (by simp), List.filter_cons_of_neg (by simp)]
    · rw [List.foldl_cons, Pa.step_elem ro st e c1 c2 h3, ih _ h2, List.filter_cons_of_pos (by simpa using c1), List.filter_cons_of_pos (by simpa using c2)]
      simp
theorem ne_app (a b : List UInt8) : ne (a ++ 47 :: b) = ne a ++ ne b := by
  unfold ne elm
  rw [Pa.els_app, List.filter_append, List.filter_append]
theorem els_Jg {ro : Bool} {xs : List (List UInt8)} (hx : xs ≠ []) (hg : Gd ro xs.reverse) : Pa.els (J xs) = xs := by
  cases xs with
  | nil => exact absurd rfl hx
  | cons y Y =>
    rw [Pa.els_J, flat_self]
    intro x hx
    exact (gd_mem hg x (List.mem_reverse.2 hx)).2
theorem outOf_root {xs : List (List UInt8)} (hg : Gd true xs.reverse) : outOf (47 :: J xs) = xs.reverse := by
  unfold outOf
  rw [Pa.els_slash, List.foldl_cons]
  show List.foldl (Pa.cleanStep true) [] (Pa.els (J xs)) = _
  by_cases h : xs = []
  · subst h; rfl
  · rw [els_Jg h hg]
    have := fold_gd true xs.reverse hg
    rwa [List.reverse_reverse] at this
theorem J_app (A B : List (List UInt8)) (hA : A ≠ []) (hB : B ≠ []) : J (A ++ B) = J A ++ 47 :: J B := by
  induction A with
  | nil => exact absurd rfl hA
  | cons a A ih =>
    cases A with
    | nil =>
      cases B with
      | nil => exact absurd rfl hB
      | cons b B => simp only [J]; rw [List.cons_append, List.nil_append, Pa.J_cons, Pa.J_one]
    | cons a2 A =>
      have := ih (by simp)
      simp only [J, List.cons_append] at this ⊢
      rw [Pa.J_cons, this, Pa.J_cons]
      simp
/-- What a name stands for below a path. -/
def below (A : List (List UInt8)) (name : List UInt8) : List UInt8 := 47 :: J (A ++ ne name)
theorem full_eq {A : List (List UInt8)} {name : List UInt8} (hg : Gd true A.reverse) (hn : ∀ x ∈ Pa.els name, x ≠ [46, 46]) : Pa.clean ((47 :: J A) ++ 47 :: name) = below A name ∧ Gd true (A ++ ne name).reverse := by
  have e1 : outOf ((47 :: J A) ++ 47 :: name) = (A ++ ne name).reverse := by
    have h1 : outOf ((47 :: J A) ++ 47 :: name) = (Pa.els name).foldl (Pa.cleanStep true) (outOf (47 :: J A)) := by
      unfold outOf
      show List.foldl (Pa.cleanStep true) [] (Pa.els ((47 :: J A) ++ 47 :: name)) = _
      rw [Pa.els_app, List.foldl_append]
      rfl
    rw [h1, outOf_root hg, fold_ne true _ _ hn, List.reverse_append]
    rfl
  have g := outOf_gd ((47 :: J A) ++ 47 :: name)
  rw [e1] at g
  refine ⟨?_, g⟩
  have q : (((47 :: J A) ++ 47 :: name).head? == some 47) = true := rfl
  rw [clean_out, if_pos q, e1, List.reverse_reverse]
  rfl
theorem clean_root {A : List (List UInt8)} (hg : Gd true A.reverse) : Pa.clean (47 :: J A) = 47 :: J A := by
  have q : ((47 :: J A).head? == some 47) = true := rfl
  rw [clean_out, if_pos q, outOf_root hg, List.reverse_reverse]
  rfl
theorem join_eq {A : List (List UInt8)} {name : List UInt8} (hg : Gd true A.reverse) (hn : ∀ x ∈ Pa.els name, x ≠ [46, 46]) : Pa.clean (Pa.join [47 :: J A, name]) = below A name := by
  have h := full_eq hg hn
  by_cases c : name = []
  · subst c
    have e : Pa.join [47 :: J A, []] = Pa.clean (47 :: J A) := by
      unfold Pa.join
      rw [List.filter_cons_of_pos (by simp), List.filter_cons_of_neg (by simp), List.filter_nil, if_neg (by simp), Pa.J_one]
    rw [e, clean_idem, clean_root hg, below]
    have : ne [] = [] := rfl
    rw [this, List.append_nil]
  · have e : Pa.join [47 :: J A, name] = Pa.clean ((47 :: J A) ++ 47 :: name) := by
      unfold Pa.join
      rw [List.filter_cons_of_pos (by simp), List.filter_cons_of_pos (by simpa using c), List.filter_nil, if_neg (by simp), Pa.J_cons, Pa.J_one]
    rw [e, clean_idem, h.1]
theorem join_len {A : List (List UInt8)} {name : List UInt8} (hg : Gd true A.reverse) (hn : ∀ x ∈ Pa.els name, x ≠ [46, 46]) : (Pa.join [47 :: J A, name]).length ≤ (J A).length + name.length + 3 := by
  have := Pa.join_length_le [47 :: J A, name]
  simp only [Pa.lens, List.map_cons, List.map_nil, List.sum_cons, List.sum_nil, List.length_cons, List.length_nil] at this
  omega
/-- One path is another, or lies below it. -/
def wi (p d : List UInt8) : Prop := p = d ∨ (d = [47] ∧ (p.head? == some 47) = true) ∨ p.take (d.length + 1) = d ++ [47]
instance (p d : List UInt8) : Decidable (wi p d) := inferInstanceAs (Decidable (_ ∨ _))
theorem wi_below (A B : List (List UInt8)) : wi (47 :: J (A ++ B)) (47 :: J A) ∧ (47 :: J (A ++ B)).take (47 :: J A).length = 47 :: J A := by
  by_cases hB : B = []
  · subst hB
    rw [List.append_nil]
    exact ⟨.inl rfl, List.take_length⟩
  by_cases hA : A = []
  · subst hA
    exact ⟨.inr (.inl ⟨rfl, rfl⟩), rfl⟩
  · rw [J_app A B hA hB]
    refine ⟨.inr (.inr ?_), ?_⟩
    · rw [List.length_cons, List.take_succ_cons, List.cons_append]
      congr 1
      rw [List.take_append, List.take_of_length_le (by omega)]
      congr 1
      rw [show (J A).length + 1 - (J A).length = 1 by omega]
      rfl
    · rw [List.length_cons, List.take_succ_cons]
      congr 1
      rw [List.take_append_of_le_length (by omega), List.take_length]

/-! ### The walk -/
theorem begins_spec {l p : List UInt8} {w : World} {K : Value → World → Prop} (hl : l.length ≤ 140737488351232) (hp : p.length ≤ 140737488351232) (h : K (.bool (decide (l.take p.length = p))) w) : Cl P Fn.spec_Begins #[S l, S p] w K := by
  apply S_spec_Begins
  unfold F_spec_Begins
  by_cases q : (p.length : Int) ≤ l.length
  · simp (disch := first | omega | (simp only [size_setb, size_alloc', size_drew'] <;> omega) | (simp (disch := first | omega | (simp only [size_setb, size_alloc', size_drew'] <;> omega) | fail) only [go_sem]; done) | fail) only [go_sem, dec_t, dec_f, w_u32, w_u64, w_u16, w_u8, w_i64, Int.reduceToNat, Int.reducePow, Nat.reducePow]
    rw [oSliceS_hi (h := U.string) (h0 := by omega) (h1 := by omega)]
    simp (disch := first | omega | (simp only [size_setb, size_alloc', size_drew'] <;> omega) | (simp (disch := first | omega | (simp only [size_setb, size_alloc', size_drew'] <;> omega) | fail) only [go_sem]; done) | fail) only [go_sem, dec_t, dec_f, w_u32, w_u64, w_u16, w_u8, w_i64, Int.reduceToNat, Int.reducePow, Nat.reducePow]
    exact h
  · simp (disch := first | omega | (simp only [size_setb, size_alloc', size_drew'] <;> omega) | (simp (disch := first | omega | (simp only [size_setb, size_alloc', size_drew'] <;> omega) | fail) only [go_sem]; done) | fail) only [go_sem, dec_t, dec_f, w_u32, w_u64, w_u16, w_u8, w_i64, Int.reduceToNat, Int.reducePow, Nat.reducePow]
    have e : ¬ (l.take p.length = p) := fun e => by have := congrArg List.length e; rw [List.length_take] at this; omega
    rwa [decide_eq_false e] at h
theorem has_spec {l p : List UInt8} {w : World} {K : Value → World → Prop} (hl : l.length ≤ 140737488351232) (hp : p.length ≤ 140737488351232) (h : K (.bool (decide (l.take p.length = p))) w) : Cl P Fn.strings_HasPrefix #[S l, S p] w K := by
  apply S_strings_HasPrefix
  unfold F_strings_HasPrefix
  simp (disch := first | omega | (simp only [size_setb, size_alloc', size_drew'] <;> omega) | (simp (disch := first | omega | (simp only [size_setb, size_alloc', size_drew'] <;> omega) | fail) only [go_sem]; done) | fail) only [go_sem, dec_t, dec_f, w_u32, w_u64, w_u16, w_u8, w_i64, Int.reduceToNat, Int.reducePow, Nat.reducePow]
  apply S_stringslite_HasPrefix
  unfold F_stringslite_HasPrefix
  by_cases q : (p.length : Int) ≤ l.length
  · simp (disch := first | omega | (simp only [size_setb, size_alloc', size_drew'] <;> omega) | (simp (disch := first | omega | (simp only [size_setb, size_alloc', size_drew'] <;> omega) | fail) only [go_sem]; done) | fail) only [go_sem, dec_t, dec_f, w_u32, w_u64, w_u16, w_u8, w_i64, Int.reduceToNat, Int.reducePow, Nat.reducePow]
    rw [oSliceS_hi (h := U.string) (h0 := by omega) (h1 := by omega)]
    simp (disch := first | omega | (simp only [size_setb, size_alloc', size_drew'] <;> omega) | (simp (disch := first | omega | (simp only [size_setb, size_alloc', size_drew'] <;> omega) | fail) only [go_sem]; done) | fail) only [go_sem, dec_t, dec_f, w_u32, w_u64, w_u16, w_u8, w_i64, Int.reduceToNat, Int.reducePow, Nat.reducePow]
    exact h
  · simp (disch := first | omega | (simp only [size_setb, size_alloc', size_drew'] <;> omega) | (simp (disch := first | omega | (simp only [size_setb, size_alloc', size_drew'] <;> omega) | fail) only [go_sem]; done) | fail) only [go_sem, dec_t, dec_f, w_u32, w_u64, w_u16, w_u8, w_i64, Int.reduceToNat, Int.reducePow, Nat.reducePow]
    have e : ¬ (l.take p.length = p) := fun e => by have := congrArg List.length e; rw [List.length_take] at this; omega
    rwa [decide_eq_false e] at h
theorem within_spec {p d : List UInt8} {w : World} {K : Value → World → Prop} (hl : p.length ≤ 140737488351) (hp : d.length ≤ 140737488351) (h : K (.bool (decide (wi p d))) w) : Cl P Fn.spec_Within #[S p, S d] w K := by
  apply S_spec_Within
  unfold F_spec_Within
  by_cases c1 : p = d
  · simp (disch := first | omega | (simp only [size_setb, size_alloc', size_drew'] <;> omega) | (simp (disch := first | omega | (simp only [size_setb, size_alloc', size_drew'] <;> omega) | fail) only [go_sem, c1, decide_true]; done) | fail) only [go_sem, dec_t, dec_f, w_u32, w_u64, w_u16, w_u8, w_i64, Int.reduceToNat, Int.reducePow, Nat.reducePow, c1, decide_true]
    rwa [decide_eq_true (show wi p d from .inl c1)] at h
  have fin : ∀ (w' : World), (d = [47] → ¬ (p.head? == some 47) = true) → K (.bool (decide (wi p d))) w' → K (.bool (decide (p.take (d.length + 1) = d ++ [47]))) w' := by
    intro w' h1 h2
    have e : decide (wi p d) = decide (p.take (d.length + 1) = d ++ [47]) := by
      refine decide_eq_decide.2 ⟨fun h => ?_, fun h => .inr (.inr h)⟩
      rcases h with h | h | h
      · exact absurd h c1
      · exact absurd h.2 (h1 h.1)
      · exact h
    rwa [← e]
  have hlen : ∀ d : List UInt8, (d ++ [47]).length = d.length + 1 := fun d => by simp
  by_cases c2 : d = [47]
  · subst c2
    simp (disch := first | omega | (simp only [size_setb, size_alloc', size_drew'] <;> omega) | (simp (disch := first | omega | (simp only [size_setb, size_alloc', size_drew'] <;> omega) | fail) only [go_sem, c1, decide_true, decide_false]; done) | fail) only [go_sem, dec_t, dec_f, w_u32, w_u64, w_u16, w_u8, w_i64, Int.reduceToNat, Int.reducePow, Nat.reducePow, c1, decide_true, decide_false]
    refine rooted_spec ?_
    cases hro : (p.head? == some 47) with
    | true =>
      simp (disch := first | omega | (simp only [size_setb, size_alloc', size_drew'] <;> omega) | (simp (disch := first | omega | (simp only [size_setb, size_alloc', size_drew'] <;> omega) | fail) only [go_sem]; done) | fail) only [go_sem, dec_t, dec_f, w_u32, w_u64, w_u16, w_u8, w_i64, Int.reduceToNat, Int.reducePow, Nat.reducePow]
      rwa [decide_eq_true (show wi p [47] from .inr (.inl ⟨rfl, hro⟩))] at h
    | false =>
      simp (disch := first | omega | (simp only [size_setb, size_alloc', size_drew'] <;> omega) | (simp (disch := first | omega | (simp only [size_setb, size_alloc', size_drew'] <;> omega) | fail) only [go_sem]; done) | fail) only [go_sem, dec_t, dec_f, w_u32, w_u64, w_u16, w_u8, w_i64, Int.reduceToNat, Int.reducePow, Nat.reducePow]
      refine begins_spec (by omega) (by simp) ?_
      refine fin _ (fun _ => by rw [hro]; simp) h
  · simp (disch := first | omega | (simp only [size_setb, size_alloc', size_drew'] <;> omega) | (simp (disch := first | omega | (simp only [size_setb, size_alloc', size_drew'] <;> omega) | fail) only [go_sem, c1, c2, decide_true, decide_false]; done) | fail) only [go_sem, dec_t, dec_f, w_u32, w_u64, w_u16, w_u8, w_i64, Int.reduceToNat, Int.reducePow, Nat.reducePow, c1, c2, decide_true, decide_false]
    rw [oAddS _ T.string _ _ _ _ (by simp only [List.length_cons, List.length_nil]; omega)]
    refine begins_spec (by omega) (by rw [hlen]; omega) ?_
    rw [hlen]
    exact fin _ (fun h => absurd h c2) h
theorem kind_nil {w : World} {K : Value → World → Prop} (h : K (.int .i64 0) w) : Cl P Fn.impl_kind #[.nilIface] w K := by
  apply S_impl_kind
  unfold F_impl_kind
  refine jn_with (fun t w' => t = [.nilIface] ∧ w' = w) ?_ ?_
  · rintro t e w1 ⟨rfl, rfl⟩
    refine jn_with (fun _ _ => False) (fun _ _ _ h => h.elim) ?_
    rw [gs0, oEqlNil Tryd.underlying60]
    simp (disch := first | omega | (simp only [size_setb, size_alloc', size_drew'] <;> omega) | (simp (disch := first | omega | (simp only [size_setb, size_alloc', size_drew'] <;> omega) | fail) only [go_sem]; done) | fail) only [go_sem, dec_t, dec_f, w_u32, w_u64, w_u16, w_u8, w_i64, Int.reduceToNat, Int.reducePow, Nat.reducePow]
    exact h
  · rw [oAssertNil U.p_os_PathError (by kernel_rfl)]
    simp (disch := first | omega | (simp only [size_setb, size_alloc', size_drew'] <;> omega) | (simp (disch := first | omega | (simp only [size_setb, size_alloc', size_drew'] <;> omega) | fail) only [go_sem]; done) | fail) only [go_sem, dec_t, dec_f, w_u32, w_u64, w_u16, w_u8, w_i64, Int.reduceToNat, Int.reducePow, Nat.reducePow]
    exact ⟨trivial, trivial⟩
theorem real_spec {path name : List UInt8} {w : World} {K : Value → World → Prop} (hl : path.length ≤ 1000000) (hn : name.length ≤ 1000000) (hr : (path.head? == some 47) = true) (hdd : ∀ x ∈ Pa.els name, x ≠ [46, 46])
    (h : ∀ w', Below w.heap.size w w' → K (tup [S (below (outOf path).reverse name), .int .i64 0]) w') : Cl P Fn.impl_RealPath #[S path, S name] w K := by
  apply S_impl_RealPath
  unfold F_impl_RealPath
  simp (disch := first | omega | (simp only [size_setb, size_alloc', size_drew'] <;> omega) | (simp (disch := first | omega | (simp only [size_setb, size_alloc', size_drew'] <;> omega) | fail) only [go_sem]; done) | fail) only [go_sem, dec_t, dec_f, w_u32, w_u64, w_u16, w_u8, w_i64, Int.reduceToNat, Int.reducePow, Nat.reducePow]
  apply S_afero_NewMemMapFs
  unfold F_afero_NewMemMapFs
  simp (disch := first | omega | (simp only [size_setb, size_alloc', size_drew'] <;> omega) | (simp (disch := first | omega | (simp only [size_setb, size_alloc', size_drew'] <;> omega) | fail) only [go_sem]; done) | fail) only [go_sem, dec_t, dec_f, w_u32, w_u64, w_u16, w_u8, w_i64, Int.reduceToNat, Int.reducePow, Nat.reducePow]
  apply S_afero_NewBasePathFs
  unfold F_afero_NewBasePathFs
  simp (disch := first | omega | (simp only [size_setb, size_alloc', size_drew'] <;> omega) | (simp (disch := first | omega | (simp only [size_setb, size_alloc', size_drew'] <;> omega) | fail) only [go_sem]; done) | fail) only [go_sem, dec_t, dec_f, w_u32, w_u64, w_u16, w_u8, w_i64, Int.reduceToNat, Int.reducePow, Nat.reducePow]
  apply S_afero_BasePathFs_RealPath
  unfold F_afero_BasePathFs_RealPath
  simp (disch := first | omega | (simp only [size_setb, size_alloc', size_drew'] <;> omega) | (simp (disch := first | omega | (simp only [size_setb, size_alloc', size_drew'] <;> omega) | fail) only [go_sem]; done) | fail) only [go_sem, dec_t, dec_f, w_u32, w_u64, w_u16, w_u8, w_i64, Int.reduceToNat, Int.reducePow, Nat.reducePow]
  have hg : Gd true (outOf path).reverse.reverse := by
    rw [List.reverse_reverse, ← hr]
    exact outOf_gd path
  have hc : Pa.clean path = 47 :: J (outOf path).reverse := by rw [clean_out, if_pos hr]; rfl
  have hcl := Pa.clean_length_le_succ path
  rw [hc, List.length_cons] at hcl
  refine clean_spec (by omega) fun w1 b1 => ?_
  rw [hc]
  have je := join_eq hg hdd
  have jl := join_len hg hdd
  have fe := full_eq hg hdd
  have wb := wi_below (outOf path).reverse (ne name)
  generalize (outOf path).reverse = A at *
  have z1 := b1.size
  simp only [size_alloc'] at z1
  rw [oBuildSliceM (size := 1) (z := S []) (zs := [S [], S []]) (out := [S (47 :: J A), S name]) U.sl_string (by kernel_rfl) (by decide) (by decide) rfl rfl rfl]
  refine join_spec (xs := [47 :: J A, name]) (by rw [bk_alloc_eq _ _ _ rfl]; rfl) (by simp only [go_sem]; omega) (by simp only [Pa.lens, List.map_cons, List.map_nil, List.sum_cons, List.sum_nil, List.length_cons, List.length_nil]; omega) fun w2 b2 => ?_
  have z2 := b2.size
  simp only [size_alloc'] at z2
  refine clean_spec (by omega) fun w3 b3 => ?_
  rw [je]
  have z3 := b3.size
  have hbl : (below A name).length ≤ (Pa.join [47 :: J A, name]).length + 1 := by rw [← je]; exact Pa.clean_length_le_succ _
  have B3 : Below w.heap.size w w3 := by
    have q1 : Below w.heap.size w ((w.alloc (CB [Value.map none] T.afero_MemMapFs)).alloc (CB [Value.pointer (some { block := w.heap.size, off := 0 }), S path] T.afero_BasePathFs)) := by repeat (first | exact Below.refl _ _ | assumption | refine bel_setb ?_ (by first | exact Nat.le_refl _ | omega | (simp only [go_sem] <;> omega)) _ | refine Below.alloc ?_ (by first | exact Nat.le_refl _ | omega | (simp only [go_sem]; omega)) _ | refine Below.drew ?_)
    have q2 := q1.trans (b1.mono (by simp only [size_alloc']; omega))
    have q3 : Below w.heap.size w (w1.alloc (CB [S (47 :: J A), S name] T.string)) := Below.alloc q2 (by omega) _
    have q4 := q3.trans (b2.mono (by simp only [size_alloc']; omega))
    exact q4.trans (b3.mono (by omega))
  refine jn_with (fun t w' => t = [S (below A name)] ∧ w' = w3) ?_ ?_
  · rintro t e w4 ⟨rfl, rfl⟩
    refine kind_nil ?_
    simp (disch := first | omega | (simp only [size_setb, size_alloc', size_drew'] <;> omega) | (simp (disch := first | omega | (simp only [size_setb, size_alloc', size_drew'] <;> omega) | fail) only [go_sem]; done) | fail) only [go_sem, dec_t, dec_f, w_u32, w_u64, w_u16, w_u8, w_i64, Int.reduceToNat, Int.reducePow, Nat.reducePow]
    exact h _ B3
  · refine has_spec (by omega) (by rw [List.length_cons]; omega) ?_
    have e : (below A name).take (47 :: J A).length = 47 :: J A := wb.2
    simp (disch := first | omega | (simp only [size_setb, size_alloc', size_drew'] <;> omega) | (simp (disch := first | omega | (simp only [size_setb, size_alloc', size_drew'] <;> omega) | fail) only [go_sem, e, decide_true]; done) | fail) only [go_sem, dec_t, dec_f, w_u32, w_u64, w_u16, w_u8, w_i64, Int.reduceToNat, Int.reducePow, Nat.reducePow, e, decide_true]
    exact ⟨trivial, trivial⟩

set_option maxHeartbeats 1000000 in
theorem FnRealPathTwice_law {a n m : List UInt8} {w : World} (ha : a.length ≤ 140737488351232) (hn : n.length ≤ 140737488351232) (hm : m.length ≤ 140737488351232) : Cl P Fn.laws_FnRealPathTwice #[S a, S n, S m] w fun v w' => v = .bool true ∧ Below w.heap.size w w' := by
  apply S_laws_FnRealPathTwice
  unfold F_laws_FnRealPathTwice
  by_cases h1 : (2147483647 : Int) < a.length
  · repeat (first | refine jn_intro ?_ | refine fun (_ : Env) => ?_ | simp (disch := first | omega | (simp only [size_setb, size_alloc', size_drew'] <;> omega) | (simp (disch := first | omega | (simp only [size_setb, size_alloc', size_drew'] <;> omega) | fail) only [go_sem]; done) | fail) only [go_sem, dec_t, dec_f, w_u32, w_u64, w_u16, w_u8, w_i64, Int.reduceToNat, Int.reducePow, Nat.reducePow])
    exact ⟨trivial, Below.refl _ _⟩
  by_cases h2 : (2147483647 : Int) < n.length
  · repeat (first | refine jn_intro ?_ | refine fun (_ : Env) => ?_ | simp (disch := first | omega | (simp only [size_setb, size_alloc', size_drew'] <;> omega) | (simp (disch := first | omega | (simp only [size_setb, size_alloc', size_drew'] <;> omega) | fail) only [go_sem]; done) | fail) only [go_sem, dec_t, dec_f, w_u32, w_u64, w_u16, w_u8, w_i64, Int.reduceToNat, Int.reducePow, Nat.reducePow])
    exact ⟨trivial, Below.refl _ _⟩
  by_cases h3 : (2147483647 : Int) < m.length
  · repeat (first | refine jn_intro ?_ | refine fun (_ : Env) => ?_ | simp (disch := first | omega | (simp only [size_setb, size_alloc', size_drew'] <;> omega) | (simp (disch := first | omega | (simp only [size_setb, size_alloc', size_drew'] <;> omega) | fail) only [go_sem]; done) | fail) only [go_sem, dec_t, dec_f, w_u32, w_u64, w_u16, w_u8, w_i64, Int.reduceToNat, Int.reducePow, Nat.reducePow])
    exact ⟨trivial, Below.refl _ _⟩
  refine jn_with (fun t w' => w' = w) ?_ (by simp (disch := first | omega | (simp only [size_setb, size_alloc', size_drew'] <;> omega) | (simp (disch := first | omega | (simp only [size_setb, size_alloc', size_drew'] <;> omega) | fail) only [go_sem]; done) | fail) only [go_sem, dec_t, dec_f, w_u32, w_u64, w_u16, w_u8, w_i64, Int.reduceToNat, Int.reducePow, Nat.reducePow])
  rintro t e w0 rfl
  by_cases g1 : (200 : Int) < a.length
  · repeat (first | refine jn_intro ?_ | refine fun (_ : Env) => ?_ | simp (disch := first | omega | (simp only [size_setb, size_alloc', size_drew'] <;> omega) | (simp (disch := first | omega | (simp only [size_setb, size_alloc', size_drew'] <;> omega) | fail) only [go_sem]; done) | fail) only [go_sem, dec_t, dec_f, w_u32, w_u64, w_u16, w_u8, w_i64, Int.reduceToNat, Int.reducePow, Nat.reducePow])
    exact ⟨trivial, Below.refl _ _⟩
  by_cases g2 : (200 : Int) < n.length
  · repeat (first | refine jn_intro ?_ | refine fun (_ : Env) => ?_ | simp (disch := first | omega | (simp only [size_setb, size_alloc', size_drew'] <;> omega) | (simp (disch := first | omega | (simp only [size_setb, size_alloc', size_drew'] <;> omega) | fail) only [go_sem]; done) | fail) only [go_sem, dec_t, dec_f, w_u32, w_u64, w_u16, w_u8, w_i64, Int.reduceToNat, Int.reducePow, Nat.reducePow])
    exact ⟨trivial, Below.refl _ _⟩
  by_cases g3 : (200 : Int) < m.length
  · repeat (first | refine jn_intro ?_ | refine fun (_ : Env) => ?_ | simp (disch := first | omega | (simp only [size_setb, size_alloc', size_drew'] <;> omega) | (simp (disch := first | omega | (simp only [size_setb, size_alloc', size_drew'] <;> omega) | fail) only [go_sem]; done) | fail) only [go_sem, dec_t, dec_f, w_u32, w_u64, w_u16, w_u8, w_i64, Int.reduceToNat, Int.reducePow, Nat.reducePow])
    exact ⟨trivial, Below.refl _ _⟩
  cases hr : (a.head? == some 47) with
  | false =>
    refine jn_with (fun _ _ => False) (fun _ _ _ h => h.elim) ?_
    simp (disch := first | omega | (simp only [size_setb, size_alloc', size_drew'] <;> omega) | (simp (disch := first | omega | (simp only [size_setb, size_alloc', size_drew'] <;> omega) | fail) only [go_sem]; done) | fail) only [go_sem, dec_t, dec_f, w_u32, w_u64, w_u16, w_u8, w_i64, Int.reduceToNat, Int.reducePow, Nat.reducePow]
    refine rooted_spec ?_
    rw [hr]
    simp (disch := first | omega | (simp only [size_setb, size_alloc', size_drew'] <;> omega) | (simp (disch := first | omega | (simp only [size_setb, size_alloc', size_drew'] <;> omega) | fail) only [go_sem]; done) | fail) only [go_sem, dec_t, dec_f, w_u32, w_u64, w_u16, w_u8, w_i64, Int.reduceToNat, Int.reducePow, Nat.reducePow]
    exact ⟨trivial, Below.refl _ _⟩
  | true =>
  refine jn_with (fun t w' => w' = w0) ?_ ?_
  · rintro t e w1 rfl
    refine jn_with (fun t w' => Below w1.heap.size w1 w' ∧ ∀ x ∈ elm n ++ elm m, x ≠ [46, 46]) ?_ ?_
    · rintro t e w2 ⟨b2, hall⟩
      have hd : ∀ (l : List UInt8), (∀ x ∈ elm l, x ≠ [46, 46]) → ∀ x ∈ Pa.els l, x ≠ [46, 46] := fun l hl x hx => by
        by_cases c : x = []
        · subst c; simp
        · exact hl x (List.mem_filter.2 ⟨hx, by simpa using c⟩)
      have hdn := hd n fun x hx => hall x (List.mem_append_left _ hx)
      have hdm := hd m fun x hx => hall x (List.mem_append_right _ hx)
      have hdnm : ∀ x ∈ Pa.els (n ++ 47 :: m), x ≠ [46, 46] := fun x hx => by
        rw [Pa.els_app] at hx
        rcases List.mem_append.1 hx with h | h
        · exact hdn x h
        · exact hdm x h
      have hg : Gd true (outOf a).reverse.reverse := by
        rw [List.reverse_reverse, ← hr]
        exact outOf_gd a
      have hcl : Pa.clean a = 47 :: J (outOf a).reverse := by rw [clean_out, if_pos hr]; rfl
      have hg2 := (full_eq hg hdn).2
      have hone : outOf (below (outOf a).reverse n) = ((outOf a).reverse ++ ne n).reverse := outOf_root hg2
      have heq : below ((outOf a).reverse ++ ne n) m = below (outOf a).reverse (n ++ 47 :: m) := by
        unfold below
        rw [ne_app, List.append_assoc]
      have hw1 := (wi_below ((outOf a).reverse ++ ne n) (ne m)).1
      have hw2 := (wi_below (outOf a).reverse (ne n)).1
      have hl1 : (below (outOf a).reverse n).length ≤ 1000 := by
        have q1 := join_eq hg hdn
        have q2 := join_len hg hdn
        have q3 := Pa.clean_length_le_succ (Pa.join [47 :: J (outOf a).reverse, n])
        have q4 := Pa.clean_length_le_succ a
        rw [hcl, List.length_cons] at q4
        rw [q1] at q3
        omega
      have hl2 : (below ((outOf a).reverse ++ ne n) m).length ≤ 3000 := by
        have q1 := join_eq hg2 hdm
        have q2 := join_len hg2 hdm
        have q3 := Pa.clean_length_le_succ (Pa.join [47 :: J ((outOf a).reverse ++ ne n), m])
        rw [q1] at q3
        unfold below at hl1
        rw [List.length_cons] at hl1
        omega
      have hro1 : ((below (outOf a).reverse n).head? == some 47) = true := rfl
      rw [C.impl_RealPath]
      refine real_spec (by omega) (by omega) hr hdn fun w3 b3 => ?_
      simp (disch := first | omega | (simp only [size_setb, size_alloc', size_drew'] <;> omega) | (simp (disch := first | omega | (simp only [size_setb, size_alloc', size_drew'] <;> omega) | fail) only [go_sem]; done) | fail) only [go_sem, dec_t, dec_f, w_u32, w_u64, w_u16, w_u8, w_i64, Int.reduceToNat, Int.reducePow, Nat.reducePow]
      refine real_spec (by omega) (by omega) hro1 hdm fun w4 b4 => ?_
      rw [hone, List.reverse_reverse]
      simp (disch := first | omega | (simp only [size_setb, size_alloc', size_drew'] <;> omega) | (simp (disch := first | omega | (simp only [size_setb, size_alloc', size_drew'] <;> omega) | fail) only [go_sem]; done) | fail) only [go_sem, dec_t, dec_f, w_u32, w_u64, w_u16, w_u8, w_i64, Int.reduceToNat, Int.reducePow, Nat.reducePow]
      rw [oAddS _ T.string _ _ _ _ (by simp only [List.length_cons, List.length_nil]; omega)]
      rw [oAddS _ T.string _ _ _ _ (by simp only [List.length_append, List.length_cons, List.length_nil]; omega)]
      have e1 : n ++ [47] ++ m = n ++ 47 :: m := by simp
      rw [e1]
      refine real_spec (by omega) (by simp only [List.length_append, List.length_cons]; omega) hr hdnm fun w5 b5 => ?_
      rw [← heq]
      have hw1' : wi (below ((outOf a).reverse ++ ne n) m) (below (outOf a).reverse n) := hw1
      have hw2' : wi (below (outOf a).reverse n) (Pa.clean a) := by rw [hcl]; exact hw2
      have B3 := b2.trans (b3.mono b2.size)
      have B4 := B3.trans (b4.mono B3.size)
      have B5 := B4.trans (b5.mono B4.size)
      have hca := Pa.clean_length_le_succ a
      generalize below ((outOf a).reverse ++ ne n) m = all at *
      generalize below (outOf a).reverse n = one at *
      simp (disch := first | omega | (simp only [size_setb, size_alloc', size_drew'] <;> omega) | (simp (disch := first | omega | (simp only [size_setb, size_alloc', size_drew'] <;> omega) | fail) only [go_sem, decide_true]; done) | fail) only [go_sem, dec_t, dec_f, w_u32, w_u64, w_u16, w_u8, w_i64, Int.reduceToNat, Int.reducePow, Nat.reducePow, decide_true]
      refine within_spec (by omega) (by omega) ?_
      simp (disch := first | omega | (simp only [size_setb, size_alloc', size_drew'] <;> omega) | (simp (disch := first | omega | (simp only [size_setb, size_alloc', size_drew'] <;> omega) | fail) only [go_sem, hw1', decide_true]; done) | fail) only [go_sem, dec_t, dec_f, w_u32, w_u64, w_u16, w_u8, w_i64, Int.reduceToNat, Int.reducePow, Nat.reducePow, hw1', decide_true]
      refine spClean_spec (by omega) fun w6 b6 => ?_
      refine within_spec (by omega) (by omega) ?_
      simp (disch := first | omega | (simp only [size_setb, size_alloc', size_drew'] <;> omega) | (simp (disch := first | omega | (simp only [size_setb, size_alloc', size_drew'] <;> omega) | fail) only [go_sem, hw2', decide_true]; done) | fail) only [go_sem, dec_t, dec_f, w_u32, w_u64, w_u16, w_u8, w_i64, Int.reduceToNat, Int.reducePow, Nat.reducePow, hw2', decide_true]
      exact ⟨trivial, B5.trans (b6.mono B5.size)⟩
    · rw [C.spec_Elements]
      refine elements_spec (by omega) fun bn cn w2 b2 o1 => ?_
      rw [C.spec_Elements]
      refine elements_spec (by omega) fun bm cm w3 b3 o2 => ?_
      have en := elm_count n
      have em := elm_count m
      generalize elm n = xs at *
      generalize elm m = ys at *
      refine oAppend_own (size := 1) (bytes := 16) (z := S []) (news := ys.map S) _ _ U.sl_string (by kernel_rfl) rfl (by omega) (own_old o1 b3 (Nat.le_refl _)) (by simp) (own_src o2) (fun u hu => by obtain ⟨x, _, rfl⟩ := List.mem_map.1 hu; rfl) (by simp only [maxLen]; omega) (by omega) (Nat.le_trans b2.size b3.size) fun v w4 o3 b4 => ?_
      rw [← List.map_append] at o3
      have BB : Below w1.heap.size w1 w4 := (b2.trans (b3.mono b2.size)).trans b4
      obtain ⟨av, cv, rfl⟩ := own_slice o3
      have hzl : xs.length + ys.length = (xs ++ ys).length := List.length_append.symm
      generalize xs ++ ys = zs at *
      simp (disch := first | omega | (simp only [size_setb, size_alloc', size_drew'] <;> omega) | (simp (disch := first | omega | (simp only [size_setb, size_alloc', size_drew'] <;> omega) | fail) only [go_sem]; done) | fail) only [go_sem, dec_t, dec_f, w_u32, w_u64, w_u16, w_u8, w_i64, Int.reduceToNat, Int.reducePow, Nat.reducePow]
      refine lp_intro (fun t w' => w' = w4 ∧ ∃ i : Nat, t = [.int .i64 i] ∧ i ≤ zs.length ∧ ∀ x ∈ zs.take i, x ≠ [46, 46]) (fun t _ => zs.length - (RowKit.intOf (gs t 0)).toNat) ⟨rfl, 0, rfl, by omega, by simp⟩ ?_
      rintro t e w5 ⟨rfl, i, rfl, hi, hall⟩
      by_cases g : (i : Int) < ((xs.length + ys.length : Nat) : Int)
      · have hix : i < zs.length := by omega
        have gg : (i : Int) < (xs.length : Int) + (ys.length : Int) := by omega
        simp (disch := first | omega | (simp only [size_setb, size_alloc', size_drew'] <;> omega) | (simp (disch := first | omega | (simp only [size_setb, size_alloc', size_drew'] <;> omega) | fail) only [go_sem]; done) | fail) only [go_sem, dec_t, dec_f, w_u32, w_u64, w_u16, w_u8, w_i64, Int.reduceToNat, Int.reducePow, Nat.reducePow]
        refine jn_with (fun t w' => t = [] ∧ w' = w5) ?_ ⟨rfl, rfl⟩
        rintro t e w6 ⟨rfl, rfl⟩
        obtain ⟨b, eb, q1, q2, q3, cell⟩ := own_at o3 hix
        rw [eb]
        have ix : ∀ (L : Value → Prop), pu P (oIdxA T.sl_string (sl b 0 (xs.length + ys.length) cv) (.int .i64 i)) L = L (pt b i) := fun L => by
          rw [oIdxA_sl (size := 1) L U.sl_string (by kernel_rfl) (by omega) (by omega)]
          rw [show 0 + (i : Int).toNat * 1 = i by omega]
        by_cases c : zs[i] = [46, 46]
        · refine jn_with (fun _ _ => False) (fun _ _ _ h => h.elim) ?_
          simp (disch := first | omega | (simp only [size_setb, size_alloc', size_drew'] <;> omega) | (simp (disch := first | omega | (simp only [size_setb, size_alloc', size_drew'] <;> omega) | fail) only [go_sem, ix, cell, c, decide_true]; done) | fail) only [go_sem, dec_t, dec_f, w_u32, w_u64, w_u16, w_u8, w_i64, Int.reduceToNat, Int.reducePow, Nat.reducePow, ix, cell, c, decide_true]
          exact ⟨trivial, BB⟩
        · refine jn_with (fun t w' => t = [] ∧ w' = w6) ?_ ?_
          · rintro t e w7 ⟨rfl, rfl⟩
            simp (disch := first | omega | (simp only [size_setb, size_alloc', size_drew'] <;> omega) | (simp (disch := first | omega | (simp only [size_setb, size_alloc', size_drew'] <;> omega) | fail) only [go_sem]; done) | fail) only [go_sem, dec_t, dec_f, w_u32, w_u64, w_u16, w_u8, w_i64, Int.reduceToNat, Int.reducePow, Nat.reducePow]
            refine ⟨⟨trivial, i + 1, rfl, by omega, ?_⟩, ?_⟩
            · intro x hx
              rw [take_snoc hix] at hx
              rcases List.mem_append.1 hx with h | h
              · exact hall x h
              · rw [List.mem_singleton.1 h]; exact c
            · simp only [RowKit.intOf]
              omega
          · simp (disch := first | omega | (simp only [size_setb, size_alloc', size_drew'] <;> omega) | (simp (disch := first | omega | (simp only [size_setb, size_alloc', size_drew'] <;> omega) | fail) only [go_sem, ix, cell, c, decide_false]; done) | fail) only [go_sem, dec_t, dec_f, w_u32, w_u64, w_u16, w_u8, w_i64, Int.reduceToNat, Int.reducePow, Nat.reducePow, ix, cell, c, decide_false]
            exact ⟨trivial, trivial⟩
      · have gg : ¬ (i : Int) < (xs.length : Int) + (ys.length : Int) := by omega
        have e1 : i = zs.length := by omega
        subst e1
        rw [List.take_length] at hall
        simp (disch := first | omega | (simp only [size_setb, size_alloc', size_drew'] <;> omega) | (simp (disch := first | omega | (simp only [size_setb, size_alloc', size_drew'] <;> omega) | fail) only [go_sem]; done) | fail) only [go_sem, dec_t, dec_f, w_u32, w_u64, w_u16, w_u8, w_i64, Int.reduceToNat, Int.reducePow, Nat.reducePow]
        refine jn_with (fun _ _ => False) (fun _ _ _ h => h.elim) ?_
        exact ⟨BB, hall⟩
  · simp (disch := first | omega | (simp only [size_setb, size_alloc', size_drew'] <;> omega) | (simp (disch := first | omega | (simp only [size_setb, size_alloc', size_drew'] <;> omega) | fail) only [go_sem]; done) | fail) only [go_sem, dec_t, dec_f, w_u32, w_u64, w_u16, w_u8, w_i64, Int.reduceToNat, Int.reducePow, Nat.reducePow]
    refine rooted_spec ?_
    rw [hr]
    simp (disch := first | omega | (simp only [size_setb, size_alloc', size_drew'] <;> omega) | (simp (disch := first | omega | (simp only [size_setb, size_alloc', size_drew'] <;> omega) | fail) only [go_sem]; done) | fail) only [go_sem, dec_t, dec_f, w_u32, w_u64, w_u16, w_u8, w_i64, Int.reduceToNat, Int.reducePow, Nat.reducePow]
theorem FnRealPathTwice_walk {Q : Prop} (a n m : List UInt8) (w : World) (ha : a.length ≤ 140737488351232) (hn : n.length ≤ 140737488351232) (hm : m.length ≤ 140737488351232) (hL : Q) :
    Cl P Fn.laws_FnRealPathTwice #[S a, S n, S m] w fun v w' => v = .bool true ∧ Below w.heap.size w w' := FnRealPathTwice_law ha hn hm
end Go.Proofs.YtdilealdddbhnaaDoor.X
