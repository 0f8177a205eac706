/- Paths and their elements, in plain Lean. No condition. -/
import Derived.Test.YtdilealdddbhnaaDoorXDeep
import Derived.Lib.CleanSame2
import Derived.Lib.CleanSame
import Derived.Lib.JoinSame2
import Derived.Lib.CleanLen
set_option linter.unusedVariables false
set_option linter.unusedSimpArgs false
set_option maxRecDepth 100000
namespace Go.X
open Go Go.RowKit Go.Lib
/-- The elements from a place on. -/
def rest (l : List UInt8) (i : Nat) : List (List UInt8) := if i ≤ l.length then Pa.els (l.drop i) else []
theorem rest_step {l : List UInt8} {i j : Nat} (hi : i ≤ j) (hj : j ≤ l.length) (hno : ∀ k (hk : k < l.length), i ≤ k → k < j → l[k] ≠ 47) (hend : j = l.length ∨ ∃ h : j < l.length, l[j] = 47) :
    rest l i = (l.drop i).take (j - i) :: rest l (j + 1) := by
  have e1 : l.drop i = (l.drop i).take (j - i) ++ l.drop j := by
    have h := (List.take_append_drop (j - i) (l.drop i)).symm
    rw [List.drop_drop, show i + (j - i) = j by omega] at h
    exact h
  have hnot : 47 ∉ (l.drop i).take (j - i) := by
    intro hm
    obtain ⟨k, hk, e⟩ := List.getElem_of_mem hm
    simp only [List.length_take, List.length_drop] at hk
    rw [List.getElem_take, List.getElem_drop] at e
    exact hno (i + k) (by omega) (by omega) (by omega) e
  have hh : l.drop j = [] ∨ (l.drop j).head? = some 47 := by
    rcases hend with h | ⟨h, e⟩
    · exact .inl (by rw [h]; simp)
    · right
      rw [List.head?_drop, List.getElem?_eq_getElem h, e]
  have e2 := Pa.els_elem ((l.drop i).take (j - i)) (l.drop j) hnot hh
  rw [← e1] at e2
  unfold rest
  rw [if_pos (by omega), e2]
  congr 1
  rcases hend with h | ⟨h, e⟩
  · subst h
    rw [if_neg (by omega), List.drop_length]; rfl
  · rw [if_pos (by omega), List.drop_eq_getElem_cons h]; rfl
theorem own_take {w : World} {B : Nat} {e : TypeId} {size n cap b : Nat} {xs : List Value} (h : w.ownsRow B e size (sl b 0 n cap) n xs) {m : Nat} (hm : m ≤ n) : w.ownsRow B e size (sl b 0 m cap) m (xs.take (m * size)) := by
  refine ⟨?_, ?_⟩
  · rw [List.length_take, h.1]
    have := Nat.mul_le_mul_right size hm
    omega
  · rcases h.2 with ⟨h1, _⟩ | ⟨g, cap', cur, h1, h2, h3, h4, h5, h6, h7⟩
    · cases h1
    · injection h1 with e1 e2 e3
      injection e1 with e1
      injection e1 with e1
      subst e1 e3
      refine .inr ⟨_, _, cur, rfl, h2, h3, by omega, h5, h6, ?_⟩
      rw [← h7, List.take_take, Nat.min_eq_left (Nat.mul_le_mul_right size hm)]

theorem step_mem (ro : Bool) (st : List (List UInt8)) (e : List UInt8) : ∀ x ∈ Pa.cleanStep ro st e, x ∈ st ∨ (x = e ∧ e ≠ [46]) := by
  intro x hx
  unfold Pa.cleanStep at hx
  by_cases c1 : e = [] ∨ e = [46]
  · rw [if_pos c1] at hx; exact .inl hx
  rw [if_neg c1] at hx
  have c2 : e ≠ [46] := fun h => c1 (.inr h)
  by_cases c3 : e = [46, 46]
  · rw [if_pos c3] at hx
    cases st with
    | nil =>
      cases ro with
      | true => simp at hx
      | false => simp at hx; exact .inr ⟨hx, c2⟩
    | cons y r =>
      simp only at hx
      by_cases c4 : y = [46, 46]
      · rw [if_pos c4] at hx
        rcases List.mem_cons.1 hx with h | h
        · exact .inr ⟨h, c2⟩
        · exact .inl h
      · rw [if_neg c4] at hx
        exact .inl (List.mem_cons_of_mem _ hx)
  · rw [if_neg c3] at hx
    rcases List.mem_cons.1 hx with h | h
    · exact .inr ⟨h, c2⟩
    · exact .inl h
theorem fold_mem (ro : Bool) : ∀ (es st : List (List UInt8)), ∀ x ∈ es.foldl (Pa.cleanStep ro) st, x ∈ st ∨ (x ∈ es ∧ x ≠ [46])
  | [], st, x, hx => .inl hx
  | e :: es, st, x, hx => by
    rw [List.foldl_cons] at hx
    rcases fold_mem ro es _ x hx with h | h
    · rcases step_mem ro st e x h with h | ⟨h, h2⟩
      · exact .inl h
      · subst h; exact .inr ⟨List.mem_cons_self .., h2⟩
    · exact .inr ⟨List.mem_cons_of_mem _ h.1, h.2⟩
theorem els_len : ∀ (l : List UInt8), ∀ x ∈ Pa.els l, x.length ≤ l.length
  | [], x, hx => by simp [Pa.els] at hx; subst hx; simp
  | c :: t, x, hx => by
    have ih := els_len t
    unfold Pa.els at hx
    by_cases hc : c = 47
    · rw [if_pos hc] at hx
      rcases List.mem_cons.1 hx with h | h
      · subst h; simp
      · have := ih x h; simp only [List.length_cons]; omega
    · rw [if_neg hc] at hx
      cases he : Pa.els t with
      | nil =>
        rw [he] at hx
        simp at hx; subst hx; simp
      | cons e r =>
        rw [he] at hx ih
        rcases List.mem_cons.1 hx with h | h
        · subst h
          have := ih e (List.mem_cons_self ..)
          simp only [List.length_cons]; omega
        · have := ih x (List.mem_cons_of_mem _ h)
          simp only [List.length_cons]; omega
/-- The elements put behind one another. -/
def jf (ro : Bool) (xs : List (List UInt8)) : List UInt8 := if ro = true then xs.flatMap (47 :: ·) else [47].intercalate xs
theorem inter_cons2 (x y : List UInt8) (r : List (List UInt8)) : ([47] : List UInt8).intercalate (x :: y :: r) = x ++ 47 :: ([47] : List UInt8).intercalate (y :: r) := by
  simp [List.intercalate]
theorem flat_inter : ∀ (xs : List (List UInt8)), xs ≠ [] → xs.flatMap (47 :: ·) = 47 :: ([47] : List UInt8).intercalate xs
  | [], h => absurd rfl h
  | [x], _ => by simp [List.intercalate]
  | x :: y :: r, _ => by
    rw [List.flatMap_cons, flat_inter (y :: r) (by simp), inter_cons2]
    simp
theorem jf_snoc (ro : Bool) (xs : List (List UInt8)) (x : List UInt8) : jf ro (xs ++ [x]) = (if xs ≠ [] ∨ ro = true then jf ro xs ++ [47] else jf ro xs) ++ x := by
  cases ro with
  | true => simp [jf]
  | false =>
    by_cases h : xs = []
    · subst h; simp [jf, List.intercalate]
    · simp only [jf, Bool.false_eq_true, if_false, or_false]
      rw [Pa.inter_snoc x xs h, if_pos h]
      simp
theorem take_snoc {xs : List (List UInt8)} {i : Nat} (h : i < xs.length) : xs.take (i + 1) = xs.take i ++ [xs[i]] := by
  rw [List.take_succ_eq_append_getElem h]

theorem els_no47 : ∀ (l : List UInt8), ∀ x ∈ Pa.els l, 47 ∉ x
  | [], x, hx => by simp [Pa.els] at hx; subst hx; simp
  | c :: t, x, hx => by
    have ih := els_no47 t
    unfold Pa.els at hx
    by_cases hc : c = 47
    · rw [if_pos hc] at hx
      rcases List.mem_cons.1 hx with h | h
      · subst h; simp
      · exact ih x h
    · rw [if_neg hc] at hx
      cases he : Pa.els t with
      | nil =>
        rw [he] at hx
        simp at hx; subst hx; simp; exact fun h => hc h.symm
      | cons e r =>
        rw [he] at hx ih
        rcases List.mem_cons.1 hx with h | h
        · subst h
          have := ih e (List.mem_cons_self ..)
          simp only [List.mem_cons, not_or]
          exact ⟨fun h => hc h.symm, this⟩
        · exact ih x (List.mem_cons_of_mem _ h)
/-- A stack of elements that stays as it is. -/
def Gd (ro : Bool) : List (List UInt8) → Prop
  | [] => True
  | x :: r => x ≠ [] ∧ x ≠ [46] ∧ 47 ∉ x ∧ (x = [46, 46] → ro = false ∧ ∀ y, r.head? = some y → y = [46, 46]) ∧ Gd ro r
theorem gd_step (ro : Bool) (st : List (List UInt8)) (e : List UInt8) (h : Gd ro st) (he : 47 ∉ e) : Gd ro (Pa.cleanStep ro st e) := by
  unfold Pa.cleanStep
  by_cases c1 : e = [] ∨ e = [46]
  · rw [if_pos c1]; exact h
  rw [if_neg c1]
  by_cases c3 : e = [46, 46]
  · rw [if_pos c3]
    cases st with
    | nil =>
      cases ro with
      | true => trivial
      | false => exact ⟨by simp [c3], by simp [c3], he, fun _ => ⟨rfl, fun y hy => by cases hy⟩, trivial⟩
    | cons y r =>
      simp only
      by_cases c4 : y = [46, 46]
      · rw [if_pos c4]
        exact ⟨by simp [c3], by simp [c3], he, fun _ => ⟨(h.2.2.2.1 c4).1, fun z hz => by cases hz; exact c4⟩, h⟩
      · rw [if_neg c4]; exact h.2.2.2.2
  · rw [if_neg c3]
    exact ⟨fun q => c1 (.inl q), fun q => c1 (.inr q), he, fun q => absurd q c3, h⟩
theorem gd_fold (ro : Bool) : ∀ (es st : List (List UInt8)), Gd ro st → (∀ e ∈ es, 47 ∉ e) → Gd ro (es.foldl (Pa.cleanStep ro) st)
  | [], st, h, _ => h
  | e :: es, st, h, he => gd_fold ro es _ (gd_step ro st e h (he e (List.mem_cons_self ..))) fun x hx => he x (List.mem_cons_of_mem _ hx)
theorem fold_gd (ro : Bool) : ∀ (st : List (List UInt8)), Gd ro st → st.reverse.foldl (Pa.cleanStep ro) [] = st
  | [], _ => rfl
  | x :: r, h => by
    rw [List.reverse_cons, List.foldl_append, fold_gd ro r h.2.2.2.2]
    show Pa.cleanStep ro r x = x :: r
    by_cases c : x = [46, 46]
    · obtain ⟨h1, h2⟩ := h.2.2.2.1 c
      subst c h1
      cases r with
      | nil => rfl
      | cons y r =>
        obtain rfl := h2 y rfl
        rfl
    · exact Pa.step_elem ro r x h.1 h.2.1 c
theorem els_self : ∀ (x : List UInt8), 47 ∉ x → Pa.els x = [x]
  | x, h => by
    have := Pa.els_elem x [] h (.inl rfl)
    rw [List.append_nil] at this
    rw [this]; rfl
theorem flat_self : ∀ (xs : List (List UInt8)), (∀ x ∈ xs, 47 ∉ x) → xs.flatMap Pa.els = xs
  | [], _ => rfl
  | x :: r, h => by
    rw [List.flatMap_cons, els_self x (h x (List.mem_cons_self ..)), flat_self r fun y hy => h y (List.mem_cons_of_mem _ hy)]
    rfl
theorem gd_mem {ro : Bool} : ∀ {st : List (List UInt8)}, Gd ro st → ∀ x ∈ st, x ≠ [] ∧ 47 ∉ x
  | [], _, x, hx => by cases hx
  | y :: r, h, x, hx => by
    rcases List.mem_cons.1 hx with rfl | hx
    · exact ⟨h.1, h.2.2.1⟩
    · exact gd_mem h.2.2.2.2 x hx
theorem clean_idem (l : List UInt8) : Pa.clean (Pa.clean l) = Pa.clean l := by
  by_cases hne : l = []
  · subst hne; rfl
  have el : ∀ ro (xs : List (List UInt8)), xs ≠ [] → Gd ro xs.reverse → Pa.els (([47] : List UInt8).intercalate xs) = xs := by
    intro ro xs hx hg
    cases xs with
    | nil => exact absurd rfl hx
    | cons y Y =>
      rw [Pa.els_J, flat_self]
      intro x hx
      exact (gd_mem hg x (List.mem_reverse.2 hx)).2
  rw [Pa.clean_eq_cleanEls l]
  have key : ∀ ro, Gd ro ((Pa.els l).foldl (Pa.cleanStep ro) []) := fun ro => gd_fold ro _ _ trivial (els_no47 l)
  cases hro : (l.head? == some 47) with
  | true =>
    rw [Pa.cleanEls_abs l hne hro]
    have k := key true
    generalize (Pa.els l).foldl (Pa.cleanStep true) [] = s at k ⊢
    rw [Pa.clean_eq_cleanEls, Pa.cleanEls_abs _ (by simp) (by simp), Pa.els_slash, List.foldl_cons]
    show 47 :: ([47] : List UInt8).intercalate (List.foldl (Pa.cleanStep true) [] (Pa.els (([47] : List UInt8).intercalate s.reverse))).reverse = _
    by_cases hs : s = []
    · subst hs; rfl
    · rw [el true s.reverse (by simpa using hs) (by simpa using k), fold_gd true s k]
  | false =>
    rw [Pa.cleanEls_rel l hne hro]
    have k := key false
    generalize (Pa.els l).foldl (Pa.cleanStep false) [] = s at k ⊢
    by_cases hs : s = []
    · subst hs; rfl
    · have e := el false s.reverse (by simpa using hs) (by simpa using k)
      obtain ⟨y, Y, hY⟩ : ∃ y Y, s.reverse = y :: Y := by
        cases h : s.reverse with
        | nil => exact absurd (List.reverse_eq_nil_iff.1 h) hs
        | cons y Y => exact ⟨y, Y, rfl⟩
      have hy := gd_mem k y (by rw [← List.mem_reverse, hY]; simp)
      have hj := Pa.J_head y Y hy.1
      rw [← hY] at hj
      rw [if_neg hj.2, Pa.clean_eq_cleanEls, Pa.cleanEls_rel _ hj.2, e, fold_gd false s k, if_neg hj.2]
      rw [hj.1]
      cases y with
      | nil => exact absurd rfl hy.1
      | cons c t =>
        have : c ≠ 47 := fun h => hy.2 (by simp [h])
        simpa using this

/-- What the elements come to. -/
def outOf (l : List UInt8) : List (List UInt8) := (Pa.els l).foldl (Pa.cleanStep (l.head? == some 47)) []

theorem out_mem (l : List UInt8) : ∀ x ∈ outOf l, x.length ≤ l.length ∧ x ≠ [46] := by
  intro x hx
  rcases fold_mem _ _ _ x hx with h | h
  · cases h
  · exact ⟨els_len l x h.1, h.2⟩
/-- The elements that are not empty. -/
def elm (l : List UInt8) : List (List UInt8) := (Pa.els l).filter (· ≠ [])
theorem fold_filter (ro : Bool) : ∀ (es st : List (List UInt8)), (es.filter (· ≠ [])).foldl (Pa.cleanStep ro) st = es.foldl (Pa.cleanStep ro) st
  | [], _ => rfl
  | e :: es, st => by
    by_cases h : e = []
    · subst h
      rw [List.filter_cons_of_neg (by simp), List.foldl_cons, Pa.step_nil, fold_filter ro es st]
    · rw [List.filter_cons_of_pos (by simpa using h), List.foldl_cons, List.foldl_cons, fold_filter ro es _]
theorem els_count : ∀ l : List UInt8, (Pa.els l).length ≤ l.length + 1
  | [] => by simp [Pa.els]
  | c :: t => by
    have ih := els_count t
    unfold Pa.els
    by_cases h : c = 47
    · rw [if_pos h]; simp; omega
    · rw [if_neg h]
      cases he : Pa.els t with
      | nil => simp
      | cons e r => rw [he] at ih; simp at ih ⊢; omega
theorem elm_count (l : List UInt8) : (elm l).length ≤ l.length + 1 := Nat.le_trans (List.length_filter_le _ _) (els_count l)
theorem elm_mem {l x : List UInt8} (h : x ∈ elm l) : x ≠ [] ∧ x.length ≤ l.length ∧ 47 ∉ x := by
  unfold elm at h
  rw [List.mem_filter] at h
  exact ⟨by simpa using h.2, els_len l x h.1, els_no47 l x h.1⟩
theorem outOf_elm (l : List UInt8) : (elm l).foldl (Pa.cleanStep (l.head? == some 47)) [] = outOf l := fold_filter _ _ _
theorem outOf_gd (l : List UInt8) : Gd (l.head? == some 47) (outOf l) := gd_fold _ _ _ trivial (els_no47 l)
theorem outOf_count (l : List UInt8) : (outOf l).length ≤ l.length + 1 := by
  have : ∀ (ro : Bool) (es st : List (List UInt8)), (es.foldl (Pa.cleanStep ro) st).length ≤ st.length + es.length := by
    intro ro es
    induction es with
    | nil => intro st; simp
    | cons e r ih =>
      intro st
      rw [List.foldl_cons]
      have h1 : (Pa.cleanStep ro st e).length ≤ st.length + 1 := by
        unfold Pa.cleanStep
        split
        · omega
        · split
          · cases st with
            | nil => cases ro <;> simp
            | cons y s =>
              simp only
              split
              · simp
              · simp; omega
          · simp
      have := ih (Pa.cleanStep ro st e)
      simp only [List.length_cons]
      omega
  have h := this (l.head? == some 47) (Pa.els l) []
  have := els_count l
  unfold outOf
  simp only [List.length_nil] at h
  omega
/-- What a path's clean form is, by its elements. -/
theorem clean_out (l : List UInt8) : Pa.clean l = if (l.head? == some 47) = true then 47 :: jf false (outOf l).reverse else if outOf l = [] then [46] else jf false (outOf l).reverse := by
  rw [Pa.clean_eq_cleanEls]
  by_cases hne : l = []
  · subst hne; rfl
  cases hro : (l.head? == some 47) with
  | true =>
    rw [Pa.cleanEls_abs l hne hro, if_pos rfl]
    unfold outOf; rw [hro]; rfl
  | false =>
    rw [Pa.cleanEls_rel l hne hro]
    simp only [Bool.false_eq_true, if_false]
    have g := outOf_gd l
    have e : (Pa.els l).foldl (Pa.cleanStep false) [] = outOf l := by unfold outOf; rw [hro]
    rw [e]
    by_cases q : outOf l = []
    · rw [if_pos q, q]; rfl
    · rw [if_neg q]
      obtain ⟨y, Y, hY⟩ : ∃ y Y, (outOf l).reverse = y :: Y := by
        cases h : (outOf l).reverse with
        | nil => exact absurd (List.reverse_eq_nil_iff.1 h) q
        | cons y Y => exact ⟨y, Y, rfl⟩
      have hy := gd_mem g y (by rw [← List.mem_reverse, hY]; simp)
      have hj := Pa.J_head y Y hy.1
      rw [← hY] at hj
      rw [if_neg hj.2]; rfl
end Go.X
