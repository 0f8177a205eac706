/- FnMetaJoined: the walk. No condition beside the form's own. -/
import Derived.Test.YtdilealdddbhnaaXU
import Derived.Test.YtdilealdddbhnaaXStr
import Derived.Test.YtdilealdddbhnaaXF0
import Derived.Test.YtdilealdddbhnaaXF1
set_option linter.unusedVariables false
set_option linter.unusedSimpArgs false
set_option maxRecDepth 100000
namespace Go.Proofs.Ytdilealdddbhnaa.X
open Go Go.X Go.Proofs Go.RowKit

theorem holds_spec {b0 o0 m0 b1 o1 m1 : Nat} {l0 l1 : List UInt8} {w : World} {K : Value → World → Prop} (r0 : rowB w b0 o0 l0) (r1 : rowB w b1 o1 l1) (z0 : b0 < w.heap.size) (z1 : b1 < w.heap.size)
    (q0 : l0.length ≤ m0) (q1 : l1.length ≤ m1) (s0 : l0.length ≤ 2305843009213693952) (s1 : l1.length ≤ 2305843009213693952)
    (h : ∀ b w', Below w.heap.size w w' → K (.bool b) w') : Cl P Fn.spec_Holds #[sl b0 o0 l0.length m0, sl b1 o1 l1.length m1] w K := by
  apply S_spec_Holds
  unfold F_spec_Holds
  refine jn_with (fun s w' => s = [] ∧ Below w.heap.size w w') (fun s u w1 hs => h _ _ hs.2) ?_
  refine lp_intro (fun s w' => (∃ i : Int, s = [.int .i64 i] ∧ 0 ≤ i ∧ i ≤ l0.length + 1) ∧ Below w.heap.size w w') (fun s _ => (l0.length + 2 - intOf (gs s 0)).toNat) ⟨⟨0, rfl, by omega, by omega⟩, Below.refl _ _⟩ ?_
  rintro s u w1 ⟨⟨i, rfl, i0, i1⟩, B1⟩
  refine jn_with (fun s w' => s = [] ∧ w' = w1 ∧ i + l1.length ≤ l0.length) ?_ ?_
  · rintro s u w2 ⟨rfl, rfl, hi⟩
    refine jn_with (fun s w' => s = [] ∧ w' = w2.drew) ?_ ?_
    · rintro s u w3 ⟨rfl, rfl⟩
      simp (disch := first | omega | (simp only [size_setb, size_alloc', size_drew'] <;> omega) | (simp (disch := first | omega | (simp only [size_setb, size_alloc', size_drew'] <;> omega) | fail) only [go_sem]; done) | fail) only [go_sem, dec_t, dec_f, w_u32, w_u64, w_u16, w_u8, w_i64, Int.reduceToNat, Int.reducePow, Nat.reducePow]
      refine ⟨⟨⟨_, rfl, by omega, by omega⟩, B1.drew⟩, ?_⟩
      simp only [intOf]
      omega
    · simp (disch := first | omega | (simp only [size_setb, size_alloc', size_drew'] <;> omega) | (simp (disch := first | omega | (simp only [size_setb, size_alloc', size_drew'] <;> omega) | fail) only [go_sem]; done) | fail) only [go_sem, dec_t, dec_f, w_u32, w_u64, w_u16, w_u8, w_i64, Int.reduceToNat, Int.reducePow, Nat.reducePow]
      rw [oSlice_sl (size := 1) _ U.sl_uint8 (by kernel_rfl) i0 (by omega) (by omega)]
      have hp : ∃ o', (if m0 = i.toNat then o0 else o0 + i.toNat * 1) = o' ∧ rowB w b0 o' ((l0.drop i.toNat).take l1.length) := by
        by_cases e : m0 = i.toNat
        · have e1 : l1.length = 0 := by omega
          refine ⟨o0, if_pos e, ?_⟩
          have := rowB_part r0 0 0 (by omega)
          simpa [e1] using this
        · refine ⟨o0 + i.toNat, by rw [if_neg e]; omega, rowB_part r0 i.toNat l1.length (by omega)⟩
      obtain ⟨o', e1, r2⟩ := hp
      rw [e1]
      have hl : ((l0.drop i.toNat).take l1.length).length = l1.length := by simp; omega
      have e2 : (i + (l1.length : Int)).toNat - i.toNat = ((l0.drop i.toNat).take l1.length).length := by rw [hl]; omega
      rw [e2]
      rw [rdBytes _ _ U.string U.sl_uint8 U.uint8 (rowB_old (rowB_old r2 B1 z0) (Below.refl _ w2).drew (Nat.lt_of_lt_of_le z0 B1.size)) rfl,
        rdBytes _ _ U.string U.sl_uint8 U.uint8 (rowB_old (rowB_old r1 B1 z1) (Below.refl _ w2).drew (Nat.lt_of_lt_of_le z1 B1.size)) rfl]
      simp (disch := first | omega | (simp only [size_setb, size_alloc', size_drew'] <;> omega) | (simp (disch := first | omega | (simp only [size_setb, size_alloc', size_drew'] <;> omega) | fail) only [go_sem]; done) | fail) only [go_sem, dec_t, dec_f, w_u32, w_u64, w_u16, w_u8, w_i64, Int.reduceToNat, Int.reducePow, Nat.reducePow]
      rw [cd_dec]
      split
      · exact h _ _ B1.drew
      · exact ⟨trivial, trivial⟩
  · simp (disch := first | omega | (simp only [size_setb, size_alloc', size_drew'] <;> omega) | (simp (disch := first | omega | (simp only [size_setb, size_alloc', size_drew'] <;> omega) | fail) only [go_sem]; done) | fail) only [go_sem, dec_t, dec_f, w_u32, w_u64, w_u16, w_u8, w_i64, Int.reduceToNat, Int.reducePow, Nat.reducePow]
    by_cases g : i + (l1.length : Int) ≤ l0.length
    · simp (disch := first | omega | (simp only [size_setb, size_alloc', size_drew'] <;> omega) | (simp (disch := first | omega | (simp only [size_setb, size_alloc', size_drew'] <;> omega) | fail) only [go_sem]; done) | fail) only [go_sem, dec_t, dec_f, w_u32, w_u64, w_u16, w_u8, w_i64, Int.reduceToNat, Int.reducePow, Nat.reducePow]
      exact ⟨trivial, trivial, g⟩
    · simp (disch := first | omega | (simp only [size_setb, size_alloc', size_drew'] <;> omega) | (simp (disch := first | omega | (simp only [size_setb, size_alloc', size_drew'] <;> omega) | fail) only [go_sem]; done) | fail) only [go_sem, dec_t, dec_f, w_u32, w_u64, w_u16, w_u8, w_i64, Int.reduceToNat, Int.reducePow, Nat.reducePow]
      exact ⟨trivial, B1⟩

theorem slashed_spec {l : List UInt8} {w : World} {K : Value → World → Prop} (s0 : l.length ≤ 2305843009213693952) (h : ∀ b w', Below w.heap.size w w' → K (.bool b) w') : Cl P Fn.laws_slashed #[S l] w K := by
  apply S_laws_slashed
  unfold F_laws_slashed
  refine oConvSB _ _ U.string U.sl_uint8 U.uint8 l fun cap w1 hc r1 z1 B1 => ?_
  rw [oBuildSlice1 _ _ U.sl_uint8 (z := .int .u8 0) (by kernel_rfl) rfl]
  simp (disch := first | omega | (simp only [size_setb, size_alloc', size_drew'] <;> omega) | (simp (disch := first | omega | (simp only [size_setb, size_alloc', size_drew'] <;> omega) | fail) only [go_sem]; done) | fail) only [go_sem, dec_t, dec_f, w_u32, w_u64, w_u16, w_u8, w_i64, Int.reduceToNat, Int.reducePow, Nat.reducePow]
  have hB : Below w1.heap.size w1 (w1.alloc (CB [.int .u8 92] T.uint8)) := (Below.refl _ _).alloc (Nat.le_refl _) _
  refine holds_spec (l0 := l) (l1 := [92]) (rowB_old r1 hB (by omega)) ?_ (by simp only [go_sem]; omega) (by simp only [go_sem]; omega) hc (by decide) s0 (by decide) fun b w2 h2 => ?_
  · unfold rowB
    rw [bk_alloc_eq _ _ _ rfl]
    rfl
  exact h _ _ (bel_on h2 (B1.trans (hB.mono (by omega))) (by simp only [go_sem]; omega))

/-- A letter that is looked for. -/
def lookd (cs : List UInt8) (l : List UInt8) : Bool := l.any fun b => cs.contains b

theorem indexAny_spec {l cs : List UInt8} {w : World} {K : Value → World → Prop} (hcs : ∀ c ∈ cs, c.toNat < 128) (s0 : l.length ≤ 2305843009213693952)
    (h : ∀ r w', Below w.heap.size w w' → (0 ≤ r ↔ lookd cs l = true) → K (.int .i64 r) w') : Cl P Fn.afero_zzIndexAny #[S l, S cs] w K := by
  apply S_afero_zzIndexAny
  unfold F_afero_zzIndexAny
  refine jn_with (fun s w' => s = [] ∧ Below w.heap.size w w' ∧ lookd cs l = false) (fun s u w1 hs => ?_) ?_
  · refine h _ _ hs.2.1 ?_
    rw [hs.2.2]; simp
  rw [oRangeS _ _ U.string]
  refine lp_intro (fun s w' => s = [] ∧ Below w.heap.size w w' ∧ w.heap.size < w'.heap.size ∧ ∃ p, bk w' w.heap.size = some (itr l p) ∧ p ≤ l.length ∧ ∀ j (hj : j < l.length), j < p → l[j] ∉ cs) (fun _ w' => l.length - iterP (bk w' w.heap.size))
    ⟨rfl, (Below.refl _ _).alloc (Nat.le_refl _) _, by simp only [go_sem]; omega, 0, bk_alloc_eq _ _ _ rfl, by omega, fun j _ hj => by omega⟩ ?_
  rintro s u w1 ⟨rfl, B1, z1, p, b1, hp, hnot⟩
  by_cases g : p < l.length
  · rw [oNextS _ _ _ b1 g]
    simp (disch := first | omega | (simp only [size_setb, size_alloc', size_drew'] <;> omega) | (simp (disch := first | omega | (simp only [size_setb, size_alloc', size_drew'] <;> omega) | fail) only [go_sem]; done) | fail) only [go_sem, dec_t, dec_f, w_u32, w_u64, w_u16, w_u8, w_i64, Int.reduceToNat, Int.reducePow, Nat.reducePow]
    have zz : Below w.heap.size w (setb w1 w.heap.size (itr l (p + (dec l p).2))) := bel_setb B1 (Nat.le_refl _) _
    have bb : bk (setb w1 w.heap.size (itr l (p + (dec l p).2))) w.heap.size = some (itr l (p + (dec l p).2)) := bk_setb_eq _ _ _ _ rfl z1
    have zs : (setb w1 w.heap.size (itr l (p + (dec l p).2))).heap.size = w1.heap.size := size_setb _ _ _
    generalize setb w1 w.heap.size (itr l (p + (dec l p).2)) = w2 at zz bb zs ⊢
    have hd := dec_next g
    refine jn_with (fun s w' => s = [] ∧ w' = w2) ?_ ⟨rfl, rfl⟩
    rintro s u w3 ⟨rfl, rfl⟩
    rw [oRangeS _ _ U.string]
    refine lp_intro (fun s w' => s = [] ∧ Below w.heap.size w w' ∧ w3.heap.size < w'.heap.size ∧ bk w' w.heap.size = some (itr l (p + (dec l p).2)) ∧ ∃ q, bk w' w3.heap.size = some (itr cs q) ∧ q ≤ cs.length ∧ ∀ j (hj : j < cs.length), j < q → (dec l p).1 ≠ cs[j].toNat) (fun _ w' => cs.length - iterP (bk w' w3.heap.size))
      ⟨rfl, zz.alloc (by omega) _, by simp only [go_sem]; omega, ?_, 0, bk_alloc_eq _ _ _ rfl, by omega, fun j _ hj => by omega⟩ ?_
    · rw [bk_alloc_ne _ _ _ (by omega)]; exact bb
    rintro s u w4 ⟨rfl, B4, z4, bl, q, bq, hq, hne⟩
    by_cases gq : q < cs.length
    · rw [oNextS _ _ _ bq gq]
      have hlow : cs[q].toNat < 128 := hcs _ (List.getElem_mem gq)
      rw [dec_low gq hlow]
      simp (disch := first | omega | (simp only [size_setb, size_alloc', size_drew'] <;> omega) | (simp (disch := first | omega | (simp only [size_setb, size_alloc', size_drew'] <;> omega) | fail) only [go_sem]; done) | fail) only [go_sem, dec_t, dec_f, w_u32, w_u64, w_u16, w_u8, w_i64, Int.reduceToNat, Int.reducePow, Nat.reducePow]
      refine jn_with (fun s w' => s = [] ∧ w' = setb w4 w3.heap.size (itr cs (q + 1))) ?_ ⟨rfl, rfl⟩
      rintro s u w5 ⟨rfl, rfl⟩
      have B5 : Below w.heap.size w (setb w4 w3.heap.size (itr cs (q + 1))) := bel_setb B4 (by omega) _
      by_cases e : (dec l p).1 = cs[q].toNat
      · have e' : ((dec l p).1 : Int) = (cs[q].toNat : Int) := by rw [e]
        rw [cd_dec, if_pos e']
        refine h _ _ B5 ⟨fun _ => ?_, fun _ => by omega⟩
        have hlp : l[p].toNat < 128 := by
          by_cases x : l[p].toNat < 128
          · exact x
          · have := (dec_high g (by omega)).1; omega
        rw [dec_low g hlp] at e
        have e2 : l[p] = cs[q] := UInt8.toNat_inj.1 e
        unfold lookd
        rw [List.any_eq_true]
        exact ⟨l[p], List.getElem_mem g, by rw [e2]; simp⟩
      · have e' : ¬ ((dec l p).1 : Int) = (cs[q].toNat : Int) := by omega
        rw [cd_dec, if_neg e']
        refine ⟨⟨trivial, B5, by simp only [go_sem]; omega, ?_, q + 1, bk_setb_eq _ _ _ _ rfl z4, by omega, ?_⟩, ?_⟩
        · rw [bk_setb_ne _ _ _ _ (by omega)]; exact bl
        · intro j hj hjq
          by_cases ej : j = q
          · subst ej; exact e
          · exact hne j hj (by omega)
        · rw [bk_setb_eq _ _ _ _ rfl z4, bq]
          simp only [iterP]
          omega
    · rw [oNextE _ _ _ bq gq]
      simp (disch := first | omega | (simp only [size_setb, size_alloc', size_drew'] <;> omega) | (simp (disch := first | omega | (simp only [size_setb, size_alloc', size_drew'] <;> omega) | fail) only [go_sem]; done) | fail) only [go_sem, dec_t, dec_f, w_u32, w_u64, w_u16, w_u8, w_i64, Int.reduceToNat, Int.reducePow, Nat.reducePow]
      refine jn_with (fun _ _ => False) (fun _ _ _ h => h.elim) ?_
      refine ⟨⟨trivial, B4, by omega, _, bl, hd.2, ?_⟩, ?_⟩
      · intro j hj hjp hmem
        by_cases e1 : j < p
        · exact hnot j hj e1 hmem
        by_cases hl : l[p].toNat < 128
        · rw [dec_low g hl] at hjp hne
          obtain rfl : j = p := by simp only at hjp; omega
          obtain ⟨k, hk, ek⟩ := List.getElem_of_mem hmem
          exact hne k hk (by omega) (by rw [ek])
        · have hh := dec_high g (by omega)
          have h128 : 128 ≤ l[j].toNat := by
            by_cases e2 : j = p
            · subst e2; omega
            · exact hh.2.2.2 j hj (by omega) hjp
          have := hcs _ hmem
          omega
      · rw [bl, b1]
        simp only [iterP]
        omega
  · rw [oNextE _ _ _ b1 g]
    simp (disch := first | omega | (simp only [size_setb, size_alloc', size_drew'] <;> omega) | (simp (disch := first | omega | (simp only [size_setb, size_alloc', size_drew'] <;> omega) | fail) only [go_sem]; done) | fail) only [go_sem, dec_t, dec_f, w_u32, w_u64, w_u16, w_u8, w_i64, Int.reduceToNat, Int.reducePow, Nat.reducePow]
    refine jn_with (fun _ _ => False) (fun _ _ _ h => h.elim) ?_
    refine ⟨trivial, B1, ?_⟩
    unfold lookd
    rw [List.any_eq_false]
    intro x hx
    obtain ⟨j, hj, e⟩ := List.getElem_of_mem hx
    have := hnot j hj (by omega)
    rw [e] at this
    simpa using this

theorem lookd_append (cs a b : List UInt8) : lookd cs (a ++ b) = (lookd cs a || lookd cs b) := by simp [lookd]
abbrev mt (l : List UInt8) : Bool := lookd [42, 63, 91] l
theorem mt_append (a b : List UInt8) : mt (a ++ b) = (mt a || mt b) := lookd_append _ a b
theorem hasMeta_spec {l : List UInt8} {w : World} {K : Value → World → Prop} (s0 : l.length ≤ 2305843009213693952) (h : ∀ w', Below w.heap.size w w' → K (.bool (mt l)) w') : Cl P Fn.impl_HasMeta #[S l] w K := by
  apply S_impl_HasMeta
  unfold F_impl_HasMeta
  simp (disch := first | omega | (simp only [size_setb, size_alloc', size_drew'] <;> omega) | (simp (disch := first | omega | (simp only [size_setb, size_alloc', size_drew'] <;> omega) | fail) only [go_sem]; done) | fail) only [go_sem, dec_t, dec_f, w_u32, w_u64, w_u16, w_u8, w_i64, Int.reduceToNat, Int.reducePow, Nat.reducePow]
  apply S_afero_DoorHasMeta
  unfold F_afero_DoorHasMeta
  simp (disch := first | omega | (simp only [size_setb, size_alloc', size_drew'] <;> omega) | (simp (disch := first | omega | (simp only [size_setb, size_alloc', size_drew'] <;> omega) | fail) only [go_sem]; done) | fail) only [go_sem, dec_t, dec_f, w_u32, w_u64, w_u16, w_u8, w_i64, Int.reduceToNat, Int.reducePow, Nat.reducePow]
  apply S_afero_hasMeta
  unfold F_afero_hasMeta
  simp (disch := first | omega | (simp only [size_setb, size_alloc', size_drew'] <;> omega) | (simp (disch := first | omega | (simp only [size_setb, size_alloc', size_drew'] <;> omega) | fail) only [go_sem]; done) | fail) only [go_sem, dec_t, dec_f, w_u32, w_u64, w_u16, w_u8, w_i64, Int.reduceToNat, Int.reducePow, Nat.reducePow]
  apply S_afero_zzContainsAny
  unfold F_afero_zzContainsAny
  simp (disch := first | omega | (simp only [size_setb, size_alloc', size_drew'] <;> omega) | (simp (disch := first | omega | (simp only [size_setb, size_alloc', size_drew'] <;> omega) | fail) only [go_sem]; done) | fail) only [go_sem, dec_t, dec_f, w_u32, w_u64, w_u16, w_u8, w_i64, Int.reduceToNat, Int.reducePow, Nat.reducePow]
  refine indexAny_spec (fun c hc => by
    have : c = 42 ∨ c = 63 ∨ c = 91 := by simpa using hc
    rcases this with rfl | rfl | rfl <;> decide) s0 fun r w1 h1 hr => ?_
  have e : decide (r ≥ 0) = mt l := by
    by_cases g : 0 ≤ r
    · rw [show mt l = true from hr.1 g]; simpa using g
    · have : ¬ mt l = true := fun x => g (hr.2 x)
      have : mt l = false := by simpa using this
      rw [this]; simpa using g
  simp (disch := first | omega | (simp only [size_setb, size_alloc', size_drew'] <;> omega) | (simp (disch := first | omega | (simp only [size_setb, size_alloc', size_drew'] <;> omega) | fail) only [go_sem, e]; done) | fail) only [go_sem, dec_t, dec_f, w_u32, w_u64, w_u16, w_u8, w_i64, Int.reduceToNat, Int.reducePow, Nat.reducePow, e]
  exact h _ h1

set_option maxHeartbeats 4000000 in
theorem FnMetaJoined_walk (a b : List UInt8) (w : World) (ha : a.length ≤ 140737488351232) (hb : b.length ≤ 140737488351232) :
    Cl P Fn.laws_FnMetaJoined #[S a, S b] w fun v w' => v = .bool true ∧ Below w.heap.size w w' := by
  apply S_laws_FnMetaJoined
  unfold F_laws_FnMetaJoined
  refine jn_with (fun s w' => s = [] ∧ w' = w) ?_ ?_
  · rintro s u w1 ⟨rfl, rfl⟩
    refine jn_with (fun s w' => s = [] ∧ Below w1.heap.size w1 w' ∧ a.length ≤ 200 ∧ b.length ≤ 200) ?_ ?_
    · rintro s u w2 ⟨rfl, B2, a2, b2⟩
      simp (disch := first | omega | (simp only [size_setb, size_alloc', size_drew'] <;> omega) | (simp (disch := first | omega | (simp only [size_setb, size_alloc', size_drew'] <;> omega) | fail) only [go_sem]; done) | fail) only [go_sem, dec_t, dec_f, w_u32, w_u64, w_u16, w_u8, w_i64, Int.reduceToNat, Int.reducePow, Nat.reducePow]
      have em1 : mt [42] = true := rfl
      have em2 : mt [63] = true := rfl
      have em3 : mt [91] = true := rfl
      have eqB : ∀ (L : Value → Prop) (x y : Bool), pu P (oBin .eql T.bool false false (.bool x) (.bool y)) L = L (.bool (x == y)) := fun L x y => oEqlB L U.bool _ _ _ _
      refine hasMeta_spec (by omega) fun w3 h3 => ?_
      have B3 := bel_on h3 B2 B2.size
      clear h3 B2
      have hab : (a ++ b).length ≤ 2305843009213693952 := by rw [List.length_append]; omega
      have hba : (b ++ a).length ≤ 2305843009213693952 := by rw [List.length_append]; omega
      have ha1 : (a ++ [42]).length + b.length ≤ 2305843009213693952 := by rw [List.length_append]; simp only [List.length_cons, List.length_nil]; omega
      have ha5 : a.length + ([42] : List UInt8).length ≤ 2305843009213693952 := by simp only [List.length_cons, List.length_nil]; omega
      have ha6 : ([63] : List UInt8).length + a.length ≤ 2305843009213693952 := by simp only [List.length_cons, List.length_nil]; omega
      have ha7 : b.length + ([91] : List UInt8).length ≤ 2305843009213693952 := by simp only [List.length_cons, List.length_nil]; omega
      have ha2 : (a ++ [42] ++ b).length ≤ 2305843009213693952 := by rw [List.length_append]; omega
      have ha3 : ([63] ++ a).length ≤ 2305843009213693952 := by rw [List.length_append]; simp only [List.length_cons, List.length_nil]; omega
      have ha4 : (b ++ [91]).length ≤ 2305843009213693952 := by rw [List.length_append]; simp only [List.length_cons, List.length_nil]; omega
      cases ea : mt a
      · simp (disch := first | omega | (simp only [size_setb, size_alloc', size_drew'] <;> omega) | (simp (disch := first | omega | (simp only [size_setb, size_alloc', size_drew'] <;> omega) | fail) only [go_sem]; done) | fail) only [go_sem, dec_t, dec_f, w_u32, w_u64, w_u16, w_u8, w_i64, Int.reduceToNat, Int.reducePow, Nat.reducePow]
        refine hasMeta_spec (by omega) fun w4 h4 => ?_
        have B4 := bel_on h4 B3 B3.size
        clear h4 B3
        cases eb : mt b
        · have eab : mt (a ++ b) = false := by rw [mt_append, ea, eb]; rfl
          have eba : mt (b ++ a) = false := by rw [mt_append, ea, eb]; rfl
          have e42 : mt (a ++ [42] ++ b) = true := by rw [mt_append, mt_append, em1, Bool.or_true, Bool.true_or]
          have e63 : mt ([63] ++ a) = true := by rw [mt_append, em2, Bool.true_or]
          have e91 : mt (b ++ [91]) = true := by rw [mt_append, em3, Bool.or_true]
          refine hasMeta_spec hab fun w6 h6 => ?_
          have B6 := bel_on h6 B4 B4.size
          rw [eab]
          simp (disch := first | omega | (simp only [size_setb, size_alloc', size_drew'] <;> omega) | (simp (disch := first | omega | (simp only [size_setb, size_alloc', size_drew'] <;> omega) | fail) only [go_sem, eqB, eb, beq_self_eq_true]; done) | fail) only [go_sem, dec_t, dec_f, w_u32, w_u64, w_u16, w_u8, w_i64, Int.reduceToNat, Int.reducePow, Nat.reducePow, eqB, eb, beq_self_eq_true]
          refine hasMeta_spec hba fun w7 h7 => ?_
          have B7 := bel_on h7 B6 B6.size
          rw [eba]
          simp (disch := first | omega | (simp only [size_setb, size_alloc', size_drew'] <;> omega) | (simp (disch := first | omega | (simp only [size_setb, size_alloc', size_drew'] <;> omega) | fail) only [go_sem, eqB, eb, beq_self_eq_true]; done) | fail) only [go_sem, dec_t, dec_f, w_u32, w_u64, w_u16, w_u8, w_i64, Int.reduceToNat, Int.reducePow, Nat.reducePow, eqB, eb, beq_self_eq_true]
          refine hasMeta_spec ha2 fun w8 h8 => ?_
          have B8 := bel_on h8 B7 B7.size
          rw [e42]
          simp (disch := first | omega | (simp only [size_setb, size_alloc', size_drew'] <;> omega) | (simp (disch := first | omega | (simp only [size_setb, size_alloc', size_drew'] <;> omega) | fail) only [go_sem, eqB, eb, beq_self_eq_true]; done) | fail) only [go_sem, dec_t, dec_f, w_u32, w_u64, w_u16, w_u8, w_i64, Int.reduceToNat, Int.reducePow, Nat.reducePow, eqB, eb, beq_self_eq_true]
          refine hasMeta_spec ha3 fun w9 h9 => ?_
          have B9 := bel_on h9 B8 B8.size
          rw [e63]
          simp (disch := first | omega | (simp only [size_setb, size_alloc', size_drew'] <;> omega) | (simp (disch := first | omega | (simp only [size_setb, size_alloc', size_drew'] <;> omega) | fail) only [go_sem, eqB, eb, beq_self_eq_true]; done) | fail) only [go_sem, dec_t, dec_f, w_u32, w_u64, w_u16, w_u8, w_i64, Int.reduceToNat, Int.reducePow, Nat.reducePow, eqB, eb, beq_self_eq_true]
          refine hasMeta_spec ha4 fun w10 h10 => ?_
          have B10 := bel_on h10 B9 B9.size
          rw [e91]
          exact ⟨rfl, B10⟩
        · have eab : mt (a ++ b) = true := by rw [mt_append, ea, eb]; rfl
          have eba : mt (b ++ a) = true := by rw [mt_append, ea, eb]; rfl
          have e42 : mt (a ++ [42] ++ b) = true := by rw [mt_append, mt_append, em1, Bool.or_true, Bool.true_or]
          have e63 : mt ([63] ++ a) = true := by rw [mt_append, em2, Bool.true_or]
          have e91 : mt (b ++ [91]) = true := by rw [mt_append, em3, Bool.or_true]
          refine hasMeta_spec hab fun w6 h6 => ?_
          have B6 := bel_on h6 B4 B4.size
          rw [eab]
          simp (disch := first | omega | (simp only [size_setb, size_alloc', size_drew'] <;> omega) | (simp (disch := first | omega | (simp only [size_setb, size_alloc', size_drew'] <;> omega) | fail) only [go_sem, eqB, eb, beq_self_eq_true]; done) | fail) only [go_sem, dec_t, dec_f, w_u32, w_u64, w_u16, w_u8, w_i64, Int.reduceToNat, Int.reducePow, Nat.reducePow, eqB, eb, beq_self_eq_true]
          refine hasMeta_spec hba fun w7 h7 => ?_
          have B7 := bel_on h7 B6 B6.size
          rw [eba]
          simp (disch := first | omega | (simp only [size_setb, size_alloc', size_drew'] <;> omega) | (simp (disch := first | omega | (simp only [size_setb, size_alloc', size_drew'] <;> omega) | fail) only [go_sem, eqB, eb, beq_self_eq_true]; done) | fail) only [go_sem, dec_t, dec_f, w_u32, w_u64, w_u16, w_u8, w_i64, Int.reduceToNat, Int.reducePow, Nat.reducePow, eqB, eb, beq_self_eq_true]
          refine hasMeta_spec ha2 fun w8 h8 => ?_
          have B8 := bel_on h8 B7 B7.size
          rw [e42]
          simp (disch := first | omega | (simp only [size_setb, size_alloc', size_drew'] <;> omega) | (simp (disch := first | omega | (simp only [size_setb, size_alloc', size_drew'] <;> omega) | fail) only [go_sem, eqB, eb, beq_self_eq_true]; done) | fail) only [go_sem, dec_t, dec_f, w_u32, w_u64, w_u16, w_u8, w_i64, Int.reduceToNat, Int.reducePow, Nat.reducePow, eqB, eb, beq_self_eq_true]
          refine hasMeta_spec ha3 fun w9 h9 => ?_
          have B9 := bel_on h9 B8 B8.size
          rw [e63]
          simp (disch := first | omega | (simp only [size_setb, size_alloc', size_drew'] <;> omega) | (simp (disch := first | omega | (simp only [size_setb, size_alloc', size_drew'] <;> omega) | fail) only [go_sem, eqB, eb, beq_self_eq_true]; done) | fail) only [go_sem, dec_t, dec_f, w_u32, w_u64, w_u16, w_u8, w_i64, Int.reduceToNat, Int.reducePow, Nat.reducePow, eqB, eb, beq_self_eq_true]
          refine hasMeta_spec ha4 fun w10 h10 => ?_
          have B10 := bel_on h10 B9 B9.size
          rw [e91]
          exact ⟨rfl, B10⟩
      · have B4 := B3
        cases eb : mt b
        · simp (disch := first | omega | (simp only [size_setb, size_alloc', size_drew'] <;> omega) | (simp (disch := first | omega | (simp only [size_setb, size_alloc', size_drew'] <;> omega) | fail) only [go_sem]; done) | fail) only [go_sem, dec_t, dec_f, w_u32, w_u64, w_u16, w_u8, w_i64, Int.reduceToNat, Int.reducePow, Nat.reducePow]
          have eab : mt (a ++ b) = true := by rw [mt_append, ea, eb]; rfl
          have eba : mt (b ++ a) = true := by rw [mt_append, ea, eb]; rfl
          have e42 : mt (a ++ [42] ++ b) = true := by rw [mt_append, mt_append, em1, Bool.or_true, Bool.true_or]
          have e63 : mt ([63] ++ a) = true := by rw [mt_append, em2, Bool.true_or]
          have e91 : mt (b ++ [91]) = true := by rw [mt_append, em3, Bool.or_true]
          refine hasMeta_spec hab fun w6 h6 => ?_
          have B6 := bel_on h6 B4 B4.size
          rw [eab]
          simp (disch := first | omega | (simp only [size_setb, size_alloc', size_drew'] <;> omega) | (simp (disch := first | omega | (simp only [size_setb, size_alloc', size_drew'] <;> omega) | fail) only [go_sem, eqB, eb, beq_self_eq_true]; done) | fail) only [go_sem, dec_t, dec_f, w_u32, w_u64, w_u16, w_u8, w_i64, Int.reduceToNat, Int.reducePow, Nat.reducePow, eqB, eb, beq_self_eq_true]
          refine hasMeta_spec hba fun w7 h7 => ?_
          have B7 := bel_on h7 B6 B6.size
          rw [eba]
          simp (disch := first | omega | (simp only [size_setb, size_alloc', size_drew'] <;> omega) | (simp (disch := first | omega | (simp only [size_setb, size_alloc', size_drew'] <;> omega) | fail) only [go_sem, eqB, eb, beq_self_eq_true]; done) | fail) only [go_sem, dec_t, dec_f, w_u32, w_u64, w_u16, w_u8, w_i64, Int.reduceToNat, Int.reducePow, Nat.reducePow, eqB, eb, beq_self_eq_true]
          refine hasMeta_spec ha2 fun w8 h8 => ?_
          have B8 := bel_on h8 B7 B7.size
          rw [e42]
          simp (disch := first | omega | (simp only [size_setb, size_alloc', size_drew'] <;> omega) | (simp (disch := first | omega | (simp only [size_setb, size_alloc', size_drew'] <;> omega) | fail) only [go_sem, eqB, eb, beq_self_eq_true]; done) | fail) only [go_sem, dec_t, dec_f, w_u32, w_u64, w_u16, w_u8, w_i64, Int.reduceToNat, Int.reducePow, Nat.reducePow, eqB, eb, beq_self_eq_true]
          refine hasMeta_spec ha3 fun w9 h9 => ?_
          have B9 := bel_on h9 B8 B8.size
          rw [e63]
          simp (disch := first | omega | (simp only [size_setb, size_alloc', size_drew'] <;> omega) | (simp (disch := first | omega | (simp only [size_setb, size_alloc', size_drew'] <;> omega) | fail) only [go_sem, eqB, eb, beq_self_eq_true]; done) | fail) only [go_sem, dec_t, dec_f, w_u32, w_u64, w_u16, w_u8, w_i64, Int.reduceToNat, Int.reducePow, Nat.reducePow, eqB, eb, beq_self_eq_true]
          refine hasMeta_spec ha4 fun w10 h10 => ?_
          have B10 := bel_on h10 B9 B9.size
          rw [e91]
          exact ⟨rfl, B10⟩
        · simp (disch := first | omega | (simp only [size_setb, size_alloc', size_drew'] <;> omega) | (simp (disch := first | omega | (simp only [size_setb, size_alloc', size_drew'] <;> omega) | fail) only [go_sem]; done) | fail) only [go_sem, dec_t, dec_f, w_u32, w_u64, w_u16, w_u8, w_i64, Int.reduceToNat, Int.reducePow, Nat.reducePow]
          have eab : mt (a ++ b) = true := by rw [mt_append, ea, eb]; rfl
          have eba : mt (b ++ a) = true := by rw [mt_append, ea, eb]; rfl
          have e42 : mt (a ++ [42] ++ b) = true := by rw [mt_append, mt_append, em1, Bool.or_true, Bool.true_or]
          have e63 : mt ([63] ++ a) = true := by rw [mt_append, em2, Bool.true_or]
          have e91 : mt (b ++ [91]) = true := by rw [mt_append, em3, Bool.or_true]
          refine hasMeta_spec hab fun w6 h6 => ?_
          have B6 := bel_on h6 B4 B4.size
          rw [eab]
          simp (disch := first | omega | (simp only [size_setb, size_alloc', size_drew'] <;> omega) | (simp (disch := first | omega | (simp only [size_setb, size_alloc', size_drew'] <;> omega) | fail) only [go_sem, eqB, eb, beq_self_eq_true]; done) | fail) only [go_sem, dec_t, dec_f, w_u32, w_u64, w_u16, w_u8, w_i64, Int.reduceToNat, Int.reducePow, Nat.reducePow, eqB, eb, beq_self_eq_true]
          refine hasMeta_spec hba fun w7 h7 => ?_
          have B7 := bel_on h7 B6 B6.size
          rw [eba]
          simp (disch := first | omega | (simp only [size_setb, size_alloc', size_drew'] <;> omega) | (simp (disch := first | omega | (simp only [size_setb, size_alloc', size_drew'] <;> omega) | fail) only [go_sem, eqB, eb, beq_self_eq_true]; done) | fail) only [go_sem, dec_t, dec_f, w_u32, w_u64, w_u16, w_u8, w_i64, Int.reduceToNat, Int.reducePow, Nat.reducePow, eqB, eb, beq_self_eq_true]
          refine hasMeta_spec ha2 fun w8 h8 => ?_
          have B8 := bel_on h8 B7 B7.size
          rw [e42]
          simp (disch := first | omega | (simp only [size_setb, size_alloc', size_drew'] <;> omega) | (simp (disch := first | omega | (simp only [size_setb, size_alloc', size_drew'] <;> omega) | fail) only [go_sem, eqB, eb, beq_self_eq_true]; done) | fail) only [go_sem, dec_t, dec_f, w_u32, w_u64, w_u16, w_u8, w_i64, Int.reduceToNat, Int.reducePow, Nat.reducePow, eqB, eb, beq_self_eq_true]
          refine hasMeta_spec ha3 fun w9 h9 => ?_
          have B9 := bel_on h9 B8 B8.size
          rw [e63]
          simp (disch := first | omega | (simp only [size_setb, size_alloc', size_drew'] <;> omega) | (simp (disch := first | omega | (simp only [size_setb, size_alloc', size_drew'] <;> omega) | fail) only [go_sem, eqB, eb, beq_self_eq_true]; done) | fail) only [go_sem, dec_t, dec_f, w_u32, w_u64, w_u16, w_u8, w_i64, Int.reduceToNat, Int.reducePow, Nat.reducePow, eqB, eb, beq_self_eq_true]
          refine hasMeta_spec ha4 fun w10 h10 => ?_
          have B10 := bel_on h10 B9 B9.size
          rw [e91]
          exact ⟨rfl, B10⟩
    · by_cases g1 : (200 : Int) < a.length
      · simp (disch := first | omega | (simp only [size_setb, size_alloc', size_drew'] <;> omega) | (simp (disch := first | omega | (simp only [size_setb, size_alloc', size_drew'] <;> omega) | fail) only [go_sem]; done) | fail) only [go_sem, dec_t, dec_f, w_u32, w_u64, w_u16, w_u8, w_i64, Int.reduceToNat, Int.reducePow, Nat.reducePow]
        exact ⟨trivial, Below.refl _ _⟩
      by_cases g2 : (200 : Int) < b.length
      · simp (disch := first | omega | (simp only [size_setb, size_alloc', size_drew'] <;> omega) | (simp (disch := first | omega | (simp only [size_setb, size_alloc', size_drew'] <;> omega) | fail) only [go_sem]; done) | fail) only [go_sem, dec_t, dec_f, w_u32, w_u64, w_u16, w_u8, w_i64, Int.reduceToNat, Int.reducePow, Nat.reducePow]
        exact ⟨trivial, Below.refl _ _⟩
      simp (disch := first | omega | (simp only [size_setb, size_alloc', size_drew'] <;> omega) | (simp (disch := first | omega | (simp only [size_setb, size_alloc', size_drew'] <;> omega) | fail) only [go_sem]; done) | fail) only [go_sem, dec_t, dec_f, w_u32, w_u64, w_u16, w_u8, w_i64, Int.reduceToNat, Int.reducePow, Nat.reducePow]
      refine slashed_spec (by omega) fun x w2 h2 => ?_
      cases x
      · simp (disch := first | omega | (simp only [size_setb, size_alloc', size_drew'] <;> omega) | (simp (disch := first | omega | (simp only [size_setb, size_alloc', size_drew'] <;> omega) | fail) only [go_sem]; done) | fail) only [go_sem, dec_t, dec_f, w_u32, w_u64, w_u16, w_u8, w_i64, Int.reduceToNat, Int.reducePow, Nat.reducePow]
        refine slashed_spec (by omega) fun y w3 h3 => ?_
        have B3 := bel_on h3 h2 h2.size
        cases y
        · simp (disch := first | omega | (simp only [size_setb, size_alloc', size_drew'] <;> omega) | (simp (disch := first | omega | (simp only [size_setb, size_alloc', size_drew'] <;> omega) | fail) only [go_sem]; done) | fail) only [go_sem, dec_t, dec_f, w_u32, w_u64, w_u16, w_u8, w_i64, Int.reduceToNat, Int.reducePow, Nat.reducePow]
          exact ⟨trivial, B3, by omega, by omega⟩
        · simp (disch := first | omega | (simp only [size_setb, size_alloc', size_drew'] <;> omega) | (simp (disch := first | omega | (simp only [size_setb, size_alloc', size_drew'] <;> omega) | fail) only [go_sem]; done) | fail) only [go_sem, dec_t, dec_f, w_u32, w_u64, w_u16, w_u8, w_i64, Int.reduceToNat, Int.reducePow, Nat.reducePow]
          exact ⟨trivial, B3⟩
      · simp (disch := first | omega | (simp only [size_setb, size_alloc', size_drew'] <;> omega) | (simp (disch := first | omega | (simp only [size_setb, size_alloc', size_drew'] <;> omega) | fail) only [go_sem]; done) | fail) only [go_sem, dec_t, dec_f, w_u32, w_u64, w_u16, w_u8, w_i64, Int.reduceToNat, Int.reducePow, Nat.reducePow]
        exact ⟨trivial, h2⟩
  · by_cases g1 : (2147483647 : Int) < a.length
    · simp (disch := first | omega | (simp only [size_setb, size_alloc', size_drew'] <;> omega) | (simp (disch := first | omega | (simp only [size_setb, size_alloc', size_drew'] <;> omega) | fail) only [go_sem]; done) | fail) only [go_sem, dec_t, dec_f, w_u32, w_u64, w_u16, w_u8, w_i64, Int.reduceToNat, Int.reducePow, Nat.reducePow]
      exact ⟨trivial, Below.refl _ _⟩
    by_cases g2 : (2147483647 : Int) < b.length
    · simp (disch := first | omega | (simp only [size_setb, size_alloc', size_drew'] <;> omega) | (simp (disch := first | omega | (simp only [size_setb, size_alloc', size_drew'] <;> omega) | fail) only [go_sem]; done) | fail) only [go_sem, dec_t, dec_f, w_u32, w_u64, w_u16, w_u8, w_i64, Int.reduceToNat, Int.reducePow, Nat.reducePow]
      exact ⟨trivial, Below.refl _ _⟩
    simp (disch := first | omega | (simp only [size_setb, size_alloc', size_drew'] <;> omega) | (simp (disch := first | omega | (simp only [size_setb, size_alloc', size_drew'] <;> omega) | fail) only [go_sem]; done) | fail) only [go_sem, dec_t, dec_f, w_u32, w_u64, w_u16, w_u8, w_i64, Int.reduceToNat, Int.reducePow, Nat.reducePow]
    exact ⟨trivial, trivial⟩
end Go.Proofs.Ytdilealdddbhnaa.X
