/- The reference's paths: elements, the clean form, one below another. No condition. -/
import Derived.Test.YtdilealdddbhnaaDoorXU
import Derived.Test.YtdilealdddbhnaaDoorXPath
import Derived.Test.YtdilealdddbhnaaDoorXF0
set_option linter.unusedVariables false
set_option linter.unusedSimpArgs false
set_option maxRecDepth 100000
namespace Go.Proofs.YtdilealdddbhnaaDoor.X
open Go Go.X Go.Proofs Go.RowKit Go.Lib

theorem rooted_spec {l : List UInt8} {w : World} {K : Value → World → Prop} (h : K (.bool (l.head? == some 47)) w) : Cl P Fn.spec_Rooted #[S l] w K := by
  apply S_spec_Rooted
  unfold F_spec_Rooted
  cases l with
  | nil =>
    have e : decide (([] : List UInt8) ≠ []) = false := rfl
    simp (disch := first | omega | (simp only [size_setb, size_alloc', size_drew'] <;> omega) | (simp (disch := first | omega | (simp only [size_setb, size_alloc', size_drew'] <;> omega) | fail) only [go_sem, e]; done) | fail) only [go_sem, dec_t, dec_f, w_u32, w_u64, w_u16, w_u8, w_i64, Int.reduceToNat, Int.reducePow, Nat.reducePow, e]
    exact h
  | cons c r =>
    have e : decide ((c :: r) ≠ []) = true := by simp
    have g : (0 : Int) < ((c :: r).length : Int) := by simp only [List.length_cons]; omega
    have ix : ∀ (L : Value → Prop), pu P (oIdx T.string (S (c :: r)) (.int .i64 0)) L = L (.int .u8 c.toNat) := fun L => oIdxS L T.string (c :: r) .i64 0 U.string (by omega) g
    simp (disch := first | omega | (simp only [size_setb, size_alloc', size_drew'] <;> omega) | (simp (disch := first | omega | (simp only [size_setb, size_alloc', size_drew'] <;> omega) | fail) only [go_sem, e, ix]; done) | fail) only [go_sem, dec_t, dec_f, w_u32, w_u64, w_u16, w_u8, w_i64, Int.reduceToNat, Int.reducePow, Nat.reducePow, e, ix]
    have e2 : decide ((c.toNat : Int) = 47) = ((c :: r).head? == some 47) := by
      by_cases q : c = 47
      · subst q; rfl
      · have q2 : ¬ (c.toNat : Int) = 47 := fun x => q (UInt8.toNat_inj.1 (by rw [show (47 : UInt8).toNat = 47 from rfl]; omega))
        simp [q, q2]
    rw [e2]
    exact h

theorem put_str {v : Value} {n B : Nat} {xs : List Value} {l : List UInt8} {w : World} {K : Value → World → Prop} (hv : w.ownsRow B T.string 1 v n xs) (hn : n ≤ 1000000000) (hB : B ≤ w.heap.size)
    (h : ∀ b c w', w'.ownsRow B T.string 1 (sl b 0 (n + 1) c) (n + 1) (xs ++ [S l]) → Below B w w' → K (sl b 0 (n + 1) c) w') :
    st P (oBuildSlice T.sl_string 1 #[(0, S l)]) w fun t31 w4 => st P (oBuiltin .append #[T.sl_string, T.sl_string] T.sl_string #[false, false] #[v, t31]) w4 K := by
  rw [oBuildSlice1 (z := S []) _ _ U.sl_string (by kernel_rfl) rfl]
  have hb : Below w.heap.size w (w.alloc (CB [S l] T.string)) := (Below.refl _ _).alloc (Nat.le_refl _) _
  refine oAppend_own (size := 1) (bytes := 16) (z := S []) (news := [S l]) _ _ U.sl_string (by kernel_rfl) rfl (by omega) (own_old hv hb (Nat.le_refl _)) rfl ?_ (fun u hu => by simp only [List.mem_singleton] at hu; subst hu; rfl) (by simp only [maxLen]; omega) (by omega) (by simp only [go_sem]; omega) fun v' w' g1 g2 => ?_
  · rw [bk_alloc_eq _ _ _ rfl]
    rfl
  · obtain ⟨b, cap, cur, rfl, _⟩ := own_row g1 (by omega)
    exact h _ _ _ g1 ((hb.mono hB).trans g2)
theorem own_src {B n b size cap : Nat} {e : TypeId} {xs : List Value} {w : World} (hv : w.ownsRow B e size (sl b 0 n cap) n xs) : rowOf (bk w b) 0 xs.length = some xs := by
  rcases hv.2 with ⟨h1, _⟩ | ⟨g, cap', cur, h1, h2, h3, h4, h5, h6, h7⟩
  · cases h1
  · injection h1 with e1 e2 e3
    injection e1 with e1
    injection e1 with e1
    subst e1
    have h8 := hv.1
    unfold bk
    rw [h3]
    have h9 := congrArg List.length h7
    rw [List.length_take] at h9
    simp only [rowOf]
    rw [if_pos (by rw [← Array.length_toList]; omega), List.drop_zero, h8, h7]
theorem own_at {B n cap : Nat} {xs : List (List UInt8)} {w : World} {a : Option Addr} (hv : w.ownsRow B T.string 1 (.slice a n cap) n (xs.map S)) {i : Nat} (hi : i < xs.length) :
    ∃ b, Value.slice a n cap = sl b 0 n cap ∧ n ≤ cap ∧ b < w.heap.size ∧ B ≤ b ∧ cellOf (bk w b) i = some (S xs[i]) := by
  have hn := hv.1
  rw [List.length_map] at hn
  obtain ⟨b, cap', cur, e1, q1, q2, q3, q4, q5, q6⟩ := own_row hv (by omega)
  injection e1 with e1 e2 e3
  subst e3
  refine ⟨b, by rw [e1], q1, q3, q2, ?_⟩
  rw [q4, cellOf_CB]
  have h7 : (cur.take (n * 1))[i]? = some (S xs[i]) := by rw [q6]; simp [hi]
  rwa [List.getElem?_take_of_lt (by omega)] at h7

set_option maxHeartbeats 1000000 in
theorem elements_spec {l : List UInt8} {w : World} {K : Value → World → Prop} (hl : l.length ≤ 1000000) (h : ∀ b cap w', Below w.heap.size w w' → w'.ownsRow w.heap.size T.string 1 (sl b 0 (elm l).length cap) (elm l).length ((elm l).map S) → K (sl b 0 (elm l).length cap) w') : Cl P Fn.spec_Elements #[S l] w K := by
  apply S_spec_Elements
  unfold F_spec_Elements
  rw [oBuildSlice0 (n := 1) _ _ U.sl_string (by kernel_rfl)]
  refine jn_with (fun t w' => ∃ b cap, t = [sl b 0 (elm l).length cap] ∧ w'.ownsRow w.heap.size T.string 1 (sl b 0 (elm l).length cap) (elm l).length ((elm l).map S) ∧ Below w.heap.size w w') ?_ ?_
  · rintro t e w1 ⟨b, cap, rfl, hv, B1⟩
    exact h b cap w1 B1 hv
  refine lp_intro (fun t w' => ∃ b cap xs, ∃ fr i : Nat, t = [sl b 0 xs.length cap, .int .i64 fr, .int .i64 i] ∧ w'.ownsRow w.heap.size T.string 1 (sl b 0 xs.length cap) xs.length (xs.map S) ∧ Below w.heap.size w w' ∧ xs.length ≤ i ∧ fr ≤ i ∧ i ≤ l.length + 1 ∧ xs ++ (rest l fr).filter (· ≠ []) = elm l ∧ (∀ k (hk : k < l.length), fr ≤ k → k < i → l[k] ≠ 47) ∧ (i = l.length + 1 → fr = i))
    (fun t _ => l.length + 2 - (RowKit.intOf (gs t 2)).toNat) ⟨_, 0, [], 0, 0, rfl, ?_, (Below.refl _ _).alloc (Nat.le_refl _) _, by simp, by omega, by omega, ?_, fun k _ h1 h2 => by omega, fun h => by omega⟩ ?_
  · refine ⟨rfl, .inr ⟨_, _, #[], rfl, Nat.le_refl _, bk_alloc_eq w _ _ rfl, by simp, by simp [maxLen], by simp, by simp⟩⟩
  · rw [rest, if_pos (by omega), List.drop_zero]; rfl
  rintro t e w1 ⟨b, cap, xs, fr, i, rfl, hv, B1, hx, hf, hi, hst, hno, hend⟩
  by_cases g : (i : Int) ≤ l.length
  · simp (disch := first | omega | (simp only [size_setb, size_alloc', size_drew'] <;> omega) | (simp (disch := first | omega | (simp only [size_setb, size_alloc', size_drew'] <;> omega) | fail) only [go_sem]; done) | fail) only [go_sem, dec_t, dec_f, w_u32, w_u64, w_u16, w_u8, w_i64, Int.reduceToNat, Int.reducePow, Nat.reducePow]
    refine jn_with (fun t w' => t = [] ∧ w' = w1) ?_ ⟨rfl, rfl⟩
    rintro t e w2 ⟨rfl, rfl⟩
    refine jn_with (fun t w' => ∃ b cap xs, ∃ fr : Nat, t = [sl b 0 xs.length cap, .int .i64 fr] ∧ w'.ownsRow w.heap.size T.string 1 (sl b 0 xs.length cap) xs.length (xs.map S) ∧ Below w.heap.size w w' ∧ xs.length ≤ i + 1 ∧ fr ≤ i + 1 ∧ xs ++ (rest l fr).filter (· ≠ []) = elm l ∧ (∀ k (hk : k < l.length), fr ≤ k → k < i + 1 → l[k] ≠ 47) ∧ (i = l.length → fr = i + 1)) ?_ ?_
    · rintro t e w3 ⟨b', cap', xs', fr', rfl, hv', B3, hx', hf', hst', hno', hend'⟩
      simp (disch := first | omega | (simp only [size_setb, size_alloc', size_drew'] <;> omega) | (simp (disch := first | omega | (simp only [size_setb, size_alloc', size_drew'] <;> omega) | fail) only [go_sem]; done) | fail) only [go_sem, dec_t, dec_f, w_u32, w_u64, w_u16, w_u8, w_i64, Int.reduceToNat, Int.reducePow, Nat.reducePow]
      refine ⟨⟨b', cap', xs', fr', i + 1, rfl, hv', B3, hx', hf', by omega, hst', hno', fun h => hend' (by omega)⟩, ?_⟩
      simp only [RowKit.intOf]
      omega
    · have hcond : ∀ (L : Value → World → Prop), L (.bool (decide (i = l.length ∨ l[i]? = some 47))) w2 →
          (gd (.bool (decide ((i : Int) = l.length))) false w2 (fun K1 => K1 (S l) w2) fun t18 w6 =>
          gd (.bool (decide ((i : Int) = l.length))) false w6 (fun K2 => K2 (.int .i64 i) w6) fun t19 w7 =>
          gd (.bool (decide ((i : Int) = l.length))) false w7 (fun K3 => pu P (oIdx T.string t18 t19) fun v => K3 v w7) fun t20 w8 =>
          gd (.bool (decide ((i : Int) = l.length))) false w8 (fun K4 => pu P (oBin .eql T.uint8 false true t20 (.int .u8 47)) fun v => K4 v w8) fun t21 w9 =>
          pu P (oPick (.bool (decide ((i : Int) = l.length))) (.bool true) t21) fun t22 => L t22 w9) := by
        intro L hL
        by_cases q : (i : Int) = l.length
        · have q2 : i = l.length := by omega
          simp (disch := first | omega | (simp only [size_setb, size_alloc', size_drew'] <;> omega) | (simp (disch := first | omega | (simp only [size_setb, size_alloc', size_drew'] <;> omega) | fail) only [go_sem]; done) | fail) only [go_sem, dec_t, dec_f, w_u32, w_u64, w_u16, w_u8, w_i64, Int.reduceToNat, Int.reducePow, Nat.reducePow]
          rwa [decide_eq_true (.inl q2)] at hL
        · have hlt : i < l.length := by omega
          have ix : ∀ (L : Value → Prop), pu P (oIdx T.string (S l) (.int .i64 i)) L = L (.int .u8 l[i].toNat) := fun L => by
            rw [oIdxS L T.string l .i64 i U.string (by omega) (by omega)]
            rw [show (i : Int).toNat = i by omega]
            simp [List.getD, hlt]
          simp (disch := first | omega | (simp only [size_setb, size_alloc', size_drew'] <;> omega) | (simp (disch := first | omega | (simp only [size_setb, size_alloc', size_drew'] <;> omega) | fail) only [go_sem, ix]; done) | fail) only [go_sem, dec_t, dec_f, w_u32, w_u64, w_u16, w_u8, w_i64, Int.reduceToNat, Int.reducePow, Nat.reducePow, ix]
          have e2 : decide ((l[i].toNat : Int) = 47) = decide (i = l.length ∨ l[i]? = some 47) := by
            have q3 : ¬ i = l.length := by omega
            rw [List.getElem?_eq_getElem hlt]
            by_cases q : l[i] = 47
            · simp [q]
            · have q2 : ¬ (l[i].toNat : Int) = 47 := fun x => q (UInt8.toNat_inj.1 (by rw [show (47 : UInt8).toNat = 47 from rfl]; omega))
              simp [q, q2, q3]
          rw [e2]
          exact hL
      simp (disch := first | omega | (simp only [size_setb, size_alloc', size_drew'] <;> omega) | (simp (disch := first | omega | (simp only [size_setb, size_alloc', size_drew'] <;> omega) | fail) only [go_sem]; done) | fail) only [go_sem, dec_t, dec_f, w_u32, w_u64, w_u16, w_u8, w_i64, Int.reduceToNat, Int.reducePow, Nat.reducePow]
      refine hcond _ ?_
      by_cases c : i = l.length ∨ l[i]? = some 47
      · simp (disch := first | omega | (simp only [size_setb, size_alloc', size_drew'] <;> omega) | (simp (disch := first | omega | (simp only [size_setb, size_alloc', size_drew'] <;> omega) | fail) only [go_sem, c, decide_true]; done) | fail) only [go_sem, dec_t, dec_f, w_u32, w_u64, w_u16, w_u8, w_i64, Int.reduceToNat, Int.reducePow, Nat.reducePow, c, decide_true]
        have hend2 : i = l.length ∨ ∃ h : i < l.length, l[i] = 47 := by
          rcases c with c | c
          · exact .inl c
          · obtain ⟨h1, h2⟩ := List.getElem?_eq_some_iff.1 c
            exact .inr ⟨h1, h2⟩
        have hstep := rest_step hf (by omega) hno hend2
        rw [hstep] at hst
        have fin : ∀ (xs' : List (List UInt8)) b' cap' (w' : World), w'.ownsRow w.heap.size T.string 1 (sl b' 0 xs'.length cap') xs'.length (xs'.map S) → Below w.heap.size w w' → xs'.length ≤ i + 1 → xs' ++ (rest l (i + 1)).filter (· ≠ []) = elm l →
            ∃ b cap xs, ∃ fr : Nat, [sl b' 0 xs'.length cap', Value.int .i64 ((i : Int) + 1)] = [sl b 0 xs.length cap, .int .i64 fr] ∧ w'.ownsRow w.heap.size T.string 1 (sl b 0 xs.length cap) xs.length (xs.map S) ∧ Below w.heap.size w w' ∧ xs.length ≤ i + 1 ∧ fr ≤ i + 1 ∧ xs ++ (rest l fr).filter (· ≠ []) = elm l ∧ (∀ k (hk : k < l.length), fr ≤ k → k < i + 1 → l[k] ≠ 47) ∧ (i = l.length → fr = i + 1) :=
          fun xs' b' cap' w' q1 q2 q3 q4 => ⟨b', cap', xs', i + 1, rfl, q1, q2, q3, Nat.le_refl _, q4, fun k _ h1 h2 => by omega, fun _ => rfl⟩
        refine jn_with (fun t w' => ∃ b' cap' xs', t = [sl b' 0 xs'.length cap'] ∧ w'.ownsRow w.heap.size T.string 1 (sl b' 0 xs'.length cap') xs'.length (xs'.map S) ∧ Below w.heap.size w w' ∧ xs'.length ≤ i + 1 ∧ xs' ++ (rest l (i + 1)).filter (· ≠ []) = elm l) ?_ ?_
        · rintro t e w3 ⟨b', cap', xs', rfl, q1, q2, q3, q4⟩
          simp (disch := first | omega | (simp only [size_setb, size_alloc', size_drew'] <;> omega) | (simp (disch := first | omega | (simp only [size_setb, size_alloc', size_drew'] <;> omega) | fail) only [go_sem]; done) | fail) only [go_sem, dec_t, dec_f, w_u32, w_u64, w_u16, w_u8, w_i64, Int.reduceToNat, Int.reducePow, Nat.reducePow]
          exact fin xs' b' cap' _ q1 q2 q3 q4
        · by_cases z : (fr : Int) < i
          · simp (disch := first | omega | (simp only [size_setb, size_alloc', size_drew'] <;> omega) | (simp (disch := first | omega | (simp only [size_setb, size_alloc', size_drew'] <;> omega) | fail) only [go_sem]; done) | fail) only [go_sem, dec_t, dec_f, w_u32, w_u64, w_u16, w_u8, w_i64, Int.reduceToNat, Int.reducePow, Nat.reducePow]
            have sx : ∀ (L : Value → Prop), pu P (oSlice T.string (S l) (some (.int .i64 fr)) (some (.int .i64 i)) none) L = L (S ((l.drop fr).take (i - fr))) := fun L => by
              rw [oSliceS L T.string l .i64 .i64 fr i U.string (by omega) (by omega) (by omega)]
              rw [show (fr : Int).toNat = fr by omega, show (i : Int).toNat = i by omega]
            rw [sx]
            refine put_str hv (by omega) B1.size fun b' c' w' g1 g2 => ?_
            refine ⟨b', c', xs ++ [(l.drop fr).take (i - fr)], by simp, by simpa using g1, B1.trans g2, by simp; omega, ?_⟩
            rw [List.filter_cons_of_pos (by simp; exact ⟨by omega, by omega⟩)] at hst
            simpa using hst
          · simp (disch := first | omega | (simp only [size_setb, size_alloc', size_drew'] <;> omega) | (simp (disch := first | omega | (simp only [size_setb, size_alloc', size_drew'] <;> omega) | fail) only [go_sem]; done) | fail) only [go_sem, dec_t, dec_f, w_u32, w_u64, w_u16, w_u8, w_i64, Int.reduceToNat, Int.reducePow, Nat.reducePow]
            refine ⟨b, cap, xs, rfl, hv, B1, by omega, ?_⟩
            have e0 : (l.drop fr).take (i - fr) = [] := by rw [show i - fr = 0 by omega]; rfl
            rwa [e0, List.filter_cons_of_neg (by simp)] at hst
      · simp (disch := first | omega | (simp only [size_setb, size_alloc', size_drew'] <;> omega) | (simp (disch := first | omega | (simp only [size_setb, size_alloc', size_drew'] <;> omega) | fail) only [go_sem, c, decide_false]; done) | fail) only [go_sem, dec_t, dec_f, w_u32, w_u64, w_u16, w_u8, w_i64, Int.reduceToNat, Int.reducePow, Nat.reducePow, c, decide_false]
        have hlt : i < l.length := by
          refine Nat.lt_of_not_le fun hle => c (.inl ?_)
          omega
        refine ⟨b, cap, xs, fr, rfl, hv, B1, by omega, by omega, hst, ?_, fun h => by omega⟩
        intro k hk h1 h2
        by_cases e1 : k = i
        · subst e1
          intro e2
          exact c (.inr (by rw [List.getElem?_eq_getElem hk, e2]))
        · exact hno k hk h1 (by omega)
  · simp (disch := first | omega | (simp only [size_setb, size_alloc', size_drew'] <;> omega) | (simp (disch := first | omega | (simp only [size_setb, size_alloc', size_drew'] <;> omega) | fail) only [go_sem]; done) | fail) only [go_sem, dec_t, dec_f, w_u32, w_u64, w_u16, w_u8, w_i64, Int.reduceToNat, Int.reducePow, Nat.reducePow]
    refine jn_with (fun _ _ => False) (fun _ _ _ h => h.elim) ?_
    have e1 : i = l.length + 1 := by omega
    have e2 := hend e1
    have e3 : rest l fr = [] := if_neg (by omega)
    rw [e3] at hst
    simp only [List.filter_nil, List.append_nil] at hst
    subst hst
    exact ⟨b, cap, rfl, hv, B1⟩

theorem jf_len (xs : List (List UInt8)) (N : Nat) (h : ∀ x ∈ xs, x.length < N) (ro : Bool) : ∀ i, i ≤ xs.length → (jf ro (xs.take i)).length ≤ i * N
  | 0, _ => by cases ro <;> simp [jf, List.intercalate]
  | i + 1, hi => by
    have ih := jf_len xs N h ro i (by omega)
    rw [take_snoc (by omega : i < xs.length), jf_snoc]
    have := h xs[i] (List.getElem_mem (by omega))
    rw [Nat.succ_mul]
    split <;> simp only [List.length_append, List.length_cons, List.length_nil] <;> omega
theorem joined_spec {B n : Nat} {v : Value} {xs : List (List UInt8)} {w : World} {K : Value → World → Prop} (hv : w.ownsRow B T.string 1 v n (xs.map S)) (hx : ∀ x ∈ xs, x.length ≤ 1000000) (hn : n ≤ 1000001) (h : K (S (jf false xs)) w) : Cl P Fn.spec_Joined #[v] w K := by
  apply S_spec_Joined
  unfold F_spec_Joined
  obtain ⟨a, cap, rfl⟩ := own_slice hv
  have hnl := hv.1
  rw [List.length_map] at hnl
  refine jn_with (fun t w' => t = [S (jf false xs)] ∧ w' = w) ?_ ?_
  · rintro t e w1 ⟨rfl, rfl⟩
    exact h
  simp (disch := first | omega | (simp only [size_setb, size_alloc', size_drew'] <;> omega) | (simp (disch := first | omega | (simp only [size_setb, size_alloc', size_drew'] <;> omega) | fail) only [go_sem]; done) | fail) only [go_sem, dec_t, dec_f, w_u32, w_u64, w_u16, w_u8, w_i64, Int.reduceToNat, Int.reducePow, Nat.reducePow]
  refine lp_intro (fun t w' => w' = w ∧ ∃ i : Nat, t = [S (jf false (xs.take i)), .int .i64 i] ∧ i ≤ xs.length) (fun t _ => xs.length - (RowKit.intOf (gs t 1)).toNat) ⟨rfl, 0, rfl, by omega⟩ ?_
  rintro t e w2 ⟨rfl, i, rfl, hi⟩
  have hjl := jf_len xs 1000001 (fun x h => Nat.lt_succ_of_le (hx x h)) false i hi
  by_cases g : (i : Int) < n
  · have hix : i < xs.length := by omega
    simp (disch := first | omega | (simp only [size_setb, size_alloc', size_drew'] <;> omega) | (simp (disch := first | omega | (simp only [size_setb, size_alloc', size_drew'] <;> omega) | fail) only [go_sem]; done) | fail) only [go_sem, dec_t, dec_f, w_u32, w_u64, w_u16, w_u8, w_i64, Int.reduceToNat, Int.reducePow, Nat.reducePow]
    refine jn_with (fun t w' => t = [] ∧ w' = w2) ?_ ⟨rfl, rfl⟩
    rintro t e w3 ⟨rfl, rfl⟩
    have hxl := hx xs[i] (List.getElem_mem hix)
    have hsn := jf_snoc false (xs.take i) xs[i]
    rw [← take_snoc hix] at hsn
    have i0 : (xs.take i ≠ []) ↔ 0 < i := by
      rw [Ne, List.take_eq_nil_iff, not_or]
      refine ⟨fun h => by omega, fun h => ⟨by omega, fun h2 => by rw [h2] at hix; simp at hix⟩⟩
    have hM : i * 1000001 ≤ 2000003000002 := by omega
    refine jn_with (fun t w' => w' = w3 ∧ t = [S (jf false (xs.take (i + 1)))]) ?_ ?_
    · rintro t e w4 ⟨rfl, rfl⟩
      simp (disch := first | omega | (simp only [size_setb, size_alloc', size_drew'] <;> omega) | (simp (disch := first | omega | (simp only [size_setb, size_alloc', size_drew'] <;> omega) | fail) only [go_sem]; done) | fail) only [go_sem, dec_t, dec_f, w_u32, w_u64, w_u16, w_u8, w_i64, Int.reduceToNat, Int.reducePow, Nat.reducePow]
      refine ⟨⟨trivial, i + 1, rfl, by omega⟩, ?_⟩
      simp only [RowKit.intOf]
      omega
    · obtain ⟨b, eb, q1, q2, q3, cell⟩ := own_at hv hix
      rw [eb]
      have ix : ∀ (L : Value → Prop), pu P (oIdxA T.sl_string (sl b 0 n cap) (.int .i64 i)) L = L (pt b i) := fun L => by
        rw [oIdxA_sl (size := 1) L U.sl_string (by kernel_rfl) (by omega) (by omega)]
        rw [show 0 + (i : Int).toNat * 1 = i by omega]
      simp (disch := first | omega | (simp only [size_setb, size_alloc', size_drew'] <;> omega) | (simp (disch := first | omega | (simp only [size_setb, size_alloc', size_drew'] <;> omega) | fail) only [go_sem, ix, cell]; done) | fail) only [go_sem, dec_t, dec_f, w_u32, w_u64, w_u16, w_u8, w_i64, Int.reduceToNat, Int.reducePow, Nat.reducePow, ix, cell]
      refine jn_with (fun t w' => w' = w3 ∧ t = [S (if List.take i xs ≠ [] ∨ false = true then jf false (List.take i xs) ++ [47] else jf false (List.take i xs))]) ?_ ?_
      · rintro t e w4 ⟨rfl, rfl⟩
        have hq : (if List.take i xs ≠ [] ∨ false = true then jf false (List.take i xs) ++ [47] else jf false (List.take i xs)).length ≤ i * 1000001 + 1 := by
          split
          · simp only [List.length_append, List.length_cons, List.length_nil]; omega
          · exact Nat.le_succ_of_le hjl
        rw [gs0, oAddS _ T.string _ _ _ _ (by omega), ← hsn]
        exact ⟨rfl, rfl⟩
      · by_cases q : (0 : Int) < i
        · have hc : List.take i xs ≠ [] ∨ false = true := .inl (i0.2 (by omega))
          rw [if_pos hc]
          simp (disch := first | omega | (simp only [size_setb, size_alloc', size_drew'] <;> omega) | (simp (disch := first | omega | (simp only [size_setb, size_alloc', size_drew'] <;> omega) | fail) only [go_sem]; done) | fail) only [go_sem, dec_t, dec_f, w_u32, w_u64, w_u16, w_u8, w_i64, Int.reduceToNat, Int.reducePow, Nat.reducePow]
          rw [oAddS _ T.string _ _ _ _ (by simp only [List.length_cons, List.length_nil]; omega)]
          exact ⟨trivial, rfl⟩
        · have hc : ¬ (List.take i xs ≠ [] ∨ false = true) := by rw [i0]; simp; omega
          rw [if_neg hc]
          simp (disch := first | omega | (simp only [size_setb, size_alloc', size_drew'] <;> omega) | (simp (disch := first | omega | (simp only [size_setb, size_alloc', size_drew'] <;> omega) | fail) only [go_sem]; done) | fail) only [go_sem, dec_t, dec_f, w_u32, w_u64, w_u16, w_u8, w_i64, Int.reduceToNat, Int.reducePow, Nat.reducePow]
          exact ⟨trivial, trivial⟩
  · have e1 : i = xs.length := by omega
    subst e1
    simp (disch := first | omega | (simp only [size_setb, size_alloc', size_drew'] <;> omega) | (simp (disch := first | omega | (simp only [size_setb, size_alloc', size_drew'] <;> omega) | fail) only [go_sem]; done) | fail) only [go_sem, dec_t, dec_f, w_u32, w_u64, w_u16, w_u8, w_i64, Int.reduceToNat, Int.reducePow, Nat.reducePow]
    refine jn_with (fun _ _ => False) (fun _ _ _ h => h.elim) ?_
    rw [List.take_length]
    exact ⟨rfl, trivial⟩

set_option maxHeartbeats 2000000 in
theorem spClean_spec {l : List UInt8} {w : World} {K : Value → World → Prop} (hl : l.length ≤ 1000000) (h : ∀ w', Below w.heap.size w w' → K (S (Pa.clean l)) w') : Cl P Fn.spec_Clean #[S l] w K := by
  apply S_spec_Clean
  unfold F_spec_Clean
  have hgd := outOf_gd l
  have hcnt := outOf_count l
  refine jn_with (fun t w' => ∃ v w1, t = [v] ∧ w'.ownsRow w1 T.string 1 v (outOf l).length ((outOf l).reverse.map S) ∧ Below w.heap.size w w') ?_ ?_
  · rintro t e w1 ⟨v, B, rfl, hv, B1⟩
    obtain ⟨a, cap, rfl⟩ := own_slice hv
    have hxs : ∀ x ∈ (outOf l).reverse, x.length ≤ 1000000 := fun x hx => by
      have := (out_mem l x (List.mem_reverse.1 hx)).1
      omega
    have hj := jf_len (outOf l).reverse 1000001 (fun x h => Nat.lt_succ_of_le (hxs x h)) false (outOf l).reverse.length (Nat.le_refl _)
    rw [List.take_length, List.length_reverse] at hj
    have hM : (outOf l).length * 1000001 ≤ 2000003000002 := by omega
    have hc := clean_out l
    have hjs : ∀ K, K (S (jf false (outOf l).reverse)) w1 → Cl P Fn.spec_Joined #[.slice a (outOf l).length cap] w1 K := fun K hk => joined_spec hv hxs (by omega) hk
    refine jn_with (fun t w' => t = [] ∧ w' = w1 ∧ Pa.clean l = jf false (outOf l).reverse) ?_ ?_
    · rintro t e w2 ⟨rfl, rfl, e1⟩
      simp (disch := first | omega | (simp only [size_setb, size_alloc', size_drew'] <;> omega) | (simp (disch := first | omega | (simp only [size_setb, size_alloc', size_drew'] <;> omega) | fail) only [go_sem]; done) | fail) only [go_sem, dec_t, dec_f, w_u32, w_u64, w_u16, w_u8, w_i64, Int.reduceToNat, Int.reducePow, Nat.reducePow]
      refine hjs _ ?_
      rw [← e1]
      exact h _ B1
    simp (disch := first | omega | (simp only [size_setb, size_alloc', size_drew'] <;> omega) | (simp (disch := first | omega | (simp only [size_setb, size_alloc', size_drew'] <;> omega) | fail) only [go_sem]; done) | fail) only [go_sem, dec_t, dec_f, w_u32, w_u64, w_u16, w_u8, w_i64, Int.reduceToNat, Int.reducePow, Nat.reducePow]
    refine rooted_spec ?_
    generalize (l.head? == some 47) = ro at *
    cases ro with
    | true =>
      simp (disch := first | omega | (simp only [size_setb, size_alloc', size_drew'] <;> omega) | (simp (disch := first | omega | (simp only [size_setb, size_alloc', size_drew'] <;> omega) | fail) only [go_sem]; done) | fail) only [go_sem, dec_t, dec_f, w_u32, w_u64, w_u16, w_u8, w_i64, Int.reduceToNat, Int.reducePow, Nat.reducePow]
      refine hjs _ ?_
      rw [oAddS _ T.string _ _ _ _ (by simp only [List.length_cons, List.length_nil]; omega)]
      rw [if_pos rfl] at hc
      show K (S (47 :: jf false (outOf l).reverse)) w1
      rw [← hc]
      exact h _ B1
    | false =>
      rw [if_neg (by simp)] at hc
      by_cases q : outOf l = []
      · rw [if_pos q] at hc
        have q2 : ((outOf l).length : Int) = 0 := by rw [q]; rfl
        simp (disch := first | omega | (simp only [size_setb, size_alloc', size_drew'] <;> omega) | (simp (disch := first | omega | (simp only [size_setb, size_alloc', size_drew'] <;> omega) | fail) only [go_sem]; done) | fail) only [go_sem, dec_t, dec_f, w_u32, w_u64, w_u16, w_u8, w_i64, Int.reduceToNat, Int.reducePow, Nat.reducePow]
        rw [hc] at h
        exact h _ B1
      · rw [if_neg q] at hc
        have q2 : ¬ ((outOf l).length : Int) = 0 := by
          have := List.length_pos_iff.2 q
          omega
        simp (disch := first | omega | (simp only [size_setb, size_alloc', size_drew'] <;> omega) | (simp (disch := first | omega | (simp only [size_setb, size_alloc', size_drew'] <;> omega) | fail) only [go_sem]; done) | fail) only [go_sem, dec_t, dec_f, w_u32, w_u64, w_u16, w_u8, w_i64, Int.reduceToNat, Int.reducePow, Nat.reducePow]
        exact ⟨trivial, trivial, hc⟩
  · rw [C.spec_Elements]
    refine elements_spec hl fun b7 c7 w1 b1 hv7 => ?_
    have he := outOf_elm l
    have hec := elm_count l
    have hmem : ∀ x ∈ elm l, x ≠ [] ∧ x.length ≤ l.length ∧ 47 ∉ x := fun x hx => elm_mem hx
    generalize elm l = el at *
    simp (disch := first | omega | (simp only [size_setb, size_alloc', size_drew'] <;> omega) | (simp (disch := first | omega | (simp only [size_setb, size_alloc', size_drew'] <;> omega) | fail) only [go_sem]; done) | fail) only [go_sem, dec_t, dec_f, w_u32, w_u64, w_u16, w_u8, w_i64, Int.reduceToNat, Int.reducePow, Nat.reducePow]
    refine lp_intro (fun t w' => ∃ v st, ∃ i : Nat, t = [v, .int .i64 i] ∧ w'.ownsRow w1.heap.size T.string 1 v st.length (st.reverse.map S) ∧ Below w1.heap.size w1 w' ∧ st.length ≤ i ∧ i ≤ el.length ∧ st = (el.take i).foldl (Pa.cleanStep (l.head? == some 47)) [] ∧ Gd (l.head? == some 47) st)
      (fun t _ => el.length + 1 - (RowKit.intOf (gs t 1)).toNat) ⟨_, [], 0, rfl, own_nil _ _ _ _, Below.refl _ _, by simp, by omega, rfl, trivial⟩ ?_
    rintro t e w2 ⟨v, st, i, rfl, hv, B2, hsl, hi, hst, hg⟩
    by_cases g : (i : Int) < el.length
    · have hix : i < el.length := by omega
      simp (disch := first | omega | (simp only [size_setb, size_alloc', size_drew'] <;> omega) | (simp (disch := first | omega | (simp only [size_setb, size_alloc', size_drew'] <;> omega) | fail) only [go_sem]; done) | fail) only [go_sem, dec_t, dec_f, w_u32, w_u64, w_u16, w_u8, w_i64, Int.reduceToNat, Int.reducePow, Nat.reducePow]
      refine jn_with (fun t w' => t = [] ∧ w' = w2) ?_ ⟨rfl, rfl⟩
      rintro t e w3 ⟨rfl, rfl⟩
      have hm := hmem el[i] (List.getElem_mem hix)
      have hst2 : (el.take (i + 1)).foldl (Pa.cleanStep (l.head? == some 47)) [] = Pa.cleanStep (l.head? == some 47) st el[i] := by
        rw [take_snoc hix, List.foldl_append, ← hst]; rfl
      have hg2 := gd_step _ st el[i] hg hm.2.2
      obtain ⟨b, eb, q1, q2, q3, cell⟩ := own_at (own_old hv7 B2 (Nat.le_refl _)) hix
      injection eb with eb _ _
      injection eb with eb
      injection eb with eb
      subst eb
      have ix : ∀ (L : Value → Prop), pu P (oIdxA T.sl_string (sl b7 0 el.length c7) (.int .i64 i)) L = L (pt b7 i) := fun L => by
        rw [oIdxA_sl (size := 1) L U.sl_string (by kernel_rfl) (by omega) (by omega)]
        rw [show 0 + (i : Int).toNat * 1 = i by omega]
      refine jn_with (fun t w' => ∃ v st', t = [v] ∧ w'.ownsRow w1.heap.size T.string 1 v st'.length (st'.reverse.map S) ∧ Below w1.heap.size w1 w' ∧ st'.length ≤ st.length + 1 ∧ st' = Pa.cleanStep (l.head? == some 47) st el[i]) ?_ ?_
      · rintro t e w4 ⟨v', st', rfl, hv', B4, hle', hst'⟩
        simp (disch := first | omega | (simp only [size_setb, size_alloc', size_drew'] <;> omega) | (simp (disch := first | omega | (simp only [size_setb, size_alloc', size_drew'] <;> omega) | fail) only [go_sem]; done) | fail) only [go_sem, dec_t, dec_f, w_u32, w_u64, w_u16, w_u8, w_i64, Int.reduceToNat, Int.reducePow, Nat.reducePow]
        refine ⟨⟨v', st', i + 1, rfl, hv', B4, by omega, by omega, by rw [hst2, hst'], by rw [hst']; exact hg2⟩, ?_⟩
        simp only [RowKit.intOf]
        omega
      · simp (disch := first | omega | (simp only [size_setb, size_alloc', size_drew'] <;> omega) | (simp (disch := first | omega | (simp only [size_setb, size_alloc', size_drew'] <;> omega) | fail) only [go_sem, ix, cell]; done) | fail) only [go_sem, dec_t, dec_f, w_u32, w_u64, w_u16, w_u8, w_i64, Int.reduceToNat, Int.reducePow, Nat.reducePow, ix, cell]
        generalize el[i] = x at *
        generalize hroo : (l.head? == some 47) = ro at *
        obtain ⟨av, cv, rfl⟩ := own_slice hv
        by_cases c1 : x = [46]
        · simp (disch := first | omega | (simp only [size_setb, size_alloc', size_drew'] <;> omega) | (simp (disch := first | omega | (simp only [size_setb, size_alloc', size_drew'] <;> omega) | fail) only [go_sem, c1, decide_true]; done) | fail) only [go_sem, dec_t, dec_f, w_u32, w_u64, w_u16, w_u8, w_i64, Int.reduceToNat, Int.reducePow, Nat.reducePow, c1, decide_true]
          exact ⟨_, st, rfl, hv, B2, by omega, by simp [Pa.cleanStep, c1]⟩
        by_cases c2 : x = [46, 46]
        · have n1 : decide (([46, 46] : List UInt8) = [46]) = false := rfl
          subst c2
          cases st with
          | nil =>
            have z : ¬ ((0 : Int) < (([] : List (List UInt8)).length : Int)) := by simp
            simp (disch := first | omega | (simp only [size_setb, size_alloc', size_drew'] <;> omega) | (simp (disch := first | omega | (simp only [size_setb, size_alloc', size_drew'] <;> omega) | fail) only [go_sem, n1, decide_true]; done) | fail) only [go_sem, dec_t, dec_f, w_u32, w_u64, w_u16, w_u8, w_i64, Int.reduceToNat, Int.reducePow, Nat.reducePow, n1, decide_true]
            refine rooted_spec ?_
            rw [hroo]
            cases ro with
            | true =>
              simp (disch := first | omega | (simp only [size_setb, size_alloc', size_drew'] <;> omega) | (simp (disch := first | omega | (simp only [size_setb, size_alloc', size_drew'] <;> omega) | fail) only [go_sem]; done) | fail) only [go_sem, dec_t, dec_f, w_u32, w_u64, w_u16, w_u8, w_i64, Int.reduceToNat, Int.reducePow, Nat.reducePow]
              exact ⟨_, [], rfl, hv, B2, by simp, rfl⟩
            | false =>
              simp (disch := first | omega | (simp only [size_setb, size_alloc', size_drew'] <;> omega) | (simp (disch := first | omega | (simp only [size_setb, size_alloc', size_drew'] <;> omega) | fail) only [go_sem]; done) | fail) only [go_sem, dec_t, dec_f, w_u32, w_u64, w_u16, w_u8, w_i64, Int.reduceToNat, Int.reducePow, Nat.reducePow]
              refine put_str hv (by simp) B2.size fun b' c' w' g1 g2 => ?_
              exact ⟨_, [[46, 46]], rfl, by simpa using g1, B2.trans g2, by simp, rfl⟩
          | cons y r =>
            have z : ((0 : Int) < ((y :: r).length : Int)) := by simp only [List.length_cons]; omega
            obtain ⟨b', e1, k1, k2, k3, cell2⟩ := own_at hv (i := r.length) (by simp)
            have hgl : (y :: r).reverse[r.length]'(by simp) = y := by simp
            rw [hgl] at cell2
            have ix2 : ∀ (L : Value → Prop), pu P (oIdxA T.sl_string (sl b' 0 (y :: r).length cv) (.int .i64 (((y :: r).length : Int) - 1))) L = L (pt b' r.length) := fun L => by
              rw [oIdxA_sl (size := 1) L U.sl_string (by kernel_rfl) (by omega) (by omega)]
              rw [show 0 + (((y :: r).length : Int) - 1).toNat * 1 = r.length by simp only [List.length_cons]; omega]
            rw [e1]
            by_cases c4 : y = [46, 46]
            · have n4 : (y ≠ [46, 46]) = False := by simp [c4]
              simp (disch := first | omega | (simp only [size_setb, size_alloc', size_drew'] <;> omega) | (simp (disch := first | omega | (simp only [size_setb, size_alloc', size_drew'] <;> omega) | fail) only [go_sem, n1, n4, decide_true, decide_false, ix2, cell2]; done) | fail) only [go_sem, dec_t, dec_f, w_u32, w_u64, w_u16, w_u8, w_i64, Int.reduceToNat, Int.reducePow, Nat.reducePow, n1, n4, decide_true, decide_false, ix2, cell2]
              refine rooted_spec ?_
              obtain ⟨h5, h6⟩ := hg.2.2.2.1 c4
              rw [hroo]
              subst h5
              simp (disch := first | omega | (simp only [size_setb, size_alloc', size_drew'] <;> omega) | (simp (disch := first | omega | (simp only [size_setb, size_alloc', size_drew'] <;> omega) | fail) only [go_sem]; done) | fail) only [go_sem, dec_t, dec_f, w_u32, w_u64, w_u16, w_u8, w_i64, Int.reduceToNat, Int.reducePow, Nat.reducePow]
              rw [e1] at hv
              refine put_str hv (by omega) B2.size fun b'' c' w' g1 g2 => ?_
              exact ⟨_, [46, 46] :: y :: r, rfl, by simpa using g1, B2.trans g2, by simp, by simp [Pa.cleanStep, c4]⟩
            · have n4 : (y ≠ [46, 46]) = True := by simp [c4]
              simp (disch := first | omega | (simp only [size_setb, size_alloc', size_drew'] <;> omega) | (simp (disch := first | omega | (simp only [size_setb, size_alloc', size_drew'] <;> omega) | fail) only [go_sem, n1, n4, decide_true, ix2, cell2]; done) | fail) only [go_sem, dec_t, dec_f, w_u32, w_u64, w_u16, w_u8, w_i64, Int.reduceToNat, Int.reducePow, Nat.reducePow, n1, n4, decide_true, ix2, cell2]
              rw [oSlice_hi (size := 1) _ U.sl_string (by kernel_rfl) (by omega) (by omega)]
              rw [show (((y :: r).length : Int) - 1).toNat = r.length by simp only [List.length_cons]; omega]
              rw [e1] at hv
              have hv2 := own_take hv (show r.length ≤ (y :: r).length by simp)
              exact ⟨_, r, rfl, by simpa using hv2, B2, by simp only [List.length_cons]; omega, by simp [Pa.cleanStep, c4]⟩
        · simp (disch := first | omega | (simp only [size_setb, size_alloc', size_drew'] <;> omega) | (simp (disch := first | omega | (simp only [size_setb, size_alloc', size_drew'] <;> omega) | fail) only [go_sem, c1, c2, decide_false]; done) | fail) only [go_sem, dec_t, dec_f, w_u32, w_u64, w_u16, w_u8, w_i64, Int.reduceToNat, Int.reducePow, Nat.reducePow, c1, c2, decide_false]
          refine put_str hv (by omega) B2.size fun b' c' w' g1 g2 => ?_
          refine ⟨_, x :: st, rfl, by simpa using g1, B2.trans g2, by simp, by simp [Pa.cleanStep, c1, c2, hm.1]⟩
    · have e1 : i = el.length := by omega
      subst e1
      simp (disch := first | omega | (simp only [size_setb, size_alloc', size_drew'] <;> omega) | (simp (disch := first | omega | (simp only [size_setb, size_alloc', size_drew'] <;> omega) | fail) only [go_sem]; done) | fail) only [go_sem, dec_t, dec_f, w_u32, w_u64, w_u16, w_u8, w_i64, Int.reduceToNat, Int.reducePow, Nat.reducePow]
      refine jn_with (fun _ _ => False) (fun _ _ _ h => h.elim) ?_
      rw [List.take_length, he] at hst
      subst hst
      exact ⟨v, _, rfl, hv, b1.trans (B2.mono b1.size)⟩
end Go.Proofs.YtdilealdddbhnaaDoor.X
