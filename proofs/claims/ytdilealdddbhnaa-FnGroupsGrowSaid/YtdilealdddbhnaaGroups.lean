/- FnGroups and FnGroupsGrow: the walks. No condition beside the forms' own. -/
import Derived.Test.YtdilealdddbhnaaXT
import Derived.Test.YtdilealdddbhnaaXF0
set_option linter.unusedVariables false
set_option linter.unusedSimpArgs false
set_option maxRecDepth 100000
namespace Go.Proofs.Ytdilealdddbhnaa.X
open Go Go.X Go.Proofs Go.RowKit

/-- Blocks of a group that are for data. -/
def dat (p : Int) : Int := 32768 - p / 16 - 2
/-- The number of groups. -/
def Gr (b i p : Int) : Int := (max b ((i - 1) / p * dat p + 1) + dat p - 1) / dat p

theorem dat_lo {p : Int} (h : p ≤ 32768) : 30718 ≤ dat p := by unfold dat; omega
theorem dat_hi {p : Int} (h : 16 ≤ p) : dat p ≤ 32765 := by unfold dat; omega
theorem quo_hi {i p : Int} (h1 : 1 ≤ i) (h2 : i ≤ 1048576) (h3 : 16 ≤ p) : 0 ≤ (i - 1) / p ∧ (i - 1) / p ≤ 65535 := by
  constructor
  · exact Int.ediv_nonneg (by omega) (by omega)
  · have h : (i - 1) / p ≤ (i - 1) / 16 := by
      refine (Int.le_ediv_iff_mul_le (by omega)).2 ?_
      have h4 := Int.ediv_mul_le (i - 1) (show p ≠ 0 by omega)
      have h5 : 0 ≤ (i - 1) / p := Int.ediv_nonneg (by omega) (by omega)
      have h6 : (i - 1) / p * 16 ≤ (i - 1) / p * p := Int.mul_le_mul_of_nonneg_left h3 h5
      omega
    omega
theorem mul_hi {i p : Int} (h1 : 1 ≤ i) (h2 : i ≤ 1048576) (h3 : 16 ≤ p) (h4 : p ≤ 32768) : 0 ≤ (i - 1) / p * dat p ∧ (i - 1) / p * dat p ≤ 2147254275 := by
  have a := quo_hi h1 h2 h3
  have b := dat_hi h3
  have c := dat_lo h4
  constructor
  · exact Int.mul_nonneg a.1 (by omega)
  · have := Int.mul_le_mul a.2 b (by omega) (by omega)
    omega
theorem Gr_bd {b i p : Int} (h0 : 1 ≤ b) (hb : b ≤ 2147483648) (h1 : 1 ≤ i) (h2 : i ≤ 1048576) (h3 : 16 ≤ p) (h4 : p ≤ 32768) : 1 ≤ Gr b i p ∧ Gr b i p ≤ 4294967294 := by
  have a := mul_hi h1 h2 h3 h4
  have c := dat_lo h4
  have d := dat_hi h3
  unfold Gr
  constructor
  · exact (Int.le_ediv_iff_mul_le (by omega)).2 (by omega)
  · have : (max b ((i - 1) / p * dat p + 1) + dat p - 1) / dat p ≤ (max b ((i - 1) / p * dat p + 1) + dat p - 1) := Int.ediv_le_self _ (by omega)
    omega

theorem tdiv_eq {a b : Int} (h : 0 ≤ a) : a.tdiv b = a / b := Int.tdiv_eq_ediv_of_nonneg h

theorem groupCount_spec {b i p : Int} {w : World} {K : Value → World → Prop} (h0 : 1 ≤ b) (hb : b ≤ 2147483648) (h1 : 1 ≤ i) (h2 : i ≤ 1048576) (h3 : 16 ≤ p) (h4 : p ≤ 32768)
    (h : K (.int .u32 (Gr b i p)) w) : Cl P Fn.compactext4_groupCount #[.int .u32 b, .int .u32 i, .int .u32 p] w K := by
  have a := mul_hi h1 h2 h3 h4
  have a2 := quo_hi h1 h2 h3
  have c := dat_lo h4
  have d := dat_hi h3
  have g := Gr_bd h0 hb h1 h2 h3 h4
  apply S_compactext4_groupCount
  unfold F_compactext4_groupCount
  have e1 : IntKind.u32.wrap (p * 256) = p * 256 := w_u32 (by omega) (by omega)
  have e2 : (p * 256).tdiv 4096 = p / 16 := by rw [tdiv_eq (by omega)]; omega
  have e3 : IntKind.u32.wrap (p / 16) = p / 16 := w_u32 (by omega) (by omega)
  have e4 : IntKind.u32.wrap (32768 - p / 16) = 32768 - p / 16 := w_u32 (by omega) (by omega)
  have e5 : IntKind.u32.wrap (32768 - p / 16 - 2) = dat p := by rw [w_u32 (by omega) (by omega)]; rfl
  have e6 : IntKind.u32.wrap (i - 1) = i - 1 := w_u32 (by omega) (by omega)
  have e7 : (i - 1).tdiv p = (i - 1) / p := tdiv_eq (by omega)
  have e8 : IntKind.u32.wrap ((i - 1) / p) = (i - 1) / p := w_u32 (by omega) (by omega)
  have e9 : IntKind.u32.wrap ((i - 1) / p * dat p) = (i - 1) / p * dat p := w_u32 (by omega) (by omega)
  have e10 : IntKind.u32.wrap ((i - 1) / p * dat p + 1) = (i - 1) / p * dat p + 1 := w_u32 (by omega) (by omega)
  have hp : p ≠ 0 := by omega
  have hd : dat p ≠ 0 := by omega
  have n1 : (4096 : Int) ≠ 0 := by omega
  simp only [oMul, oQuo _ _ _ _ _ _ _ n1, oQuo _ _ _ _ _ _ _ hp, oSub, oAdd, e1, e2, e3, e4, e5, e6, e7, e8, e9, e10]
  have fin : ∀ m : Int, m = max b ((i - 1) / p * dat p + 1) → ∀ u : Env, pu P (oBin .add T.uint32 false false (gs [.int .u32 m] 0) (.int .u32 (dat p))) fun t29 =>
      pu P (oBin .sub T.uint32 false true t29 (.int .u32 1)) fun t30 => pu P (oBin .quo T.uint32 false false t30 (.int .u32 (dat p))) fun t32 => K (tup [t32]) w := by
    intro m hm u
    have f1 : IntKind.u32.wrap (m + dat p) = m + dat p := w_u32 (by omega) (by omega)
    have f2 : IntKind.u32.wrap (m + dat p - 1) = m + dat p - 1 := w_u32 (by omega) (by omega)
    have f3 : IntKind.u32.wrap ((m + dat p - 1) / dat p) = Gr b i p := by
      rw [hm]; exact w_u32 (by unfold Gr at g; omega) (by unfold Gr at g; omega)
    simp only [gs0, oAdd, oSub, oQuo _ _ _ _ _ _ _ hd, f1, f2, tdiv_eq (show 0 ≤ m + dat p - 1 by omega), f3, tup_one]
    exact h
  refine jn_intro ?_
  simp only [oLss, cd_eq, decide_eq_true_eq]
  by_cases hlt : b < (i - 1) / p * dat p + 1
  · rw [if_pos hlt]
    exact fin _ (by omega)
  · rw [if_neg hlt]
    exact fin _ (by omega)

theorem DoorGroups_spec {b i p : Int} {w : World} {K : Value → World → Prop} (h0 : 1 ≤ b) (hb : b ≤ 2147483648) (h1 : 1 ≤ i) (h2 : i ≤ 1048576) (h3 : 16 ≤ p) (h4 : p ≤ 32768)
    (h : K (.int .u32 (Gr b i p)) w) : Cl P Fn.compactext4_DoorGroups #[.int .u32 b, .int .u32 i, .int .u32 p] w K := by
  apply S_compactext4_DoorGroups
  unfold F_compactext4_DoorGroups
  rw [C.compactext4_groupCount]
  exact groupCount_spec h0 hb h1 h2 h3 h4 h

theorem GroupCount_spec {b i p : Int} {w : World} {K : Value → World → Prop} (h0 : 1 ≤ b) (hb : b ≤ 2147483648) (h1 : 1 ≤ i) (h2 : i ≤ 1048576) (h3 : 16 ≤ p) (h4 : p ≤ 32768) (h5 : p.tmod 16 = 0)
    (h : K (.int .u32 (Gr b i p)) w) : Cl P Fn.impl_GroupCount #[.int .u32 b, .int .u32 i, .int .u32 p] w K := by
  apply S_impl_GroupCount
  unfold F_impl_GroupCount
  refine jn_intro ?_
  have g1 : decide (b < 1) = false := by simp; omega
  have g2 : decide ((2147483648 : Int) < b) = false := by simp; omega
  have g3 : decide (i < 1) = false := by simp; omega
  have g4 : decide ((16777216 : Int) < i) = false := by simp; omega
  have g5 : decide (p < 16) = false := by simp; omega
  have g6 : decide ((32768 : Int) < p) = false := by simp; omega
  have n1 : (16 : Int) ≠ 0 := by omega
  have g7 : decide (p.tmod 16 ≠ 0) = false := by simp [h5]
  simp only [go_sem, oRem _ _ _ _ _ _ _ n1, g1, g2, g3, g4, g5, g6, g7, Bool.false_eq_true, if_false]
  intro u
  exact DoorGroups_spec h0 hb h1 h2 h3 h4 h

theorem spec_Groups_spec {b i p : Int} {w : World} {K : Value → World → Prop} (h0 : 1 ≤ b) (hb : b ≤ 2147483648) (h1 : 1 ≤ i) (h2 : i ≤ 1048576) (h3 : 16 ≤ p) (h4 : p ≤ 32768)
    (h : K (.int .u64 (Gr b i p)) w) : Cl P Fn.spec_Groups #[.int .u64 b, .int .u64 i, .int .u64 p] w K := by
  have a := mul_hi h1 h2 h3 h4
  have a2 := quo_hi h1 h2 h3
  have c := dat_lo h4
  have d := dat_hi h3
  have g := Gr_bd h0 hb h1 h2 h3 h4
  apply S_spec_Groups
  unfold F_spec_Groups
  have e2 : p.tdiv 16 = p / 16 := tdiv_eq (by omega)
  have e3 : IntKind.u64.wrap (p / 16) = p / 16 := w_u64 (by omega) (by omega)
  have e4 : IntKind.u64.wrap (32768 - p / 16) = 32768 - p / 16 := w_u64 (by omega) (by omega)
  have e5 : IntKind.u64.wrap (32768 - p / 16 - 2) = dat p := by rw [w_u64 (by omega) (by omega)]; rfl
  have e6 : IntKind.u64.wrap (i - 1) = i - 1 := w_u64 (by omega) (by omega)
  have e7 : (i - 1).tdiv p = (i - 1) / p := tdiv_eq (by omega)
  have e8 : IntKind.u64.wrap ((i - 1) / p) = (i - 1) / p := w_u64 (by omega) (by omega)
  have e9 : IntKind.u64.wrap ((i - 1) / p * dat p) = (i - 1) / p * dat p := w_u64 (by omega) (by omega)
  have e10 : IntKind.u64.wrap ((i - 1) / p * dat p + 1) = (i - 1) / p * dat p + 1 := w_u64 (by omega) (by omega)
  have hp : p ≠ 0 := by omega
  have hd : dat p ≠ 0 := by omega
  have n1 : (16 : Int) ≠ 0 := by omega
  generalize hm : max b ((i - 1) / p * dat p + 1) = m
  have f1 : IntKind.u64.wrap (m + dat p) = m + dat p := w_u64 (by omega) (by omega)
  have f2 : IntKind.u64.wrap (m + dat p - 1) = m + dat p - 1 := w_u64 (by omega) (by omega)
  have f3 : IntKind.u64.wrap ((m + dat p - 1) / dat p) = Gr b i p := by
    rw [← hm]; exact w_u64 (by unfold Gr at g; omega) (by unfold Gr at g; omega)
  have f4 : (m + dat p - 1).tdiv (dat p) = (m + dat p - 1) / dat p := tdiv_eq (by omega)
  simp only [oMul, oQuo _ _ _ _ _ _ _ n1, oQuo _ _ _ _ _ _ _ hp, oQuo _ _ _ _ _ _ _ hd, oSub, oAdd, oMaxI, e2, e3, e4, e5, e6, e7, e8, e9, e10, hm, f1, f2, f3, f4, tup_one]
  exact h

theorem u32_bd {x : Int} (h : (Lit.int .u32 x).wf = true) : 0 ≤ x ∧ x ≤ 4294967295 := by
  simp only [Lit.wf, Bool.and_eq_true, decide_eq_true_eq] at h
  exact ⟨h.1, h.2⟩

theorem FnGroups_walk (b i p : Int) (w : World) (wb : (Lit.int .u32 b).wf = true) (wi : (Lit.int .u32 i).wf = true) (wp : (Lit.int .u32 p).wf = true) :
    Cl P Fn.laws_FnGroups #[.int .u32 b, .int .u32 i, .int .u32 p] w fun v w' => v = .bool true ∧ Below w.heap.size w w' := by
  have hb := u32_bd wb
  have hi := u32_bd wi
  have hp := u32_bd wp
  apply S_laws_FnGroups
  unfold F_laws_FnGroups
  refine jn_intro ?_
  have n1 : (16 : Int) ≠ 0 := by omega
  by_cases g1 : b < 1
  · simp only [go_sem, oRem _ _ _ _ _ _ _ n1, g1, decide_true, if_true, Bool.true_eq_false, if_false]; exact ⟨trivial, Below.refl _ _⟩
  by_cases g2 : (2147483648 : Int) < b
  · simp only [go_sem, oRem _ _ _ _ _ _ _ n1, g1, g2, decide_true, decide_false, if_true, Bool.false_eq_true, if_false]; exact ⟨trivial, Below.refl _ _⟩
  by_cases g3 : i < 1
  · simp only [go_sem, oRem _ _ _ _ _ _ _ n1, g1, g2, g3, decide_true, decide_false, if_true, Bool.false_eq_true, if_false]; exact ⟨trivial, Below.refl _ _⟩
  by_cases g4 : (1048576 : Int) < i
  · simp only [go_sem, oRem _ _ _ _ _ _ _ n1, g1, g2, g3, g4, decide_true, decide_false, if_true, Bool.false_eq_true, if_false]; exact ⟨trivial, Below.refl _ _⟩
  by_cases g5 : p < 16
  · simp only [go_sem, oRem _ _ _ _ _ _ _ n1, g1, g2, g3, g4, g5, decide_true, decide_false, if_true, Bool.false_eq_true, if_false]; exact ⟨trivial, Below.refl _ _⟩
  by_cases g6 : (32768 : Int) < p
  · simp only [go_sem, oRem _ _ _ _ _ _ _ n1, g1, g2, g3, g4, g5, g6, decide_true, decide_false, if_true, Bool.false_eq_true, if_false]; exact ⟨trivial, Below.refl _ _⟩
  by_cases g7 : p.tmod 16 = 0
  · simp only [go_sem, oRem _ _ _ _ _ _ _ n1, g1, g2, g3, g4, g5, g6, g7, decide_true, decide_false, if_true, Bool.false_eq_true, if_false, ne_eq, not_true_eq_false]
    intro u
    refine GroupCount_spec (by omega) (by omega) (by omega) (by omega) (by omega) (by omega) g7 ?_
    have g := Gr_bd (b := b) (i := i) (p := p) (by omega) (by omega) (by omega) (by omega) (by omega) (by omega)
    have e1 : IntKind.u64.wrap (Gr b i p) = Gr b i p := w_u64 (by omega) (by omega)
    have e2 : IntKind.u64.wrap b = b := w_u64 (by omega) (by omega)
    have e3 : IntKind.u64.wrap i = i := w_u64 (by omega) (by omega)
    have e4 : IntKind.u64.wrap p = p := w_u64 (by omega) (by omega)
    simp only [go_sem, e1, e2, e3, e4]
    refine spec_Groups_spec (by omega) (by omega) (by omega) (by omega) (by omega) (by omega) ?_
    simp only [go_sem, decide_true]
    exact ⟨trivial, Below.refl _ _⟩
  · simp only [go_sem, oRem _ _ _ _ _ _ _ n1, g1, g2, g3, g4, g5, g6, g7, decide_true, decide_false, if_true, Bool.false_eq_true, if_false, ne_eq, not_false_eq_true]; exact ⟨trivial, Below.refl _ _⟩

/-! ### More never want fewer -/
theorem Gr_mono {b i b' i' p : Int} (h0 : 1 ≤ b) (h1 : 1 ≤ i) (hb : b ≤ b') (hi : i ≤ i') (h3 : 16 ≤ p) (h4 : p ≤ 32768) : Gr b i p ≤ Gr b' i' p := by
  have c := dat_lo h4
  unfold Gr
  have q : (i - 1) / p ≤ (i' - 1) / p := Int.ediv_le_ediv (by omega) (by omega)
  have m : (i - 1) / p * dat p ≤ (i' - 1) / p * dat p := Int.mul_le_mul_of_nonneg_right q (by omega)
  exact Int.ediv_le_ediv (by omega) (by omega)

/-- What the search for the best number has found when it has looked at 16, 32, .. up to 16 j. -/
def Best (b i : Int) (j : Nat) (g q : Int) : Prop :=
  (j = 0 → g = 4294967295) ∧ (∀ k : Nat, k < j → g ≤ Gr b i (16 * (k + 1))) ∧ (0 < j → ∃ k : Nat, k < j ∧ g = Gr b i (16 * (k + 1))) ∧ 0 ≤ q ∧ q ≤ 32768

theorem Best_step {b i : Int} (h0 : 1 ≤ b) (hb : b ≤ 2147483648) (h1 : 1 ≤ i) (h2 : i ≤ 1048576) {j : Nat} (hj : j < 2048) {g q : Int} (h : Best b i j g q) :
    (Gr b i (16 * (j + 1)) < g → Best b i (j + 1) (Gr b i (16 * (j + 1))) (16 * (j + 1))) ∧ (¬ Gr b i (16 * (j + 1)) < g → Best b i (j + 1) g q) := by
  obtain ⟨a1, a2, a3, a4, a5⟩ := h
  constructor
  · intro hlt
    refine ⟨by omega, fun k hk => ?_, fun _ => ⟨j, by omega, rfl⟩, by omega, by omega⟩
    rcases Nat.lt_or_eq_of_le (Nat.le_of_lt_succ hk) with h | h
    · have := a2 k h; omega
    · subst h; exact Int.le_refl _
  · intro hge
    have gb := Gr_bd (b := b) (i := i) (p := 16 * (j + 1)) h0 hb h1 h2 (by omega) (by omega)
    refine ⟨by omega, fun k hk => ?_, fun _ => ?_, a4, a5⟩
    · rcases Nat.lt_or_eq_of_le (Nat.le_of_lt_succ hk) with h | h
      · exact a2 k h
      · subst h; omega
    · rcases Nat.eq_zero_or_pos j with h | h
      · have := a1 h; omega
      · obtain ⟨k, hk, e⟩ := a3 h
        exact ⟨k, by omega, e⟩

def mu16 : Value → Nat
  | .int _ n => (40000 - n).toNat
  | _ => 0

def BInv (b i : Int) (w : World) (s : List Value) (w' : World) : Prop := ∃ (j : Nat) (g q : Int), j ≤ 2048 ∧ s = [.int .u32 g, .int .u32 q, .int .u32 (16 * (j + 1))] ∧ Best b i j g q ∧ w' = w
theorem BInv_start (b i : Int) (w : World) : BInv b i w [.int .u32 4294967295, .int .u32 0, .int .u32 16] w :=
  ⟨0, 4294967295, 0, Nat.zero_le _, rfl, ⟨fun _ => rfl, fun k hk => absurd hk (Nat.not_lt_zero k), fun h => absurd h (Nat.lt_irrefl 0), Int.le_refl _, by omega⟩, rfl⟩

theorem bestGroupCount_spec {b i : Int} {w : World} {K : Value → World → Prop} (h0 : 1 ≤ b) (hb : b ≤ 2147483648) (h1 : 1 ≤ i) (h2 : i ≤ 1048576)
    (h : ∀ g q, Best b i 2048 g q → K (tup [.int .u32 g, .int .u32 q]) w) : Cl P Fn.compactext4_bestGroupCount #[.int .u32 b, .int .u32 i] w K := by
  apply S_compactext4_bestGroupCount
  unfold F_compactext4_bestGroupCount
  refine jn_intro ?_
  refine lp_intro (BInv b i w) (fun s _ => mu16 (gs s 2)) (BInv_start b i w) ?_
  rintro s u w1 ⟨j, g, q, hj, rfl, hbest, rfl⟩
  refine jn_intro ?_
  rw [gs2, oLeq]
  by_cases hend : (16 * ((j : Int) + 1)) ≤ 32768
  · rw [cd_dec, if_pos hend]
    have hj' : j < 2048 := by omega
    have step := Best_step h0 hb h1 h2 hj' hbest
    have ew : IntKind.u32.wrap (16 * ((j : Int) + 1) + 16) = 16 * (((j + 1 : Nat) : Int) + 1) := by rw [w_u32 (by omega) (by omega)]; omega
    intro u3
    refine jn_intro ?_
    rw [C.compactext4_groupCount]
    refine groupCount_spec h0 hb h1 h2 (by omega) (by omega) ?_
    rw [gs0, oLss]
    by_cases hlt : Gr b i (16 * ((j : Int) + 1)) < g
    · simp only [gs0, gs1, gs2, oAdd, ew, hlt, decide_true, cd_eq, if_true]
      intro u4
      exact ⟨⟨j + 1, _, _, by omega, rfl, step.1 hlt, rfl⟩, by unfold mu16; dsimp only; omega⟩
    · simp only [gs0, gs1, gs2, oAdd, ew, hlt, decide_false, cd_eq, Bool.false_eq_true, if_false]
      intro u4
      exact ⟨⟨j + 1, _, _, by omega, rfl, step.2 hlt, rfl⟩, by unfold mu16; dsimp only; omega⟩
  · rw [cd_dec, if_neg hend]
    have : j = 2048 := by omega
    subst this
    intro u3
    exact h g q hbest

theorem BestGroupCount_spec {b i : Int} {w : World} {K : Value → World → Prop} (h0 : 1 ≤ b) (hb : b ≤ 2147483648) (h1 : 1 ≤ i) (h2 : i ≤ 1048576)
    (h : ∀ g q, Best b i 2048 g q → K (tup [.int .u32 g, .int .u32 q]) w) : Cl P Fn.impl_BestGroupCount #[.int .u32 b, .int .u32 i] w K := by
  apply S_impl_BestGroupCount
  unfold F_impl_BestGroupCount
  refine jn_intro ?_
  have g1 : decide (b < 1) = false := by simp; omega
  have g2 : decide ((2147483648 : Int) < b) = false := by simp; omega
  have g3 : decide (i < 1) = false := by simp; omega
  have g4 : decide ((16777216 : Int) < i) = false := by simp; omega
  simp only [go_sem, g1, g2, g3, g4, Bool.false_eq_true, if_false]
  intro u
  apply S_compactext4_DoorBest
  unfold F_compactext4_DoorBest
  rw [C.compactext4_bestGroupCount]
  refine bestGroupCount_spec h0 hb h1 h2 fun g q hq => ?_
  simp only [go_sem]
  exact h g q hq

theorem tmod_16 {p : Int} (h0 : 0 ≤ p) (h : p.tmod 16 = 0) : ∃ k : Nat, p = 16 * k := by
  rw [Int.tmod_eq_emod_of_nonneg h0] at h
  exact ⟨(p / 16).toNat, by omega⟩

theorem FnGroupsGrow_walk (b i m o p : Int) (w : World) (wb : (Lit.int .u32 b).wf = true) (wi : (Lit.int .u32 i).wf = true) (wm : (Lit.int .u32 m).wf = true) (wo : (Lit.int .u32 o).wf = true) (wp : (Lit.int .u32 p).wf = true) :
    Cl P Fn.laws_FnGroupsGrow #[.int .u32 b, .int .u32 i, .int .u32 m, .int .u32 o, .int .u32 p] w fun v w' => v = .bool true ∧ Below w.heap.size w w' := by
  have hb := u32_bd wb
  have hi := u32_bd wi
  have hm := u32_bd wm
  have ho := u32_bd wo
  have hp := u32_bd wp
  apply S_laws_FnGroupsGrow
  unfold F_laws_FnGroupsGrow
  refine jn_intro ?_
  have n1 : (16 : Int) ≠ 0 := by omega
  have c1 : IntKind.u64.wrap b = b := w_u64 (by omega) (by omega)
  have c2 : IntKind.u64.wrap m = m := w_u64 (by omega) (by omega)
  have c3 : IntKind.u64.wrap i = i := w_u64 (by omega) (by omega)
  have c4 : IntKind.u64.wrap o = o := w_u64 (by omega) (by omega)
  have c5 : IntKind.u64.wrap (b + m) = b + m := w_u64 (by omega) (by omega)
  have c6 : IntKind.u64.wrap (i + o) = i + o := w_u64 (by omega) (by omega)
  by_cases g1 : b < 1
  · simp only [go_sem, oRem _ _ _ _ _ _ _ n1, g1, decide_true, if_true, Bool.true_eq_false, if_false]; exact ⟨trivial, Below.refl _ _⟩
  by_cases g2 : (2147483648 : Int) < b + m
  · simp only [go_sem, oRem _ _ _ _ _ _ _ n1, c1, c2, c3, c4, c5, c6, g1, g2, decide_true, decide_false, if_true, Bool.false_eq_true, if_false]; exact ⟨trivial, Below.refl _ _⟩
  by_cases g3 : i < 1
  · simp only [go_sem, oRem _ _ _ _ _ _ _ n1, c1, c2, c3, c4, c5, c6, g1, g2, g3, decide_true, decide_false, if_true, Bool.false_eq_true, if_false]; exact ⟨trivial, Below.refl _ _⟩
  by_cases g4 : (1048576 : Int) < i + o
  · simp only [go_sem, oRem _ _ _ _ _ _ _ n1, c1, c2, c3, c4, c5, c6, g1, g2, g3, g4, decide_true, decide_false, if_true, Bool.false_eq_true, if_false]; exact ⟨trivial, Below.refl _ _⟩
  by_cases g5 : p < 16
  · simp only [go_sem, oRem _ _ _ _ _ _ _ n1, c1, c2, c3, c4, c5, c6, g1, g2, g3, g4, g5, decide_true, decide_false, if_true, Bool.false_eq_true, if_false]; exact ⟨trivial, Below.refl _ _⟩
  by_cases g6 : (32768 : Int) < p
  · simp only [go_sem, oRem _ _ _ _ _ _ _ n1, c1, c2, c3, c4, c5, c6, g1, g2, g3, g4, g5, g6, decide_true, decide_false, if_true, Bool.false_eq_true, if_false]; exact ⟨trivial, Below.refl _ _⟩
  by_cases g7 : p.tmod 16 = 0
  · simp only [go_sem, oRem _ _ _ _ _ _ _ n1, c1, c2, c3, c4, c5, c6, g1, g2, g3, g4, g5, g6, g7, decide_true, decide_false, if_true, Bool.false_eq_true, if_false, ne_eq, not_true_eq_false]
    intro u
    have d1 : IntKind.u32.wrap (b + m) = b + m := w_u32 (by omega) (by omega)
    have d2 : IntKind.u32.wrap (i + o) = i + o := w_u32 (by omega) (by omega)
    refine GroupCount_spec (by omega) (by omega) (by omega) (by omega) (by omega) (by omega) g7 ?_
    simp only [go_sem, d1, d2]
    refine GroupCount_spec (by omega) (by omega) (by omega) (by omega) (by omega) (by omega) g7 ?_
    refine BestGroupCount_spec (by omega) (by omega) (by omega) (by omega) fun x q hx => ?_
    simp only [go_sem]
    refine BestGroupCount_spec (by omega) (by omega) (by omega) (by omega) fun y q' hy => ?_
    obtain ⟨k, hk⟩ := tmod_16 (by omega) g7
    have hk1 : 1 ≤ k := by omega
    have hpk : p = 16 * (((k - 1 : Nat) : Int) + 1) := by omega
    have ga := Gr_bd (b := b) (i := i) (p := p) (by omega) (by omega) (by omega) (by omega) (by omega) (by omega)
    have gab : Gr b i p ≤ Gr (b + m) (i + o) p := Gr_mono (by omega) (by omega) (by omega) (by omega) (by omega) (by omega)
    have xa : x ≤ Gr b i p := by rw [hpk]; exact hx.2.1 (k - 1) (by omega)
    have yb : y ≤ Gr (b + m) (i + o) p := by rw [hpk]; exact hy.2.1 (k - 1) (by omega)
    obtain ⟨k1, hk1', ex⟩ := hx.2.2.1 (by omega)
    obtain ⟨k2, hk2', ey⟩ := hy.2.2.1 (by omega)
    have x1 : 1 ≤ x := by rw [ex]; exact (Gr_bd (by omega) (by omega) (by omega) (by omega) (by omega) (by omega)).1
    have xy : x ≤ y := by
      have h1 := hx.2.1 k2 hk2'
      have h2 : Gr b i (16 * (k2 + 1)) ≤ y := by rw [ey]; exact Gr_mono (by omega) (by omega) (by omega) (by omega) (by omega) (by omega)
      omega
    have ga1 := ga.1
    simp only [go_sem, ga1, gab, x1, xy, xa, yb, decide_true, if_true]
    exact ⟨trivial, Below.refl _ _⟩
  · simp only [go_sem, oRem _ _ _ _ _ _ _ n1, c1, c2, c3, c4, c5, c6, g1, g2, g3, g4, g5, g6, g7, decide_true, decide_false, if_true, Bool.false_eq_true, if_false, ne_eq, not_false_eq_true]; exact ⟨trivial, Below.refl _ _⟩
end Go.Proofs.Ytdilealdddbhnaa.X
