/- FnSplitFirst: the walk and the row. -/
import Derived.Test.YtdilealdddbhnaaXT
import Derived.Test.YtdilealdddbhnaaXF0
import Derived.Test.YtdilealdddbhnaaXF1
set_option linter.unusedVariables false
set_option linter.unusedSimpArgs false
set_option maxRecDepth 100000
namespace Go.Proofs.Ytdilealdddbhnaa.X
open Go Go.X Go.Proofs Go.RowKit

theorem ext_IndexByteString {l : List UInt8} {c : Int} {w : World} {K : Value → World → Prop} : st P (oCall Fn.bytealg_IndexByteString #[S l, .int .u8 c]) w K = K (.int .i64 (Lib.indexByte l c.toNat.toUInt8)) w :=
  st_extern Try.func83 (by kernel_rfl) (by kernel_rfl) (by kernel_rfl) (by kernel_rfl) (Lib.run_indexByteString _ c w)

theorem IndexByte_spec {l : List UInt8} {c : Int} {w : World} {K : Value → World → Prop} (h : K (.int .i64 (Lib.indexByte l c.toNat.toUInt8)) w) : Cl P Fn.stringslite_IndexByte #[S l, .int .u8 c] w K := by
  apply S_stringslite_IndexByte
  unfold F_stringslite_IndexByte
  rw [ext_IndexByteString]
  exact h

theorem strings_IndexByte_spec {l : List UInt8} {c : Int} {w : World} {K : Value → World → Prop} (h : K (.int .i64 (Lib.indexByte l c.toNat.toUInt8)) w) : Cl P Fn.strings_IndexByte #[S l, .int .u8 c] w K := by
  apply S_strings_IndexByte
  unfold F_strings_IndexByte
  rw [C.stringslite_IndexByte]
  exact IndexByte_spec h

def cut1 : List UInt8 → List UInt8
  | [] => []
  | b :: l => if b = 47 then [] else b :: cut1 l
def cut2 : List UInt8 → List UInt8
  | [] => []
  | b :: l => if b = 47 then l else cut2 l

theorem indexByte_eq (l : List UInt8) : Lib.indexByte l 47 = if 47 ∈ l then ((cut1 l).length : Int) else -1 := by
  induction l with
  | nil => rfl
  | cons b l ih =>
    unfold Lib.indexByte
    by_cases h : b = 47
    · subst h; simp [cut1]
    · have h' : ¬ 47 = b := fun e => h e.symm
      simp only [beq_iff_eq, h, if_false, ih, List.mem_cons, h', false_or, cut1]
      by_cases hm : 47 ∈ l
      · have : ¬ (((cut1 l).length : Int) = -1) := by omega
        simp [hm, this]
      · simp [hm]

theorem cut_none {l : List UInt8} (h : ¬ (47 : UInt8) ∈ l) : cut1 l = l ∧ cut2 l = [] := by
  induction l with
  | nil => exact ⟨rfl, rfl⟩
  | cons b l ih =>
    have h1 : ¬ b = 47 := fun e => h (by rw [e]; exact List.mem_cons_self ..)
    have h2 := ih fun e => h (List.mem_cons_of_mem _ e)
    simp [cut1, cut2, h1, h2]
theorem cut_take (l : List UInt8) : l.take (cut1 l).length = cut1 l := by
  induction l with
  | nil => rfl
  | cons b l ih => by_cases h : b = 47 <;> simp [cut1, h, ih]
theorem cut_drop (l : List UInt8) : l.drop ((cut1 l).length + 1) = cut2 l := by
  induction l with
  | nil => rfl
  | cons b l ih => by_cases h : b = 47 <;> simp [cut1, cut2, h, ih]
theorem cut_lt {l : List UInt8} (h : (47 : UInt8) ∈ l) : (cut1 l).length < l.length := by
  induction l with
  | nil => cases h
  | cons b l ih =>
    by_cases hb : b = 47
    · simp [cut1, hb]
    · have : 47 ∈ l := by cases h with
        | head => exact absurd rfl hb
        | tail _ h => exact h
      simpa [cut1, hb] using ih this
theorem cut_at (l : List UInt8) (i : Nat) (h : i < (cut1 l).length) : l.getD i 0 ≠ 47 := by
  induction l generalizing i with
  | nil => simp [cut1] at h
  | cons b l ih =>
    by_cases hb : b = 47
    · simp [cut1, hb] at h
    · simp [cut1, hb] at h
      cases i with
      | zero => simpa using hb
      | succ i => simpa using ih i (by omega)
theorem cut_here {l : List UInt8} (h : (cut1 l).length < l.length) : l.getD (cut1 l).length 0 = 47 := by
  induction l with
  | nil => simp at h
  | cons b l ih =>
    by_cases hb : b = 47
    · simp [cut1, hb]
    · simp only [cut1, hb, if_false, List.length_cons] at h ⊢
      simpa using ih (by omega)

theorem splitFirst_spec {l : List UInt8} {w : World} {K : Value → World → Prop} (hl : l.length ≤ 140737488351232) (h : ∀ w', Below w.heap.size w w' → K (tup [S (cut1 l), S (cut2 l)]) w') : Cl P Fn.compactext4_splitFirst #[S l] w K := by
  apply S_compactext4_splitFirst
  unfold F_compactext4_splitFirst
  rw [C.strings_IndexByte]
  refine strings_IndexByte_spec ?_
  refine jn_intro ?_
  have e1 : ((47 : Int).toNat.toUInt8) = 47 := rfl
  rw [e1, indexByte_eq]
  by_cases hm : (47 : UInt8) ∈ l
  · have hlt := cut_lt hm
    rw [if_pos hm]
    have hw : IntKind.i64.wrap ((cut1 l).length + 1 : Int) = (cut1 l).length + 1 := w_i64 (by omega) (by omega)
    simp only [go_sem]
    rw [if_pos (by simp)]
    rw [oSliceS_hi _ _ _ _ _ U.string (by omega) (by omega), hw, oSliceS_lo _ _ _ _ _ U.string (by omega) (by omega)]
    have e2 : ((cut1 l).length : Int).toNat = (cut1 l).length := rfl
    have e3 : ((cut1 l).length + 1 : Int).toNat = (cut1 l).length + 1 := rfl
    rw [e2, e3, cut_take, cut_drop]
    exact h _ (Below.refl _ _).drew
  · obtain ⟨h1, h2⟩ := cut_none hm
    rw [if_neg hm]
    simp only [go_sem]
    rw [if_neg (by simp)]
    intro u
    have := h _ (Below.refl _ _)
    rw [h1, h2] at this
    exact this

theorem DoorSplit_spec {l : List UInt8} {w : World} {K : Value → World → Prop} (hl : l.length ≤ 140737488351232) (h : ∀ w', Below w.heap.size w w' → K (tup [S (cut1 l), S (cut2 l)]) w') : Cl P Fn.compactext4_DoorSplit #[S l] w K := by
  apply S_compactext4_DoorSplit
  unfold F_compactext4_DoorSplit
  rw [C.compactext4_splitFirst]
  refine splitFirst_spec hl fun w1 b1 => ?_
  simp only [go_sem]
  exact h _ b1
theorem SplitFirst_spec {l : List UInt8} {w : World} {K : Value → World → Prop} (hl : l.length ≤ 140737488351232) (h : ∀ w', Below w.heap.size w w' → K (tup [S (cut1 l), S (cut2 l)]) w') : Cl P Fn.impl_SplitFirst #[S l] w K := by
  apply S_impl_SplitFirst
  unfold F_impl_SplitFirst
  rw [C.compactext4_DoorSplit]
  refine DoorSplit_spec hl fun w1 b1 => ?_
  simp only [go_sem]
  exact h _ b1

def iv : Value → Int
  | .int _ n => n
  | _ => 0

theorem byte_of_int {b c : UInt8} (h : (b.toNat : Int) = (c.toNat : Int)) : b = c := UInt8.toNat_inj.1 (by omega)

theorem FnSplitFirst_walk (l : List UInt8) (w : World) (hl : l.length ≤ 140737488351232) : Cl P Fn.laws_FnSplitFirst #[S l] w fun v w' => v = .bool true ∧ Below w.heap.size w w' := by
  apply S_laws_FnSplitFirst
  unfold F_laws_FnSplitFirst
  refine jn_intro ?_
  simp only [go_sem]
  by_cases hbig : (2147483647 : Int) < l.length
  · rw [if_pos (by simpa using hbig)]
    exact ⟨trivial, Below.refl _ _⟩
  rw [if_neg (by simpa using hbig)]
  intro u
  refine jn_intro ?_
  refine lp_intro (fun s w' => ∃ i : Nat, s = [.int .i64 i] ∧ i ≤ (cut1 l).length ∧ Below w.heap.size w w') (fun s _ => l.length - (iv (gs s 0)).toNat) ⟨0, rfl, Nat.zero_le _, Below.refl _ _⟩ ?_
  rintro s u1 w1 ⟨i, rfl, hi, hb⟩
  refine jn_intro ?_
  by_cases hend : i < (cut1 l).length
  · have hlt : i < l.length := by
      by_cases hm : (47 : UInt8) ∈ l
      · have := cut_lt hm; omega
      · rw [(cut_none hm).1] at hend; exact hend
    have hc : (i : Int) < (l.length : Int) := by omega
    have hne := cut_at l i hend
    have hb8 : ¬ (((l.getD i 0).toNat : Int) = 47) := fun e => hne (byte_of_int e)
    simp only [go_sem, hc, if_true, decide_true, oIdxS _ _ _ _ _ U.string (show (0 : Int) ≤ (i : Int) by omega) hc, Int.toNat_natCast, hb8, ne_eq, not_false_eq_true]
    intro u2
    rw [w_i64 (by omega) (by omega)]
    exact ⟨⟨i + 1, rfl, by omega, hb⟩, by simp [iv, gs]; omega⟩
  · have hi' : i = (cut1 l).length := by omega
    clear hi hend
    subst hi'
    by_cases hm : (47 : UInt8) ∈ l
    · have hlt := cut_lt hm
      have hc : ((cut1 l).length : Int) < (l.length : Int) := by omega
      have hat := cut_here hlt
      have e47 : ((((47 : UInt8).toNat) : Int) = 47) := by decide
      simp only [go_sem, hc, if_true, decide_true, oIdxS _ _ _ _ _ U.string (show (0 : Int) ≤ ((cut1 l).length : Int) by omega) hc, Int.toNat_natCast, hat, e47, ne_eq, not_true_eq_false, decide_false, Bool.false_eq_true, if_false]
      intro u2
      refine SplitFirst_spec hl fun w3 b3 => ?_
      have hne : ¬ (((cut1 l).length : Int) = (l.length : Int)) := by omega
      simp only [go_sem]
      refine jn_intro ?_
      simp only [hne, decide_false, Bool.false_eq_true, if_false]
      intro u3
      rw [oSliceS_hi _ _ _ _ _ U.string (by omega) (by omega)]
      simp only [go_sem, Int.toNat_natCast, cut_take, decide_true, if_true]
      rw [w_i64 (by omega) (by omega)]
      rw [oSliceS_lo _ _ _ _ _ U.string (by omega) (by omega)]
      have e3 : ((cut1 l).length + 1 : Int).toNat = (cut1 l).length + 1 := rfl
      simp only [go_sem, e3, cut_drop, decide_true, if_true]
      exact ⟨trivial, hb.trans (b3.mono hb.size)⟩
    · obtain ⟨h1, h2⟩ := cut_none hm
      have hc : ¬ (((cut1 l).length : Int) < (l.length : Int)) := by rw [h1]; omega
      have he : ((cut1 l).length : Int) = (l.length : Int) := by rw [h1]
      simp only [go_sem, hc, decide_false, Bool.false_eq_true, if_false]
      intro u2
      refine SplitFirst_spec hl fun w3 b3 => ?_
      simp only [go_sem]
      refine jn_intro ?_
      simp only [go_sem, he, h1, h2, decide_true, if_true]
      exact ⟨trivial, hb.trans (b3.mono hb.size)⟩
end Go.Proofs.Ytdilealdddbhnaa.X
