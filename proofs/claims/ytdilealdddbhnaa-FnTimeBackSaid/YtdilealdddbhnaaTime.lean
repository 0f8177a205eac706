/- FnTimeBack: the walk. No condition beside the form's own. -/
import Derived.Test.YtdilealdddbhnaaXU
import Derived.Test.YtdilealdddbhnaaXBel
import Derived.Test.YtdilealdddbhnaaXF0
set_option linter.unusedVariables false
set_option linter.unusedSimpArgs false
set_option maxRecDepth 100000
namespace Go.Proofs.Ytdilealdddbhnaa.X
open Go Go.X Go.Proofs Go.RowKit

/-- A time's cells. -/
abbrev tm (b : Bool) (s n : Int) : Value := AG [.bool b, .int .i64 s, .int .i64 n]
def fsOf (b : Bool) (s n : Int) : Int := if b = true then s + n * 17179869184 else 0

theorem toFs_spec {b : Bool} {s n : Int} {w : World} {K : Value → World → Prop} (hr : b = true → 0 ≤ s ∧ s ≤ 15032385535 ∧ 0 ≤ n ∧ n ≤ 999999999)
    (h : ∀ w', Below w.heap.size w w' → K (.int .u64 (fsOf b s n)) w') : Cl P Fn.compactext4_timeToFsTime #[tm b s n] w K := by
  apply S_compactext4_timeToFsTime
  unfold F_compactext4_timeToFsTime
  cases b with
  | false =>
    repeat (first | refine jn_intro ?_ | refine fun (_ : Env) => ?_ | simp (disch := first | omega | (simp only [size_setb, size_alloc', size_drew'] <;> omega) | (simp (disch := first | omega | (simp only [size_setb, size_alloc', size_drew'] <;> omega) | fail) only [go_sem]; done) | fail) only [go_sem, dec_t, dec_f, w_u32, w_u64, w_u16, w_u8, w_i64, Int.reduceToNat, Int.reducePow, Nat.reducePow])
    refine h _ ?_
    repeat (first | exact Below.refl _ _ | assumption | refine bel_setb ?_ (by first | exact Nat.le_refl _ | omega | (simp only [go_sem] <;> omega)) _ | refine Below.alloc ?_ (by first | exact Nat.le_refl _ | omega | (simp only [go_sem]; omega)) _ | refine Below.drew ?_)
  | true =>
    obtain ⟨h0, h1, h2, h3⟩ := hr rfl
    repeat (first | refine jn_intro ?_ | refine fun (_ : Env) => ?_ | simp (disch := first | omega | (simp only [size_setb, size_alloc', size_drew'] <;> omega) | (simp (disch := first | omega | (simp only [size_setb, size_alloc', size_drew'] <;> omega) | fail) only [go_sem]; done) | fail) only [go_sem, dec_t, dec_f, w_u32, w_u64, w_u16, w_u8, w_i64, Int.reduceToNat, Int.reducePow, Nat.reducePow])
    have e : ((s.toNat ||| (n * 17179869184).toNat : Nat) : Int) = fsOf true s n := by
      rw [or_add 34 (by omega) (by omega)]
      unfold fsOf
      simp only [if_true]
      omega
    rw [e]
    refine h _ ?_
    repeat (first | exact Below.refl _ _ | assumption | refine bel_setb ?_ (by first | exact Nat.le_refl _ | omega | (simp only [go_sem] <;> omega)) _ | refine Below.alloc ?_ (by first | exact Nat.le_refl _ | omega | (simp only [go_sem]; omega)) _ | refine Below.drew ?_)

def tmOf (x : Int) : Value := if x = 0 then tm false 0 0 else tm true (x % 17179869184) (x / 17179869184)

theorem fromFs_spec {x : Int} {w : World} {K : Value → World → Prop} (h0 : 0 ≤ x) (h1 : x ≤ 18446744073709551615) (h2 : ¬ (2147483648 ≤ x % 17179869184 ∧ x % 17179869184 < 4294967296))
    (h : ∀ w', Below w.heap.size w w' → K (tmOf x) w') : Cl P Fn.compactext4_fsTimeToTime #[.int .u64 x] w K := by
  apply S_compactext4_fsTimeToTime
  unfold F_compactext4_fsTimeToTime
  by_cases hx : x = 0
  · subst hx
    repeat (first | refine jn_intro ?_ | refine fun (_ : Env) => ?_ | simp (disch := first | omega | (simp only [size_setb, size_alloc', size_drew'] <;> omega) | (simp (disch := first | omega | (simp only [size_setb, size_alloc', size_drew'] <;> omega) | fail) only [go_sem]; done) | fail) only [go_sem, dec_t, dec_f, w_u32, w_u64, w_u16, w_u8, w_i64, Int.reduceToNat, Int.reducePow, Nat.reducePow])
    rw [show tmOf 0 = tm false 0 0 from rfl] at h
    refine h _ ?_
    repeat (first | exact Below.refl _ _ | assumption | refine bel_setb ?_ (by first | exact Nat.le_refl _ | omega | (simp only [go_sem] <;> omega)) _ | refine Below.alloc ?_ (by first | exact Nat.le_refl _ | omega | (simp only [go_sem]; omega)) _ | refine Below.drew ?_)
  · have e : ((x.toNat &&& 17179869183 : Nat) : Int) = x % 17179869184 := by
      rw [show (17179869183 : Nat) = 2 ^ 34 - 1 from rfl, and_low]
      omega
    have et : tmOf x = tm true (x % 17179869184) (x / 17179869184) := if_neg hx
    rw [et] at h
    by_cases hb : x % 17179869184 > 2147483647
    · have hc : ¬ (x % 17179869184 < 4294967296) := by omega
      repeat (first | refine jn_intro ?_ | refine fun (_ : Env) => ?_ | simp (disch := first | omega | (simp only [size_setb, size_alloc', size_drew'] <;> omega) | (simp (disch := first | omega | (simp only [size_setb, size_alloc', size_drew'] <;> omega) | fail) only [go_sem]; done) | fail) only [go_sem, dec_t, dec_f, w_u32, w_u64, w_u16, w_u8, w_i64, Int.reduceToNat, Int.reducePow, Nat.reducePow])
      rw [e]
      refine h _ ?_
      repeat (first | exact Below.refl _ _ | assumption | refine bel_setb ?_ (by first | exact Nat.le_refl _ | omega | (simp only [go_sem] <;> omega)) _ | refine Below.alloc ?_ (by first | exact Nat.le_refl _ | omega | (simp only [go_sem]; omega)) _ | refine Below.drew ?_)
    · repeat (first | refine jn_intro ?_ | refine fun (_ : Env) => ?_ | simp (disch := first | omega | (simp only [size_setb, size_alloc', size_drew'] <;> omega) | (simp (disch := first | omega | (simp only [size_setb, size_alloc', size_drew'] <;> omega) | fail) only [go_sem]; done) | fail) only [go_sem, dec_t, dec_f, w_u32, w_u64, w_u16, w_u8, w_i64, Int.reduceToNat, Int.reducePow, Nat.reducePow])
      rw [e]
      refine h _ ?_
      repeat (first | exact Below.refl _ _ | assumption | refine bel_setb ?_ (by first | exact Nat.le_refl _ | omega | (simp only [go_sem] <;> omega)) _ | refine Below.alloc ?_ (by first | exact Nat.le_refl _ | omega | (simp only [go_sem]; omega)) _ | refine Below.drew ?_)

/-- A time's cells go through the thin package as they are. -/
theorem implToFs_spec {b : Bool} {s n : Int} {w : World} {K : Value → World → Prop} (hr : b = true → 0 ≤ s ∧ s ≤ 15032385535 ∧ 0 ≤ n ∧ n ≤ 999999999)
    (h : ∀ w', Below w.heap.size w w' → K (.int .u64 (fsOf b s n)) w') : Cl P Fn.impl_TimeToFs #[tm b s n] w K := by
  apply S_impl_TimeToFs
  unfold F_impl_TimeToFs
  repeat (first | refine jn_intro ?_ | refine fun (_ : Env) => ?_ | simp (disch := first | omega | (simp only [size_setb, size_alloc', size_drew'] <;> omega) | (simp (disch := first | omega | (simp only [size_setb, size_alloc', size_drew'] <;> omega) | fail) only [go_sem]; done) | fail) only [go_sem, dec_t, dec_f, w_u32, w_u64, w_u16, w_u8, w_i64, Int.reduceToNat, Int.reducePow, Nat.reducePow])
  apply S_impl_toTime
  unfold F_impl_toTime
  repeat (first | refine jn_intro ?_ | refine fun (_ : Env) => ?_ | simp (disch := first | omega | (simp only [size_setb, size_alloc', size_drew'] <;> omega) | (simp (disch := first | omega | (simp only [size_setb, size_alloc', size_drew'] <;> omega) | fail) only [go_sem]; done) | fail) only [go_sem, dec_t, dec_f, w_u32, w_u64, w_u16, w_u8, w_i64, Int.reduceToNat, Int.reducePow, Nat.reducePow])
  apply S_compactext4_DoorTimeToFs
  unfold F_compactext4_DoorTimeToFs
  repeat (first | refine jn_intro ?_ | refine fun (_ : Env) => ?_ | simp (disch := first | omega | (simp only [size_setb, size_alloc', size_drew'] <;> omega) | (simp (disch := first | omega | (simp only [size_setb, size_alloc', size_drew'] <;> omega) | fail) only [go_sem]; done) | fail) only [go_sem, dec_t, dec_f, w_u32, w_u64, w_u16, w_u8, w_i64, Int.reduceToNat, Int.reducePow, Nat.reducePow])
  refine toFs_spec hr fun w' hw => ?_
  repeat (first | refine jn_intro ?_ | refine fun (_ : Env) => ?_ | simp (disch := first | omega | (simp only [size_setb, size_alloc', size_drew'] <;> omega) | (simp (disch := first | omega | (simp only [size_setb, size_alloc', size_drew'] <;> omega) | fail) only [go_sem]; done) | fail) only [go_sem, dec_t, dec_f, w_u32, w_u64, w_u16, w_u8, w_i64, Int.reduceToNat, Int.reducePow, Nat.reducePow])
  refine h w' (bel_on hw ?_ ?_)
  · repeat (first | exact Below.refl _ _ | assumption | refine bel_setb ?_ (by first | exact Nat.le_refl _ | omega | (simp only [go_sem] <;> omega)) _ | refine Below.alloc ?_ (by first | exact Nat.le_refl _ | omega | (simp only [go_sem]; omega)) _ | refine Below.drew ?_)
  · simp only [go_sem]; omega
theorem implFromFs_spec {x : Int} {w : World} {K : Value → World → Prop} (h0 : 0 ≤ x) (h1 : x ≤ 18446744073709551615) (h2 : ¬ (2147483648 ≤ x % 17179869184 ∧ x % 17179869184 < 4294967296))
    (h : ∀ w', Below w.heap.size w w' → K (tmOf x) w') : Cl P Fn.impl_FsToTime #[.int .u64 x] w K := by
  apply S_impl_FsToTime
  unfold F_impl_FsToTime
  repeat (first | refine jn_intro ?_ | refine fun (_ : Env) => ?_ | simp (disch := first | omega | (simp only [size_setb, size_alloc', size_drew'] <;> omega) | (simp (disch := first | omega | (simp only [size_setb, size_alloc', size_drew'] <;> omega) | fail) only [go_sem]; done) | fail) only [go_sem, dec_t, dec_f, w_u32, w_u64, w_u16, w_u8, w_i64, Int.reduceToNat, Int.reducePow, Nat.reducePow])
  apply S_compactext4_DoorFsToTime
  unfold F_compactext4_DoorFsToTime
  repeat (first | refine jn_intro ?_ | refine fun (_ : Env) => ?_ | simp (disch := first | omega | (simp only [size_setb, size_alloc', size_drew'] <;> omega) | (simp (disch := first | omega | (simp only [size_setb, size_alloc', size_drew'] <;> omega) | fail) only [go_sem]; done) | fail) only [go_sem, dec_t, dec_f, w_u32, w_u64, w_u16, w_u8, w_i64, Int.reduceToNat, Int.reducePow, Nat.reducePow])
  refine fromFs_spec h0 h1 h2 fun w1 hw1 => ?_
  have z1 := hw1.size
  simp only [go_sem] at z1
  have b1 : bk w1 (w.heap.size + 1) = some (CB [.bool false, .int .i64 0, .int .i64 0] T.compactext4_Time) := by
    rw [bel_bk hw1 (by simp only [go_sem]; omega)]
    simp (disch := first | omega | (simp only [size_setb, size_alloc', size_drew'] <;> omega) | (simp (disch := first | omega | (simp only [size_setb, size_alloc', size_drew'] <;> omega) | fail) only [go_sem]; done) | fail) only [go_sem, dec_t, dec_f, w_u32, w_u64, w_u16, w_u8, w_i64, Int.reduceToNat, Int.reducePow, Nat.reducePow]
  have b0 : bk w1 w.heap.size = some (CB [.bool false, .int .i64 0, .int .i64 0] T.impl_Time) := by
    rw [bel_bk hw1 (by simp only [go_sem]; omega)]
    simp (disch := first | omega | (simp only [size_setb, size_alloc', size_drew'] <;> omega) | (simp (disch := first | omega | (simp only [size_setb, size_alloc', size_drew'] <;> omega) | fail) only [go_sem]; done) | fail) only [go_sem, dec_t, dec_f, w_u32, w_u64, w_u16, w_u8, w_i64, Int.reduceToNat, Int.reducePow, Nat.reducePow]
  have bel1 : Below w.heap.size w w1 := bel_on hw1 (by repeat (first | exact Below.refl _ _ | assumption | refine bel_setb ?_ (by first | exact Nat.le_refl _ | omega | (simp only [go_sem] <;> omega)) _ | refine Below.alloc ?_ (by first | exact Nat.le_refl _ | omega | (simp only [go_sem]; omega)) _ | refine Below.drew ?_)) (by simp only [go_sem]; omega)
  have et : ∃ b s n, tmOf x = tm b s n := by
    unfold tmOf
    split
    · exact ⟨_, _, _, rfl⟩
    · exact ⟨_, _, _, rfl⟩
  obtain ⟨b, s, n, et⟩ := et
  rw [et] at h ⊢
  simp (disch := first | omega | (simp only [size_setb, size_alloc', size_drew'] <;> omega) | (simp (disch := first | omega | (simp only [size_setb, size_alloc', size_drew'] <;> omega) | fail) only [go_sem, b1]; done) | fail) only [go_sem, dec_t, dec_f, w_u32, w_u64, w_u16, w_u8, w_i64, Int.reduceToNat, Int.reducePow, Nat.reducePow, b1]
  apply S_impl_fromTime
  unfold F_impl_fromTime
  simp (disch := first | omega | (simp only [size_setb, size_alloc', size_drew'] <;> omega) | (simp (disch := first | omega | (simp only [size_setb, size_alloc', size_drew'] <;> omega) | fail) only [go_sem, b1, b0]; done) | fail) only [go_sem, dec_t, dec_f, w_u32, w_u64, w_u16, w_u8, w_i64, Int.reduceToNat, Int.reducePow, Nat.reducePow, b1, b0]
  refine h _ ?_
  repeat (first | exact Below.refl _ _ | assumption | refine bel_setb ?_ (by first | exact Nat.le_refl _ | omega | (simp only [go_sem] <;> omega)) _ | refine Below.alloc ?_ (by first | exact Nat.le_refl _ | omega | (simp only [go_sem]; omega)) _ | refine Below.drew ?_)

theorem laid_spec {b : Bool} {s n : Int} {w : World} {K : Value → World → Prop} (hr : b = true → s ≤ 15032385535)
    (h : ∀ w', Below w.heap.size w w' → K (AG [.int .i64 (if b = true then s else 0), .int .i64 (if b = true then n else 0)]) w') : Cl P Fn.spec_Laid #[tm b s n] w K := by
  apply S_spec_Laid
  unfold F_spec_Laid
  cases b with
  | false =>
    repeat (first | refine jn_intro ?_ | refine fun (_ : Env) => ?_ | simp (disch := first | omega | (simp only [size_setb, size_alloc', size_drew'] <;> omega) | (simp (disch := first | omega | (simp only [size_setb, size_alloc', size_drew'] <;> omega) | fail) only [go_sem]; done) | fail) only [go_sem, dec_t, dec_f, w_u32, w_u64, w_u16, w_u8, w_i64, Int.reduceToNat, Int.reducePow, Nat.reducePow])
    refine h _ ?_
    repeat (first | exact Below.refl _ _ | assumption | refine bel_setb ?_ (by first | exact Nat.le_refl _ | omega | (simp only [go_sem] <;> omega)) _ | refine Below.alloc ?_ (by first | exact Nat.le_refl _ | omega | (simp only [go_sem]; omega)) _ | refine Below.drew ?_)
  | true =>
    have h1 := hr rfl
    repeat (first | refine jn_intro ?_ | refine fun (_ : Env) => ?_ | simp (disch := first | omega | (simp only [size_setb, size_alloc', size_drew'] <;> omega) | (simp (disch := first | omega | (simp only [size_setb, size_alloc', size_drew'] <;> omega) | fail) only [go_sem]; done) | fail) only [go_sem, dec_t, dec_f, w_u32, w_u64, w_u16, w_u8, w_i64, Int.reduceToNat, Int.reducePow, Nat.reducePow])
    refine h _ ?_
    repeat (first | exact Below.refl _ _ | assumption | refine bel_setb ?_ (by first | exact Nat.le_refl _ | omega | (simp only [go_sem] <;> omega)) _ | refine Below.alloc ?_ (by first | exact Nat.le_refl _ | omega | (simp only [go_sem]; omega)) _ | refine Below.drew ?_)
theorem back_spec {s n : Int} {w : World} {K : Value → World → Prop} 
    (h : ∀ w', Below w.heap.size w w' → K (tm (!(decide (s = 0) && decide (n = 0))) s n) w') : Cl P Fn.spec_Back #[AG [.int .i64 s, .int .i64 n]] w K := by
  apply S_spec_Back
  unfold F_spec_Back
  repeat (first | refine jn_intro ?_ | refine fun (_ : Env) => ?_ | simp (disch := first | omega | (simp only [size_setb, size_alloc', size_drew'] <;> omega) | (simp (disch := first | omega | (simp only [size_setb, size_alloc', size_drew'] <;> omega) | fail) only [go_sem]; done) | fail) only [go_sem, dec_t, dec_f, w_u32, w_u64, w_u16, w_u8, w_i64, Int.reduceToNat, Int.reducePow, Nat.reducePow])
  refine h _ ?_
  repeat (first | exact Below.refl _ _ | assumption | refine bel_setb ?_ (by first | exact Nat.le_refl _ | omega | (simp only [go_sem] <;> omega)) _ | refine Below.alloc ?_ (by first | exact Nat.le_refl _ | omega | (simp only [go_sem]; omega)) _ | refine Below.drew ?_)
set_option maxHeartbeats 4000000 in
theorem time_main {s n : Int} {w w0 : World} (q1 : 0 ≤ s) (q2 : s ≤ 15032385535) (q3 : 0 ≤ n) (q4 : n ≤ 999999999) (q5 : s / 2147483648 % 2 = 0) (bw : Below w.heap.size w w0) (hb : bk w0 w.heap.size = some (CB [.bool true, .int .i64 s, .int .i64 n] T.impl_Time)) (hz : w.heap.size < w0.heap.size)
    {G : Value → Value → World → Prop} (hG : ∀ w', Below w0.heap.size w0 w' → G (tm (!(decide (s = 0) && decide (n = 0))) s n) (tm (!(decide (s = 0) && decide (n = 0))) s n) w') : Cl P Fn.impl_TimeToFs #[tm true s n] w0 fun t41 w4 =>
    hold P (oLoad T.impl_Time (pt w.heap.size 0)) (tm true s n) w4 ∧
      Cl P Fn.impl_FsToTime #[t41] w4 fun t42 w5 =>
        hold P (oLoad T.impl_Time (pt w.heap.size 0)) (tm true s n) w5 ∧
          Cl P Fn.spec_Laid #[tm true s n] w5 fun t44 w6 =>
            Cl P Fn.spec_Back #[t44] w6 fun t45 w7 => G t42 t45 w7 := by
  refine implToFs_spec (b := true) (fun _ => by omega) fun w1 h1 => ?_
  have b1 : bk w1 w.heap.size = some (CB [.bool true, .int .i64 s, .int .i64 n] T.impl_Time) := by rw [bel_bk h1 hz]; exact hb
  rw [show fsOf true s n = s + n * 17179869184 from rfl]
  refine ⟨?_, ?_⟩
  · simp (disch := first | omega | (simp only [size_setb, size_alloc', size_drew'] <;> omega) | (simp (disch := first | omega | (simp only [size_setb, size_alloc', size_drew'] <;> omega) | fail) only [go_sem, b1]; done) | fail) only [go_sem, dec_t, dec_f, w_u32, w_u64, w_u16, w_u8, w_i64, Int.reduceToNat, Int.reducePow, Nat.reducePow, b1]
  refine implFromFs_spec (by omega) (by omega) (by omega) fun w2 h2 => ?_
  have b2 : bk w2 w.heap.size = some (CB [.bool true, .int .i64 s, .int .i64 n] T.impl_Time) := by rw [bel_bk h2 (Nat.lt_of_lt_of_le hz h1.size)]; exact b1
  refine ⟨?_, ?_⟩
  · simp (disch := first | omega | (simp only [size_setb, size_alloc', size_drew'] <;> omega) | (simp (disch := first | omega | (simp only [size_setb, size_alloc', size_drew'] <;> omega) | fail) only [go_sem, b2]; done) | fail) only [go_sem, dec_t, dec_f, w_u32, w_u64, w_u16, w_u8, w_i64, Int.reduceToNat, Int.reducePow, Nat.reducePow, b2]
  have e : tmOf (s + n * 17179869184) = tm (!(decide (s = 0) && decide (n = 0))) s n := by
    unfold tmOf
    by_cases h : s + n * 17179869184 = 0
    · have hs : s = 0 := by omega
      have hn : n = 0 := by omega
      subst hs hn
      rfl
    · rw [if_neg h]
      have h1 : (s + n * 17179869184) % 17179869184 = s := by omega
      have h2 : (s + n * 17179869184) / 17179869184 = n := by omega
      have h3 : (decide (s = 0) && decide (n = 0)) = false := by
        by_cases hs : s = 0
        · by_cases hn : n = 0
          · omega
          · simp [hn]
        · simp [hs]
      rw [h1, h2, h3]; rfl
  rw [e]
  have h12 := bel_on h2 h1 h1.size
  refine laid_spec (b := true) (fun _ => q2) fun w3 h3 => ?_
  simp only [if_true]
  have h13 := bel_on h3 h12 h12.size
  refine back_spec fun w4 h4 => ?_
  have h14 := bel_on h4 h13 h13.size
  exact hG _ h14
set_option maxHeartbeats 4000000 in
theorem FnTimeBack_law (b : Bool) (s n : Int) (w : World) (hs : -9223372036854775808 ≤ s ∧ s ≤ 9223372036854775807) (hn : -9223372036854775808 ≤ n ∧ n ≤ 9223372036854775807) :
    Cl P Fn.laws_FnTimeBack #[tm b s n] w fun v w' => v = .bool true ∧ Below w.heap.size w w' := by
  apply S_laws_FnTimeBack
  unfold F_laws_FnTimeBack
  cases b with
  | false =>
    repeat (first | refine jn_intro ?_ | refine fun (_ : Env) => ?_ | simp (disch := first | omega | (simp only [size_setb, size_alloc', size_drew'] <;> omega) | (simp (disch := first | omega | (simp only [size_setb, size_alloc', size_drew'] <;> omega) | fail) only [go_sem]; done) | fail) only [go_sem, dec_t, dec_f, w_u32, w_u64, w_u16, w_u8, w_i64, Int.reduceToNat, Int.reducePow, Nat.reducePow])
    refine implToFs_spec (b := false) (fun h => by cases h) fun w1 h1 => ?_
    have b1 : Below w.heap.size w w1 := bel_on h1 (by repeat (first | exact Below.refl _ _ | assumption | refine bel_setb ?_ (by first | exact Nat.le_refl _ | omega | (simp only [go_sem] <;> omega)) _ | refine Below.alloc ?_ (by first | exact Nat.le_refl _ | omega | (simp only [go_sem]; omega)) _ | refine Below.drew ?_)) (by simp only [go_sem]; omega)
    rw [show fsOf false s n = 0 from rfl]
    refine implFromFs_spec (x := 0) (by omega) (by omega) (by omega) fun w2 h2 => ?_
    have b2 : Below w.heap.size w w2 := bel_on h2 b1 b1.size
    rw [show tmOf 0 = tm false 0 0 from rfl]
    repeat (first | refine jn_intro ?_ | refine fun (_ : Env) => ?_ | simp (disch := first | omega | (simp only [size_setb, size_alloc', size_drew'] <;> omega) | (simp (disch := first | omega | (simp only [size_setb, size_alloc', size_drew'] <;> omega) | fail) only [go_sem, decide_true, Bool.and_true]; done) | fail) only [go_sem, dec_t, dec_f, w_u32, w_u64, w_u16, w_u8, w_i64, Int.reduceToNat, Int.reducePow, Nat.reducePow, decide_true, Bool.and_true])
    refine implToFs_spec (b := true) (s := 1) (n := 0) (fun _ => by omega) fun w3 h3 => ?_
    have b3 : Below w.heap.size w w3 := bel_on h3 b2 b2.size
    rw [show fsOf true 1 0 = 1 from rfl]
    repeat (first | refine jn_intro ?_ | refine fun (_ : Env) => ?_ | simp (disch := first | omega | (simp only [size_setb, size_alloc', size_drew'] <;> omega) | (simp (disch := first | omega | (simp only [size_setb, size_alloc', size_drew'] <;> omega) | fail) only [go_sem, decide_true, Bool.and_true]; done) | fail) only [go_sem, dec_t, dec_f, w_u32, w_u64, w_u16, w_u8, w_i64, Int.reduceToNat, Int.reducePow, Nat.reducePow, decide_true, Bool.and_true])
    exact ⟨trivial, b3⟩
  | true =>
    have bw : Below w.heap.size w (w.alloc (CB [.bool true, .int .i64 s, .int .i64 n] T.impl_Time)) := by repeat (first | exact Below.refl _ _ | assumption | refine bel_setb ?_ (by first | exact Nat.le_refl _ | omega | (simp only [go_sem] <;> omega)) _ | refine Below.alloc ?_ (by first | exact Nat.le_refl _ | omega | (simp only [go_sem]; omega)) _ | refine Below.drew ?_)
    by_cases c1 : s < 0
    · repeat (first | refine jn_intro ?_ | refine fun (_ : Env) => ?_ | simp (disch := first | omega | (simp only [size_setb, size_alloc', size_drew'] <;> omega) | (simp (disch := first | omega | (simp only [size_setb, size_alloc', size_drew'] <;> omega) | fail) only [go_sem]; done) | fail) only [go_sem, dec_t, dec_f, w_u32, w_u64, w_u16, w_u8, w_i64, Int.reduceToNat, Int.reducePow, Nat.reducePow])
      exact ⟨trivial, bw⟩
    by_cases c2 : 15032385535 < s
    · repeat (first | refine jn_intro ?_ | refine fun (_ : Env) => ?_ | simp (disch := first | omega | (simp only [size_setb, size_alloc', size_drew'] <;> omega) | (simp (disch := first | omega | (simp only [size_setb, size_alloc', size_drew'] <;> omega) | fail) only [go_sem]; done) | fail) only [go_sem, dec_t, dec_f, w_u32, w_u64, w_u16, w_u8, w_i64, Int.reduceToNat, Int.reducePow, Nat.reducePow])
      exact ⟨trivial, bw⟩
    have e1 : ((s.toNat &&& 2147483648 : Nat) : Int) = s / 2147483648 % 2 * 2147483648 := by
      rw [show (2147483648 : Nat) = 2 ^ 31 from rfl, and_pow]
      omega
    by_cases c3 : ¬ s / 2147483648 % 2 = 0
    · have c4 : ¬ ((s.toNat &&& 2147483648 : Nat) : Int) = 0 := by omega
      repeat (first | refine jn_intro ?_ | refine fun (_ : Env) => ?_ | simp (disch := first | omega | (simp only [size_setb, size_alloc', size_drew'] <;> omega) | (simp (disch := first | omega | (simp only [size_setb, size_alloc', size_drew'] <;> omega) | fail) only [go_sem]; done) | fail) only [go_sem, dec_t, dec_f, w_u32, w_u64, w_u16, w_u8, w_i64, Int.reduceToNat, Int.reducePow, Nat.reducePow])
      exact ⟨trivial, bw⟩
    have c4 : ((s.toNat &&& 2147483648 : Nat) : Int) = 0 := by omega
    by_cases c5 : n < 0
    · repeat (first | refine jn_intro ?_ | refine fun (_ : Env) => ?_ | simp (disch := first | omega | (simp only [size_setb, size_alloc', size_drew'] <;> omega) | (simp (disch := first | omega | (simp only [size_setb, size_alloc', size_drew'] <;> omega) | fail) only [go_sem]; done) | fail) only [go_sem, dec_t, dec_f, w_u32, w_u64, w_u16, w_u8, w_i64, Int.reduceToNat, Int.reducePow, Nat.reducePow])
      exact ⟨trivial, bw⟩
    by_cases c6 : 1000000000 ≤ n
    · repeat (first | refine jn_intro ?_ | refine fun (_ : Env) => ?_ | simp (disch := first | omega | (simp only [size_setb, size_alloc', size_drew'] <;> omega) | (simp (disch := first | omega | (simp only [size_setb, size_alloc', size_drew'] <;> omega) | fail) only [go_sem]; done) | fail) only [go_sem, dec_t, dec_f, w_u32, w_u64, w_u16, w_u8, w_i64, Int.reduceToNat, Int.reducePow, Nat.reducePow])
      exact ⟨trivial, bw⟩
    repeat (first | refine jn_intro ?_ | refine fun (_ : Env) => ?_ | simp (disch := first | omega | (simp only [size_setb, size_alloc', size_drew'] <;> omega) | (simp (disch := first | omega | (simp only [size_setb, size_alloc', size_drew'] <;> omega) | fail) only [go_sem]; done) | fail) only [go_sem, dec_t, dec_f, w_u32, w_u64, w_u16, w_u8, w_i64, Int.reduceToNat, Int.reducePow, Nat.reducePow])
    refine time_main (w := w) (by omega) (by omega) (by omega) (by omega) (by omega) (by repeat (first | exact Below.refl _ _ | assumption | refine bel_setb ?_ (by first | exact Nat.le_refl _ | omega | (simp only [go_sem] <;> omega)) _ | refine Below.alloc ?_ (by first | exact Nat.le_refl _ | omega | (simp only [go_sem]; omega)) _ | refine Below.drew ?_)) (by simp (disch := first | omega | (simp only [size_setb, size_alloc', size_drew'] <;> omega) | (simp (disch := first | omega | (simp only [size_setb, size_alloc', size_drew'] <;> omega) | fail) only [go_sem]; done) | fail) only [go_sem, dec_t, dec_f, w_u32, w_u64, w_u16, w_u8, w_i64, Int.reduceToNat, Int.reducePow, Nat.reducePow]) (by simp only [go_sem]; omega) fun w1 h1 => ?_
    have b1 : bk w1 w.heap.size = some (CB [.bool true, .int .i64 s, .int .i64 n] T.impl_Time) := by
      rw [bel_bk h1 (by simp only [go_sem]; omega)]
      simp (disch := first | omega | (simp only [size_setb, size_alloc', size_drew'] <;> omega) | (simp (disch := first | omega | (simp only [size_setb, size_alloc', size_drew'] <;> omega) | fail) only [go_sem]; done) | fail) only [go_sem, dec_t, dec_f, w_u32, w_u64, w_u16, w_u8, w_i64, Int.reduceToNat, Int.reducePow, Nat.reducePow]
    have B1 : Below w.heap.size w w1 := bel_on h1 (by repeat (first | exact Below.refl _ _ | assumption | refine bel_setb ?_ (by first | exact Nat.le_refl _ | omega | (simp only [go_sem] <;> omega)) _ | refine Below.alloc ?_ (by first | exact Nat.le_refl _ | omega | (simp only [go_sem]; omega)) _ | refine Below.drew ?_)) (by simp only [go_sem]; omega)
    simp (disch := first | omega | (simp only [size_setb, size_alloc', size_drew'] <;> omega) | (simp (disch := first | omega | (simp only [size_setb, size_alloc', size_drew'] <;> omega) | fail) only [go_sem, b1, decide_true, Bool.and_true]; done) | fail) only [go_sem, dec_t, dec_f, w_u32, w_u64, w_u16, w_u8, w_i64, Int.reduceToNat, Int.reducePow, Nat.reducePow, b1, decide_true, Bool.and_true]
    refine implToFs_spec (b := true) (fun _ => by omega) fun w2 h2 => ?_
    have z2 := h1.size
    simp only [go_sem] at z2
    have b2 : bk w2 w.heap.size = some (CB [.bool true, .int .i64 s, .int .i64 n] T.impl_Time) := by
      rw [bel_bk h2 (by omega)]
      exact b1
    have B2 : Below w.heap.size w w2 := bel_on h2 B1 B1.size
    rw [show fsOf true s n = s + n * 17179869184 from rfl]
    refine ⟨fun _ => ?_, ?_⟩
    · simp (disch := first | omega | (simp only [size_setb, size_alloc', size_drew'] <;> omega) | (simp (disch := first | omega | (simp only [size_setb, size_alloc', size_drew'] <;> omega) | fail) only [go_sem, b2]; done) | fail) only [go_sem, dec_t, dec_f, w_u32, w_u64, w_u16, w_u8, w_i64, Int.reduceToNat, Int.reducePow, Nat.reducePow, b2]
    by_cases g1 : s = 0
    · by_cases g2 : n = 0
      · subst g1 g2
        simp (disch := first | omega | (simp only [size_setb, size_alloc', size_drew'] <;> omega) | (simp (disch := first | omega | (simp only [size_setb, size_alloc', size_drew'] <;> omega) | fail) only [go_sem, b2, decide_true, Bool.and_true]; done) | fail) only [go_sem, dec_t, dec_f, w_u32, w_u64, w_u16, w_u8, w_i64, Int.reduceToNat, Int.reducePow, Nat.reducePow, b2, decide_true, Bool.and_true]
        exact ⟨by rfl, B2⟩
      · have g3 : s + n * 17179869184 ≠ 0 := by omega
        subst g1
        simp (disch := first | omega | (simp only [size_setb, size_alloc', size_drew'] <;> omega) | (simp (disch := first | omega | (simp only [size_setb, size_alloc', size_drew'] <;> omega) | fail) only [go_sem, b2, decide_true, Bool.and_true]; done) | fail) only [go_sem, dec_t, dec_f, w_u32, w_u64, w_u16, w_u8, w_i64, Int.reduceToNat, Int.reducePow, Nat.reducePow, b2, decide_true, Bool.and_true]
        exact ⟨by rfl, B2⟩
    · have g3 : s + n * 17179869184 ≠ 0 := by omega
      simp (disch := first | omega | (simp only [size_setb, size_alloc', size_drew'] <;> omega) | (simp (disch := first | omega | (simp only [size_setb, size_alloc', size_drew'] <;> omega) | fail) only [go_sem, b2, decide_true, Bool.and_true]; done) | fail) only [go_sem, dec_t, dec_f, w_u32, w_u64, w_u16, w_u8, w_i64, Int.reduceToNat, Int.reducePow, Nat.reducePow, b2, decide_true, Bool.and_true]
      exact ⟨by rfl, B2⟩
theorem i64_bd {x : Int} (h : (Lit.int .i64 x).wf = true) : -9223372036854775808 ≤ x ∧ x ≤ 9223372036854775807 := by
  simp only [Lit.wf, Bool.and_eq_true, decide_eq_true_eq] at h
  exact ⟨h.1, h.2⟩
theorem FnTimeBack_walk (b : Bool) (s n : Int) (w : World) (hs : (Lit.int .i64 s).wf = true) (hn : (Lit.int .i64 n).wf = true) :
    Cl P Fn.laws_FnTimeBack #[tm b s n] w fun v w' => v = .bool true ∧ Below w.heap.size w w' := FnTimeBack_law b s n w (i64_bd hs) (i64_bd hn)
end Go.Proofs.Ytdilealdddbhnaa.X
