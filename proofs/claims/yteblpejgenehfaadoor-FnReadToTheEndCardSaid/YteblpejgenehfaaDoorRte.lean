/- FnReadToTheEnd. No condition beside the form's own. -/
import Derived.Test.YteblpejgenehfaaDoorSkm
import Derived.Test.YteblpejgenehfaaDoorWr
set_option linter.unusedVariables false
set_option linter.unusedSimpArgs false
set_option maxRecDepth 100000
namespace Go.Proofs.YteblpejgenehfaaDoor.X
open Go Go.X Go.Proofs Go.RowKit Go.WideShapes

theorem does_write {q : Stp} {s : FS} (hop : q.op = 14) (hc : s.cl = false) (hr : s.ro = false) (h0 : 0 ≤ s.pos) (h1 : s.pos + q.data.length ≤ 140737488355328) (h2 : s.bytes.length ≤ 140737488355328) :
    Does q s { s with bytes := wrB s q.data, pos := s.pos + q.data.length } ⟨0, q.data.length, 0, []⟩ := by
  intro w B f d v m K h hs hq hqb hk
  exact on_write h hs hop hq hc hr h0 h1 h2 fun w' v' F K a => hk w' v' _ F K a (.inl ⟨rfl, _, _, rfl⟩) fun k e => by cases e
theorem Runs.append {q1 q2 : List Stp} {s s1 s2 : FS} {A1 A2 : List Ans} (h : Runs q1 s A1 s1) (k : Runs q2 s1 A2 s2) : Runs (q1 ++ q2) s (A1 ++ A2) s2 := by
  induction h with
  | nil s => exact k
  | cons d _ ih => exact .cons d (ih k)
theorem own_steps {w : World} {B n : Nat} {sv : Value} {qs : List Stp} (o : w.ownsRow B T.impl_Step 10 sv n (qs.map Stp.cells).flatten) (hn : qs.length = n) (hb : ∀ q ∈ qs, BS w q.v q.data) : StepsAt w sv qs := by
  refine ⟨hb, ?_⟩
  by_cases hn0 : n = 0
  · subst hn0
    obtain ⟨a, cap, rfl⟩ := own_slice o
    exact .inl ⟨List.length_eq_zero_iff.1 hn, a, cap, rfl⟩
  · obtain ⟨b, cap, rfl, q1, q2, q3, rows⟩ := own_elem o (fun c hc => by obtain ⟨q, _, rfl⟩ := List.mem_map.1 hc; rfl) (by rw [List.length_map, hn]) hn0
    refine .inr ⟨b, 0, cap, by rw [hn], q2, fun j hj => ?_⟩
    have := rows j (by rw [List.length_map]; exact hj)
    rw [Nat.zero_add, this, List.getElem_map]

/-- Reading on and on. -/
def rdA (D : List UInt8) (n p : Nat) : Ans := ⟨if D.length ≤ p then 4 else 0, 0, 0, (D.drop p).take n⟩
def aR (D : List UInt8) (n p : Nat) : Nat → List Ans
  | 0 => []
  | r + 1 => rdA D n p :: aR D n (p + n) r
theorem aR_len (D : List UInt8) (n : Nat) : ∀ r p, (aR D n p r).length = r
  | 0, _ => rfl
  | r + 1, p => by rw [aR, List.length_cons, aR_len D n r]
theorem aR_get (D : List UInt8) (n : Nat) : ∀ r p j (h : j < (aR D n p r).length), (aR D n p r)[j] = rdA D n (p + j * n)
  | 0, p, j, h => absurd h (by simp [aR])
  | r + 1, p, 0, h => by simp [aR]
  | r + 1, p, j + 1, h => by
    have h2 : j < (aR D n (p + n) r).length := by simp only [aR, List.length_cons] at h; omega
    have := aR_get D n r (p + n) j h2
    simp only [aR, List.getElem_cons_succ, this]
    congr 1
    rw [Nat.succ_mul]; omega
def rdS (n : Nat) : Stp := mkStp 12 [] (.slice none 0 0) 0 0 n
theorem rdF_at (D : List UInt8) (ro : Bool) (p n : Nat) (hn : 0 < n) : rdF ⟨D, (min p D.length : Nat), false, ro⟩ n = ((D.drop p).take n, if D.length ≤ p then 4 else 0) := by
  unfold rdF
  simp only
  by_cases h : D.length ≤ p
  · rw [if_pos ⟨hn, by omega⟩, if_pos h, List.drop_of_length_le h, List.take_nil]
  · rw [if_neg (by omega), if_neg (by omega), if_neg h, show ((min p D.length : Nat) : Int).toNat = p by omega]
theorem runs_reads (D : List UInt8) (n : Nat) (hn : 0 < n) (hn2 : n ≤ 1048576) (hD : D.length ≤ 281474976710656) (ro : Bool) : ∀ r p, Runs (List.replicate r (rdS n)) ⟨D, (min p D.length : Nat), false, ro⟩ (aR D n p r) ⟨D, (min (p + r * n) D.length : Nat), false, ro⟩
  | 0, p => by simpa [aR] using Runs.nil _
  | r + 1, p => by
    have ih := runs_reads D n hn hn2 hD ro r (p + n)
    have e1 : want (rdS n).n = n := by show want (n : Int) = n; unfold want; omega
    have d := does_read (q := rdS n) (s := ⟨D, (min p D.length : Nat), false, ro⟩) rfl rfl ⟨by show (0 : Int) ≤ (min p D.length : Nat); omega, by show ((min p D.length : Nat) : Int) ≤ _; omega⟩ hD
    rw [e1, rdF_at D ro p n hn] at d
    have e2 : ((min p D.length : Nat) : Int) + (((D.drop p).take n).length : Nat) = (min (p + n) D.length : Nat) := by simp only [List.length_take, List.length_drop]; omega
    simp only [e2] at d
    rw [show p + (r + 1) * n = p + n + r * n by rw [Nat.succ_mul]; omega]
    rw [List.replicate_succ]
    refine .cons ?_ ih
    have e3 : (rdA D n p) = ⟨((if D.length ≤ p then 4 else 0 : Nat) : Int), 0, 0, (D.drop p).take n⟩ := by
      unfold rdA
      split <;> rfl
    rw [e3]
    exact d
/-- The steps of the law, and what they answer. -/
def rteQ (D M : List UInt8) (t1 : Value) (p n r : Nat) : List Stp := mkStp 16 [] (.slice none 0 0) p 0 0 :: List.replicate r (rdS n) ++ [mkStp 14 M t1 0 0 0, rdS 1, mkStp 16 [] (.slice none 0 0) D.length 0 0, rdS (M.length + 1)]
def rteA (D M : List UInt8) (p n r : Nat) : List Ans := ⟨0, 0, p, []⟩ :: aR D n p r ++ [⟨0, M.length, 0, []⟩, ⟨4, 0, 0, []⟩, ⟨0, 0, D.length, []⟩, ⟨0, 0, 0, M⟩]
theorem rte_runs (D M : List UInt8) (t1 : Value) (p n r : Nat) (hn : 0 < n) (hn2 : n ≤ 100) (hD : D.length ≤ 1000) (hM : M.length ≤ 1000) (hM0 : 0 < M.length) (hp : p ≤ D.length) (hr : D.length ≤ p + r * n) :
    Runs (rteQ D M t1 p n r) ⟨D, 0, false, false⟩ (rteA D M p n r) ⟨D ++ M, (D.length + M.length : Nat), false, false⟩ := by
  unfold rteQ rteA
  have h1 := does_seek (q := mkStp 16 [] (.slice none 0 0) p 0 0) (s := ⟨D, 0, false, false⟩) rfl rfl (by show _ ≤ (p : Int) ∧ (p : Int) ≤ _; omega) (by show _ ≤ (0 : Int) ∧ (0 : Int) ≤ _; omega) (by show D.length ≤ _; omega)
  have h2 := runs_reads D n hn (by omega) (by omega) false r p
  rw [show min p D.length = p by omega, show min (p + r * n) D.length = D.length by omega] at h2
  have h3 := does_write (q := mkStp 14 M t1 0 0 0) (s := ⟨D, (D.length : Nat), false, false⟩) rfl rfl rfl (by show (0 : Int) ≤ (D.length : Nat); omega) (by show ((D.length : Nat) : Int) + (M.length : Nat) ≤ _; omega) (by show D.length ≤ _; omega)
  have ew : wrB ⟨D, (D.length : Nat), false, false⟩ (mkStp 14 M t1 0 0 0).data = D ++ M := by
    show wrB ⟨D, (D.length : Nat), false, false⟩ M = D ++ M
    unfold wrB
    simp only
    rw [if_neg (by omega), Int.toNat_natCast, List.take_length, List.drop_of_length_le (by omega), List.append_nil]
  rw [ew] at h3
  have h4 := runs_reads (D ++ M) 1 (by omega) (by omega) (by simp; omega) false 1 (D.length + M.length)
  have eL : (D ++ M).length = D.length + M.length := List.length_append
  rw [eL, show min (D.length + M.length) (D.length + M.length) = D.length + M.length by omega, show min (D.length + M.length + 1 * 1) (D.length + M.length) = D.length + M.length by omega] at h4
  have h5 := does_seek (q := mkStp 16 [] (.slice none 0 0) D.length 0 0) (s := ⟨D ++ M, (D.length + M.length : Nat), false, false⟩) rfl rfl (by show _ ≤ (D.length : Int) ∧ (D.length : Int) ≤ _; omega) (by show _ ≤ ((D.length + M.length : Nat) : Int) ∧ ((D.length + M.length : Nat) : Int) ≤ _; omega) (by show (D ++ M).length ≤ _; omega)
  have h6 := runs_reads (D ++ M) (M.length + 1) (by omega) (by omega) (by omega) false 1 D.length
  rw [eL, show min D.length (D.length + M.length) = D.length by omega, show min (D.length + 1 * (M.length + 1)) (D.length + M.length) = D.length + M.length by omega] at h6
  refine Runs.append (.cons h1 h2) ?_
  refine .cons h3 ?_
  have q4 : aR (D ++ M) 1 (D.length + M.length) 1 = [⟨4, 0, 0, []⟩] := by
    simp only [aR, rdA, eL]
    rw [if_pos (by omega), List.drop_of_length_le (by omega), List.take_nil]
  have q6 : aR (D ++ M) (M.length + 1) D.length 1 = [⟨0, 0, 0, M⟩] := by
    simp only [aR, rdA, eL]
    rw [if_neg (by omega), List.drop_left, List.take_of_length_le (by omega)]
  rw [q4] at h4
  rw [q6] at h6
  have h56 := Runs.cons h5 h6
  have h456 := Runs.append h4 h56
  have e0 : ((D.length : Nat) : Int) + ((mkStp 14 M t1 0 0 0).data.length : Nat) = ((D.length + M.length : Nat) : Int) := by show ((D.length : Nat) : Int) + (M.length : Nat) = _; omega
  simp only [e0]
  exact h456
theorem rteA_rd (D M : List UInt8) (p n r j : Nat) (hj : j < r) (h : 1 + j < (rteA D M p n r).length) : (rteA D M p n r)[1 + j] = rdA D n (p + j * n) := by
  have h2 : j < (aR D n p r).length := by rw [aR_len]; exact hj
  simp only [rteA]
  rw [List.getElem_append_left (by simp [aR_len]; omega)]
  simp only [Nat.add_comm 1 j, List.getElem_cons_succ]
  exact aR_get D n r p j h2
theorem rteA_end (D M : List UInt8) (p n r j : Nat) (hj : j < 4) (h : 1 + r + j < (rteA D M p n r).length) : (rteA D M p n r)[1 + r + j] = ([⟨0, M.length, 0, []⟩, ⟨4, 0, 0, []⟩, ⟨0, 0, D.length, []⟩, ⟨0, 0, 0, M⟩] : List Ans)[j] := by
  simp only [rteA]
  rw [List.getElem_append_right (by simp [aR_len]; omega)]
  congr 1
  simp [aR_len]
  omega
theorem rteA_len (D M : List UInt8) (p n r : Nat) : (rteA D M p n r).length = r + 5 := by simp [rteA, aR_len]

theorem own_lit (w : World) (e : TypeId) (size n : Nat) (l : List Value) (h : l.length = n * size) (hn : n ≤ maxLen) : (w.alloc (CB l e)).ownsRow w.heap.size e size (sl w.heap.size 0 n n) n l :=
  ⟨h, .inr ⟨w.heap.size, n, l.toArray, rfl, Nat.le_refl _, heap_alloc_new w _, Nat.le_refl _, hn, by simpa using h, by rw [← h]; simp⟩⟩
theorem BS_lo {w : World} {tB tE : TypeId} (h2 : P.underlying tB = some (.slice tE)) (hs : (P.info? tE).map (·.size) = some 1) {v : Value} {l : List UInt8} (h : BS w v l) {p : Nat} (hp : p ≤ l.length) : ∃ v', BS w v' (l.drop p) ∧ ∀ (k : IntKind) (L : Value → Prop), pu P (oSlice tB v (some (.int k p)) none none) L = L v' := by
  rcases h with ⟨rfl, a, cap, rfl⟩ | ⟨b, o, cap, rfl, h3, h4, h5⟩
  · have hp0 : p = 0 := by simpa using hp
    subst hp0
    have e : a.map (·.add 0) = a := by
      cases a with
      | none => rfl
      | some a => rfl
    refine ⟨.slice a 0 cap, .inl ⟨rfl, a, cap, rfl⟩, fun k L => pu_v' (by
      simp only [Instr.sliceAt, Instr.slice, Instr.sliceBounds]
      simp [rp_bind, rp_underlying h2, rp_sliceBound k 0 0 _ (by omega) (by omega), rp_size hs, rp_map]
      exact fun _ => e)⟩
  · refine ⟨_, ?_, fun k L => oSlice_lo (size := 1) L h2 hs (by omega) (by omega) (by omega)⟩
    rw [Int.toNat_natCast]
    by_cases hpl : p = l.length
    · exact .inl ⟨by rw [hpl, List.drop_length], some ⟨b, (if cap = p then o else o + p * 1), none⟩, cap - p, by rw [show l.length - p = 0 by omega]⟩
    · refine .inr ⟨b, o + p, cap - p, ?_, ?_, ?_, h5⟩
      · rw [if_neg (by omega), List.length_drop, Nat.mul_one]
      · rw [List.length_drop]; omega
      · have := rowB_part h4 p (l.length - p) (by omega)
        rwa [List.take_of_length_le (by simp)] at this
set_option maxHeartbeats 8000000 in
theorem FnReadToTheEnd_law {w : World} {t0 t1 : Value} {D M : List UInt8} {a b : Int} {m : Nat → Nat × Nat} (hd : BS w t0 D) (hdl : D.length ≤ 140737488351232) (hm : BS w t1 M) (hml : M.length ≤ 140737488351232) (hs : Sn w w.heap.size m) :
    Cl P Fn.laws_FnReadToTheEnd #[t0, t1, .int .i64 a, .int .i64 b] w fun v w' => v = .bool true ∧ Below w.heap.size w w' := by
  apply S_laws_FnReadToTheEnd
  unfold F_laws_FnReadToTheEnd
  obtain ⟨a0, c0, e0⟩ := BS_slice hd
  obtain ⟨a1, c1, e1⟩ := BS_slice hm
  rw [e0, e1]
  refine jn_with (fun t w' => w' = w) ?_ ?_
  rotate_left
  · by_cases h1 : (2147483647 : Int) < D.length
    · simp (disch := first | omega | (simp only [size_setb, size_alloc', size_drew'] <;> omega) | (simp (disch := first | omega | (simp only [size_setb, size_alloc', size_drew'] <;> omega) | fail) only [go_sem]; done) | fail) only [go_sem, dec_t, dec_f, w_u32, w_u64, w_u16, w_u8, w_i64, Int.reduceToNat, Int.reducePow, Nat.reducePow]
      exact ⟨trivial, Below.refl _ _⟩
    by_cases h2 : (2147483647 : Int) < M.length
    · simp (disch := first | omega | (simp only [size_setb, size_alloc', size_drew'] <;> omega) | (simp (disch := first | omega | (simp only [size_setb, size_alloc', size_drew'] <;> omega) | fail) only [go_sem]; done) | fail) only [go_sem, dec_t, dec_f, w_u32, w_u64, w_u16, w_u8, w_i64, Int.reduceToNat, Int.reducePow, Nat.reducePow]
      exact ⟨trivial, Below.refl _ _⟩
    · simp (disch := first | omega | (simp only [size_setb, size_alloc', size_drew'] <;> omega) | (simp (disch := first | omega | (simp only [size_setb, size_alloc', size_drew'] <;> omega) | fail) only [go_sem]; done) | fail) only [go_sem, dec_t, dec_f, w_u32, w_u64, w_u16, w_u8, w_i64, Int.reduceToNat, Int.reducePow, Nat.reducePow]
  rintro t e w0 rfl
  refine jn_with (fun t w' => w' = w0 ∧ D.length ≤ 1000 ∧ 0 < M.length ∧ M.length ≤ 1000 ∧ 0 ≤ a ∧ a ≤ D.length ∧ 1 ≤ b ∧ b ≤ 100) ?_ ?_
  rotate_left
  · by_cases g1 : (1000 : Int) < D.length
    · simp (disch := first | omega | (simp only [size_setb, size_alloc', size_drew'] <;> omega) | (simp (disch := first | omega | (simp only [size_setb, size_alloc', size_drew'] <;> omega) | fail) only [go_sem]; done) | fail) only [go_sem, dec_t, dec_f, w_u32, w_u64, w_u16, w_u8, w_i64, Int.reduceToNat, Int.reducePow, Nat.reducePow]
      exact ⟨trivial, Below.refl _ _⟩
    by_cases g2 : (M.length : Int) = 0
    · simp (disch := first | omega | (simp only [size_setb, size_alloc', size_drew'] <;> omega) | (simp (disch := first | omega | (simp only [size_setb, size_alloc', size_drew'] <;> omega) | fail) only [go_sem, g2, decide_true]; done) | fail) only [go_sem, dec_t, dec_f, w_u32, w_u64, w_u16, w_u8, w_i64, Int.reduceToNat, Int.reducePow, Nat.reducePow, g2, decide_true]
      exact ⟨trivial, Below.refl _ _⟩
    by_cases g3 : (1000 : Int) < M.length
    · simp (disch := first | omega | (simp only [size_setb, size_alloc', size_drew'] <;> omega) | (simp (disch := first | omega | (simp only [size_setb, size_alloc', size_drew'] <;> omega) | fail) only [go_sem, g2, decide_false]; done) | fail) only [go_sem, dec_t, dec_f, w_u32, w_u64, w_u16, w_u8, w_i64, Int.reduceToNat, Int.reducePow, Nat.reducePow, g2, decide_false]
      exact ⟨trivial, Below.refl _ _⟩
    by_cases g4 : a < 0
    · simp (disch := first | omega | (simp only [size_setb, size_alloc', size_drew'] <;> omega) | (simp (disch := first | omega | (simp only [size_setb, size_alloc', size_drew'] <;> omega) | fail) only [go_sem, g2, decide_false]; done) | fail) only [go_sem, dec_t, dec_f, w_u32, w_u64, w_u16, w_u8, w_i64, Int.reduceToNat, Int.reducePow, Nat.reducePow, g2, decide_false]
      exact ⟨trivial, Below.refl _ _⟩
    by_cases g5 : (D.length : Int) < a
    · simp (disch := first | omega | (simp only [size_setb, size_alloc', size_drew'] <;> omega) | (simp (disch := first | omega | (simp only [size_setb, size_alloc', size_drew'] <;> omega) | fail) only [go_sem, g2, decide_false]; done) | fail) only [go_sem, dec_t, dec_f, w_u32, w_u64, w_u16, w_u8, w_i64, Int.reduceToNat, Int.reducePow, Nat.reducePow, g2, decide_false]
      exact ⟨trivial, Below.refl _ _⟩
    by_cases g6 : b < 1
    · simp (disch := first | omega | (simp only [size_setb, size_alloc', size_drew'] <;> omega) | (simp (disch := first | omega | (simp only [size_setb, size_alloc', size_drew'] <;> omega) | fail) only [go_sem, g2, decide_false]; done) | fail) only [go_sem, dec_t, dec_f, w_u32, w_u64, w_u16, w_u8, w_i64, Int.reduceToNat, Int.reducePow, Nat.reducePow, g2, decide_false]
      exact ⟨trivial, Below.refl _ _⟩
    by_cases g7 : 100 < b
    · simp (disch := first | omega | (simp only [size_setb, size_alloc', size_drew'] <;> omega) | (simp (disch := first | omega | (simp only [size_setb, size_alloc', size_drew'] <;> omega) | fail) only [go_sem, g2, decide_false]; done) | fail) only [go_sem, dec_t, dec_f, w_u32, w_u64, w_u16, w_u8, w_i64, Int.reduceToNat, Int.reducePow, Nat.reducePow, g2, decide_false]
      exact ⟨trivial, Below.refl _ _⟩
    · simp (disch := first | omega | (simp only [size_setb, size_alloc', size_drew'] <;> omega) | (simp (disch := first | omega | (simp only [size_setb, size_alloc', size_drew'] <;> omega) | fail) only [go_sem, g2, decide_false]; done) | fail) only [go_sem, dec_t, dec_f, w_u32, w_u64, w_u16, w_u8, w_i64, Int.reduceToNat, Int.reducePow, Nat.reducePow, g2, decide_false]
      exact ⟨trivial, by omega, by omega, by omega, by omega, by omega, by omega, by omega⟩
  rintro t e w1 ⟨rfl, g1, g2, g3, g4, g5, g6, g7⟩
  obtain ⟨p, rfl⟩ : ∃ p : Nat, a = p := ⟨a.toNat, by omega⟩
  obtain ⟨n, rfl⟩ : ∃ n : Nat, b = n := ⟨b.toNat, by omega⟩
  simp (disch := first | omega | (simp only [size_setb, size_alloc', size_drew'] <;> omega) | (simp (disch := first | omega | (simp only [size_setb, size_alloc', size_drew'] <;> omega) | fail) only [go_sem]; done) | fail) only [go_sem, dec_t, dec_f, w_u32, w_u64, w_u16, w_u8, w_i64, Int.reduceToNat, Int.reducePow, Nat.reducePow]
  rw [show AG [Value.int IntKind.i64 16, S [], S [], Value.int IntKind.i64 0, Value.int IntKind.i64 0, Value.int IntKind.i64 0, Value.slice none 0 0, Value.int IntKind.i64 p, Value.int IntKind.i64 0, Value.int IntKind.i64 0] = AG (mkStp 16 [] (.slice none 0 0) p 0 0).cells from rfl]
  rw [oBuildSliceN (size := 10) (z := AG stpZ) _ _ U.sl_impl_Step (by kernel_rfl) (by omega) (by omega) (l := (mkStp 16 [] (.slice none 0 0) p 0 0).cells) rfl]
  have o1 := own_lit w1 T.impl_Step 10 1 (mkStp 16 [] (.slice none 0 0) p 0 0).cells rfl (by simp only [maxLen]; omega)
  have B1 : Below w1.heap.size w1 (w1.alloc (CB (mkStp 16 [] (.slice none 0 0) p 0 0).cells T.impl_Step)) := by repeat (first | exact Below.refl _ _ | assumption | refine bel_setb ?_ (by first | exact Nat.le_refl _ | omega | (simp only [go_sem] <;> omega)) _ | refine Below.alloc ?_ (by first | exact Nat.le_refl _ | omega | (simp only [go_sem]; omega)) _ | refine Below.drew ?_)
  generalize w1.alloc (CB (mkStp 16 [] (.slice none 0 0) p 0 0).cells T.impl_Step) = w2 at *
  obtain ⟨R, hR⟩ : ∃ R : Nat, R = (D.length - p) / n + 3 := ⟨_, rfl⟩
  have eR : ((D.length : Int) - p).tdiv n + 2 = ((R : Int) - 1) := by
    rw [show (D.length : Int) - p = ((D.length - p : Nat) : Int) by omega]
    rw [show (((D.length - p : Nat) : Int)).tdiv (n : Int) = (((D.length - p) / n : Nat) : Int) by rw [Int.tdiv_eq_ediv_of_nonneg (by omega)]; rfl]
    omega
  have hRn : D.length ≤ p + R * n := by
    have q := Nat.div_add_mod (D.length - p) n
    have q2 := Nat.mod_lt (D.length - p) (show n > 0 by omega)
    rw [hR, Nat.add_mul]
    rw [Nat.mul_comm] at q
    omega
  have hRs : R ≤ 1003 := by
    have := Nat.div_le_self (D.length - p) n
    omega
  clear hR
  refine jn_with (fun t w' => ∃ sv, t = [sv] ∧ w'.ownsRow w1.heap.size T.impl_Step 10 sv (1 + R) (((mkStp 16 [] (.slice none 0 0) p 0 0) :: List.replicate R (rdS n)).map Stp.cells).flatten ∧ Below w1.heap.size w1 w') ?_ ?_
  rotate_left
  · refine lp_intro (fun t w' => ∃ sv, ∃ i : Nat, t = [sv, .int .i64 i] ∧ i ≤ R ∧ w'.ownsRow w1.heap.size T.impl_Step 10 sv (1 + i) (((mkStp 16 [] (.slice none 0 0) p 0 0) :: List.replicate i (rdS n)).map Stp.cells).flatten ∧ Below w1.heap.size w1 w') (fun t _ => R - (RowKit.intOf (gs t 1)).toNat) ⟨_, 0, rfl, by omega, by simpa using o1, B1⟩ ?_
    rintro t e w3 ⟨sv, i, rfl, hi, o3, B3⟩
    by_cases g : i < R
    · simp (disch := first | omega | (simp only [size_setb, size_alloc', size_drew'] <;> omega) | (simp (disch := first | omega | (simp only [size_setb, size_alloc', size_drew'] <;> omega) | fail) only [go_sem]; done) | fail) only [go_sem, dec_t, dec_f, w_u32, w_u64, w_u16, w_u8, w_i64, Int.reduceToNat, Int.reducePow, Nat.reducePow]
      refine jn_with (fun t w' => t = [] ∧ w' = w3) ?_ ⟨rfl, rfl⟩
      rintro t e w4 ⟨rfl, rfl⟩
      rw [show AG [Value.int IntKind.i64 12, S [], S [], Value.int IntKind.i64 0, Value.int IntKind.i64 0, Value.int IntKind.i64 0, Value.slice none 0 0, Value.int IntKind.i64 0, Value.int IntKind.i64 0, Value.int IntKind.i64 n] = AG (rdS n).cells from rfl]
      rw [oBuildSliceN (size := 10) (z := AG stpZ) _ _ U.sl_impl_Step (by kernel_rfl) (by omega) (by omega) (l := (rdS n).cells) rfl]
      have B4 : Below w4.heap.size w4 (w4.alloc (CB (rdS n).cells T.impl_Step)) := by repeat (first | exact Below.refl _ _ | assumption | refine bel_setb ?_ (by first | exact Nat.le_refl _ | omega | (simp only [go_sem] <;> omega)) _ | refine Below.alloc ?_ (by first | exact Nat.le_refl _ | omega | (simp only [go_sem]; omega)) _ | refine Below.drew ?_)
      have k4 : bk (w4.alloc (CB (rdS n).cells T.impl_Step)) w4.heap.size = some (CB (rdS n).cells T.impl_Step) := bk_alloc_eq _ _ _ rfl
      have z3 := B3.size
      have lt3 := own_lt o3
      generalize w4.alloc (CB (rdS n).cells T.impl_Step) = w5 at *
      have z5 := B4.size
      refine oAppend_own_at (size := 10) (bytes := 112) (z := AG stpZ) (news := (rdS n).cells) U.sl_impl_Step (by kernel_rfl) rfl (by omega) (own_old o3 B4 (Nat.le_refl _)) rfl (by rw [k4]; rfl) (fun u hu => ?_) (by simp only [maxLen]; omega) (by omega) (by omega) fun sv' w6 o6 g6 _ => ?_
      · simp only [rdS, mkStp, Stp.cells, List.mem_cons, List.not_mem_nil, or_false] at hu
        rcases hu with rfl | rfl | rfl | rfl | rfl | rfl | rfl | rfl | rfl | rfl <;> rfl
      have K6 := Kp.of_grown g6
      refine ⟨⟨sv', i + 1, rfl, by omega, ?_, ?_⟩, ?_⟩
      · rw [List.replicate_succ', ← List.cons_append, List.map_append, List.flatten_append]
        simpa [Nat.add_assoc] using o6
      · exact (B3.trans (B4.mono z3)).trans (K6.below (fun k hk e => by have := (lt3 k e).1; omega) (by omega))
      · simp only [RowKit.intOf]
        omega
    · have eiR : i = R := by omega
      subst eiR
      simp (disch := first | omega | (simp only [size_setb, size_alloc', size_drew'] <;> omega) | (simp (disch := first | omega | (simp only [size_setb, size_alloc', size_drew'] <;> omega) | fail) only [go_sem]; done) | fail) only [go_sem, dec_t, dec_f, w_u32, w_u64, w_u16, w_u8, w_i64, Int.reduceToNat, Int.reducePow, Nat.reducePow]
      exact jn_with (fun _ _ => False) (fun _ _ _ h => h.elim) ⟨sv, rfl, o3, B3⟩
  rintro t e w3 ⟨sv, rfl, o3, B3⟩
  obtain ⟨sa, sc, esv⟩ := own_slice o3
  have z3 := B3.size
  have lt3 := own_lt o3
  rw [esv]
  simp (disch := first | omega | (simp only [size_setb, size_alloc', size_drew'] <;> omega) | (simp (disch := first | omega | (simp only [size_setb, size_alloc', size_drew'] <;> omega) | fail) only [go_sem]; done) | fail) only [go_sem, dec_t, dec_f, w_u32, w_u64, w_u16, w_u8, w_i64, Int.reduceToNat, Int.reducePow, Nat.reducePow]
  rw [← esv]
  have o1' := BS_one (BS_old hm B3 (Nat.le_refl _))
  rw [e1] at o1'
  rw [oBuildSliceM (size := 10) (z := AG stpZ) (zs := stpZ ++ stpZ ++ stpZ ++ stpZ) (out := (mkStp 14 M (.slice a1 M.length c1) 0 0 0).cells ++ (rdS 1).cells ++ (mkStp 16 [] (.slice none 0 0) D.length 0 0).cells ++ (rdS (M.length + 1)).cells) U.sl_impl_Step (by kernel_rfl) (by decide) (by decide) (by rfl) (by rfl) (by rfl)]
  have B4 : Below w3.heap.size w3 (w3.alloc (CB ((mkStp 14 M (.slice a1 M.length c1) 0 0 0).cells ++ (rdS 1).cells ++ (mkStp 16 [] (.slice none 0 0) D.length 0 0).cells ++ (rdS (M.length + 1)).cells) T.impl_Step)) := by repeat (first | exact Below.refl _ _ | assumption | refine bel_setb ?_ (by first | exact Nat.le_refl _ | omega | (simp only [go_sem] <;> omega)) _ | refine Below.alloc ?_ (by first | exact Nat.le_refl _ | omega | (simp only [go_sem]; omega)) _ | refine Below.drew ?_)
  have k4 : bk (w3.alloc (CB ((mkStp 14 M (.slice a1 M.length c1) 0 0 0).cells ++ (rdS 1).cells ++ (mkStp 16 [] (.slice none 0 0) D.length 0 0).cells ++ (rdS (M.length + 1)).cells) T.impl_Step)) w3.heap.size = some (CB ((mkStp 14 M (.slice a1 M.length c1) 0 0 0).cells ++ (rdS 1).cells ++ (mkStp 16 [] (.slice none 0 0) D.length 0 0).cells ++ (rdS (M.length + 1)).cells) T.impl_Step) := bk_alloc_eq _ _ _ rfl
  generalize w3.alloc (CB ((mkStp 14 M (.slice a1 M.length c1) 0 0 0).cells ++ (rdS 1).cells ++ (mkStp 16 [] (.slice none 0 0) D.length 0 0).cells ++ (rdS (M.length + 1)).cells) T.impl_Step) = w4 at *
  have z4 := B4.size
  refine oAppend_own_at (size := 10) (bytes := 112) (z := AG stpZ) (m := 4) (news := (mkStp 14 M (.slice a1 M.length c1) 0 0 0).cells ++ (rdS 1).cells ++ (mkStp 16 [] (.slice none 0 0) D.length 0 0).cells ++ (rdS (M.length + 1)).cells) U.sl_impl_Step (by kernel_rfl) rfl (by omega) (own_old o3 B4 (Nat.le_refl _)) rfl (by rw [k4]; rfl) (fun u hu => ?_) (by simp only [maxLen]; omega) (by omega) (by omega) fun sv' w5 o5 g5 _ => ?_
  · simp only [rdS, mkStp, Stp.cells, List.mem_append, List.mem_cons, List.not_mem_nil, or_false] at hu
    rcases hu with ((hu | hu) | hu) | hu <;> (rcases hu with rfl | rfl | rfl | rfl | rfl | rfl | rfl | rfl | rfl | rfl <;> first | rfl | exact o1')
  have K5 := Kp.of_grown g5
  have B5 : Below w1.heap.size w1 w5 := (B3.trans (B4.mono z3)).trans (K5.below (fun k hk e => by have := (lt3 k e).1; omega) (by omega))
  have hm5 : BS w5 (.slice a1 M.length c1) M := by rw [← e1]; exact BS_old hm B5 (Nat.le_refl _)
  have hql : (rteQ D M (.slice a1 M.length c1) p n R).length = 1 + R + 4 := by simp [rteQ]; omega
  have hq : StepsAt w5 sv' (rteQ D M (.slice a1 M.length c1) p n R) := by
    refine own_steps (B := w1.heap.size) (n := 1 + R + 4) ?_ hql fun q hq => ?_
    · unfold rteQ
      rw [List.map_append, List.flatten_append]
      simpa using o5
    · simp only [rteQ, List.mem_append, List.mem_cons, List.mem_replicate, List.not_mem_nil, or_false] at hq
      rcases hq with (rfl | ⟨_, rfl⟩) | rfl | rfl | rfl | rfl
      · exact .inl ⟨rfl, _, _, rfl⟩
      · exact .inl ⟨rfl, _, _, rfl⟩
      · exact hm5
      · exact .inl ⟨rfl, _, _, rfl⟩
      · exact .inl ⟨rfl, _, _, rfl⟩
      · exact .inl ⟨rfl, _, _, rfl⟩
  have hs5 : Sn w5 w5.heap.size m := ⟨fun g hg => ⟨by have := ((hs.below B5).at_ g hg).1; have := B5.size; omega, ((hs.below B5).at_ g hg).2⟩, fun g hg => ⟨by have := ((hs.below B5).cell g hg).1; have := B5.size; omega, ((hs.below B5).cell g hg).2⟩, hs.inj⟩
  have hd5 : BS w5 (.slice a0 D.length c0) D := by rw [← e0]; exact BS_old hd B5 (Nat.le_refl _)
  apply S_laws_onOne
  unfold F_laws_onOne
  rw [C.impl_HandleScript]
  refine script_spec (m := m) hd5 (by omega) hs5 hq (by omega) (rte_runs D M _ p n R (by omega) (by omega) (by omega) (by omega) (by omega) (by omega) hRn) (by simp; omega) fun w6 av lv cs B6 o6 hcl hA hlv => ?_
  rw [rteA_len] at o6 hcl
  replace hlv : BS w6 lv (D ++ M) := hlv
  obtain ⟨b, cap, rfl, q1, q2, q3, rows⟩ := own_elem o6 (fun c hc => by
    obtain ⟨i, hi, rfl⟩ := List.getElem_of_mem hc
    obtain ⟨x, e, _⟩ := hA i hi (by rw [rteA_len]; omega)
    rw [e]; rfl) hcl (by omega)
  obtain ⟨sa', sc', esv'⟩ := own_slice o5
  rw [esv']
  have B6' := B5.trans (B6.mono B5.size)
  simp (disch := first | omega | (simp only [size_setb, size_alloc', size_drew'] <;> omega) | (simp (disch := first | omega | (simp only [size_setb, size_alloc', size_drew'] <;> omega) | fail) only [go_sem]; done) | fail) only [go_sem, dec_t, dec_f, w_u32, w_u64, w_u16, w_u8, w_i64, Int.reduceToNat, Int.reducePow, Nat.reducePow]
  refine jn_with (fun t w' => w' = w6) ?_ rfl
  rintro t e w7 rfl
  rw [oBuildSlice0 (n := 1) _ _ U.sl_uint8 (by kernel_rfl)]
  have B7 : Below w7.heap.size w7 (w7.alloc (CB [] T.uint8)) := by repeat (first | exact Below.refl _ _ | assumption | refine bel_setb ?_ (by first | exact Nat.le_refl _ | omega | (simp only [go_sem] <;> omega)) _ | refine Below.alloc ?_ (by first | exact Nat.le_refl _ | omega | (simp only [go_sem]; omega)) _ | refine Below.drew ?_)
  have oa : (w7.alloc (CB [] T.uint8)).ownsRow w7.heap.size T.uint8 1 (sl w7.heap.size 0 0 0) 0 (([] : List UInt8).map byt) := own_lit w7 T.uint8 1 0 [] rfl (by simp only [maxLen]; omega)
  generalize w7.alloc (CB [] T.uint8) = w8 at *
  have z7 := B6'.size
  have ixr : ∀ (j : Nat) (i : Int), i = j → j < R + 5 → ∀ (L : Value → Prop), pu P (oIdxA T.sl_impl_Answer (sl b 0 (R + 5) cap) (.int .i64 i)) L = L (pt b (j * 6)) := fun j i e hj L => by
    subst e
    rw [oIdxA_sl (size := 6) L U.sl_impl_Answer (by kernel_rfl) (by omega) (by omega)]
    rw [Int.toNat_natCast, Nat.zero_add]
  have row : ∀ j (hj : j < R + 5), ∃ x, rowOf (bk w7 b) (j * 6) 6 = some (ansL ((rteA D M p n R)[j]'(by rw [rteA_len]; exact hj)).e ((rteA D M p n R)[j]'(by rw [rteA_len]; exact hj)).n ((rteA D M p n R)[j]'(by rw [rteA_len]; exact hj)).off x) ∧ BS w7 x ((rteA D M p n R)[j]'(by rw [rteA_len]; exact hj)).data := fun j hj => by
    obtain ⟨x, ex, bx, _⟩ := hA j (by omega) (by rw [rteA_len]; exact hj)
    have hr := rows j (by omega)
    rw [ex] at hr
    exact ⟨x, hr, bx⟩
  refine jn_with (fun t w' => ∃ v, t = [v] ∧ BS w' v (D.drop p) ∧ Below w7.heap.size w7 w') ?_ ?_
  rotate_left
  · rw [oSlice_sl (size := 6) _ U.sl_impl_Answer (by kernel_rfl) (by omega) (by omega) (by omega)]
    rw [if_neg (by omega), show ((1 + R : Nat) : Int).toNat - (1 : Int).toNat = R by omega, show 0 + (1 : Int).toNat * 6 = 6 from rfl, show cap - (1 : Int).toNat = cap - 1 from rfl]
    have ixs : ∀ i, i < R → ∀ (L : Value → Prop), pu P (oIdxA T.sl_impl_Answer (sl b 6 R (cap - 1)) (.int .i64 i)) L = L (pt b (6 + i * 6)) := fun i hi L => by
      rw [oIdxA_sl (size := 6) L U.sl_impl_Answer (by kernel_rfl) (by omega) (by omega)]
      rw [Int.toNat_natCast]
    simp (disch := first | omega | (simp only [size_setb, size_alloc', size_drew'] <;> omega) | (simp (disch := first | omega | (simp only [size_setb, size_alloc', size_drew'] <;> omega) | fail) only [go_sem]; done) | fail) only [go_sem, dec_t, dec_f, w_u32, w_u64, w_u16, w_u8, w_i64, Int.reduceToNat, Int.reducePow, Nat.reducePow]
    refine lp_intro (fun t w' => ∃ v, ∃ i : Nat, t = [v, .int .i64 i] ∧ i ≤ R ∧ w'.ownsRow w7.heap.size T.uint8 1 v ((D.drop p).take (i * n)).length (((D.drop p).take (i * n)).map byt) ∧ Below w7.heap.size w7 w') (fun t _ => R - (RowKit.intOf (gs t 1)).toNat) ⟨_, 0, rfl, by omega, by simpa using oa, B7⟩ ?_
    rintro t e w9 ⟨v, i, rfl, hi, o9, B9⟩
    by_cases g : i < R
    · simp (disch := first | omega | (simp only [size_setb, size_alloc', size_drew'] <;> omega) | (simp (disch := first | omega | (simp only [size_setb, size_alloc', size_drew'] <;> omega) | fail) only [go_sem]; done) | fail) only [go_sem, dec_t, dec_f, w_u32, w_u64, w_u16, w_u8, w_i64, Int.reduceToNat, Int.reducePow, Nat.reducePow]
      refine jn_with (fun t w' => t = [] ∧ w' = w9) ?_ ⟨rfl, rfl⟩
      rintro t e w10 ⟨rfl, rfl⟩
      obtain ⟨x, hr, bx⟩ := row (1 + i) (by omega)
      have hg := rteA_rd D M p n R i g (by rw [rteA_len]; omega)
      rw [hg] at hr bx
      have hr : rowOf (bk w10 b) (6 + i * 6) 6 = some (ansL (rdA D n (p + i * n)).e (rdA D n (p + i * n)).n (rdA D n (p + i * n)).off x) := by rw [bel_bk B9 q2, show 6 + i * 6 = (1 + i) * 6 by omega]; exact hr
      have bx : BS w10 x ((D.drop (p + i * n)).take n) := BS_old bx B9 (Nat.le_refl _)
      have one := BS_one bx
      have hs1 : (D.drop p).take ((i + 1) * n) = (D.drop p).take (i * n) ++ (D.drop (p + i * n)).take n := by
        rw [Nat.succ_mul, List.take_add, List.drop_drop]
      have hl1 : ((D.drop p).take (i * n)).length = min (i * n) (D.length - p) := by simp
      refine jn_with (fun t w' => ∃ v', t = [v'] ∧ w'.ownsRow w7.heap.size T.uint8 1 v' ((D.drop p).take ((i + 1) * n)).length (((D.drop p).take ((i + 1) * n)).map byt) ∧ Below w7.heap.size w7 w') ?_ ?_
      · rintro t e w11 ⟨v', rfl, o11, B11⟩
        refine ⟨⟨v', i + 1, rfl, by omega, o11, B11⟩, ?_⟩
        simp only [RowKit.intOf]
        omega
      rw [ixs i g]
      rw [Go.Proofs.YteblpejgenehfaaDoor.X.M.ld_impl_Answer (h := by rw [hr]; rfl), hr]
      obtain ⟨va, vc, ev⟩ := own_slice o9
      have z9 := B9.size
      have lt9 := own_lt o9
      have r : rdA D n (p + i * n) = ⟨if D.length ≤ p + i * n then 4 else 0, 0, 0, (D.drop (p + i * n)).take n⟩ := rfl
      have eE : (rdA D n (p + i * n)).e = if D.length ≤ p + i * n then 4 else 0 := rfl
      have hc2 : ((p : Int) + ((D.drop p).take (i * n)).length = D.length) = (D.length ≤ p + i * n) := by rw [hl1]; apply propext; constructor <;> intro h <;> omega
      generalize hE : (rdA D n (p + i * n)).e = E at *
      rw [ev]
      simp (disch := first | omega | (simp only [size_setb, size_alloc', size_drew'] <;> omega) | (simp (disch := first | omega | (simp only [size_setb, size_alloc', size_drew'] <;> omega) | fail) only [go_sem, one]; done) | fail) only [go_sem, dec_t, dec_f, w_u32, w_u64, w_u16, w_u8, w_i64, Int.reduceToNat, Int.reducePow, Nat.reducePow, one]
      rw [← ev]
      obtain ⟨wA, hwA⟩ : ∃ wA : World, wA = setb (w10.alloc (CB [Value.int IntKind.i64 0, Value.int IntKind.i64 0, Value.int IntKind.i64 0, Value.slice none 0 0, Value.slice none 0 0, Value.slice none 0 0] T.impl_Answer)) w10.heap.size (CB [Value.int IntKind.i64 E, Value.int IntKind.i64 (rdA D n (p + i * n)).n, Value.int IntKind.i64 (rdA D n (p + i * n)).off, x, Value.slice none 0 0, Value.slice none 0 0] T.impl_Answer) := ⟨_, rfl⟩
      have bA : Below w10.heap.size w10 wA := by subst hwA; repeat (first | exact Below.refl _ _ | assumption | refine bel_setb ?_ (by first | exact Nat.le_refl _ | omega | (simp only [go_sem] <;> omega)) _ | refine Below.alloc ?_ (by first | exact Nat.le_refl _ | omega | (simp only [go_sem]; omega)) _ | refine Below.drew ?_)
      have kA : bk wA w10.heap.size = some (CB [Value.int IntKind.i64 E, Value.int IntKind.i64 (rdA D n (p + i * n)).n, Value.int IntKind.i64 (rdA D n (p + i * n)).off, x, Value.slice none 0 0, Value.slice none 0 0] T.impl_Answer) := by subst hwA; exact bk_setb_eq _ _ _ _ rfl (by simp only [go_sem]; omega)
      have zA := bA.size
      rw [← hwA]
      clear hwA
      refine jn_with (fun t w' => w' = wA) ?_ ?_
      · rintro t e w11 rfl
        simp (disch := first | omega | (simp only [size_setb, size_alloc', size_drew'] <;> omega) | (simp (disch := first | omega | (simp only [size_setb, size_alloc', size_drew'] <;> omega) | fail) only [go_sem, kA]; done) | fail) only [go_sem, dec_t, dec_f, w_u32, w_u64, w_u16, w_u8, w_i64, Int.reduceToNat, Int.reducePow, Nat.reducePow, kA]
        refine oAppendBS U.sl_uint8 (by kernel_rfl) (own_old o9 bA (Nat.le_refl _)) (BS_old bx bA (Nat.le_refl _)) (by simp; omega) (by omega) fun v' w12 o12 g12 _ => ?_
        have K12 := Kp.of_grown g12
        refine ⟨v', rfl, ?_, (B9.trans (bA.mono z9)).trans (K12.below (fun k hk e => by have := (lt9 k e).1; omega) (by omega))⟩
        rw [← List.map_append, ← hs1] at o12
        rw [show ((D.drop p).take (i * n)).length + ((D.drop (p + i * n)).take n).length = ((D.drop p).take ((i + 1) * n)).length by rw [hs1, List.length_append]] at o12
        exact o12
      · simp only [hc2]
        by_cases hce : D.length ≤ p + i * n
        · rw [if_pos hce] at eE
          subst eE
          rw [decide_eq_true hce, decide_eq_true rfl, oNeqB]
          simp (disch := first | omega | (simp only [size_setb, size_alloc', size_drew'] <;> omega) | (simp (disch := first | omega | (simp only [size_setb, size_alloc', size_drew'] <;> omega) | fail) only [go_sem, kA, show (true != true) = false from rfl]; done) | fail) only [go_sem, dec_t, dec_f, w_u32, w_u64, w_u16, w_u8, w_i64, Int.reduceToNat, Int.reducePow, Nat.reducePow, kA, show (true != true) = false from rfl]
        · rw [if_neg hce] at eE
          subst eE
          rw [decide_eq_false hce, decide_eq_false (by omega), oNeqB]
          simp (disch := first | omega | (simp only [size_setb, size_alloc', size_drew'] <;> omega) | (simp (disch := first | omega | (simp only [size_setb, size_alloc', size_drew'] <;> omega) | fail) only [go_sem, kA, show (false != false) = false from rfl]; done) | fail) only [go_sem, dec_t, dec_f, w_u32, w_u64, w_u16, w_u8, w_i64, Int.reduceToNat, Int.reducePow, Nat.reducePow, kA, show (false != false) = false from rfl]
    · have eiR : i = R := by omega
      subst eiR
      simp (disch := first | omega | (simp only [size_setb, size_alloc', size_drew'] <;> omega) | (simp (disch := first | omega | (simp only [size_setb, size_alloc', size_drew'] <;> omega) | fail) only [go_sem]; done) | fail) only [go_sem, dec_t, dec_f, w_u32, w_u64, w_u16, w_u8, w_i64, Int.reduceToNat, Int.reducePow, Nat.reducePow]
      refine jn_with (fun _ _ => False) (fun _ _ _ h => h.elim) ?_
      refine ⟨v, rfl, ?_, B9⟩
      rw [List.take_of_length_le (by simp; omega)] at o9
      exact BS_own o9
  rintro t e w9 ⟨v, rfl, b9, B9⟩
  have hA1 : ∀ j (hj : j < 4), ∃ x, rowOf (bk w9 b) ((1 + R + j) * 6) 6 = some (ansL (([⟨0, M.length, 0, []⟩, ⟨4, 0, 0, []⟩, ⟨0, 0, D.length, []⟩, ⟨0, 0, 0, M⟩] : List Ans)[j]).e (([⟨0, M.length, 0, []⟩, ⟨4, 0, 0, []⟩, ⟨0, 0, D.length, []⟩, ⟨0, 0, 0, M⟩] : List Ans)[j]).n (([⟨0, M.length, 0, []⟩, ⟨4, 0, 0, []⟩, ⟨0, 0, D.length, []⟩, ⟨0, 0, 0, M⟩] : List Ans)[j]).off x) ∧ BS w9 x (([⟨0, M.length, 0, []⟩, ⟨4, 0, 0, []⟩, ⟨0, 0, D.length, []⟩, ⟨0, 0, 0, M⟩] : List Ans)[j]).data := fun j hj => by
    obtain ⟨x, hr, bx⟩ := row (1 + R + j) (by omega)
    have hg := rteA_end D M p n R j hj (by rw [rteA_len]; omega)
    rw [hg] at hr bx
    exact ⟨x, by rw [bel_bk B9 q2]; exact hr, BS_old bx B9 (Nat.le_refl _)⟩
  obtain ⟨x0, r0, _⟩ := hA1 0 (by omega)
  obtain ⟨x1, r1, _⟩ := hA1 1 (by omega)
  obtain ⟨x3, r3, bx3⟩ := hA1 3 (by omega)
  have cc0 : cellOf (bk w9 b) ((1 + R) * 6 + 1) = some (.int .i64 M.length) := cell_row r0 1 (by omega)
  have cc1 : cellOf (bk w9 b) ((R + 2) * 6) = some (.int .i64 4) := by
    have := cell_row r1 0 (by omega)
    rwa [show (1 + R + 1) * 6 + 0 = (R + 2) * 6 by omega] at this
  have cc3 : cellOf (bk w9 b) ((R + 4) * 6 + 3) = some x3 := by
    have := cell_row r3 3 (by omega)
    rwa [show (1 + R + 3) * 6 + 3 = (R + 4) * 6 + 3 by omega] at this
  replace bx3 : BS w9 x3 M := bx3
  clear row rows hA hA1 r0 r1 r3
  have B9' := B6'.trans (B9.mono z7)
  have hd9 : BS w9 (.slice a0 D.length c0) D := by rw [← e0]; exact BS_old hd B9' (Nat.le_refl _)
  have hm9 : BS w9 (.slice a1 M.length c1) M := by rw [← e1]; exact BS_old hm B9' (Nat.le_refl _)
  have hlv9 : BS w9 lv (D ++ M) := BS_old hlv B9 (Nat.le_refl _)
  obtain ⟨vs, bvs, svs⟩ := BS_lo U.sl_uint8 (by kernel_rfl) hd9 (p := p) (by omega)
  have cv1 : ∀ (L : Value → Prop), X.rd P (oConv T.sl_uint8 T.string v) w9.drew L = L (S (D.drop p)) := fun L => rdConvBS (w := w9.drew) U.string U.sl_uint8 U.uint8 b9
  have cv2 : ∀ (L : Value → Prop), X.rd P (oConv T.sl_uint8 T.string vs) w9.drew L = L (S (D.drop p)) := fun L => rdConvBS (w := w9.drew) U.string U.sl_uint8 U.uint8 bvs
  have cv3 : ∀ (L : Value → Prop), X.rd P (oConv T.sl_uint8 T.string x3) w9.drew L = L (S M) := fun L => rdConvBS (w := w9.drew) U.string U.sl_uint8 U.uint8 bx3
  have cv4 : ∀ (L : Value → Prop), X.rd P (oConv T.sl_uint8 T.string (.slice a1 M.length c1)) w9.drew L = L (S M) := fun L => rdConvBS (w := w9.drew) U.string U.sl_uint8 U.uint8 hm9
  have cv5 : ∀ (L : Value → Prop), X.rd P (oConv T.sl_uint8 T.string lv) w9.drew L = L (S (D ++ M)) := fun L => rdConvBS (w := w9.drew) U.string U.sl_uint8 U.uint8 hlv9
  have cv6 : ∀ (L : Value → Prop), X.rd P (oConv T.sl_uint8 T.string (.slice a0 D.length c0)) w9.drew L = L (S D) := fun L => rdConvBS (w := w9.drew) U.string U.sl_uint8 U.uint8 hd9
  have i0 := ixr (1 + R) ((1 + R : Nat) : Int) rfl (by omega)
  have i1 := ixr (R + 2) (((1 + R : Nat) : Int) + 1) (by omega) (by omega)
  have i3 := ixr (R + 4) (((1 + R : Nat) : Int) + 3) (by omega) (by omega)
  have o3 := BS_one bx3
  simp (disch := first | omega | (simp only [size_setb, size_alloc', size_drew'] <;> omega) | (simp (disch := first | omega | (simp only [size_setb, size_alloc', size_drew'] <;> omega) | fail) only [go_sem, svs, cv1, cv2, cv3, cv4, cv5, cv6, i0, i1, i3, cc0, cc1, cc3, decide_true]; done) | fail) only [go_sem, dec_t, dec_f, w_u32, w_u64, w_u16, w_u8, w_i64, Int.reduceToNat, Int.reducePow, Nat.reducePow, svs, cv1, cv2, cv3, cv4, cv5, cv6, i0, i1, i3, cc0, cc1, cc3, decide_true]
  exact ⟨trivial, B9'.drew⟩
theorem FnReadToTheEnd_walk (v0 : Value) (l0 : List UInt8) (v1 : Value) (l1 : List UInt8) (a b : Int) (w : World) (bs0 : BS w v0 l0) (h0 : l0.length ≤ 140737488351232) (bs1 : BS w v1 l1) (h1 : l1.length ≤ 140737488351232) (wa : (Lit.int .i64 a).wf = true) (wb : (Lit.int .i64 b).wf = true) (hL : laidMet P (senL.map senD) w) :
    Cl P Fn.laws_FnReadToTheEnd #[v0, v1, .int .i64 a, .int .i64 b] w fun v w' => v = .bool true ∧ Below w.heap.size w w' := by
  obtain ⟨m, hs⟩ := sn_of hL
  exact FnReadToTheEnd_law bs0 h0 bs1 h1 hs
end Go.Proofs.YteblpejgenehfaaDoor.X
