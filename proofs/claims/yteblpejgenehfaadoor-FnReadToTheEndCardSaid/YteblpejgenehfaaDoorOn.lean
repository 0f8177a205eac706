/- A step on a handle. No condition. -/
import Derived.Test.YteblpejgenehfaaDoorHd
set_option linter.unusedVariables false
set_option linter.unusedSimpArgs false
set_option maxRecDepth 100000
namespace Go.Proofs.YteblpejgenehfaaDoor.X
open Go Go.X Go.Proofs Go.RowKit

/-- A step, as it lies in memory. -/
structure Stp where
  op : Int
  name : List UInt8
  other : List UInt8
  flag : Int
  perm : Int
  h : Int
  v : Value
  data : List UInt8
  off : Int
  wh : Int
  n : Int
abbrev Stp.cells (q : Stp) : List Value := [.int .i64 q.op, S q.name, S q.other, .int .i64 q.flag, .int .i64 q.perm, .int .i64 q.h, q.v, .int .i64 q.off, .int .i64 q.wh, .int .i64 q.n]
/-- An answer. -/
abbrev ansL (e n off : Int) (v : Value) : List Value := [.int .i64 e, .int .i64 n, .int .i64 off, v, .slice none 0 0, .slice none 0 0]

abbrev ansB (e n off : Int) (v : Value) : Obj := CB (ansL e n off v) T.impl_Answer
theorem on_tail {w' : World} {K : Value → World → Prop} {A4 A5 : Nat} {errv : Value} {code n off : Int} {v : Value} (k5 : bk w' A5 = some (ansB 0 n off v)) (k4 : bk w' A4 = some (ansB 0 0 0 (.slice none 0 0))) (hne : A4 ≠ A5) (hv : v.oneCell' = true) (kind : ∀ K, K (.int .i64 code) w' → Cl P Fn.impl_kind #[errv] w' K)
    (h : K (AG (ansL code n off v)) (setb (setb w' A5 (ansB code n off v)) A4 (ansB code n off v))) :
    Cl P Fn.impl_kind #[errv] w' fun t143 w6 => st P (oStore T.int (.pointer (some ⟨A5, 0, none⟩)) t143) w6 fun x w7 => st P (oLoad T.impl_Answer (pt A5 0)) w7 fun t145 w8 => st P (oStore T.impl_Answer (pt A4 0) t145) w8 fun x w9 => rsl P T.impl_Answer (pt A4 0) w9 fun r1 => K r1 w9 := by
  refine kind _ ?_
  have l5 := bk_lt k5
  have l4 := bk_lt k4
  simp (disch := first | omega | (simp only [size_setb, size_alloc', size_drew'] <;> omega) | (simp (disch := first | omega | (simp only [size_setb, size_alloc', size_drew'] <;> omega) | fail) only [go_sem, k5, k4, hv]; done) | fail) only [go_sem, dec_t, dec_f, w_u32, w_u64, w_u16, w_u8, w_i64, Int.reduceToNat, Int.reducePow, Nat.reducePow, k5, k4, hv]
  exact h
theorem on_fin {w w' : World} {B f d A4 A5 : Nat} {v : Value} {s : FS} {R : Nat → Prop} {o4 o5 : Obj} (h : FD w' B f d v s) (k : Kp w w' R) (a4 : w.heap.size ≤ A4) (a5 : w.heap.size ≤ A5) (lf : f < w.heap.size) (ld : d < w.heap.size) (n4 : v.ownBlock ≠ some A4) (n5 : v.ownBlock ≠ some A5) :
    FD (setb (setb w' A5 o5) A4 o4) B f d v s ∧ Kp w (setb (setb w' A5 o5) A4 o4) R := by
  refine ⟨?_, ?_⟩
  · refine (h.kept (Kp.setb w' A5 o5) fun x hx e => ?_).kept (Kp.setb _ A4 o4) fun x hx e => ?_
    · subst e
      rcases hx with e | e | e
      · omega
      · omega
      · exact n5 e
    · subst e
      rcases hx with e | e | e
      · omega
      · omega
      · exact n4 e
  · refine (k.trans (Kp.setb w' A5 o5) fun x hx e => ?_).trans (Kp.setb _ A4 o4) fun x hx e => ?_
    · omega
    · omega

theorem on_mid {w w1 w2 : World} {B f d A5 : Nat} {v v' : Value} {s' : FS} {R : Nat → Prop} {o5 : Obj} (hB : Below w.heap.size w w1) (F2 : FD w2 B f d v' s') (K2 : Kp w1 w2 R) (hR : ∀ x, x < w.heap.size → R x → Of f d v x) (a5 : w.heap.size ≤ A5) (lf : f < w.heap.size) (ld : d < w.heap.size) (n5 : v'.ownBlock ≠ some A5) :
    FD (setb w2 A5 o5) B f d v' s' ∧ Kp w (setb w2 A5 o5) (Of f d v) := by
  refine ⟨F2.kept (Kp.setb w2 A5 o5) fun x hx e => ?_, ?_⟩
  · subst e
    rcases hx with e | e | e
    · omega
    · omega
    · exact n5 e
  · have k1 := (Kp.of_below hB (Of f d v)).trans K2 hR
    exact k1.trans (Kp.setb w2 A5 o5) fun x hx e => by omega
/-- The memory when a step's work begins. -/
abbrev w1of (w : World) (q : Stp) : World := ((w.alloc (CB q.cells T.impl_Step)).alloc (ansB 0 0 0 (.slice none 0 0))).alloc (ansB 0 0 0 (.slice none 0 0))
theorem w1of_facts (w : World) (q : Stp) : Below w.heap.size w (w1of w q) ∧ (w1of w q).heap.size = w.heap.size + 3 ∧ bk (w1of w q) (w.heap.size + 1 + 1) = some (ansB 0 0 0 (.slice none 0 0)) ∧ bk (w1of w q) (w.heap.size + 1) = some (ansB 0 0 0 (.slice none 0 0)) ∧ bk (w1of w q) w.heap.size = some (CB q.cells T.impl_Step) := by
  refine ⟨?_, ?_, ?_, ?_, ?_⟩
  · repeat (first | exact Below.refl _ _ | assumption | refine bel_setb ?_ (by first | exact Nat.le_refl _ | omega | (simp only [go_sem] <;> omega)) _ | refine Below.alloc ?_ (by first | exact Nat.le_refl _ | omega | (simp only [go_sem]; omega)) _ | refine Below.drew ?_)
  · simp only [go_sem]
  · simp only [go_sem]
  · rw [bk_alloc_ne _ _ _ (by simp only [go_sem]; omega), bk_alloc_eq _ _ _ (by simp only [go_sem])]
  · rw [bk_alloc_ne _ _ _ (by simp only [go_sem]; omega), bk_alloc_ne _ _ _ (by simp only [go_sem]; omega), bk_alloc_eq _ _ _ rfl]

set_option maxHeartbeats 4000000 in
theorem on_seek {w : World} {K : Value → World → Prop} {B f d : Nat} {v : Value} {s : FS} {q : Stp} (h : FD w B f d v s) (hop : q.op = 16) (hv : q.v.oneCell' = true) (hc : s.cl = false) (h1 : -4611686018427387904 ≤ q.off ∧ q.off ≤ 4611686018427387903) (h2 : -4611686018427387904 ≤ s.pos ∧ s.pos ≤ 4611686018427387903) (h3 : s.bytes.length ≤ 4611686018427387903)
    (hk : ∀ w', FD w' B f d v { s with pos := seekTo s q.off q.wh } → Kp w w' (Of f d v) → K (AG (ansL 0 0 (seekTo s q.off q.wh) (.slice none 0 0))) w') : Cl P Fn.impl_on #[pt f 0, AG q.cells] w K := by
  apply S_impl_on
  unfold F_impl_on
  simp (disch := first | omega | (simp only [size_setb, size_alloc', size_drew'] <;> omega) | (simp (disch := first | omega | (simp only [size_setb, size_alloc', size_drew'] <;> omega) | fail) only [go_sem, hop, hv]; done) | fail) only [go_sem, dec_t, dec_f, w_u32, w_u64, w_u16, w_u8, w_i64, Int.reduceToNat, Int.reducePow, Nat.reducePow, hop, hv]
  obtain ⟨lf, ld⟩ := h.lt
  have own := own_lt h.own
  obtain ⟨B0, hs0, h5, h4, _⟩ := w1of_facts w q
  rw [setb_same h5]
  generalize w1of w q = w1 at *
  have hF := h.old B0
  refine jn_with (fun t w' => t = [.nilIface] ∧ FD w' B f d v { s with pos := seekTo s q.off q.wh } ∧ Kp w w' (Of f d v) ∧ bk w' (w.heap.size + 1 + 1) = some (ansB 0 0 (seekTo s q.off q.wh) (.slice none 0 0)) ∧ bk w' (w.heap.size + 1) = some (ansB 0 0 0 (.slice none 0 0))) ?_ ?_
  · rintro t e w2 ⟨rfl, F2, K2, k5, k4⟩
    rw [gs0]
    refine on_tail k5 k4 (by omega) rfl (fun K h => kind_nil h) ?_
    obtain ⟨F3, K3⟩ := on_fin (A4 := w.heap.size + 1) (A5 := w.heap.size + 1 + 1) (o4 := ansB 0 0 (seekTo s q.off q.wh) (.slice none 0 0)) (o5 := ansB 0 0 (seekTo s q.off q.wh) (.slice none 0 0)) F2 K2 (by omega) (by omega) lf ld (fun e => by have := (own _ e).2; omega) (fun e => by have := (own _ e).2; omega)
    exact hk _ F3 K3
  · refine seek_spec hF hc h1 h2 h3 fun w2 F2 K2 => ?_
    have nOf : ∀ x, w.heap.size ≤ x → ¬ Of f d v x := fun x hx => by
      rintro (e | e | e)
      · omega
      · omega
      · have := (own _ e).2; omega
    have k5 : bk w2 (w.heap.size + 1 + 1) = some (ansB 0 0 0 (.slice none 0 0)) := by rw [K2.block _ (by omega) (nOf _ (by omega)), h5]
    have k4 : bk w2 (w.heap.size + 1) = some (ansB 0 0 0 (.slice none 0 0)) := by rw [K2.block _ (by omega) (nOf _ (by omega)), h4]
    have l5 := bk_lt k5
    simp (disch := first | omega | (simp only [size_setb, size_alloc', size_drew'] <;> omega) | (simp (disch := first | omega | (simp only [size_setb, size_alloc', size_drew'] <;> omega) | fail) only [go_sem, k5]; done) | fail) only [go_sem, dec_t, dec_f, w_u32, w_u64, w_u16, w_u8, w_i64, Int.reduceToNat, Int.reducePow, Nat.reducePow, k5]
    obtain ⟨F3, K3⟩ := on_mid (w := w) (v := v) (A5 := w.heap.size + 1 + 1) (o5 := ansB 0 0 (seekTo s q.off q.wh) (.slice none 0 0)) B0 F2 K2 (fun _ _ h => h) (by omega) lf ld (fun e => by have := (own _ e).2; omega)
    exact ⟨trivial, F3, K3, trivial, k4⟩

/-- How many bytes a step wants. -/
def want (n : Int) : Nat := (max 0 (min n 1048576)).toNat
theorem rdF_err (s : FS) (n : Nat) : (rdF s n).2 = 0 ∨ (rdF s n).2 = 4 ∨ (rdF s n).2 = 5 := by
  unfold rdF
  split
  · exact .inr (.inl rfl)
  · split
    · exact .inr (.inr rfl)
    · exact .inl rfl
theorem rdF_len (s : FS) (n : Nat) : (rdF s n).1.length ≤ n ∧ (rdF s n).1.length ≤ s.bytes.length := by
  unfold rdF
  split
  · simp
  · split
    · simp
    · simp only [List.length_take, List.length_drop]; omega
theorem kind_errV {w : World} {K : Value → World → Prop} {B : Nat} {m : Nat → Nat × Nat} (hs : Sn w B m) {k : Nat} (hk : k = 0 ∨ k = 4 ∨ k = 5) (h : K (.int .i64 k) w) : Cl P Fn.impl_kind #[errV m k] w K := by
  rcases hk with rfl | rfl | rfl
  · exact kind_nil h
  · exact kind_eof hs h
  · exact kind_ueof hs h
set_option maxHeartbeats 4000000 in
theorem on_read {w : World} {K : Value → World → Prop} {B f d : Nat} {v : Value} {s : FS} {q : Stp} {m : Nat → Nat × Nat} (h : FD w B f d v s) (hs : Sn w B m) (hop : q.op = 12) (hv : q.v.oneCell' = true) (hc : s.cl = false) (h2 : 0 ≤ s.pos ∧ s.pos ≤ 4611686018427387903) (h3 : s.bytes.length ≤ 281474976710656)
    (hk : ∀ w' b, w.heap.size ≤ b → b < w'.heap.size → FD w' B f d v { s with pos := s.pos + (rdF s (want q.n)).1.length } → Kp w w' (Of f d v) → BS w' (sl b 0 (rdF s (want q.n)).1.length (want q.n)) (rdF s (want q.n)).1 → K (AG (ansL (rdF s (want q.n)).2 0 0 (sl b 0 (rdF s (want q.n)).1.length (want q.n)))) w') : Cl P Fn.impl_on #[pt f 0, AG q.cells] w K := by
  apply S_impl_on
  unfold F_impl_on
  simp (disch := first | omega | (simp only [size_setb, size_alloc', size_drew'] <;> omega) | (simp (disch := first | omega | (simp only [size_setb, size_alloc', size_drew'] <;> omega) | fail) only [go_sem, hop, hv]; done) | fail) only [go_sem, dec_t, dec_f, w_u32, w_u64, w_u16, w_u8, w_i64, Int.reduceToNat, Int.reducePow, Nat.reducePow, hop, hv]
  obtain ⟨lf, ld⟩ := h.lt
  have own := own_lt h.own
  obtain ⟨B0, hs0, h5, h4, h1⟩ := w1of_facts w q
  rw [setb_same h5]
  generalize w1of w q = w1 at *
  have hF := h.old B0
  have ew : (max 0 (min q.n 1048576) : Int) = (want q.n : Nat) := by unfold want; omega
  have hwl : want q.n ≤ 1048576 := by unfold want; omega
  have hrl := rdF_len s (want q.n)
  generalize hN : want q.n = N at *
  have hlt : f < w1.heap.size := by omega
  simp (disch := first | omega | (simp only [size_setb, size_alloc', size_drew'] <;> omega) | (simp (disch := first | omega | (simp only [size_setb, size_alloc', size_drew'] <;> omega) | fail) only [go_sem, ew]; done) | fail) only [go_sem, dec_t, dec_f, w_u32, w_u64, w_u16, w_u8, w_i64, Int.reduceToNat, Int.reducePow, Nat.reducePow, ew]
  have hF2 := hF.old (w' := w1.alloc (CB (List.replicate N (.int .u8 0)) T.uint8)) (Below.alloc (Below.refl _ _) (Nat.le_refl _) _)
  have hs2 : Sn (w1.alloc (CB (List.replicate N (.int .u8 0)) T.uint8)) B m := hs.below (((B0.mono (by have := h.hf; omega)).alloc (by have := h.hf; omega) _))
  refine jn_with (fun t w' => t = [errV m (rdF s N).2] ∧ FD w' B f d v { s with pos := s.pos + (rdF s N).1.length } ∧ Kp w w' (Of f d v) ∧ bk w' (w.heap.size + 1 + 1) = some (ansB 0 0 0 (sl w1.heap.size 0 (rdF s N).1.length N)) ∧ bk w' (w.heap.size + 1) = some (ansB 0 0 0 (.slice none 0 0)) ∧ BS w' (sl w1.heap.size 0 (rdF s N).1.length N) (rdF s N).1 ∧ Sn w' B m ∧ w1.heap.size < w'.heap.size) ?_ ?_
  · rintro t e w2 ⟨rfl, F2, K2, k5, k4, bs, sn, wsz⟩
    rw [gs0]
    refine on_tail k5 k4 (by omega) rfl (fun K h => kind_errV sn (rdF_err s N) h) ?_
    obtain ⟨F3, K3⟩ := on_fin (A4 := w.heap.size + 1) (A5 := w.heap.size + 1 + 1) (o4 := ansB (rdF s N).2 0 0 (sl w1.heap.size 0 (rdF s N).1.length N)) (o5 := ansB (rdF s N).2 0 0 (sl w1.heap.size 0 (rdF s N).1.length N)) F2 K2 (by omega) (by omega) lf ld (fun e => by have := (own _ e).2; omega) (fun e => by have := (own _ e).2; omega)
    refine hk _ w1.heap.size (by omega) (by simp only [go_sem]; exact wsz) F3 K3 ?_
    refine BS_kp (BS_kp bs (Kp.setb _ _ _) fun k hk e => ?_) (Kp.setb _ _ _) fun k hk e => ?_
    · have hk2 : w1.heap.size = k := Option.some.inj hk; omega
    · have hk2 : w1.heap.size = k := Option.some.inj hk; omega
  · rw [oMkB U.sl_uint8 (by kernel_rfl) N (by omega)]
    refine read_spec (m := m) hF2 hs2 hc h2 h3 (by omega) (bk_alloc_eq _ _ _ rfl) (by omega) (by omega) (fun e => by have := (own _ e).2; omega) fun w2 F2 K2 kb => ?_
    have hwb : (w1.alloc (CB (List.replicate N (.int .u8 0)) T.uint8)).heap.size = w1.heap.size + 1 := by simp only [go_sem]
    have k5 : bk w2 (w.heap.size + 1 + 1) = some (ansB 0 0 0 (.slice none 0 0)) := by
      rw [K2.block _ (by omega) (by omega), bk_alloc_ne _ _ _ (by omega), h5]
    have k4 : bk w2 (w.heap.size + 1) = some (ansB 0 0 0 (.slice none 0 0)) := by
      rw [K2.block _ (by omega) (by omega), bk_alloc_ne _ _ _ (by omega), h4]
    have l5 := bk_lt k5
    have sh : ∀ (L : Value → Prop), pu P (oSlice T.sl_uint8 (sl w1.heap.size 0 N N) none (some (.int .i64 (rdF s N).1.length)) none) L = L (sl w1.heap.size 0 (rdF s N).1.length N) := fun L => by
      rw [oSlice_hi (size := 1) L U.sl_uint8 (by kernel_rfl) (by omega) (by omega)]
      rw [Int.toNat_natCast]
    simp (disch := first | omega | (simp only [size_setb, size_alloc', size_drew'] <;> omega) | (simp (disch := first | omega | (simp only [size_setb, size_alloc', size_drew'] <;> omega) | fail) only [go_sem, k5, sh]; done) | fail) only [go_sem, dec_t, dec_f, w_u32, w_u64, w_u16, w_u8, w_i64, Int.reduceToNat, Int.reducePow, Nat.reducePow, k5, sh]
    obtain ⟨F3, K3⟩ := on_mid (w := w) (v := v) (A5 := w.heap.size + 1 + 1) (o5 := ansB 0 0 0 (sl w1.heap.size 0 (rdF s N).1.length N)) (Below.alloc B0 (by omega) _) F2 K2 (fun x hx e => by rcases e with e | e; exact .inl e; omega) (by omega) lf ld (fun e => by have := (own _ e).2; omega)
    refine ⟨trivial, F3, K3, trivial, k4, ?_, ?_, by have := K2.size; omega⟩
    · refine BS_kp (.inr ⟨w1.heap.size, 0, N, rfl, hrl.1, ?_, ?_⟩) (Kp.setb _ _ _) fun k hk e => ?_
      · unfold rowB
        rw [kb]
        simp only [rowOf]
        rw [if_pos (by simp only [List.size_toArray, List.length_append, List.length_map, List.length_replicate]; omega)]
        simp
      · have := K2.size; omega
      · have hk2 : w1.heap.size = k := Option.some.inj hk; omega
    · refine hs2.below ?_
      have q1 := K2.below (B := B) (fun x hx e => by rcases e with e | e; exact absurd h.hf (by omega); have := h.hf; omega) (by have := h.hf; omega)
      exact bel_setb q1 (by have := h.hf; omega) _
set_option maxHeartbeats 4000000 in
theorem on_readAt {w : World} {K : Value → World → Prop} {B f d : Nat} {v : Value} {s : FS} {q : Stp} {m : Nat → Nat × Nat} (h : FD w B f d v s) (hs : Sn w B m) (hop : q.op = 13) (hv : q.v.oneCell' = true) (hc : s.cl = false) (h2 : 0 ≤ q.off ∧ q.off ≤ 4611686018427387903) (h3 : s.bytes.length ≤ 281474976710656)
    (hk : ∀ w' b, w.heap.size ≤ b → b < w'.heap.size → FD w' B f d v s → Kp w w' (Of f d v) → BS w' (sl b 0 (rdF { s with pos := q.off } (want q.n)).1.length (want q.n)) (rdF { s with pos := q.off } (want q.n)).1 → K (AG (ansL (rdF { s with pos := q.off } (want q.n)).2 0 0 (sl b 0 (rdF { s with pos := q.off } (want q.n)).1.length (want q.n)))) w') : Cl P Fn.impl_on #[pt f 0, AG q.cells] w K := by
  apply S_impl_on
  unfold F_impl_on
  simp (disch := first | omega | (simp only [size_setb, size_alloc', size_drew'] <;> omega) | (simp (disch := first | omega | (simp only [size_setb, size_alloc', size_drew'] <;> omega) | fail) only [go_sem, hop, hv]; done) | fail) only [go_sem, dec_t, dec_f, w_u32, w_u64, w_u16, w_u8, w_i64, Int.reduceToNat, Int.reducePow, Nat.reducePow, hop, hv]
  obtain ⟨lf, ld⟩ := h.lt
  have own := own_lt h.own
  obtain ⟨B0, hs0, h5, h4, h1⟩ := w1of_facts w q
  rw [setb_same h5]
  generalize w1of w q = w1 at *
  have hF := h.old B0
  have ew : (max 0 (min q.n 1048576) : Int) = (want q.n : Nat) := by unfold want; omega
  have hwl : want q.n ≤ 1048576 := by unfold want; omega
  have hrl := rdF_len { s with pos := q.off } (want q.n)
  generalize hN : want q.n = N at *
  have hlt : f < w1.heap.size := by omega
  simp (disch := first | omega | (simp only [size_setb, size_alloc', size_drew'] <;> omega) | (simp (disch := first | omega | (simp only [size_setb, size_alloc', size_drew'] <;> omega) | fail) only [go_sem, ew]; done) | fail) only [go_sem, dec_t, dec_f, w_u32, w_u64, w_u16, w_u8, w_i64, Int.reduceToNat, Int.reducePow, Nat.reducePow, ew]
  have hF2 := hF.old (w' := w1.alloc (CB (List.replicate N (.int .u8 0)) T.uint8)) (Below.alloc (Below.refl _ _) (Nat.le_refl _) _)
  have hs2 : Sn (w1.alloc (CB (List.replicate N (.int .u8 0)) T.uint8)) B m := hs.below (((B0.mono (by have := h.hf; omega)).alloc (by have := h.hf; omega) _))
  refine jn_with (fun t w' => t = [errV m (rdF { s with pos := q.off } N).2] ∧ FD w' B f d v s ∧ Kp w w' (Of f d v) ∧ bk w' (w.heap.size + 1 + 1) = some (ansB 0 0 0 (sl w1.heap.size 0 (rdF { s with pos := q.off } N).1.length N)) ∧ bk w' (w.heap.size + 1) = some (ansB 0 0 0 (.slice none 0 0)) ∧ BS w' (sl w1.heap.size 0 (rdF { s with pos := q.off } N).1.length N) (rdF { s with pos := q.off } N).1 ∧ Sn w' B m ∧ w1.heap.size < w'.heap.size) ?_ ?_
  · rintro t e w2 ⟨rfl, F2, K2, k5, k4, bs, sn, wsz⟩
    rw [gs0]
    refine on_tail k5 k4 (by omega) rfl (fun K h => kind_errV sn (rdF_err { s with pos := q.off } N) h) ?_
    obtain ⟨F3, K3⟩ := on_fin (A4 := w.heap.size + 1) (A5 := w.heap.size + 1 + 1) (o4 := ansB (rdF { s with pos := q.off } N).2 0 0 (sl w1.heap.size 0 (rdF { s with pos := q.off } N).1.length N)) (o5 := ansB (rdF { s with pos := q.off } N).2 0 0 (sl w1.heap.size 0 (rdF { s with pos := q.off } N).1.length N)) F2 K2 (by omega) (by omega) lf ld (fun e => by have := (own _ e).2; omega) (fun e => by have := (own _ e).2; omega)
    refine hk _ w1.heap.size (by omega) (by simp only [go_sem]; exact wsz) F3 K3 ?_
    refine BS_kp (BS_kp bs (Kp.setb _ _ _) fun k hk e => ?_) (Kp.setb _ _ _) fun k hk e => ?_
    · have hk2 : w1.heap.size = k := Option.some.inj hk; omega
    · have hk2 : w1.heap.size = k := Option.some.inj hk; omega
  · rw [oMkB U.sl_uint8 (by kernel_rfl) N (by omega)]
    have h1' : bk (w1.alloc (CB (List.replicate N (.int .u8 0)) T.uint8)) w.heap.size = some (CB q.cells T.impl_Step) := by rw [bk_alloc_ne _ _ _ (by omega)]; exact h1
    simp (disch := first | omega | (simp only [size_setb, size_alloc', size_drew'] <;> omega) | (simp (disch := first | omega | (simp only [size_setb, size_alloc', size_drew'] <;> omega) | fail) only [go_sem, h1']; done) | fail) only [go_sem, dec_t, dec_f, w_u32, w_u64, w_u16, w_u8, w_i64, Int.reduceToNat, Int.reducePow, Nat.reducePow, h1']
    refine readAt_spec (m := m) hF2 hs2 hc h2 h3 (by omega) (bk_alloc_eq _ _ _ rfl) (by omega) (by omega) (fun e => by have := (own _ e).2; omega) fun w2 F2 K2 kb => ?_
    have hwb : (w1.alloc (CB (List.replicate N (.int .u8 0)) T.uint8)).heap.size = w1.heap.size + 1 := by simp only [go_sem]
    have k5 : bk w2 (w.heap.size + 1 + 1) = some (ansB 0 0 0 (.slice none 0 0)) := by
      rw [K2.block _ (by omega) (by omega), bk_alloc_ne _ _ _ (by omega), h5]
    have k4 : bk w2 (w.heap.size + 1) = some (ansB 0 0 0 (.slice none 0 0)) := by
      rw [K2.block _ (by omega) (by omega), bk_alloc_ne _ _ _ (by omega), h4]
    have l5 := bk_lt k5
    have sh : ∀ (L : Value → Prop), pu P (oSlice T.sl_uint8 (sl w1.heap.size 0 N N) none (some (.int .i64 (rdF { s with pos := q.off } N).1.length)) none) L = L (sl w1.heap.size 0 (rdF { s with pos := q.off } N).1.length N) := fun L => by
      rw [oSlice_hi (size := 1) L U.sl_uint8 (by kernel_rfl) (by omega) (by omega)]
      rw [Int.toNat_natCast]
    simp (disch := first | omega | (simp only [size_setb, size_alloc', size_drew'] <;> omega) | (simp (disch := first | omega | (simp only [size_setb, size_alloc', size_drew'] <;> omega) | fail) only [go_sem, k5, sh]; done) | fail) only [go_sem, dec_t, dec_f, w_u32, w_u64, w_u16, w_u8, w_i64, Int.reduceToNat, Int.reducePow, Nat.reducePow, k5, sh]
    obtain ⟨F3, K3⟩ := on_mid (w := w) (v := v) (A5 := w.heap.size + 1 + 1) (o5 := ansB 0 0 0 (sl w1.heap.size 0 (rdF { s with pos := q.off } N).1.length N)) (Below.alloc B0 (by omega) _) F2 K2 (fun x hx e => by rcases e with e | e; exact .inl e; omega) (by omega) lf ld (fun e => by have := (own _ e).2; omega)
    refine ⟨trivial, F3, K3, trivial, k4, ?_, ?_, by have := K2.size; omega⟩
    · refine BS_kp (.inr ⟨w1.heap.size, 0, N, rfl, hrl.1, ?_, ?_⟩) (Kp.setb _ _ _) fun k hk e => ?_
      · unfold rowB
        rw [kb]
        simp only [rowOf]
        rw [if_pos (by simp only [List.size_toArray, List.length_append, List.length_map, List.length_replicate]; omega)]
        simp
      · have := K2.size; omega
      · have hk2 : w1.heap.size = k := Option.some.inj hk; omega
    · refine hs2.below ?_
      have q1 := K2.below (B := B) (fun x hx e => by rcases e with e | e; exact absurd h.hf (by omega); have := h.hf; omega) (by have := h.hf; omega)
      exact bel_setb q1 (by have := h.hf; omega) _
end Go.Proofs.YteblpejgenehfaaDoor.X
