/- Writing and cutting through a handle that only reads. No condition. -/
import Derived.Test.YteblpejgenehfaaDoorScr
set_option linter.unusedVariables false
set_option linter.unusedSimpArgs false
set_option maxRecDepth 100000
namespace Go.Proofs.YteblpejgenehfaaDoor.X
open Go Go.X Go.Proofs Go.RowKit

/-- An error that tells of a path, with a new error in it. -/
def PE (w : World) (B : Nat) (x : Value) (op : List UInt8) : Prop := ∃ pb ib nm txt, x = .iface T.p_os_PathError (pt pb 0) ∧ bk w pb = some (CB [S op, S nm, er (ib, 0)] T.os_PathError) ∧ bk w ib = some (CB [S txt] T.errors_errorString) ∧ B ≤ ib
theorem stEqlNew {w : World} {B : Nat} {m : Nat → Nat × Nat} (hs : Sn w B m) {ib : Nat} {txt : List UInt8} (hb : bk w ib = some (CB [S txt] T.errors_errorString)) (hB : B ≤ ib) {g : Nat} (hg : g ∈ sents) (L : Value → World → Prop) : st P (oBin .eql T.error false false (er (ib, 0)) (er (m g))) w L = L (.bool false) w := by
  obtain ⟨q, l, t, e⟩ := hs.cell g hg
  rw [stEqlErr errT false false hb e]
  congr 2
  refine decide_eq_false fun h => ?_
  have := h.1
  omega
theorem kind_pe {w : World} {K : Value → World → Prop} {B : Nat} {m : Nat → Nat × Nat} (hs : Sn w B m) {x : Value} {op : List UInt8} (hx : PE w B x op) (hop : op = [119, 114, 105, 116, 101] ∨ op = [116, 114, 117, 110, 99, 97, 116, 101]) (h : K (.int .i64 6) w) : Cl P Fn.impl_kind #[x] w K := by
  obtain ⟨pb, ib, nm, txt, rfl, hp, hi, hB⟩ := hx
  apply S_impl_kind
  unfold F_impl_kind
  have eq : ∀ {g : Nat}, g ∈ sents → ∀ (L : Value → World → Prop), st P (oBin .eql T.error false false (er (ib, 0)) (er (m g))) w L = L (.bool false) w := fun hg L => stEqlNew hs hi hB hg L
  have as1 : ∀ (L : Value → Prop), pu P (oAssert (.iface T.p_os_PathError (pt pb 0)) T.error T.p_os_PathError true) L = L (tup [pt pb 0, .bool true]) := fun L => oAssertSame U.p_os_PathError _
  have l1 := fun L => hs.load (g := G.os_ErrNotExist) (by decide) L
  have l2 := fun L => hs.load (g := G.os_ErrExist) (by decide) L
  have l3 := fun L => hs.load (g := G.os_ENOTDIR) (by decide) L
  have l4 := fun L => hs.load (g := G.os_ENOENT) (by decide) L
  have e1 := @eq G.os_ErrNotExist (by decide)
  have e2 := @eq G.os_ErrExist (by decide)
  have e3 := @eq G.os_ENOTDIR (by decide)
  have e4 := @eq G.os_ENOENT (by decide)
  refine jn_with (fun _ _ => False) (fun _ _ _ h => h.elim) ?_
  rw [as1]
  simp (disch := first | omega | (simp only [size_setb, size_alloc', size_drew'] <;> omega) | (simp (disch := first | omega | (simp only [size_setb, size_alloc', size_drew'] <;> omega) | fail) only [go_sem, hp]; done) | fail) only [go_sem, dec_t, dec_f, w_u32, w_u64, w_u16, w_u8, w_i64, Int.reduceToNat, Int.reducePow, Nat.reducePow, hp]
  refine jn_with (fun t w' => t = [.bool false] ∧ w' = w) ?_ ?_
  · rintro t e w1 ⟨rfl, rfl⟩
    simp (disch := first | omega | (simp only [size_setb, size_alloc', size_drew'] <;> omega) | (simp (disch := first | omega | (simp only [size_setb, size_alloc', size_drew'] <;> omega) | fail) only [go_sem]; done) | fail) only [go_sem, dec_t, dec_f, w_u32, w_u64, w_u16, w_u8, w_i64, Int.reduceToNat, Int.reducePow, Nat.reducePow]
    refine jn_with (fun _ _ => False) (fun _ _ _ h => h.elim) ?_
    rcases hop with rfl | rfl
    · have d1 : decide (([119, 114, 105, 116, 101] : List UInt8) = [114, 101, 97, 100, 100, 105, 114]) = false := rfl
      have d2 : decide (([119, 114, 105, 116, 101] : List UInt8) = [116, 114, 117, 110, 99, 97, 116, 101]) = false := rfl
      simp (disch := first | omega | (simp only [size_setb, size_alloc', size_drew'] <;> omega) | (simp (disch := first | omega | (simp only [size_setb, size_alloc', size_drew'] <;> omega) | fail) only [go_sem, hp, d1, d2, decide_true]; done) | fail) only [go_sem, dec_t, dec_f, w_u32, w_u64, w_u16, w_u8, w_i64, Int.reduceToNat, Int.reducePow, Nat.reducePow, hp, d1, d2, decide_true]
      refine jn_with (fun t w' => t = [.bool true] ∧ w' = w1) ?_ ?_
      · rintro t e w2 ⟨rfl, rfl⟩
        simp (disch := first | omega | (simp only [size_setb, size_alloc', size_drew'] <;> omega) | (simp (disch := first | omega | (simp only [size_setb, size_alloc', size_drew'] <;> omega) | fail) only [go_sem]; done) | fail) only [go_sem, dec_t, dec_f, w_u32, w_u64, w_u16, w_u8, w_i64, Int.reduceToNat, Int.reducePow, Nat.reducePow]
        exact h
      · simp (disch := first | omega | (simp only [size_setb, size_alloc', size_drew'] <;> omega) | (simp (disch := first | omega | (simp only [size_setb, size_alloc', size_drew'] <;> omega) | fail) only [go_sem, d2, decide_true]; done) | fail) only [go_sem, dec_t, dec_f, w_u32, w_u64, w_u16, w_u8, w_i64, Int.reduceToNat, Int.reducePow, Nat.reducePow, d2, decide_true]
        exact ⟨trivial, trivial⟩
    · have d1 : decide (([116, 114, 117, 110, 99, 97, 116, 101] : List UInt8) = [114, 101, 97, 100, 100, 105, 114]) = false := rfl
      simp (disch := first | omega | (simp only [size_setb, size_alloc', size_drew'] <;> omega) | (simp (disch := first | omega | (simp only [size_setb, size_alloc', size_drew'] <;> omega) | fail) only [go_sem, hp, d1, decide_true]; done) | fail) only [go_sem, dec_t, dec_f, w_u32, w_u64, w_u16, w_u8, w_i64, Int.reduceToNat, Int.reducePow, Nat.reducePow, hp, d1, decide_true]
      refine jn_with (fun t w' => t = [.bool true] ∧ w' = w1) ?_ ?_
      · rintro t e w2 ⟨rfl, rfl⟩
        simp (disch := first | omega | (simp only [size_setb, size_alloc', size_drew'] <;> omega) | (simp (disch := first | omega | (simp only [size_setb, size_alloc', size_drew'] <;> omega) | fail) only [go_sem]; done) | fail) only [go_sem, dec_t, dec_f, w_u32, w_u64, w_u16, w_u8, w_i64, Int.reduceToNat, Int.reducePow, Nat.reducePow]
        exact h
      · simp (disch := first | omega | (simp only [size_setb, size_alloc', size_drew'] <;> omega) | (simp (disch := first | omega | (simp only [size_setb, size_alloc', size_drew'] <;> omega) | fail) only [go_sem, decide_true]; done) | fail) only [go_sem, dec_t, dec_f, w_u32, w_u64, w_u16, w_u8, w_i64, Int.reduceToNat, Int.reducePow, Nat.reducePow, decide_true]
        exact ⟨trivial, trivial⟩
  · simp (disch := first | omega | (simp only [size_setb, size_alloc', size_drew'] <;> omega) | (simp (disch := first | omega | (simp only [size_setb, size_alloc', size_drew'] <;> omega) | fail) only [go_sem, l1, l2, l3, l4, e1, e2, e3, e4]; done) | fail) only [go_sem, dec_t, dec_f, w_u32, w_u64, w_u16, w_u8, w_i64, Int.reduceToNat, Int.reducePow, Nat.reducePow, l1, l2, l3, l4, e1, e2, e3, e4]
    exact ⟨trivial, trivial⟩
theorem mkErr (L : Value → Prop) (x : Value) : pu P (oMkIface T.p_errors_errorString x) L = L (.iface T.p_errors_errorString x) := pu_v' (by simp [Instr.makeInterface, rp_bind, rp_underlying U.p_errors_errorString])
theorem mkPath (L : Value → Prop) (x : Value) : pu P (oMkIface T.p_os_PathError x) L = L (.iface T.p_os_PathError x) := pu_v' (by simp [Instr.makeInterface, rp_bind, rp_underlying U.p_os_PathError])
theorem new_spec {w : World} {K : Value → World → Prop} {l : List UInt8} (h : K (er (w.heap.size, 0)) (w.alloc (CB [S l] T.errors_errorString))) : Cl P Fn.errors_New #[S l] w K := by
  apply S_errors_New
  unfold F_errors_New
  simp (disch := first | omega | (simp only [size_setb, size_alloc', size_drew'] <;> omega) | (simp (disch := first | omega | (simp only [size_setb, size_alloc', size_drew'] <;> omega) | fail) only [go_sem, mkErr]; done) | fail) only [go_sem, dec_t, dec_f, w_u32, w_u64, w_u16, w_u8, w_i64, Int.reduceToNat, Int.reducePow, Nat.reducePow, mkErr]
  exact h
/-- Writing is refused. -/
theorem write_ro {w : World} {K : Value → World → Prop} {B f d : Nat} {v x : Value} {s : FS} (h : FD w B f d v s) (hc : s.cl = false) (hr : s.ro = true)
    (hk : ∀ w' y, Below w.heap.size w w' → PE w' w.heap.size y [119, 114, 105, 116, 101] → K (tup [.int .i64 0, y]) w') : Cl P Fn.mem_File_Write #[pt f 0, x] w K := by
  apply S_mem_File_Write
  unfold F_mem_File_Write
  obtain ⟨rdc, hf⟩ := h.bf
  obtain ⟨nm, md, dir, mode, mt, uid, gid, hd, hmd⟩ := h.bd
  refine jn_with (fun t w' => t = [.nilIface] ∧ w' = w) ?_ ?_
  · rintro t e w1 ⟨rfl, rfl⟩
    refine jn_with (fun _ _ => False) (fun _ _ _ h => h.elim) ?_
    simp (disch := first | omega | (simp only [size_setb, size_alloc', size_drew'] <;> omega) | (simp (disch := first | omega | (simp only [size_setb, size_alloc', size_drew'] <;> omega) | fail) only [go_sem, hf, hd, hr]; done) | fail) only [go_sem, dec_t, dec_f, w_u32, w_u64, w_u16, w_u8, w_i64, Int.reduceToNat, Int.reducePow, Nat.reducePow, hf, hd, hr]
    refine new_spec ?_
    obtain ⟨lf, ld⟩ := h.lt
    simp (disch := first | omega | (simp only [size_setb, size_alloc', size_drew'] <;> omega) | (simp (disch := first | omega | (simp only [size_setb, size_alloc', size_drew'] <;> omega) | fail) only [go_sem, hf, hd, mkPath]; done) | fail) only [go_sem, dec_t, dec_f, w_u32, w_u64, w_u16, w_u8, w_i64, Int.reduceToNat, Int.reducePow, Nat.reducePow, hf, hd, mkPath]
    refine ⟨trivial, trivial, hk _ _ ?_ ⟨w1.heap.size + 1, w1.heap.size, nm, [102, 105, 108, 101, 32, 104, 97, 110, 100, 108, 101, 32, 105, 115, 32, 114, 101, 97, 100, 32, 111, 110, 108, 121], rfl, ?_, ?_, Nat.le_refl _⟩⟩
    · repeat (first | exact Below.refl _ _ | assumption | refine bel_setb ?_ (by first | exact Nat.le_refl _ | omega | (simp only [go_sem] <;> omega)) _ | refine Below.alloc ?_ (by first | exact Nat.le_refl _ | omega | (simp only [go_sem]; omega)) _ | refine Below.drew ?_)
    · simp (disch := first | omega | (simp only [size_setb, size_alloc', size_drew'] <;> omega) | (simp (disch := first | omega | (simp only [size_setb, size_alloc', size_drew'] <;> omega) | fail) only [go_sem]; done) | fail) only [go_sem, dec_t, dec_f, w_u32, w_u64, w_u16, w_u8, w_i64, Int.reduceToNat, Int.reducePow, Nat.reducePow]
    · simp (disch := first | omega | (simp only [size_setb, size_alloc', size_drew'] <;> omega) | (simp (disch := first | omega | (simp only [size_setb, size_alloc', size_drew'] <;> omega) | fail) only [go_sem]; done) | fail) only [go_sem, dec_t, dec_f, w_u32, w_u64, w_u16, w_u8, w_i64, Int.reduceToNat, Int.reducePow, Nat.reducePow]
  · simp (disch := first | omega | (simp only [size_setb, size_alloc', size_drew'] <;> omega) | (simp (disch := first | omega | (simp only [size_setb, size_alloc', size_drew'] <;> omega) | fail) only [go_sem, hf, hc]; done) | fail) only [go_sem, dec_t, dec_f, w_u32, w_u64, w_u16, w_u8, w_i64, Int.reduceToNat, Int.reducePow, Nat.reducePow, hf, hc]
    exact ⟨trivial, trivial⟩
theorem trunc_ro {w : World} {K : Value → World → Prop} {B f d : Nat} {v : Value} {s : FS} {n : Int} (h : FD w B f d v s) (hc : s.cl = false) (hr : s.ro = true)
    (hk : ∀ w' y, Below w.heap.size w w' → PE w' w.heap.size y [116, 114, 117, 110, 99, 97, 116, 101] → K y w') : Cl P Fn.mem_File_Truncate #[pt f 0, .int .i64 n] w K := by
  apply S_mem_File_Truncate
  unfold F_mem_File_Truncate
  obtain ⟨rdc, hf⟩ := h.bf
  obtain ⟨nm, md, dir, mode, mt, uid, gid, hd, hmd⟩ := h.bd
  refine jn_with (fun t w' => w' = w) ?_ ?_
  · rintro t e w1 rfl
    refine jn_with (fun _ _ => False) (fun _ _ _ h => h.elim) ?_
    simp (disch := first | omega | (simp only [size_setb, size_alloc', size_drew'] <;> omega) | (simp (disch := first | omega | (simp only [size_setb, size_alloc', size_drew'] <;> omega) | fail) only [go_sem, hf, hd, hr]; done) | fail) only [go_sem, dec_t, dec_f, w_u32, w_u64, w_u16, w_u8, w_i64, Int.reduceToNat, Int.reducePow, Nat.reducePow, hf, hd, hr]
    refine new_spec ?_
    obtain ⟨lf, ld⟩ := h.lt
    simp (disch := first | omega | (simp only [size_setb, size_alloc', size_drew'] <;> omega) | (simp (disch := first | omega | (simp only [size_setb, size_alloc', size_drew'] <;> omega) | fail) only [go_sem, hf, hd, mkPath]; done) | fail) only [go_sem, dec_t, dec_f, w_u32, w_u64, w_u16, w_u8, w_i64, Int.reduceToNat, Int.reducePow, Nat.reducePow, hf, hd, mkPath]
    refine ⟨trivial, trivial, hk _ _ ?_ ⟨w1.heap.size + 1, w1.heap.size, nm, [102, 105, 108, 101, 32, 104, 97, 110, 100, 108, 101, 32, 105, 115, 32, 114, 101, 97, 100, 32, 111, 110, 108, 121], rfl, ?_, ?_, Nat.le_refl _⟩⟩
    · repeat (first | exact Below.refl _ _ | assumption | refine bel_setb ?_ (by first | exact Nat.le_refl _ | omega | (simp only [go_sem] <;> omega)) _ | refine Below.alloc ?_ (by first | exact Nat.le_refl _ | omega | (simp only [go_sem]; omega)) _ | refine Below.drew ?_)
    · simp (disch := first | omega | (simp only [size_setb, size_alloc', size_drew'] <;> omega) | (simp (disch := first | omega | (simp only [size_setb, size_alloc', size_drew'] <;> omega) | fail) only [go_sem]; done) | fail) only [go_sem, dec_t, dec_f, w_u32, w_u64, w_u16, w_u8, w_i64, Int.reduceToNat, Int.reducePow, Nat.reducePow]
    · simp (disch := first | omega | (simp only [size_setb, size_alloc', size_drew'] <;> omega) | (simp (disch := first | omega | (simp only [size_setb, size_alloc', size_drew'] <;> omega) | fail) only [go_sem]; done) | fail) only [go_sem, dec_t, dec_f, w_u32, w_u64, w_u16, w_u8, w_i64, Int.reduceToNat, Int.reducePow, Nat.reducePow]
  · simp (disch := first | omega | (simp only [size_setb, size_alloc', size_drew'] <;> omega) | (simp (disch := first | omega | (simp only [size_setb, size_alloc', size_drew'] <;> omega) | fail) only [go_sem, hf, hc]; done) | fail) only [go_sem, dec_t, dec_f, w_u32, w_u64, w_u16, w_u8, w_i64, Int.reduceToNat, Int.reducePow, Nat.reducePow, hf, hc]
theorem writeAt_ro {w : World} {K : Value → World → Prop} {B f d : Nat} {v x : Value} {s : FS} {off : Int} (h : FD w B f d v s) (hc : s.cl = false) (hr : s.ro = true)
    (hk : ∀ w' y, FD w' B f d v { s with pos := off } → Kp w w' (fun k => k = f) → PE w' w.heap.size y [119, 114, 105, 116, 101] → K (tup [.int .i64 0, y]) w') : Cl P Fn.mem_File_WriteAt #[pt f 0, x, .int .i64 off] w K := by
  apply S_mem_File_WriteAt
  unfold F_mem_File_WriteAt
  obtain ⟨rdc, hf⟩ := h.bf
  obtain ⟨l1, l2⟩ := h.lt
  simp (disch := first | omega | (simp only [size_setb, size_alloc', size_drew'] <;> omega) | (simp (disch := first | omega | (simp only [size_setb, size_alloc', size_drew'] <;> omega) | fail) only [go_sem, hf]; done) | fail) only [go_sem, dec_t, dec_f, w_u32, w_u64, w_u16, w_u8, w_i64, Int.reduceToNat, Int.reducePow, Nat.reducePow, hf]
  have h5 := h.setPos off rdc
  have k5 := Kp.setb w f (CB [.int .i64 off, .int .i64 rdc, .bool s.cl, .bool s.ro, pt d 0] T.mem_File)
  have z5 : (setb w f (CB [.int .i64 off, .int .i64 rdc, .bool s.cl, .bool s.ro, pt d 0] T.mem_File)).heap.size = w.heap.size := by simp only [go_sem]
  generalize setb w f (CB [.int .i64 off, .int .i64 rdc, .bool s.cl, .bool s.ro, pt d 0] T.mem_File) = w1 at *
  refine write_ro h5 hc hr fun w2 y b2 pe => ?_
  simp (disch := first | omega | (simp only [size_setb, size_alloc', size_drew'] <;> omega) | (simp (disch := first | omega | (simp only [size_setb, size_alloc', size_drew'] <;> omega) | fail) only [go_sem]; done) | fail) only [go_sem, dec_t, dec_f, w_u32, w_u64, w_u16, w_u8, w_i64, Int.reduceToNat, Int.reducePow, Nat.reducePow]
  rw [z5] at pe
  exact hk w2 y (h5.old b2) (k5.trans (Kp.of_below b2 (fun k => k = f)) fun _ _ h => h) pe
set_option maxHeartbeats 4000000 in
theorem on_write_ro {w : World} {K : Value → World → Prop} {B f d : Nat} {v : Value} {s : FS} {q : Stp} {m : Nat → Nat × Nat} (h : FD w B f d v s) (hs : Sn w B m) (hop : q.op = 14) (hq : BS w q.v q.data) (hql : q.data.length ≤ 140737488355328) (hc : s.cl = false) (hr : s.ro = true)
    (hk : ∀ w', FD w' B f d v s → Kp w w' (Of f d v) → K (AG (ansL 6 0 0 (.slice none 0 0))) w') : Cl P Fn.impl_on #[pt f 0, AG q.cells] w K := by
  apply S_impl_on
  unfold F_impl_on
  have hv := BS_one hq
  simp (disch := first | omega | (simp only [size_setb, size_alloc', size_drew'] <;> omega) | (simp (disch := first | omega | (simp only [size_setb, size_alloc', size_drew'] <;> omega) | fail) only [go_sem, hop, hv]; done) | fail) only [go_sem, dec_t, dec_f, w_u32, w_u64, w_u16, w_u8, w_i64, Int.reduceToNat, Int.reducePow, Nat.reducePow, hop, hv]
  obtain ⟨lf, ld⟩ := h.lt
  have own := own_lt h.own
  obtain ⟨B0, hs0, h5, h4, h1⟩ := w1of_facts w q
  rw [setb_same h5]
  generalize w1of w q = w1 at *
  have hF := h.old B0
  have hBw : B ≤ w.heap.size := by have := h.hf; omega
  refine jn_with (fun t w' => ∃ y, t = [y] ∧ FD w' B f d v s ∧ Kp w w' (Of f d v) ∧ bk w' (w.heap.size + 1 + 1) = some (ansB 0 0 0 (.slice none 0 0)) ∧ bk w' (w.heap.size + 1) = some (ansB 0 0 0 (.slice none 0 0)) ∧ PE w' B y [119, 114, 105, 116, 101] ∧ Sn w' B m) ?_ ?_
  · rintro t e w2 ⟨y, rfl, F2, K2, k5, k4, pe, sn⟩
    rw [gs0]
    refine on_tail k5 k4 (by omega) rfl (fun K h => kind_pe sn pe (.inl rfl) h) ?_
    obtain ⟨F3, K3⟩ := on_fin (A4 := w.heap.size + 1) (A5 := w.heap.size + 1 + 1) (o4 := ansB 6 0 0 (.slice none 0 0)) (o5 := ansB 6 0 0 (.slice none 0 0)) F2 K2 (by omega) (by omega) lf ld (fun e => by have := (own _ e).2; omega) (fun e => by have := (own _ e).2; omega)
    exact hk _ F3 K3
  · refine oCopyOf U.sl_uint8 (by kernel_rfl) (BS_old hq B0 (Nat.le_refl _)) hql fun x w2 o2 b2 => ?_
    have B2 : Below w.heap.size w w2 := B0.trans (b2.mono (by omega))
    have z2 := b2.size
    refine write_ro (h.old B2) hc hr fun w3 y b3 pe => ?_
    have z3 := b3.size
    have B3 : Below w.heap.size w w3 := B2.trans (b3.mono (by omega))
    have k5 : bk w3 (w.heap.size + 1 + 1) = some (ansB 0 0 0 (.slice none 0 0)) := ((bel_bk b3 (by omega)).trans (bel_bk b2 (by omega))).trans h5
    have k4 : bk w3 (w.heap.size + 1) = some (ansB 0 0 0 (.slice none 0 0)) := ((bel_bk b3 (by omega)).trans (bel_bk b2 (by omega))).trans h4
    have l5 := bk_lt k5
    obtain ⟨pb, ib, nm, txt, p1, p2, p3, p4⟩ := pe
    simp (disch := first | omega | (simp only [size_setb, size_alloc', size_drew'] <;> omega) | (simp (disch := first | omega | (simp only [size_setb, size_alloc', size_drew'] <;> omega) | fail) only [go_sem, k5]; done) | fail) only [go_sem, dec_t, dec_f, w_u32, w_u64, w_u16, w_u8, w_i64, Int.reduceToNat, Int.reducePow, Nat.reducePow, k5]
    rw [setb_same k5]
    exact ⟨y, rfl, h.old B3, Kp.of_below B3 _, trivial, k4, ⟨pb, ib, nm, txt, p1, p2, p3, by omega⟩, hs.below (B3.mono hBw)⟩
set_option maxHeartbeats 4000000 in
theorem on_writeAt_ro {w : World} {K : Value → World → Prop} {B f d : Nat} {v : Value} {s : FS} {q : Stp} {m : Nat → Nat × Nat} (h : FD w B f d v s) (hs : Sn w B m) (hop : q.op = 15) (hq : BS w q.v q.data) (hql : q.data.length ≤ 140737488355328) (hc : s.cl = false) (hr : s.ro = true)
    (hk : ∀ w', FD w' B f d v { s with pos := q.off } → Kp w w' (Of f d v) → K (AG (ansL 6 0 0 (.slice none 0 0))) w') : Cl P Fn.impl_on #[pt f 0, AG q.cells] w K := by
  apply S_impl_on
  unfold F_impl_on
  have hv := BS_one hq
  simp (disch := first | omega | (simp only [size_setb, size_alloc', size_drew'] <;> omega) | (simp (disch := first | omega | (simp only [size_setb, size_alloc', size_drew'] <;> omega) | fail) only [go_sem, hop, hv]; done) | fail) only [go_sem, dec_t, dec_f, w_u32, w_u64, w_u16, w_u8, w_i64, Int.reduceToNat, Int.reducePow, Nat.reducePow, hop, hv]
  obtain ⟨lf, ld⟩ := h.lt
  have own := own_lt h.own
  obtain ⟨B0, hs0, h5, h4, h1⟩ := w1of_facts w q
  rw [setb_same h5]
  generalize w1of w q = w1 at *
  have hF := h.old B0
  have hBw : B ≤ w.heap.size := by have := h.hf; omega
  refine jn_with (fun t w' => ∃ y, t = [y] ∧ FD w' B f d v { s with pos := q.off } ∧ Kp w w' (Of f d v) ∧ bk w' (w.heap.size + 1 + 1) = some (ansB 0 0 0 (.slice none 0 0)) ∧ bk w' (w.heap.size + 1) = some (ansB 0 0 0 (.slice none 0 0)) ∧ PE w' B y [119, 114, 105, 116, 101] ∧ Sn w' B m) ?_ ?_
  · rintro t e w2 ⟨y, rfl, F2, K2, k5, k4, pe, sn⟩
    rw [gs0]
    refine on_tail k5 k4 (by omega) rfl (fun K h => kind_pe sn pe (.inl rfl) h) ?_
    obtain ⟨F3, K3⟩ := on_fin (A4 := w.heap.size + 1) (A5 := w.heap.size + 1 + 1) (o4 := ansB 6 0 0 (.slice none 0 0)) (o5 := ansB 6 0 0 (.slice none 0 0)) F2 K2 (by omega) (by omega) lf ld (fun e => by have := (own _ e).2; omega) (fun e => by have := (own _ e).2; omega)
    exact hk _ F3 K3
  · refine oCopyOf U.sl_uint8 (by kernel_rfl) (show BS w1.drew q.v q.data from (BS_old hq B0 (Nat.le_refl _) : BS w1 q.v q.data)) hql fun x w2 o2 b2' => ?_
    have b2 : Below w1.heap.size w1 w2 := ((Below.refl _ w1).drew).trans b2'
    have B2 : Below w.heap.size w w2 := B0.trans (b2.mono (by omega))
    have z2 := b2.size
    have h12 : bk w2 w.heap.size = some (CB q.cells T.impl_Step) := (bel_bk b2 (by omega)).trans h1
    simp (disch := first | omega | (simp only [size_setb, size_alloc', size_drew'] <;> omega) | (simp (disch := first | omega | (simp only [size_setb, size_alloc', size_drew'] <;> omega) | fail) only [go_sem, h12]; done) | fail) only [go_sem, dec_t, dec_f, w_u32, w_u64, w_u16, w_u8, w_i64, Int.reduceToNat, Int.reducePow, Nat.reducePow, h12]
    refine ⟨trivial, writeAt_ro (h.old B2) hc hr fun w3 y F3 K3 pe => ?_⟩
    have z3 := K3.size
    have nf : ∀ z, w.heap.size ≤ z → ¬ z = f := fun z hz e => by omega
    have k5 : bk w3 (w.heap.size + 1 + 1) = some (ansB 0 0 0 (.slice none 0 0)) := ((K3.block _ (by omega) (nf _ (by omega))).trans (bel_bk b2 (by omega))).trans h5
    have k4 : bk w3 (w.heap.size + 1) = some (ansB 0 0 0 (.slice none 0 0)) := ((K3.block _ (by omega) (nf _ (by omega))).trans (bel_bk b2 (by omega))).trans h4
    have l5 := bk_lt k5
    obtain ⟨pb, ib, nm, txt, p1, p2, p3, p4⟩ := pe
    simp (disch := first | omega | (simp only [size_setb, size_alloc', size_drew'] <;> omega) | (simp (disch := first | omega | (simp only [size_setb, size_alloc', size_drew'] <;> omega) | fail) only [go_sem, k5]; done) | fail) only [go_sem, dec_t, dec_f, w_u32, w_u64, w_u16, w_u8, w_i64, Int.reduceToNat, Int.reducePow, Nat.reducePow, k5]
    rw [setb_same k5]
    have K4 : Kp w w3 (Of f d v) := (Kp.of_below B2 (Of f d v)).trans K3 fun z hz e => .inl e
    exact ⟨y, rfl, F3, K4, trivial, k4, ⟨pb, ib, nm, txt, p1, p2, p3, by omega⟩, hs.below (h.below K4)⟩
set_option maxHeartbeats 4000000 in
theorem on_trunc_ro {w : World} {K : Value → World → Prop} {B f d : Nat} {v : Value} {s : FS} {q : Stp} {m : Nat → Nat × Nat} (h : FD w B f d v s) (hs : Sn w B m) (hop : q.op = 17) (hq : BS w q.v q.data) (hql : q.data.length ≤ 140737488355328) (hc : s.cl = false) (hr : s.ro = true)
    (hk : ∀ w', FD w' B f d v s → Kp w w' (Of f d v) → K (AG (ansL 6 0 0 (.slice none 0 0))) w') : Cl P Fn.impl_on #[pt f 0, AG q.cells] w K := by
  apply S_impl_on
  unfold F_impl_on
  have hv := BS_one hq
  simp (disch := first | omega | (simp only [size_setb, size_alloc', size_drew'] <;> omega) | (simp (disch := first | omega | (simp only [size_setb, size_alloc', size_drew'] <;> omega) | fail) only [go_sem, hop, hv]; done) | fail) only [go_sem, dec_t, dec_f, w_u32, w_u64, w_u16, w_u8, w_i64, Int.reduceToNat, Int.reducePow, Nat.reducePow, hop, hv]
  obtain ⟨lf, ld⟩ := h.lt
  have own := own_lt h.own
  obtain ⟨B0, hs0, h5, h4, h1⟩ := w1of_facts w q
  rw [setb_same h5]
  generalize w1of w q = w1 at *
  have hF := h.old B0
  have hBw : B ≤ w.heap.size := by have := h.hf; omega
  refine jn_with (fun t w' => ∃ y, t = [y] ∧ FD w' B f d v s ∧ Kp w w' (Of f d v) ∧ bk w' (w.heap.size + 1 + 1) = some (ansB 0 0 0 (.slice none 0 0)) ∧ bk w' (w.heap.size + 1) = some (ansB 0 0 0 (.slice none 0 0)) ∧ PE w' B y [116, 114, 117, 110, 99, 97, 116, 101] ∧ Sn w' B m) ?_ ?_
  · rintro t e w2 ⟨y, rfl, F2, K2, k5, k4, pe, sn⟩
    rw [gs0]
    refine on_tail k5 k4 (by omega) rfl (fun K h => kind_pe sn pe (.inr rfl) h) ?_
    obtain ⟨F3, K3⟩ := on_fin (A4 := w.heap.size + 1) (A5 := w.heap.size + 1 + 1) (o4 := ansB 6 0 0 (.slice none 0 0)) (o5 := ansB 6 0 0 (.slice none 0 0)) F2 K2 (by omega) (by omega) lf ld (fun e => by have := (own _ e).2; omega) (fun e => by have := (own _ e).2; omega)
    exact hk _ F3 K3
  · refine trunc_ro hF hc hr fun w3 y b3 pe => ?_
    have k5 : bk w3 (w.heap.size + 1 + 1) = some (ansB 0 0 0 (.slice none 0 0)) := (bel_bk b3 (by omega)).trans h5
    have k4 : bk w3 (w.heap.size + 1) = some (ansB 0 0 0 (.slice none 0 0)) := (bel_bk b3 (by omega)).trans h4
    have B3 : Below w.heap.size w w3 := B0.trans (b3.mono (by omega))
    obtain ⟨pb, ib, nm, txt, p1, p2, p3, p4⟩ := pe
    exact ⟨y, rfl, h.old B3, Kp.of_below B3 _, k5, k4, ⟨pb, ib, nm, txt, p1, p2, p3, by omega⟩, hs.below (B3.mono hBw)⟩
end Go.Proofs.YteblpejgenehfaaDoor.X
