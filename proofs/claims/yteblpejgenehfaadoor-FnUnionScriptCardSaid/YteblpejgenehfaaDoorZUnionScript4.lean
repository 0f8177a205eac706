/- What the claim needs of the texts on it, laid together. No condition. -/
import Derived.Test.YteblpejgenehfaaDoorZUnionScript3
set_option linter.unusedVariables false
set_option linter.unusedSimpArgs false
set_option maxRecDepth 100000
section
namespace Go.Proofs.YteblpejgenehfaaDoor.X
open Go Go.X Go.Proofs Go.RowKit
abbrev OwnOk (w : World) (v v' : Value) : Prop := v'.ownBlock = v.ownBlock ∨ ∀ k, v'.ownBlock = some k → w.heap.size ≤ k
theorem infoB8 : (P.info? T.uint8).map (fun i => (i.zero, i.size, i.bytes)) = some (some (.int .u8 0), 1, 1) := by kernel_rfl
section
variable {w : World} {K : Value → World → Prop} {B f d : Nat} {v x : Value} {s : FX} {m : Nat → Nat × Nat} {l : List UInt8}
theorem errV_ok (w : World) (C : Nat) (m : Nat → Nat × Nat) {k : Nat} (h : k = 0 ∨ k = 4 ∨ k = 5) : ErrV w C m k (errV m k) := by
  rcases h with rfl | rfl | rfl
  · exact .inl ⟨rfl, rfl⟩
  · exact .inr (.inl ⟨G.io_EOF, by decide, rfl, by decide⟩)
  · exact .inr (.inl ⟨G.io_ErrUnexpectedEOF, by decide, rfl, by decide⟩)
theorem rdX_err (s : FX) (n : Nat) : (rdX s n).2 = 0 ∨ (rdX s n).2 = 4 ∨ (rdX s n).2 = 5 := by
  unfold rdX
  split
  · exact .inr (.inl rfl)
  · split
    · exact .inr (.inr rfl)
    · exact .inl rfl
theorem rdX_len (s : FX) (n : Nat) : (rdX s n).1.length ≤ n ∧ (rdX s n).1.length ≤ s.bytes.length := by
  unfold rdX
  split
  · simp
  · split
    · simp
    · simp; omega
theorem pe_new {w w' : World} {op nm txt : List UInt8} (hb : bk w' w.heap.size = some (CB [S txt] T.errors_errorString)) (hp : bk w' (w.heap.size + 1) = some (CB [S op, S nm, er (w.heap.size, 0)] T.os_PathError)) : ErrV w' w.heap.size m (opCode op) (.iface T.p_os_PathError (pt (w.heap.size + 1) 0)) :=
  .inr (.inr (.inr ⟨op, (w.heap.size, 0), ⟨_, nm, rfl, hp, by omega⟩, ⟨rfl, Nat.le_refl _, txt, hb⟩, rfl⟩))
def wrR (s : FX) (l : List UInt8) : FX × Int × Int := if s.cl = true then (s, 3, 0) else if s.ro = true then (s, 6, 0) else ({ s with bytes := wrX s l, pos := s.pos + l.length, mt := 0 }, 0, l.length)
theorem write_any (h : FH w B f d v s) (hs : Sn w B m) (hx : BS w x l) (hxf : x.ownBlock ≠ some f) (hxd : x.ownBlock ≠ some d) (hb : s.cl = false → s.ro = false → 0 ≤ s.pos ∧ s.pos + l.length ≤ 140737488355328 ∧ s.bytes.length ≤ 140737488355328)
    (hk : ∀ w' v' y, FH w' B f d v' (wrR s l).1 → Kp w w' (Of f d v) → OwnOk w v v' → ErrV w' w.heap.size m (wrR s l).2.1 y → K (tup [.int .i64 (wrR s l).2.2, y]) w') : Cl P Fn.mem_File_Write #[pt f 0, x] w K := by
  unfold wrR at hk
  have hf := h.bf
  have hd := h.bd
  obtain ⟨lf, ld⟩ := h.lt
  by_cases hc : s.cl = true
  · rw [if_pos hc] at hk
    apply S_mem_File_Write
    unfold F_mem_File_Write
    refine jn_with (fun _ _ => False) (fun _ _ _ h => h.elim) ?_
    obtain ⟨q1, t1, e1⟩ := hs.at_ G.mem_ErrFileClosed (by decide)
    simp (disch := first | omega | (simp only [sZb, sZa, sZd] <;> omega) | (simp (disch := first | omega | (simp only [sZb, sZa, sZd] <;> omega) | fail) only [go_sem, hf, hc, e1]; done) | fail) only [go_sem, dec_t, dec_f, w_u32, w_u64, w_u16, w_u8, w_i64, Int.reduceToNat, Int.reducePow, Nat.reducePow, hf, hc, e1]
    exact hk _ v _ (h.old (by repeat (first | exact Below.refl _ _ | assumption | refine bel_setb ?_ (by first | exact Nat.le_refl _ | omega | (simp only [go_sem] <;> omega)) _ | refine Below.alloc ?_ (by first | exact Nat.le_refl _ | omega | (simp only [go_sem]; omega)) _ | refine Below.drew ?_))) (Kp.drew w _) (.inl rfl) (.inr (.inl ⟨G.mem_ErrFileClosed, by decide, rfl, (by decide : (3 : Int) = codeOf G.mem_ErrFileClosed)⟩))
  rw [if_neg hc] at hk
  have hc' : s.cl = false := by simpa using hc
  by_cases hr : s.ro = true
  · rw [if_pos hr] at hk
    apply S_mem_File_Write
    unfold F_mem_File_Write
    refine jn_with (fun t w' => t = [.nilIface] ∧ w' = w) ?_ ?_
    · rintro t e w1 ⟨rfl, rfl⟩
      refine jn_with (fun _ _ => False) (fun _ _ _ h => h.elim) ?_
      simp (disch := first | omega | (simp only [sZb, sZa, sZd] <;> omega) | (simp (disch := first | omega | (simp only [sZb, sZa, sZd] <;> omega) | fail) only [go_sem, hf, hd, hr]; done) | fail) only [go_sem, dec_t, dec_f, w_u32, w_u64, w_u16, w_u8, w_i64, Int.reduceToNat, Int.reducePow, Nat.reducePow, hf, hd, hr]
      refine new_spec ?_
      simp (disch := first | omega | (simp only [sZb, sZa, sZd] <;> omega) | (simp (disch := first | omega | (simp only [sZb, sZa, sZd] <;> omega) | fail) only [go_sem, hf, hd, mkPath]; done) | fail) only [go_sem, dec_t, dec_f, w_u32, w_u64, w_u16, w_u8, w_i64, Int.reduceToNat, Int.reducePow, Nat.reducePow, hf, hd, mkPath]
      refine ⟨trivial, trivial, ?_⟩
      obtain ⟨W2, e2⟩ : ∃ W2, W2 = (w1.drew.alloc (CB [S [102, 105, 108, 101, 32, 104, 97, 110, 100, 108, 101, 32, 105, 115, 32, 114, 101, 97, 100, 32, 111, 110, 108, 121]] T.errors_errorString)).alloc (CB [S [119, 114, 105, 116, 101], S s.nm, er (w1.heap.size, 0)] T.os_PathError) := ⟨_, rfl⟩
      have b1 : bk W2 w1.heap.size = some (CB [S [102, 105, 108, 101, 32, 104, 97, 110, 100, 108, 101, 32, 105, 115, 32, 114, 101, 97, 100, 32, 111, 110, 108, 121]] T.errors_errorString) := by
        rw [e2, bk_alloc_ne _ _ _ (by simp only [go_sem]; omega)]; exact bk_alloc_eq _ _ _ rfl
      have b2 : bk W2 (w1.heap.size + 1) = some (CB [S [119, 114, 105, 116, 101], S s.nm, er (w1.heap.size, 0)] T.os_PathError) := by
        rw [e2]; exact bk_alloc_eq _ _ _ (by simp only [go_sem])
      have BB : Below w1.heap.size w1 W2 := by rw [e2]; repeat (first | exact Below.refl _ _ | assumption | refine bel_setb ?_ (by first | exact Nat.le_refl _ | omega | (simp only [go_sem] <;> omega)) _ | refine Below.alloc ?_ (by first | exact Nat.le_refl _ | omega | (simp only [go_sem]; omega)) _ | refine Below.drew ?_)
      have := hk W2 v _ (h.old BB) (Kp.of_below BB _) (.inl rfl) (pe_new b1 b2)
      rw [e2] at this
      exact this
    · simp (disch := first | omega | (simp only [sZb, sZa, sZd] <;> omega) | (simp (disch := first | omega | (simp only [sZb, sZa, sZd] <;> omega) | fail) only [go_sem, hf, hc']; done) | fail) only [go_sem, dec_t, dec_f, w_u32, w_u64, w_u16, w_u8, w_i64, Int.reduceToNat, Int.reducePow, Nat.reducePow, hf, hc']
      exact ⟨trivial, trivial⟩
  · rw [if_neg hr] at hk
    have hr' : s.ro = false := by simpa using hr
    obtain ⟨b1, b2, b3⟩ := hb hc' hr'
    exact write_fx h hc' hr' hx hxf hxd b1 b2 b3 fun w' v' F' K' o' => hk w' v' _ F' K' o' (.inl ⟨rfl, rfl⟩)
theorem writeAt_any {off : Int} (h : FH w B f d v s) (hs : Sn w B m) (hx : BS w x l) (hxf : x.ownBlock ≠ some f) (hxd : x.ownBlock ≠ some d) (hb : s.cl = false → s.ro = false → 0 ≤ off ∧ off + l.length ≤ 140737488355328 ∧ s.bytes.length ≤ 140737488355328)
    (hk : ∀ w' v' y, FH w' B f d v' (wrR { s with pos := off } l).1 → Kp w w' (Of f d v) → OwnOk w v v' → ErrV w' w.heap.size m (wrR { s with pos := off } l).2.1 y → K (tup [.int .i64 (wrR { s with pos := off } l).2.2, y]) w') : Cl P Fn.mem_File_WriteAt #[pt f 0, x, .int .i64 off] w K := by
  apply S_mem_File_WriteAt
  unfold F_mem_File_WriteAt
  have hf := h.bf
  obtain ⟨l1, l2⟩ := h.lt
  simp (disch := first | omega | (simp only [sZb, sZa, sZd] <;> omega) | (simp (disch := first | omega | (simp only [sZb, sZa, sZd] <;> omega) | fail) only [go_sem, hf]; done) | fail) only [go_sem, dec_t, dec_f, w_u32, w_u64, w_u16, w_u8, w_i64, Int.reduceToNat, Int.reducePow, Nat.reducePow, hf]
  have h5 := h.setPos off
  have k5 := Kp.setb w f (CB [.int .i64 off, .int .i64 s.rdc, .bool s.cl, .bool s.ro, pt d 0] T.mem_File)
  have z5 : (setb w f (CB [.int .i64 off, .int .i64 s.rdc, .bool s.cl, .bool s.ro, pt d 0] T.mem_File)).heap.size = w.heap.size := by simp only [go_sem]
  have x5 := BS_kp hx k5 fun k hk e => hxf (by rw [hk, e])
  have s5 : Sn (setb w f (CB [.int .i64 off, .int .i64 s.rdc, .bool s.cl, .bool s.ro, pt d 0] T.mem_File)) B m := hs.below (k5.below (fun x hx e => by have := h.hf; omega) (by have := h.hf; omega))
  generalize setb w f (CB [.int .i64 off, .int .i64 s.rdc, .bool s.cl, .bool s.ro, pt d 0] T.mem_File) = w1 at *
  refine write_any h5 s5 x5 hxf hxd hb fun w2 v2 y F2 K2 a2 e2 => ?_
  rw [z5] at e2
  simp (disch := first | omega | (simp only [sZb, sZa, sZd] <;> omega) | (simp (disch := first | omega | (simp only [sZb, sZa, sZd] <;> omega) | fail) only [go_sem]; done) | fail) only [go_sem, dec_t, dec_f, w_u32, w_u64, w_u16, w_u8, w_i64, Int.reduceToNat, Int.reducePow, Nat.reducePow]
  refine hk w2 v2 y F2 ((Kp_mono k5 fun _ e => .inl e).trans K2 fun _ _ h => h) (a2.imp id fun h k hk => by rw [← z5]; exact h k hk) e2
def clR (s : FX) : FX := if s.ro = true then { s with cl := true } else { s with cl := true, mt := 0 }
theorem close_any (h : FH w B f d v s) (hk : ∀ w', FH w' B f d v (clR s) → Kp w w' (Of f d v) → K .nilIface w') : Cl P Fn.mem_File_Close #[pt f 0] w K := by
  apply S_mem_File_Close
  unfold F_mem_File_Close
  have hf := h.bf
  have hd := h.bd
  obtain ⟨lf, ld⟩ := h.lt
  have h1 := h.setHd s.pos s.rdc true s.ro
  have k1 := Kp.setb w f (CB [.int .i64 s.pos, .int .i64 s.rdc, .bool true, .bool s.ro, pt d 0] T.mem_File)
  have hfd := h.fd
  unfold clR at hk
  simp (disch := first | omega | (simp only [sZb, sZa, sZd] <;> omega) | (simp (disch := first | omega | (simp only [sZb, sZa, sZd] <;> omega) | fail) only [go_sem, hf]; done) | fail) only [go_sem, dec_t, dec_f, w_u32, w_u64, w_u16, w_u8, w_i64, Int.reduceToNat, Int.reducePow, Nat.reducePow, hf]
  generalize setb w f (CB [.int .i64 s.pos, .int .i64 s.rdc, .bool true, .bool s.ro, pt d 0] T.mem_File) = w1 at *
  have hf1 := h1.bf
  have hd1 := h1.bd
  obtain ⟨lf1, ld1⟩ := h1.lt
  by_cases hr : s.ro = true
  · rw [if_pos hr] at hk
    refine jn_with (fun t w' => w' = w1) ?_ ?_
    · rintro t e w2 rfl
      exact hk _ h1 (Kp_mono k1 fun _ e => .inl e)
    · simp (disch := first | omega | (simp only [sZb, sZa, sZd] <;> omega) | (simp (disch := first | omega | (simp only [sZb, sZa, sZd] <;> omega) | fail) only [go_sem, hf1, hr]; done) | fail) only [go_sem, dec_t, dec_f, w_u32, w_u64, w_u16, w_u8, w_i64, Int.reduceToNat, Int.reducePow, Nat.reducePow, hf1, hr]
  · rw [if_neg hr] at hk
    have hr' : s.ro = false := by simpa using hr
    obtain ⟨s1, es1⟩ : ∃ s1, s1 = { s with cl := true, mt := 0 } := ⟨_, rfl⟩
    rw [← es1] at hk
    refine jn_with (fun t w' => FH w' B f d v s1 ∧ Kp w w' (Of f d v)) ?_ ?_
    · rintro t e w2 ⟨h2, k2⟩
      exact hk _ h2 k2
    · simp (disch := first | omega | (simp only [sZb, sZa, sZd] <;> omega) | (simp (disch := first | omega | (simp only [sZb, sZa, sZd] <;> omega) | fail) only [go_sem, hf1, hr']; done) | fail) only [go_sem, dec_t, dec_f, w_u32, w_u64, w_u16, w_u8, w_i64, Int.reduceToNat, Int.reducePow, Nat.reducePow, hf1, hr']
      apply S_mem_setModTime
      unfold F_mem_setModTime
      simp (disch := first | omega | (simp only [sZb, sZa, sZd] <;> omega) | (simp (disch := first | omega | (simp only [sZb, sZa, sZd] <;> omega) | fail) only [go_sem, hd1]; done) | fail) only [go_sem, dec_t, dec_f, w_u32, w_u64, w_u16, w_u8, w_i64, Int.reduceToNat, Int.reducePow, Nat.reducePow, hd1]
      rw [es1]
      refine ⟨h1.setData (s' := { s with cl := true, mt := 0 }) ⟨rfl, rfl, rfl, rfl⟩ h1.own h1.nf h1.nd h1.md1, ?_⟩
      exact (Kp_mono k1 fun _ e => .inl e).trans (Kp.setb _ _ _) fun _ _ e => .inr (.inl e)
theorem stat_any (h : FH w B f d v s) (hk : K (tup [pt w.heap.size 0, .nilIface]) (w.alloc (CB [pt d 0] T.mem_FileInfo))) : Cl P Fn.mem_File_Stat #[pt f 0] w K := by
  apply S_mem_File_Stat
  unfold F_mem_File_Stat
  have hf := h.bf
  simp (disch := first | omega | (simp only [sZb, sZa, sZd] <;> omega) | (simp (disch := first | omega | (simp only [sZb, sZa, sZd] <;> omega) | fail) only [go_sem, hf]; done) | fail) only [go_sem, dec_t, dec_f, w_u32, w_u64, w_u16, w_u8, w_i64, Int.reduceToNat, Int.reducePow, Nat.reducePow, hf]
  exact hk
theorem name_any (h : FH w B f d v s) (hk : K (S s.nm) w) : Cl P Fn.mem_File_Name #[pt f 0] w K := by
  apply S_mem_File_Name
  unfold F_mem_File_Name
  have hf := h.bf
  have hd := h.bd
  simp (disch := first | omega | (simp only [sZb, sZa, sZd] <;> omega) | (simp (disch := first | omega | (simp only [sZb, sZa, sZd] <;> omega) | fail) only [go_sem, hf]; done) | fail) only [go_sem, dec_t, dec_f, w_u32, w_u64, w_u16, w_u8, w_i64, Int.reduceToNat, Int.reducePow, Nat.reducePow, hf]
  apply S_mem_FileData_Name
  unfold F_mem_FileData_Name
  simp (disch := first | omega | (simp only [sZb, sZa, sZd] <;> omega) | (simp (disch := first | omega | (simp only [sZb, sZa, sZd] <;> omega) | fail) only [go_sem, hd]; done) | fail) only [go_sem, dec_t, dec_f, w_u32, w_u64, w_u16, w_u8, w_i64, Int.reduceToNat, Int.reducePow, Nat.reducePow, hd]
  exact hk
def trR (s : FX) (n : Int) : FX × Int := if s.cl = true then (s, 3) else if s.ro = true then (s, 6) else if n < 0 then (s, 7) else ({ s with bytes := if (s.bytes.length : Int) < n then s.bytes ++ List.replicate (n.toNat - s.bytes.length) 0 else s.bytes.take n.toNat, mt := 0 }, 0)
set_option maxHeartbeats 4000000 in
theorem trunc_any {n : Int} (h : FH w B f d v s) (hs : Sn w B m) (hn : n ≤ 281474976710) (hb : s.bytes.length ≤ 281474976710)
    (hk : ∀ w' v' y, FH w' B f d v' (trR s n).1 → Kp w w' (Of f d v) → OwnOk w v v' → ErrV w' w.heap.size m (trR s n).2 y → K y w') : Cl P Fn.mem_File_Truncate #[pt f 0, .int .i64 n] w K := by
  apply S_mem_File_Truncate
  unfold F_mem_File_Truncate
  unfold trR at hk
  have hf := h.bf
  have hd := h.bd
  obtain ⟨lf, ld⟩ := h.lt
  by_cases hc : s.cl = true
  · rw [if_pos hc] at hk
    refine jn_with (fun _ _ => False) (fun _ _ _ h => h.elim) ?_
    obtain ⟨q1, t1, e1⟩ := hs.at_ G.mem_ErrFileClosed (by decide)
    simp (disch := first | omega | (simp only [sZb, sZa, sZd] <;> omega) | (simp (disch := first | omega | (simp only [sZb, sZa, sZd] <;> omega) | fail) only [go_sem, hf, hc, e1]; done) | fail) only [go_sem, dec_t, dec_f, w_u32, w_u64, w_u16, w_u8, w_i64, Int.reduceToNat, Int.reducePow, Nat.reducePow, hf, hc, e1]
    exact hk _ v _ h (Kp.refl w _) (.inl rfl) (.inr (.inl ⟨G.mem_ErrFileClosed, by decide, rfl, (by decide : (3 : Int) = codeOf G.mem_ErrFileClosed)⟩))
  rw [if_neg hc] at hk
  have hc' : s.cl = false := by simpa using hc
  refine jn_with (fun t w' => w' = w) ?_ ?_
  · rintro t e w1 rfl
    by_cases hr : s.ro = true
    · rw [if_pos hr] at hk
      refine jn_with (fun _ _ => False) (fun _ _ _ h => h.elim) ?_
      simp (disch := first | omega | (simp only [sZb, sZa, sZd] <;> omega) | (simp (disch := first | omega | (simp only [sZb, sZa, sZd] <;> omega) | fail) only [go_sem, hf, hd, hr]; done) | fail) only [go_sem, dec_t, dec_f, w_u32, w_u64, w_u16, w_u8, w_i64, Int.reduceToNat, Int.reducePow, Nat.reducePow, hf, hd, hr]
      refine new_spec ?_
      simp (disch := first | omega | (simp only [sZb, sZa, sZd] <;> omega) | (simp (disch := first | omega | (simp only [sZb, sZa, sZd] <;> omega) | fail) only [go_sem, hf, hd, mkPath]; done) | fail) only [go_sem, dec_t, dec_f, w_u32, w_u64, w_u16, w_u8, w_i64, Int.reduceToNat, Int.reducePow, Nat.reducePow, hf, hd, mkPath]
      refine ⟨trivial, trivial, ?_⟩
      obtain ⟨W2, e2⟩ : ∃ W2, W2 = (w1.drew.alloc (CB [S [102, 105, 108, 101, 32, 104, 97, 110, 100, 108, 101, 32, 105, 115, 32, 114, 101, 97, 100, 32, 111, 110, 108, 121]] T.errors_errorString)).alloc (CB [S [116, 114, 117, 110, 99, 97, 116, 101], S s.nm, er (w1.heap.size, 0)] T.os_PathError) := ⟨_, rfl⟩
      have b1 : bk W2 w1.heap.size = some (CB [S [102, 105, 108, 101, 32, 104, 97, 110, 100, 108, 101, 32, 105, 115, 32, 114, 101, 97, 100, 32, 111, 110, 108, 121]] T.errors_errorString) := by
        rw [e2, bk_alloc_ne _ _ _ (by simp only [go_sem]; omega)]; exact bk_alloc_eq _ _ _ rfl
      have b2 : bk W2 (w1.heap.size + 1) = some (CB [S [116, 114, 117, 110, 99, 97, 116, 101], S s.nm, er (w1.heap.size, 0)] T.os_PathError) := by
        rw [e2]; exact bk_alloc_eq _ _ _ (by simp only [go_sem])
      have BB : Below w1.heap.size w1 W2 := by rw [e2]; repeat (first | exact Below.refl _ _ | assumption | refine bel_setb ?_ (by first | exact Nat.le_refl _ | omega | (simp only [go_sem] <;> omega)) _ | refine Below.alloc ?_ (by first | exact Nat.le_refl _ | omega | (simp only [go_sem]; omega)) _ | refine Below.drew ?_)
      have := hk W2 v _ (h.old BB) (Kp.of_below BB _) (.inl rfl) (pe_new b1 b2)
      rw [e2] at this
      exact this
    · rw [if_neg hr] at hk
      have hr' : s.ro = false := by simpa using hr
      refine jn_with (fun t w' => w' = w1) ?_ ?_
      · rintro t e w2 rfl
        by_cases hn0 : n < 0
        · rw [if_pos hn0] at hk
          refine jn_with (fun _ _ => False) (fun _ _ _ h => h.elim) ?_
          obtain ⟨q1, t1, e1⟩ := hs.at_ G.mem_ErrOutOfRange (by decide)
          simp (disch := first | omega | (simp only [sZb, sZa, sZd] <;> omega) | (simp (disch := first | omega | (simp only [sZb, sZa, sZd] <;> omega) | fail) only [go_sem, e1]; done) | fail) only [go_sem, dec_t, dec_f, w_u32, w_u64, w_u16, w_u8, w_i64, Int.reduceToNat, Int.reducePow, Nat.reducePow, e1]
          exact hk _ v _ h (Kp.refl w2 _) (.inl rfl) (.inr (.inl ⟨G.mem_ErrOutOfRange, by decide, rfl, (by decide : (7 : Int) = codeOf G.mem_ErrOutOfRange)⟩))
        · rw [if_neg hn0] at hk
          refine jn_with (fun t w' => w' = w2) ?_ ?_
          · rintro t e w3 rfl
            obtain ⟨x, rfl⟩ := Int.eq_ofNat_of_zero_le (show 0 ≤ n by omega)
            rw [Int.toNat_natCast] at hk
            obtain ⟨nb, enb⟩ : ∃ nb, nb = (if (s.bytes.length : Int) < (x : Int) then s.bytes ++ List.replicate (x - s.bytes.length) 0 else s.bytes.take x) := ⟨_, rfl⟩
            rw [← enb] at hk
            obtain ⟨a, cap, ev⟩ := own_slice h.own
            refine jn_with (fun t w' => ∃ v', FH w' B f d v' { s with bytes := nb } ∧ Kp w3 w' (Of f d v) ∧ OwnOk w3 v v') ?_ ?_
            · rintro t e w4 ⟨v4, h4, k4, o4⟩
              have hf4 := h4.bf
              have hd4 := h4.bd
              obtain ⟨lf4, ld4⟩ := h4.lt
              simp (disch := first | omega | (simp only [sZb, sZa, sZd] <;> omega) | (simp (disch := first | omega | (simp only [sZb, sZa, sZd] <;> omega) | fail) only [go_sem, hf4]; done) | fail) only [go_sem, dec_t, dec_f, w_u32, w_u64, w_u16, w_u8, w_i64, Int.reduceToNat, Int.reducePow, Nat.reducePow, hf4]
              apply S_mem_setModTime
              unfold F_mem_setModTime
              simp (disch := first | omega | (simp only [sZb, sZa, sZd] <;> omega) | (simp (disch := first | omega | (simp only [sZb, sZa, sZd] <;> omega) | fail) only [go_sem, hd4]; done) | fail) only [go_sem, dec_t, dec_f, w_u32, w_u64, w_u16, w_u8, w_i64, Int.reduceToNat, Int.reducePow, Nat.reducePow, hd4]
              refine hk _ v4 _ (h4.setData (s' := { s with bytes := nb, mt := 0 }) ⟨rfl, rfl, rfl, rfl⟩ h4.own h4.nf h4.nd h4.md1) (k4.trans (Kp.setb _ _ _) fun _ _ e => .inr (.inl e)) o4 (.inl ⟨rfl, rfl⟩)
            · by_cases hlt : (s.bytes.length : Int) < (x : Int)
              · rw [if_pos hlt] at enb
                have es : ((x : Int) - (s.bytes.length : Int)) = ((x - s.bytes.length : Nat) : Int) := by omega
                subst ev
                simp (disch := first | omega | (simp only [sZb, sZa, sZd] <;> omega) | (simp (disch := first | omega | (simp only [sZb, sZa, sZd] <;> omega) | fail) only [go_sem, hf, hd, es]; done) | fail) only [go_sem, dec_t, dec_f, w_u32, w_u64, w_u16, w_u8, w_i64, Int.reduceToNat, Int.reducePow, Nat.reducePow, hf, hd, es]
                have D1 : Below w3.heap.size w3 w3.drew := by repeat (first | exact Below.refl _ _ | assumption | refine bel_setb ?_ (by first | exact Nat.le_refl _ | omega | (simp only [go_sem] <;> omega)) _ | refine Below.alloc ?_ (by first | exact Nat.le_refl _ | omega | (simp only [go_sem]; omega)) _ | refine Below.drew ?_)
                refine oAppendZ U.sl_uint8 infoB8 U.int (own_old h.own D1 (Nat.le_refl _)) (by omega) (by omega) (by have := h.hf; show B ≤ w3.heap.size; omega) fun v5 w5 o5 g5 a5 => ?_
                have K5 : Kp w3 w5 (fun k => (Value.slice a s.bytes.length cap).ownBlock = some k) := (Kp.drew w3 _).trans (Kp.of_grown g5) fun _ _ h => h
                have hf5 : bk w5 f = _ := (K5.block f lf h.nf).trans hf
                have hd5 : bk w5 d = _ := (K5.block d ld h.nd).trans hd
                have n5f : v5.ownBlock ≠ some f := fun e => by
                  rcases a5 with a5 | a5
                  · exact h.nf (by rw [← a5]; exact e)
                  · rw [a5] at e; have := Option.some.inj e; have e9 : w3.drew.heap.size = w3.heap.size := rfl; omega
                have n5d : v5.ownBlock ≠ some d := fun e => by
                  rcases a5 with a5 | a5
                  · exact h.nd (by rw [← a5]; exact e)
                  · rw [a5] at e; have := Option.some.inj e; have e9 : w3.drew.heap.size = w3.heap.size := rfl; omega
                have one5 : v5.oneCell' = true := by obtain ⟨_, _, rfl⟩ := own_slice o5; rfl
                have ld5 := bk_lt hd5
                simp (disch := first | omega | (simp only [sZb, sZa, sZd] <;> omega) | (simp (disch := first | omega | (simp only [sZb, sZa, sZd] <;> omega) | fail) only [go_sem, hf5, hd5, one5]; done) | fail) only [go_sem, dec_t, dec_f, w_u32, w_u64, w_u16, w_u8, w_i64, Int.reduceToNat, Int.reducePow, Nat.reducePow, hf5, hd5, one5]
                refine ⟨trivial, v5, ?_, ?_, ?_⟩
                · have o6 : w5.ownsRow B T.uint8 1 v5 nb.length (nb.map byt) := by
                    rw [enb]
                    have e1 : (s.bytes ++ List.replicate (x - s.bytes.length) 0).length = s.bytes.length + (x - s.bytes.length) := by simp
                    rw [e1, List.map_append, byt_zeros]
                    exact o5
                  have kd := Kp.setb w5 d (CB [S s.nm, v5, s.md, .bool s.dir, .int .u32 s.mode, .int .i64 s.mt, .int .i64 s.uid, .int .i64 s.gid] T.mem_FileData)
                  refine ⟨h.hf, h.hd, h.fd, ?_, bk_setb_eq _ _ _ _ rfl ld5, h.md1, own_kp o6 kd fun k hk e => n5d (by rw [hk, e]), n5f, n5d⟩
                  rw [bk_setb_ne _ _ _ _ h.fd]; exact hf5
                · exact (Kp_mono K5 fun _ e => .inr (.inr e)).trans (Kp.setb _ _ _) fun _ _ e => .inr (.inl e)
                · rcases a5 with a5 | a5
                  · exact .inl a5
                  · exact .inr fun k hk => by rw [a5] at hk; have := Option.some.inj hk; have e9 : w3.drew.heap.size = w3.heap.size := rfl; omega
              · rw [if_neg hlt] at enb
                obtain ⟨v5, o5, a5, _, s5⟩ := own_hi U.sl_uint8 (by kernel_rfl) h.own (p := x) (by omega)
                subst ev
                have one5 : v5.oneCell' = true := by obtain ⟨_, _, rfl⟩ := own_slice o5; rfl
                simp (disch := first | omega | (simp only [sZb, sZa, sZd] <;> omega) | (simp (disch := first | omega | (simp only [sZb, sZa, sZd] <;> omega) | fail) only [go_sem, hf, hd, s5, one5]; done) | fail) only [go_sem, dec_t, dec_f, w_u32, w_u64, w_u16, w_u8, w_i64, Int.reduceToNat, Int.reducePow, Nat.reducePow, hf, hd, s5, one5]
                refine ⟨v5, ?_, ?_, .inl a5⟩
                · have o6 : w3.drew.ownsRow B T.uint8 1 v5 nb.length (nb.map byt) := by
                    rw [enb]
                    have e1 : (s.bytes.take x).length = x := by simp; omega
                    rw [e1, List.map_take]
                    exact o5
                  have kd := Kp.setb w3.drew d (CB [S s.nm, v5, s.md, .bool s.dir, .int .u32 s.mode, .int .i64 s.mt, .int .i64 s.uid, .int .i64 s.gid] T.mem_FileData)
                  refine ⟨h.hf, h.hd, h.fd, ?_, bk_setb_eq _ _ _ _ rfl ld, h.md1, own_kp o6 kd fun k hk e => h.nd (by rw [← a5, hk, e]), by rw [a5]; exact h.nf, by rw [a5]; exact h.nd⟩
                  rw [bk_setb_ne _ _ _ _ h.fd]; exact hf
                · exact (Kp.drew w3 _).trans (Kp.setb _ _ _) fun _ _ e => .inr (.inl e)
          · simp (disch := first | omega | (simp only [sZb, sZa, sZd] <;> omega) | (simp (disch := first | omega | (simp only [sZb, sZa, sZd] <;> omega) | fail) only [go_sem]; done) | fail) only [go_sem, dec_t, dec_f, w_u32, w_u64, w_u16, w_u8, w_i64, Int.reduceToNat, Int.reducePow, Nat.reducePow]
      · simp (disch := first | omega | (simp only [sZb, sZa, sZd] <;> omega) | (simp (disch := first | omega | (simp only [sZb, sZa, sZd] <;> omega) | fail) only [go_sem, hf, hr']; done) | fail) only [go_sem, dec_t, dec_f, w_u32, w_u64, w_u16, w_u8, w_i64, Int.reduceToNat, Int.reducePow, Nat.reducePow, hf, hr']
  · simp (disch := first | omega | (simp only [sZb, sZa, sZd] <;> omega) | (simp (disch := first | omega | (simp only [sZb, sZa, sZd] <;> omega) | fail) only [go_sem, hf, hc']; done) | fail) only [go_sem, dec_t, dec_f, w_u32, w_u64, w_u16, w_u8, w_i64, Int.reduceToNat, Int.reducePow, Nat.reducePow, hf, hc']
end
end Go.Proofs.YteblpejgenehfaaDoor.X
end
section
namespace Go.Proofs.YteblpejgenehfaaDoor.X
open Go Go.X Go.Proofs Go.RowKit
theorem lastIdx_spec {l : Str} {w : World} {K : Value → World → Prop} (hl : l.length ≤ 140737488355328) (h : K (.int .i64 (match SM.lastSlash l with | some i => (i : Int) | none => -1)) w) : Cl P Fn.bytealg_LastIndexByteString #[S l, .int .u8 47] w K := by
  apply S_bytealg_LastIndexByteString
  unfold F_bytealg_LastIndexByteString
  refine jn_with (fun t w' => w' = w ∧ SM.lastSlash l = none) ?_ ?_
  · rintro t e w1 ⟨rfl, e1⟩
    rw [e1] at h
    exact h
  · rw [V.len_string]
    simp (disch := first | omega | (simp only [sZb, sZa, sZd] <;> omega) | (simp (disch := first | omega | (simp only [sZb, sZa, sZd] <;> omega) | fail) only [go_sem]; done) | fail) only [go_sem, dec_t, dec_f, w_u32, w_u64, w_u16, w_u8, w_i64, Int.reduceToNat, Int.reducePow, Nat.reducePow]
    refine lp_intro (fun s w' => w' = w ∧ ∃ i : Nat, s = [.int .i64 ((i : Int) - 1)] ∧ i ≤ l.length ∧ SM.ls l i = SM.lastSlash l) (fun s w' => ((intOf (gs s 0)) + 1).toNat) ?_ ?_
    · exact ⟨rfl, l.length, rfl, Nat.le_refl _, rfl⟩
    · rintro s u w1 ⟨rfl, i, rfl, hi, hs⟩
      refine jn_with (fun t w' => w' = w1 ∧ 0 < i) ?_ ?_
      · rintro t e w2 ⟨rfl, hi1⟩
        obtain ⟨j, rfl⟩ : ∃ j, i = j + 1 := ⟨i - 1, by omega⟩
        have ej : ((j + 1 : Nat) : Int) - 1 = (j : Int) := by omega
        refine jn_with (fun t w' => w' = w2 ∧ l.getD j 0 ≠ 47) ?_ ?_
        · rintro t e w3 ⟨rfl, hne⟩
          simp (disch := first | omega | (simp only [sZb, sZa, sZd] <;> omega) | (simp (disch := first | omega | (simp only [sZb, sZa, sZd] <;> omega) | fail) only [go_sem, ej]; done) | fail) only [go_sem, dec_t, dec_f, w_u32, w_u64, w_u16, w_u8, w_i64, Int.reduceToNat, Int.reducePow, Nat.reducePow, ej]
          refine ⟨⟨trivial, j, rfl, by omega, ?_⟩, ?_⟩
          · rw [← hs]; simp only [SM.ls]; rw [if_neg hne]
          · simp only [gs0, intOf]; omega
        · rw [gs0, ej, oIdxS _ _ _ _ _ U.string (by omega) (by omega)]
          rw [Int.toNat_natCast]
          by_cases hc : l.getD j 0 = 47
          · have e1 : ((l.getD j 0).toNat : Int) = 47 := by rw [hc]; rfl
            simp (disch := first | omega | (simp only [sZb, sZa, sZd] <;> omega) | (simp (disch := first | omega | (simp only [sZb, sZa, sZd] <;> omega) | fail) only [go_sem, e1, decide_true]; done) | fail) only [go_sem, dec_t, dec_f, w_u32, w_u64, w_u16, w_u8, w_i64, Int.reduceToNat, Int.reducePow, Nat.reducePow, e1, decide_true]
            have e2 : SM.lastSlash l = some j := by
              rw [← hs]
              simp only [SM.ls, if_pos hc]
            rw [e2] at h
            exact h
          · have e1 : ¬ ((l.getD j 0).toNat : Int) = 47 := fun e => hc (UInt8.toNat_inj.1 (by rw [show (47 : UInt8).toNat = 47 from rfl]; omega))
            simp (disch := first | omega | (simp only [sZb, sZa, sZd] <;> omega) | (simp (disch := first | omega | (simp only [sZb, sZa, sZd] <;> omega) | fail) only [go_sem, e1, decide_false]; done) | fail) only [go_sem, dec_t, dec_f, w_u32, w_u64, w_u16, w_u8, w_i64, Int.reduceToNat, Int.reducePow, Nat.reducePow, e1, decide_false]
            exact ⟨trivial, hc⟩
      · rw [gs0]
        by_cases hi1 : 0 < i
        · simp (disch := first | omega | (simp only [sZb, sZa, sZd] <;> omega) | (simp (disch := first | omega | (simp only [sZb, sZa, sZd] <;> omega) | fail) only [go_sem]; done) | fail) only [go_sem, dec_t, dec_f, w_u32, w_u64, w_u16, w_u8, w_i64, Int.reduceToNat, Int.reducePow, Nat.reducePow]
          exact ⟨trivial, hi1⟩
        · simp (disch := first | omega | (simp only [sZb, sZa, sZd] <;> omega) | (simp (disch := first | omega | (simp only [sZb, sZa, sZd] <;> omega) | fail) only [go_sem]; done) | fail) only [go_sem, dec_t, dec_f, w_u32, w_u64, w_u16, w_u8, w_i64, Int.reduceToNat, Int.reducePow, Nat.reducePow]
          refine ⟨trivial, ?_⟩
          have : i = 0 := by omega
          subst this
          rw [← hs]
          rfl
def dirPart (l : Str) : Str := match SM.lastSlash l with | some i => l.take (i + 1) | none => []
theorem split_spec {l : Str} {w : World} {K : Value → World → Prop} (hl : l.length ≤ 140737488355328) (h : K (tup [S (dirPart l), S (SM.base l)]) w.drew) : Cl P Fn.path_Split #[S l] w K := by
  apply S_path_Split
  unfold F_path_Split
  rw [C.bytealg_LastIndexByteString]
  refine lastIdx_spec hl ?_
  cases hs : SM.lastSlash l with
  | none =>
    have e1 : dirPart l = [] := by unfold dirPart; rw [hs]
    have e2 : SM.base l = l := by unfold SM.base; rw [hs]
    have e0 : (-1 : Int) + 1 = 0 := rfl
    simp only
    simp (disch := first | omega | (simp only [sZb, sZa, sZd] <;> omega) | (simp (disch := first | omega | (simp only [sZb, sZa, sZd] <;> omega) | fail) only [go_sem, e0]; done) | fail) only [go_sem, dec_t, dec_f, w_u32, w_u64, w_u16, w_u8, w_i64, Int.reduceToNat, Int.reducePow, Nat.reducePow, e0]
    rw [oSliceS_hi _ _ _ _ _ U.string (by omega) (by omega)]
    rw [oSliceS_lo _ _ _ _ _ U.string (by omega) (by omega)]
    rw [e1, e2] at h
    simpa using h
  | some i =>
    have hi := SM.lastSlash_lt hs
    have e1 : dirPart l = l.take (i + 1) := by unfold dirPart; rw [hs]
    have e2 : SM.base l = l.drop (i + 1) := by unfold SM.base; rw [hs]
    simp only
    simp (disch := first | omega | (simp only [sZb, sZa, sZd] <;> omega) | (simp (disch := first | omega | (simp only [sZb, sZa, sZd] <;> omega) | fail) only [go_sem]; done) | fail) only [go_sem, dec_t, dec_f, w_u32, w_u64, w_u16, w_u8, w_i64, Int.reduceToNat, Int.reducePow, Nat.reducePow]
    rw [oSliceS_hi _ _ _ _ _ U.string (by omega) (by omega)]
    rw [oSliceS_lo _ _ _ _ _ U.string (by omega) (by omega)]
    rw [e1, e2] at h
    have e3 : ((i : Int) + 1).toNat = i + 1 := by omega
    rw [e3]
    exact h
def InfoAt (w : World) (fi : Nat) (i : SM.Info) : Prop := ∃ d nm a n c md dir mode mt uid gid, bk w fi = some (CB [pt d 0] T.mem_FileInfo) ∧ bk w d = some (CB [S nm, .slice a n c, md, .bool dir, .int .u32 mode, .int .i64 mt, .int .i64 uid, .int .i64 gid] T.mem_FileData) ∧
  0 ≤ mode ∧ mode ≤ 4294967295 ∧ nm.length ≤ 140737488355328 ∧ i = ⟨SM.base nm, if dir = true then 42 else (n : Int), mode, dir, mt⟩
theorem InfoAt.old {w w' : World} {fi : Nat} {i : SM.Info} (h : InfoAt w fi i) (k : Below w.heap.size w w') : InfoAt w' fi i := by
  obtain ⟨d, nm, a, n, c, md, dir, mode, mt, uid, gid, h1, h2, h3⟩ := h
  exact ⟨d, nm, a, n, c, md, dir, mode, mt, uid, gid, (bel_bk k (bk_lt h1)).trans h1, (bel_bk k (bk_lt h2)).trans h2, h3⟩
set_option maxHeartbeats 1000000 in
theorem fromInfo_spec {w : World} {K : Value → World → Prop} {fi : Nat} {i : SM.Info} (h : InfoAt w fi i) (hk : ∀ w', Below w.heap.size w w' → K (AG (infoC i)) w') : Cl P Fn.impl_fromInfo #[pt fi 0] w K := by
  obtain ⟨d, nm, a, n, c, md, dir, mode, mt, uid, gid, h1, h2, h3, h4, h5, rfl⟩ := h
  apply S_impl_fromInfo
  unfold F_impl_fromInfo
  rw [M.al_impl_Info]
  have l1 := bk_lt h1
  have l2 := bk_lt h2
  have B1 : Below w.heap.size w (w.alloc (CB (infoC ⟨[], 0, 0, false, 0⟩) T.impl_Info)) := by repeat (first | exact Below.refl _ _ | assumption | refine bel_setb ?_ (by first | exact Nat.le_refl _ | omega | (simp only [go_sem] <;> omega)) _ | refine Below.alloc ?_ (by first | exact Nat.le_refl _ | omega | (simp only [go_sem]; omega)) _ | refine Below.drew ?_)
  have bI : bk (w.alloc (CB (infoC ⟨[], 0, 0, false, 0⟩) T.impl_Info)) w.heap.size = some (CB (infoC ⟨[], 0, 0, false, 0⟩) T.impl_Info) := bk_alloc_eq _ _ _ rfl
  generalize w.alloc (CB (infoC ⟨[], 0, 0, false, 0⟩) T.impl_Info) = w1 at *
  have h1' := (bel_bk B1 l1).trans h1
  have h2' := (bel_bk B1 l2).trans h2
  rw [C.mem_FileInfo_Name]
  apply S_mem_FileInfo_Name
  unfold F_mem_FileInfo_Name
  simp (disch := first | omega | (simp only [sZb, sZa, sZd] <;> omega) | (simp (disch := first | omega | (simp only [sZb, sZa, sZd] <;> omega) | fail) only [go_sem, h1', h2']; done) | fail) only [go_sem, dec_t, dec_f, w_u32, w_u64, w_u16, w_u8, w_i64, Int.reduceToNat, Int.reducePow, Nat.reducePow, h1', h2']
  refine split_spec h5 ?_
  rw [oExtract2_0, oExtract2_1]
  apply S_mem_FileInfo_Size
  unfold F_mem_FileInfo_Size
  have lI := bk_lt bI
  have isd : ∀ (w9 : World) (L : Value → World → Prop), bk w9 fi = some (CB [pt d 0] T.mem_FileInfo) → bk w9 d = some (CB [S nm, .slice a n c, md, .bool dir, .int .u32 mode, .int .i64 mt, .int .i64 uid, .int .i64 gid] T.mem_FileData) → L (.bool dir) w9 → Cl P Fn.mem_FileInfo_IsDir #[pt fi 0] w9 L := fun w9 L q1 q2 q3 => by
    apply S_mem_FileInfo_IsDir
    unfold F_mem_FileInfo_IsDir
    simp (disch := first | omega | (simp only [sZb, sZa, sZd] <;> omega) | (simp (disch := first | omega | (simp only [sZb, sZa, sZd] <;> omega) | fail) only [go_sem, q1, q2]; done) | fail) only [go_sem, dec_t, dec_f, w_u32, w_u64, w_u16, w_u8, w_i64, Int.reduceToNat, Int.reducePow, Nat.reducePow, q1, q2]
    exact q3
  have rest : (fun t6 w3 => Cl P Fn.mem_FileInfo_Mode #[pt fi 0] w3 fun t8 w4 =>
      pu P (oConv T.os_FileMode T.int t8) fun t9 =>
      Cl P Fn.mem_FileInfo_IsDir #[pt fi 0] w4 fun t11 w5 =>
      Cl P Fn.mem_FileInfo_ModTime #[pt fi 0] w5 fun t13 w6 =>
      pu P (oBuild T.impl_Info #[(0, S (SM.base nm)), (1, t6), (2, t9), (3, t11), (4, t13)]) fun t14 =>
      st P (oStore T.impl_Info (pt w.heap.size 0) t14) w6 fun _ w7 =>
      rsl P T.impl_Info (pt w.heap.size 0) w7 fun r1 =>
      K (tup [r1]) w7) (.int .i64 (if dir = true then 42 else (n : Int))) w1.drew := by
    show Cl P Fn.mem_FileInfo_Mode #[pt fi 0] w1.drew _
    apply S_mem_FileInfo_Mode
    unfold F_mem_FileInfo_Mode
    simp (disch := first | omega | (simp only [sZb, sZa, sZd] <;> omega) | (simp (disch := first | omega | (simp only [sZb, sZa, sZd] <;> omega) | fail) only [go_sem, h1', h2']; done) | fail) only [go_sem, dec_t, dec_f, w_u32, w_u64, w_u16, w_u8, w_i64, Int.reduceToNat, Int.reducePow, Nat.reducePow, h1', h2']
    refine isd _ _ h1' h2' ?_
    apply S_mem_FileInfo_ModTime
    unfold F_mem_FileInfo_ModTime
    simp (disch := first | omega | (simp only [sZb, sZa, sZd] <;> omega) | (simp (disch := first | omega | (simp only [sZb, sZa, sZd] <;> omega) | fail) only [go_sem, h1', h2', bI]; done) | fail) only [go_sem, dec_t, dec_f, w_u32, w_u64, w_u16, w_u8, w_i64, Int.reduceToNat, Int.reducePow, Nat.reducePow, h1', h2', bI]
    exact hk _ (bel_setb B1.drew (Nat.le_refl _) _)
  by_cases hd : dir = true
  · refine jn_with (fun _ _ => False) (fun _ _ _ h => h.elim) ?_
    rw [C.mem_FileInfo_IsDir]
    refine isd _ _ h1' h2' ?_
    rw [if_pos hd] at rest
    rw [hd, cd_t]
    exact rest
  · have hd' : dir = false := by simpa using hd
    rw [if_neg hd] at rest
    refine jn_with (fun t w' => w' = w1.drew) ?_ ?_
    · rintro t e w2 rfl
      rw [oNil_ptr, A.mem_FileInfo_0, Nat.add_zero]
      have r := rest
      simp (disch := first | omega | (simp only [sZb, sZa, sZd] <;> omega) | (simp (disch := first | omega | (simp only [sZb, sZa, sZd] <;> omega) | fail) only [go_sem, h1', h2']; done) | fail) only [go_sem, dec_t, dec_f, w_u32, w_u64, w_u16, w_u8, w_i64, Int.reduceToNat, Int.reducePow, Nat.reducePow, h1', h2']
      simp (disch := first | omega | (simp only [sZb, sZa, sZd] <;> omega) | (simp (disch := first | omega | (simp only [sZb, sZa, sZd] <;> omega) | fail) only [go_sem, h1', h2']; done) | fail) only [go_sem, dec_t, dec_f, w_u32, w_u64, w_u16, w_u8, w_i64, Int.reduceToNat, Int.reducePow, Nat.reducePow, h1', h2'] at r
      exact r
    · rw [C.mem_FileInfo_IsDir]
      refine isd _ _ h1' h2' ?_
      rw [hd', cd_f]
end Go.Proofs.YteblpejgenehfaaDoor.X
end
section
namespace Go.Proofs.YteblpejgenehfaaDoor.X
open Go Go.X Go.Proofs Go.RowKit
abbrev ptV (b : Nat) : Value := pt b 0
theorem fromInfos_spec {w : World} {K : Value → World → Prop} {x : Value} {fs : List Nat} {is : List SM.Info} (hx : VS ptV w x fs) (hn : fs.length ≤ 999990000) (hl : is.length = fs.length) (hi : ∀ i (h1 : i < fs.length) (h2 : i < is.length), InfoAt w fs[i] is[i])
    (hk : ∀ w' v, w'.ownsRow w.heap.size T.impl_Info 5 v is.length (infosC is) → Below w.heap.size w w' → K v w') : Cl P Fn.impl_fromInfos #[x] w K := by
  apply S_impl_fromInfos
  unfold F_impl_fromInfos
  obtain ⟨a, c, ex⟩ := hx.slice
  refine jn_with (fun t w' => ∃ v, t = [v] ∧ w'.ownsRow w.heap.size T.impl_Info 5 v is.length (infosC is) ∧ Below w.heap.size w w') ?_ ?_
  · rintro t e w1 ⟨v, rfl, o1, B1⟩
    exact hk w1 v o1 B1
  · rw [ex]
    simp (disch := first | omega | (simp only [sZb, sZa, sZd] <;> omega) | (simp (disch := first | omega | (simp only [sZb, sZa, sZd] <;> omega) | fail) only [go_sem]; done) | fail) only [go_sem, dec_t, dec_f, w_u32, w_u64, w_u16, w_u8, w_i64, Int.reduceToNat, Int.reducePow, Nat.reducePow]
    rw [← ex]
    refine lp_intro (fun t w' => ∃ v, ∃ i : Nat, t = [v, .int .i64 i] ∧ i ≤ fs.length ∧ w'.ownsRow w.heap.size T.impl_Info 5 v i (infosC (is.take i)) ∧ Below w.heap.size w w') (fun t w' => (fs.length - (intOf (gs t 1))).toNat) ⟨_, 0, rfl, Nat.zero_le _, own_nil _ _ _ _, Below.refl _ _⟩ ?_
    rintro t u w1 ⟨v, i, rfl, hi1, o1, B1⟩
    rw [gs1, oLss]
    refine jn_with (fun t w' => w' = w1 ∧ i < fs.length) ?_ ?_
    · rintro t e w2 ⟨rfl, hlt⟩
      obtain ⟨bx, ox, x1, x2, x3, x4⟩ := (hx.old B1).idx U.sl_p_mem_FileInfo (by kernel_rfl) hlt
      rw [x4]
      have ld : ∀ (L : Value → World → Prop), st P (oLoad T.p_mem_FileInfo (pt bx ox)) w2 L = L (pt fs[i] 0) w2 := fun L => by
        rw [M.ld_p_mem_FileInfo _ _ _ _ (by rw [x3]; rfl), x3]; rfl
      rw [ld]
      simp (disch := first | omega | (simp only [sZb, sZa, sZd] <;> omega) | (simp (disch := first | omega | (simp only [sZb, sZa, sZd] <;> omega) | fail) only [go_sem]; done) | fail) only [go_sem, dec_t, dec_f, w_u32, w_u64, w_u16, w_u8, w_i64, Int.reduceToNat, Int.reducePow, Nat.reducePow]
      refine fromInfo_spec ((hi i hlt (by omega)).old B1) fun w3 B3 => ?_
      rw [oBuildSliceN (z := AG (infoC ⟨[], 0, 0, false, 0⟩)) (size := 5) _ _ U.sl_impl_Info (by kernel_rfl) (by omega) (by omega) rfl]
      have B4 : Below w3.heap.size w3 (w3.alloc (CB (infoC (is[i]'(by omega))) T.impl_Info)) := by repeat (first | exact Below.refl _ _ | assumption | refine bel_setb ?_ (by first | exact Nat.le_refl _ | omega | (simp only [go_sem] <;> omega)) _ | refine Below.alloc ?_ (by first | exact Nat.le_refl _ | omega | (simp only [go_sem]; omega)) _ | refine Below.drew ?_)
      have r4 : rowOf (bk (w3.alloc (CB (infoC (is[i]'(by omega))) T.impl_Info)) w3.heap.size) 0 5 = some (infoC (is[i]'(by omega))) := by rw [bk_alloc_eq _ _ _ rfl]; rfl
      generalize w3.alloc (CB (infoC (is[i]'(by omega))) T.impl_Info) = w4 at *
      have z3 := B3.size
      have z4 := B4.size
      have z1 := B1.size
      have o4 := own_old (own_old o1 B3 (Nat.le_refl _)) B4 (Nat.le_refl _)
      refine oAppendR (size := 5) (bytes := 48) (news := infoC (is[i]'(by omega))) U.sl_impl_Info zInfo rfl (by omega) o4 (.inl ⟨_, _, _, rfl, r4⟩) rfl (fun u hu => oneC_infos [is[i]'(by omega)] u (by simpa [infosC] using hu)) (by simp only [maxLen]; omega) (by omega) (by omega) fun z9 w9 o9 g9 a9 => ?_
      refine ⟨⟨z9, i + 1, rfl, by omega, ?_, B1.trans ((B3.mono z1).trans ((B4.mono (by omega)).trans (own_bel o4 g9 (by omega))))⟩, ?_⟩
      · rw [List.take_succ_eq_append_getElem (by omega), infosC_snoc]
        exact o9
      · simp only [gs1, intOf]; omega
    · by_cases hlt : i < fs.length
      · simp (disch := first | omega | (simp only [sZb, sZa, sZd] <;> omega) | (simp (disch := first | omega | (simp only [sZb, sZa, sZd] <;> omega) | fail) only [go_sem]; done) | fail) only [go_sem, dec_t, dec_f, w_u32, w_u64, w_u16, w_u8, w_i64, Int.reduceToNat, Int.reducePow, Nat.reducePow]
        exact ⟨trivial, hlt⟩
      · simp (disch := first | omega | (simp only [sZb, sZa, sZd] <;> omega) | (simp (disch := first | omega | (simp only [sZb, sZa, sZd] <;> omega) | fail) only [go_sem]; done) | fail) only [go_sem, dec_t, dec_f, w_u32, w_u64, w_u16, w_u8, w_i64, Int.reduceToNat, Int.reducePow, Nat.reducePow]
        have : i = is.length := by omega
        subst this
        rw [List.take_length] at o1
        exact ⟨v, rfl, o1, B1⟩
section
variable {w : World} {K : Value → World → Prop} {B f d : Nat} {v x : Value} {s : FX} {m : Nat → Nat × Nat} {l : List UInt8}
theorem sent_closed (w : World) (C : Nat) (m : Nat → Nat × Nat) : ErrV w C m 3 (er (m G.mem_ErrFileClosed)) := .inr (.inl ⟨G.mem_ErrFileClosed, by decide, rfl, (by decide : (3 : Int) = codeOf G.mem_ErrFileClosed)⟩)
def skR (s : FX) (off wh : Int) : FX × Int × Int := if s.cl = true then (s, 3, 0) else ({ s with pos := seekX s off wh }, 0, seekX s off wh)
theorem seek_any {off wh : Int} (h : FH w B f d v s) (hs : Sn w B m) (h1 : -4611686018427387904 ≤ off ∧ off ≤ 4611686018427387903) (h2 : -4611686018427387904 ≤ s.pos ∧ s.pos ≤ 4611686018427387903) (h3 : s.bytes.length ≤ 4611686018427387903)
    (hk : ∀ w' y, FH w' B f d v (skR s off wh).1 → Kp w w' (Of f d v) → ErrV w' w.heap.size m (skR s off wh).2.1 y → K (tup [.int .i64 (skR s off wh).2.2, y]) w') : Cl P Fn.mem_File_Seek #[pt f 0, .int .i64 off, .int .i64 wh] w K := by
  unfold skR at hk
  by_cases hc : s.cl = true
  · rw [if_pos hc] at hk
    apply S_mem_File_Seek
    unfold F_mem_File_Seek
    have hf := h.bf
    refine jn_with (fun _ _ => False) (fun _ _ _ h => h.elim) ?_
    obtain ⟨q1, t1, e1⟩ := hs.at_ G.mem_ErrFileClosed (by decide)
    simp (disch := first | omega | (simp only [sZb, sZa, sZd] <;> omega) | (simp (disch := first | omega | (simp only [sZb, sZa, sZd] <;> omega) | fail) only [go_sem, hf, hc, e1]; done) | fail) only [go_sem, dec_t, dec_f, w_u32, w_u64, w_u16, w_u8, w_i64, Int.reduceToNat, Int.reducePow, Nat.reducePow, hf, hc, e1]
    exact hk _ _ (h.old (by repeat (first | exact Below.refl _ _ | assumption | refine bel_setb ?_ (by first | exact Nat.le_refl _ | omega | (simp only [go_sem] <;> omega)) _ | refine Below.alloc ?_ (by first | exact Nat.le_refl _ | omega | (simp only [go_sem]; omega)) _ | refine Below.drew ?_))) (Kp.drew w _) (sent_closed _ _ _)
  · rw [if_neg hc] at hk
    exact seek_fx h (by simpa using hc) h1 h2 h3 fun w' F' K' => hk w' _ F' K' (.inl ⟨rfl, rfl⟩)
def rdR (s : FX) (n : Nat) : FX × List UInt8 × Int := if s.cl = true then (s, [], 3) else ({ s with pos := s.pos + (rdX s n).1.length }, (rdX s n).1, ((rdX s n).2 : Int))
def raR (s : FX) (off : Int) (n : Nat) : List UInt8 × Int := if s.cl = true then ([], 3) else ((rdX { s with pos := off } n).1, ((rdX { s with pos := off } n).2 : Int))
theorem read_any {b n : Nat} (h : FH w B f d v s) (hs : Sn w B m) (h2 : s.cl = false → 0 ≤ s.pos ∧ s.pos ≤ 4611686018427387903) (h3 : s.bytes.length ≤ 281474976710656) (hn : n ≤ 281474976710656)
    (hb : bk w b = some (CB (List.replicate n (.int .u8 0)) T.uint8)) (hbf : b ≠ f) (hbd : b ≠ d) (hbv : v.ownBlock ≠ some b)
    (hk : ∀ w' y, FH w' B f d v (rdR s n).1 → Kp w w' (fun k => k = f ∨ k = b) → bk w' b = some (CB ((rdR s n).2.1.map byt ++ List.replicate (n - (rdR s n).2.1.length) (.int .u8 0)) T.uint8) → ErrV w' w.heap.size m (rdR s n).2.2 y → K (tup [.int .i64 (rdR s n).2.1.length, y]) w') :
    Cl P Fn.mem_File_Read #[pt f 0, sl b 0 n n] w K := by
  unfold rdR at hk
  by_cases hc : s.cl = true
  · rw [if_pos hc] at hk
    apply S_mem_File_Read
    unfold F_mem_File_Read
    have hf := h.bf
    refine jn_with (fun _ _ => False) (fun _ _ _ h => h.elim) ?_
    obtain ⟨q1, t1, e1⟩ := hs.at_ G.mem_ErrFileClosed (by decide)
    simp (disch := first | omega | (simp only [sZb, sZa, sZd] <;> omega) | (simp (disch := first | omega | (simp only [sZb, sZa, sZd] <;> omega) | fail) only [go_sem, hf, hc, e1]; done) | fail) only [go_sem, dec_t, dec_f, w_u32, w_u64, w_u16, w_u8, w_i64, Int.reduceToNat, Int.reducePow, Nat.reducePow, hf, hc, e1]
    exact hk _ _ (h.old (by repeat (first | exact Below.refl _ _ | assumption | refine bel_setb ?_ (by first | exact Nat.le_refl _ | omega | (simp only [go_sem] <;> omega)) _ | refine Below.alloc ?_ (by first | exact Nat.le_refl _ | omega | (simp only [go_sem]; omega)) _ | refine Below.drew ?_))) (Kp.drew w _) (by show bk w b = _; simpa using hb) (sent_closed _ _ _)
  · rw [if_neg hc] at hk
    have hc' : s.cl = false := by simpa using hc
    exact read_fx h hs hc' (h2 hc') h3 hn hb hbf hbd hbv fun w' F' K' b' => hk w' _ F' K' b' (errV_ok _ _ _ (rdX_err s n))
theorem readdir_file {n : Int} (h : FH w B f d v s) (hd0 : s.dir = false) (hk : ∀ w' y, Below w.heap.size w w' → ErrV w' w.heap.size m 8 y → K (tup [.slice none 0 0, y]) w') : Cl P Fn.mem_File_Readdir #[pt f 0, .int .i64 n] w K := by
  apply S_mem_File_Readdir
  unfold F_mem_File_Readdir
  have hf := h.bf
  have hd := h.bd
  obtain ⟨lf, ld⟩ := h.lt
  refine jn_with (fun _ _ => False) (fun _ _ _ h => h.elim) ?_
  simp (disch := first | omega | (simp only [sZb, sZa, sZd] <;> omega) | (simp (disch := first | omega | (simp only [sZb, sZa, sZd] <;> omega) | fail) only [go_sem, hf, hd, hd0]; done) | fail) only [go_sem, dec_t, dec_f, w_u32, w_u64, w_u16, w_u8, w_i64, Int.reduceToNat, Int.reducePow, Nat.reducePow, hf, hd, hd0]
  unfold J_mem_File_Readdir_7
  simp (disch := first | omega | (simp only [sZb, sZa, sZd] <;> omega) | (simp (disch := first | omega | (simp only [sZb, sZa, sZd] <;> omega) | fail) only [go_sem, hf, hd]; done) | fail) only [go_sem, dec_t, dec_f, w_u32, w_u64, w_u16, w_u8, w_i64, Int.reduceToNat, Int.reducePow, Nat.reducePow, hf, hd]
  refine new_spec ?_
  simp (disch := first | omega | (simp only [sZb, sZa, sZd] <;> omega) | (simp (disch := first | omega | (simp only [sZb, sZa, sZd] <;> omega) | fail) only [go_sem, hf, hd, mkPath]; done) | fail) only [go_sem, dec_t, dec_f, w_u32, w_u64, w_u16, w_u8, w_i64, Int.reduceToNat, Int.reducePow, Nat.reducePow, hf, hd, mkPath]
  refine ⟨trivial, trivial, ?_⟩
  obtain ⟨W2, e2⟩ : ∃ W2, W2 = (w.drew.alloc (CB [S [110, 111, 116, 32, 97, 32, 100, 105, 114]] T.errors_errorString)).alloc (CB [S [114, 101, 97, 100, 100, 105, 114], S s.nm, er (w.heap.size, 0)] T.os_PathError) := ⟨_, rfl⟩
  have b1 : bk W2 w.heap.size = some (CB [S [110, 111, 116, 32, 97, 32, 100, 105, 114]] T.errors_errorString) := by
    rw [e2, bk_alloc_ne _ _ _ (by simp only [go_sem]; omega)]; exact bk_alloc_eq _ _ _ rfl
  have b2 : bk W2 (w.heap.size + 1) = some (CB [S [114, 101, 97, 100, 100, 105, 114], S s.nm, er (w.heap.size, 0)] T.os_PathError) := by
    rw [e2]; exact bk_alloc_eq _ _ _ (by simp only [go_sem])
  have BB : Below w.heap.size w W2 := by rw [e2]; repeat (first | exact Below.refl _ _ | assumption | refine bel_setb ?_ (by first | exact Nat.le_refl _ | omega | (simp only [go_sem] <;> omega)) _ | refine Below.alloc ?_ (by first | exact Nat.le_refl _ | omega | (simp only [go_sem]; omega)) _ | refine Below.drew ?_)
  have := hk W2 _ BB (pe_new b1 b2)
  rw [e2] at this
  exact this
end
end Go.Proofs.YteblpejgenehfaaDoor.X
end
section
namespace Go.Proofs.YteblpejgenehfaaDoor.X
open Go Go.X Go.Proofs Go.RowKit
def want (n : Int) : Nat := (max 0 (min n 1048576)).toNat
def infoX (s : FX) : SM.Info := ⟨SM.base s.nm, if s.dir = true then 42 else (s.bytes.length : Int), s.mode, s.dir, s.mt⟩
def onX (s : FX) (q : SM.Stp) : FX × SM.Ans :=
  if q.op = 12 then ((rdR s (want q.n)).1, ⟨(rdR s (want q.n)).2.2, 0, 0, (rdR s (want q.n)).2.1, [], []⟩)
  else if q.op = 13 then (s, ⟨(raR s q.off (want q.n)).2, 0, 0, (raR s q.off (want q.n)).1, [], []⟩)
  else if q.op = 14 then ((wrR s q.data).1, ⟨(wrR s q.data).2.1, (wrR s q.data).2.2, 0, [], [], []⟩)
  else if q.op = 15 then ((wrR { s with pos := q.off } q.data).1, ⟨(wrR { s with pos := q.off } q.data).2.1, (wrR { s with pos := q.off } q.data).2.2, 0, [], [], []⟩)
  else if q.op = 16 then ((skR s q.off q.wh).1, ⟨(skR s q.off q.wh).2.1, 0, (skR s q.off q.wh).2.2, [], [], []⟩)
  else if q.op = 17 then ((trR s q.off).1, ⟨(trR s q.off).2, 0, 0, [], [], []⟩)
  else if q.op = 18 then (clR s, SM.Ans.z)
  else if q.op = 19 then (s, SM.Ans.err 8)
  else if q.op = 20 then (s, SM.Ans.err 8)
  else if q.op = 21 then (s, ⟨0, 0, 0, [], [], [infoX s]⟩)
  else if q.op = 22 then (s, ⟨0, 0, 0, [], [s.nm], []⟩)
  else (s, SM.Ans.z)
structure OkX (s : FX) (q : SM.Stp) : Prop where
  op : 12 ≤ q.op ∧ q.op ≤ 23
  dir : s.dir = false
  len : s.bytes.length ≤ 281474976710
  nm : s.nm.length ≤ 140737488355328
  mode : 0 ≤ s.mode ∧ s.mode ≤ 4294967295
  dat : q.data.length ≤ 281474976710
  off : q.op < 18 → -4611686018427387904 ≤ q.off ∧ q.off ≤ 4611686018427387903
  pos : -4611686018427387904 ≤ s.pos ∧ s.pos ≤ 4611686018427387903
  rd : q.op = 12 → s.cl = false → 0 ≤ s.pos
  ra : q.op = 13 → 0 ≤ q.off
  wr : q.op = 14 → s.cl = false → s.ro = false → 0 ≤ s.pos ∧ s.pos ≤ 281474976710
  wa : q.op = 15 → s.cl = false → s.ro = false → 0 ≤ q.off ∧ q.off ≤ 281474976710
  tr : q.op = 17 → q.off ≤ 281474976710
structure AnsP (w : World) (lo : Nat) (U : Nat → Prop) (a : SM.Ans) (x y z : Value) : Prop where
  hx : BS w x a.data
  hy : RowS w y a.names.length (a.names.map S)
  hz : RowS w z a.infos.length (infosC a.infos)
  ho : ∀ b, (x.ownBlock = some b ∨ y.ownBlock = some b ∨ z.ownBlock = some b) → lo ≤ b ∧ b < w.heap.size ∧ ¬ U b
theorem AnsP.n {w : World} {lo : Nat} {U : Nat → Prop} {a : SM.Ans} {x y z : Value} (h : AnsP w lo U a x y z) : AnsN w lo U a (answC a x y z) := ⟨_, _, _, rfl, h.hx, h.hy, h.hz, h.ho⟩
theorem AnsP.kp {w w' : World} {lo : Nat} {U : Nat → Prop} {a : SM.Ans} {x y z : Value} {R : Nat → Prop} (h : AnsP w lo U a x y z) (k : Kp w w' R) (hR : ∀ b, lo ≤ b → b < w.heap.size → ¬ U b → ¬ R b) : AnsP w' lo U a x y z := by
  have g : ∀ b, (x.ownBlock = some b ∨ y.ownBlock = some b ∨ z.ownBlock = some b) → ¬ R b := fun b hb => hR b (h.ho b hb).1 (h.ho b hb).2.1 (h.ho b hb).2.2
  exact ⟨BS_kp h.hx k fun b hb => g b (.inl hb), h.hy.kp k fun b hb => g b (.inr (.inl hb)), h.hz.kp k fun b hb => g b (.inr (.inr hb)), fun b hb => ⟨(h.ho b hb).1, Nat.lt_of_lt_of_le (h.ho b hb).2.1 k.size, (h.ho b hb).2.2⟩⟩
theorem AnsP.plain (w : World) (lo : Nat) (U : Nat → Prop) {a : SM.Ans} (h1 : a.data = []) (h2 : a.names = []) (h3 : a.infos = []) : AnsP w lo U a (.slice none 0 0) (.slice none 0 0) (.slice none 0 0) :=
  ⟨by rw [h1]; exact BS_nil w, by rw [h2]; exact RowS_nil w, by rw [h3]; exact RowS_nil w, fun b hb => by rcases hb with h | h | h <;> cases h⟩
theorem RowS_slice {w : World} {x : Value} {m : Nat} {l : List Value} (h : RowS w x m l) : ∃ a c, x = .slice a m c := by
  rcases h with ⟨b, o, c, rfl, _⟩ | ⟨rfl, _, a, c, rfl⟩
  · exact ⟨_, _, rfl⟩
  · exact ⟨_, _, rfl⟩
structure OnS (w w1 : World) (B f d : Nat) (v : Value) (m : Nat → Nat × Nat) (s : FX) (q : SM.Stp) (x : Value) : Prop where
  h : FH w1 B f d v s
  sn : Sn w1 B m
  b0 : Below w.heap.size w w1
  sz : w1.heap.size = w.heap.size + 3
  bs : bk w1 w.heap.size = some (CB (stepC q x) T.impl_Step)
  b4 : bk w1 (w.heap.size + 1) = some (CB ansZ T.impl_Answer)
  b5 : bk w1 (w.heap.size + 1 + 1) = some (CB ansZ T.impl_Answer)
  lf : f < w.heap.size
  ld : d < w.heap.size
  lv : ∀ k, v.ownBlock = some k → k < w.heap.size
def OnJ (w : World) (B f d : Nat) (v : Value) (m : Nat → Nat × Nat) (s' : FX) (a : SM.Ans) (t : List Value) (w' : World) : Prop :=
  ∃ y x1 x2 x3 v', t = [y] ∧ FH w' B f d v' s' ∧ Kp w w' (Of f d v) ∧ (v'.ownBlock = v.ownBlock ∨ ∀ k, v'.ownBlock = some k → w.heap.size + 3 ≤ k) ∧
    bk w' (w.heap.size + 1 + 1) = some (CB (answC { a with e := 0 } x1 x2 x3) T.impl_Answer) ∧ bk w' (w.heap.size + 1) = some (CB ansZ T.impl_Answer) ∧ AnsP w' (w.heap.size + 3) (Of f d v') a x1 x2 x3 ∧ ErrV w' (w.heap.size + 3) m a.e y ∧ Sn w' B m
section
variable {w w1 : World} {K : Value → World → Prop} {B f d : Nat} {v : Value} {m : Nat → Nat × Nat} {s : FX} {q : SM.Stp} {x : Value}
theorem OnS.nOf (o : OnS w w1 B f d v m s q x) {k : Nat} (hk : w.heap.size ≤ k) : ¬ Of f d v k := by
  rintro (e | e | e)
  · have := o.lf; omega
  · have := o.ld; omega
  · have := o.lv k e; omega
theorem OnS.hB (o : OnS w w1 B f d v m s q x) : B ≤ w.heap.size := by have := o.h.hf; have := o.lf; omega
theorem OnS.kb (o : OnS w w1 B f d v m s q x) {w2 : World} {R : Nat → Prop} (k2 : Kp w1 w2 R) (hR : ∀ x, x < w1.heap.size → R x → Of f d v x) :
    bk w2 w.heap.size = some (CB (stepC q x) T.impl_Step) ∧ bk w2 (w.heap.size + 1) = some (CB ansZ T.impl_Answer) ∧ bk w2 (w.heap.size + 1 + 1) = some (CB ansZ T.impl_Answer) := by
  have z := o.sz
  refine ⟨?_, ?_, ?_⟩
  · rw [k2.block _ (by omega) fun e => o.nOf (by omega) (hR _ (by omega) e)]; exact o.bs
  · rw [k2.block _ (by omega) fun e => o.nOf (by omega) (hR _ (by omega) e)]; exact o.b4
  · rw [k2.block _ (by omega) fun e => o.nOf (by omega) (hR _ (by omega) e)]; exact o.b5
theorem OnS.put (o : OnS w w1 B f d v m s q x) {w2 : World} {R : Nat → Prop} {v' : Value} {s' : FX} {a : SM.Ans} {y x1 x2 x3 : Value} (F2 : FH w2 B f d v' s') (k2 : Kp w1 w2 R) (hR : ∀ x, x < w1.heap.size → R x → Of f d v x)
    (O2 : OwnOk w1 v v') (e2 : ErrV w2 w1.heap.size m a.e y) (a2 : AnsP w2 w1.heap.size (Of f d v') a x1 x2 x3) :
    OnJ w B f d v m s' a [y] (setb w2 (w.heap.size + 1 + 1) (CB (answC { a with e := 0 } x1 x2 x3) T.impl_Answer)) := by
  obtain ⟨g1, g2, g3⟩ := o.kb k2 hR
  have z := o.sz
  have hB := o.hB
  have ks := Kp.setb w2 (w.heap.size + 1 + 1) (CB (answC { a with e := 0 } x1 x2 x3) T.impl_Answer)
  have kk : Kp w w2 (Of f d v) := (Kp.of_below o.b0 _).trans k2 fun x hx e => hR x (by omega) e
  have n5 : v'.ownBlock ≠ some (w.heap.size + 1 + 1) := fun e => by
    rcases O2 with h | h
    · rw [h] at e; have := o.lv _ e; omega
    · have := h _ e; omega
  refine ⟨y, x1, x2, x3, v', rfl, F2.kept ks fun x hx e => ?_, kk.trans ks fun x hx e => by omega, ?_, bk_setb_eq _ _ _ _ rfl (bk_lt g3), ?_, ?_, ?_, ?_⟩
  · subst e
    rcases hx with e | e | e
    · have := o.lf; omega
    · have := o.ld; omega
    · exact n5 e
  · rcases O2 with h | h
    · exact .inl h
    · exact .inr fun k hk => by have := h k hk; omega
  · rw [bk_setb_ne _ _ _ _ (by omega)]; exact g2
  · rw [← z]; exact a2.kp ks fun b h1 h2 _ e => by omega
  · rw [← z]; exact e2.kp ks fun b h1 h2 e => by omega
  · refine o.sn.below ?_
    have q1 := k2.below (B := B) (fun x hx e => ?_) (by omega)
    · exact bel_setb q1 (by omega) _
    · rcases hR x (by omega) e with h | h | h
      · have := o.h.hf; omega
      · have := o.h.hd; omega
      · have := (own_lt o.h.own x h).1; omega
end
end Go.Proofs.YteblpejgenehfaaDoor.X
end
section
namespace Go.Proofs.YteblpejgenehfaaDoor.X
open Go Go.X Go.Proofs Go.RowKit
section
variable {w w1 : World} {K : Value → World → Prop} {B f d : Nat} {v : Value} {m : Nat → Nat × Nat} {s : FX} {q : SM.Stp} {x : Value} {k1 : List Value → World → Prop}
theorem rd_row {w2 : World} {b n : Nat} {l : List UInt8} (hb : bk w2 b = some (CB (l.map byt ++ List.replicate (n - l.length) (.int .u8 0)) T.uint8)) (hl : l.length ≤ n) : BS w2 (sl b 0 l.length n) l := by
  refine .inr ⟨b, 0, n, rfl, hl, ?_, bk_lt hb⟩
  unfold rowB
  rw [hb]
  simp only [rowOf]
  rw [if_pos (by simp only [List.size_toArray, List.length_append, List.length_map, List.length_replicate]; omega)]
  simp
theorem rdR_len (s : FX) (n : Nat) : (rdR s n).2.1.length ≤ n := by
  unfold rdR
  split
  · simp
  · exact (rdX_len s n).1
theorem sync_any (hk : K .nilIface w) : Cl P Fn.mem_File_Sync #[pt f 0] w K := by
  apply S_mem_File_Sync
  unfold F_mem_File_Sync
  simp (disch := first | omega | (simp only [sZb, sZa, sZd] <;> omega) | (simp (disch := first | omega | (simp only [sZb, sZa, sZd] <;> omega) | fail) only [go_sem]; done) | fail) only [go_sem, dec_t, dec_f, w_u32, w_u64, w_u16, w_u8, w_i64, Int.reduceToNat, Int.reducePow, Nat.reducePow]
  exact hk
theorem OnS.still (o : OnS w w1 B f d v m s q x) {w2 : World} {v2 : Value} {s2 : FX} {a : SM.Ans} {y : Value} (F2 : FH w2 B f d v2 s2) (k2 : Kp w1 w2 (Of f d v)) (O2 : OwnOk w1 v v2) (h1 : a.data = []) (h2 : a.names = []) (h3 : a.infos = []) (h4 : a.n = 0) (h5 : a.off = 0) (e2 : ErrV w2 w1.heap.size m a.e y) : OnJ w B f d v m s2 a [y] w2 := by
  obtain ⟨g1, g2, g3⟩ := o.kb k2 fun _ _ h => h
  have j := o.put F2 k2 (fun _ _ h => h) O2 e2 (AnsP.plain _ _ _ h1 h2 h3)
  have e : (CB (answC { a with e := 0 } (.slice none 0 0) (.slice none 0 0) (.slice none 0 0)) T.impl_Answer) = CB ansZ T.impl_Answer := by
    show CB [.int .i64 0, .int .i64 a.n, .int .i64 a.off, _, _, _] _ = _
    rw [h4, h5]
  rw [e, setb_same g3] at j
  exact j
end
end Go.Proofs.YteblpejgenehfaaDoor.X
end
section
namespace Go.Proofs.YteblpejgenehfaaDoor.X
open Go Go.X Go.Proofs Go.RowKit
structure UU (w : World) (B u f1 d1 : Nat) (v1 : Value) (s1 : FX) (f2 d2 : Nat) (v2 : Value) (s2 : FX) : Prop where
  l : FH w B f1 d1 v1 s1
  b : FH w B f2 d2 v2 s2
  sep : ∀ k, Of f1 d1 v1 k → ¬ Of f2 d2 v2 k
  hu : B ≤ u
  bu : bk w u = some (CB [pt f2 0, pt f1 0, .int .i64 0, .slice none 0 0] T.afero_UnionFile)
  n1 : ¬ Of f1 d1 v1 u
  n2 : ¬ Of f2 d2 v2 u
section
variable {w w' : World} {K : Value → World → Prop} {B u f1 d1 f2 d2 : Nat} {v1 v2 x : Value} {s1 s2 : FX} {m : Nat → Nat × Nat} {l : List UInt8}
theorem UU.lt (h : UU w B u f1 d1 v1 s1 f2 d2 v2 s2) : u < w.heap.size ∧ (∀ k, Of f1 d1 v1 k → B ≤ k ∧ k < w.heap.size) ∧ (∀ k, Of f2 d2 v2 k → B ≤ k ∧ k < w.heap.size) := by
  refine ⟨bk_lt h.bu, fun k hk => ?_, fun k hk => ?_⟩
  · obtain ⟨a, b⟩ := h.l.lt
    have := h.l.hf
    have := h.l.hd
    rcases hk with rfl | rfl | hk
    · exact ⟨this, a⟩
    · exact ⟨this, b⟩
    · exact own_lt h.l.own k hk
  · obtain ⟨a, b⟩ := h.b.lt
    have := h.b.hf
    have := h.b.hd
    rcases hk with rfl | rfl | hk
    · exact ⟨this, a⟩
    · exact ⟨this, b⟩
    · exact own_lt h.b.own k hk
theorem Of_new {f d : Nat} {v v' : Value} (O : OwnOk w v v') {k : Nat} (h : Of f d v' k) : Of f d v k ∨ w.heap.size ≤ k := by
  rcases h with h | h | h
  · exact .inl (.inl h)
  · exact .inl (.inr (.inl h))
  · rcases O with e | e
    · exact .inl (.inr (.inr (by rw [← e]; exact h)))
    · exact .inr (e k h)
theorem UU.old (h : UU w B u f1 d1 v1 s1 f2 d2 v2 s2) (k : Below w.heap.size w w') : UU w' B u f1 d1 v1 s1 f2 d2 v2 s2 :=
  ⟨h.l.old k, h.b.old k, h.sep, h.hu, (bel_bk k h.lt.1).trans h.bu, h.n1, h.n2⟩
theorem UU.setL (h : UU w B u f1 d1 v1 s1 f2 d2 v2 s2) {v1' : Value} {s1' : FX} (F : FH w' B f1 d1 v1' s1') (k : Kp w w' (Of f1 d1 v1)) (O : OwnOk w v1 v1') : UU w' B u f1 d1 v1' s1' f2 d2 v2 s2 := by
  obtain ⟨a, b, c⟩ := h.lt
  refine ⟨F, h.b.kept k fun x hx e => h.sep x e hx, fun x hx e => ?_, h.hu, (k.block u a h.n1).trans h.bu, fun e => ?_, h.n2⟩
  · rcases Of_new O hx with h1 | h1
    · exact h.sep x h1 e
    · have := (c x e).2; omega
  · rcases Of_new O e with h1 | h1
    · exact h.n1 h1
    · omega
theorem UU.setB (h : UU w B u f1 d1 v1 s1 f2 d2 v2 s2) {v2' : Value} {s2' : FX} (F : FH w' B f2 d2 v2' s2') (k : Kp w w' (Of f2 d2 v2)) (O : OwnOk w v2 v2') : UU w' B u f1 d1 v1 s1 f2 d2 v2' s2' := by
  obtain ⟨a, b, c⟩ := h.lt
  refine ⟨h.l.kept k fun x hx e => h.sep x hx e, F, fun x hx e => ?_, h.hu, (k.block u a h.n2).trans h.bu, h.n1, fun e => ?_⟩
  · rcases Of_new O e with h1 | h1
    · exact h.sep x hx h1
    · have := (b x hx).2; omega
  · rcases Of_new O e with h1 | h1
    · exact h.n2 h1
    · omega
abbrev Of2 (f1 d1 : Nat) (v1 : Value) (f2 d2 : Nat) (v2 : Value) : Nat → Prop := fun k => Of f1 d1 v1 k ∨ Of f2 d2 v2 k
theorem fileNe (L : Value → Prop) (f : Nat) : pu P (oBin .neq T.p_mem_File false true (pt f 0) (.pointer none)) L = L (.bool true) := oNeqP U.p_mem_File _ _ _
theorem errNeN (L : Value → Prop) : pu P (oBin .neq T.error false true .nilIface .nilIface) L = L (.bool false) := oNeqNil Tryd.underlying99 _
theorem errEqN (L : Value → Prop) : pu P (oBin .eql T.error false true .nilIface .nilIface) L = L (.bool true) := oEqlNil Tryd.underlying99 _
theorem errEqI (L : Value → Prop) (t : TypeId) (y : Value) : pu P (oBin .eql T.error false true (.iface t y) .nilIface) L = L (.bool false) := oEqlNil2 Tryd.underlying99 _ _ _ _
theorem errNeI (L : Value → Prop) (t : TypeId) (y : Value) : pu P (oBin .neq T.error false true (.iface t y) .nilIface) L = L (.bool true) := oNeqNil2 Tryd.underlying99 _ _ _ _
def wrU (s1 s2 : FX) (l : List UInt8) : FX × FX × Int × Int :=
  if (wrR s1 l).2.1 = 0 then ((wrR s1 l).1, (wrR s2 l).1, (wrR s2 l).2.1, (wrR s1 l).2.2) else ((wrR s1 l).1, s2, (wrR s1 l).2.1, (wrR s1 l).2.2)
abbrev WrOk (s : FX) (p : Int) (l : List UInt8) : Prop := s.cl = false → s.ro = false → 0 ≤ p ∧ p + l.length ≤ 140737488355328 ∧ s.bytes.length ≤ 140737488355328
abbrev UK (w : World) (B u f1 d1 : Nat) (v1 : Value) (f2 d2 : Nat) (v2 : Value) (s1' s2' : FX) (X : World → Prop) : Prop := ∀ w' v1' v2', UU w' B u f1 d1 v1' s1' f2 d2 v2' s2' → Kp w w' (Of2 f1 d1 v1 f2 d2 v2) → OwnOk w v1 v1' → OwnOk w v2 v2' → X w'
theorem writeU (h : UU w B u f1 d1 v1 s1 f2 d2 v2 s2) (hs : Sn w B m) (hx : BS w x l) (hx1 : ∀ k, x.ownBlock = some k → ¬ Of f1 d1 v1 k) (hx2 : ∀ k, x.ownBlock = some k → ¬ Of f2 d2 v2 k) (o1 : WrOk s1 s1.pos l) (o2 : WrOk s2 s2.pos l)
    (hk : UK w B u f1 d1 v1 f2 d2 v2 (wrU s1 s2 l).1 (wrU s1 s2 l).2.1 fun w' => ∀ y, ErrV w' w.heap.size m (wrU s1 s2 l).2.2.1 y → K (tup [.int .i64 (wrU s1 s2 l).2.2.2, y]) w') : Cl P Fn.afero_UnionFile_Write #[pt u 0, x] w K := by
  apply S_afero_UnionFile_Write
  unfold F_afero_UnionFile_Write
  have bu := h.bu
  obtain ⟨lu, lt1, lt2⟩ := h.lt
  refine jn_with (fun _ _ => False) (fun _ _ _ h => h.elim) ?_
  simp (disch := first | omega | (simp only [sZb, sZa, sZd] <;> omega) | (simp (disch := first | omega | (simp only [sZb, sZa, sZd] <;> omega) | fail) only [go_sem, bu, fileNe]; done) | fail) only [go_sem, dec_t, dec_f, w_u32, w_u64, w_u16, w_u8, w_i64, Int.reduceToNat, Int.reducePow, Nat.reducePow, bu, fileNe]
  refine write_any (m := m) h.l hs hx (fun e => hx1 _ e (.inl rfl)) (fun e => hx1 _ e (.inr (.inl rfl))) o1 fun w1 v1' y U1 K1 O1 e1 => ?_
  have h1 := h.setL U1 K1 O1
  have z1 := K1.size
  simp (disch := first | omega | (simp only [sZb, sZa, sZd] <;> omega) | (simp (disch := first | omega | (simp only [sZb, sZa, sZd] <;> omega) | fail) only [go_sem]; done) | fail) only [go_sem, dec_t, dec_f, w_u32, w_u64, w_u16, w_u8, w_i64, Int.reduceToNat, Int.reducePow, Nat.reducePow]
  refine jn_with (fun t w' => ∃ y v2', t = [y] ∧ UU w' B u f1 d1 v1' (wrU s1 s2 l).1 f2 d2 v2' (wrU s1 s2 l).2.1 ∧ Kp w w' (Of2 f1 d1 v1 f2 d2 v2) ∧ OwnOk w v2 v2' ∧ ErrV w' w.heap.size m (wrU s1 s2 l).2.2.1 y ∧ (wrR s1 l).2.2 = (wrU s1 s2 l).2.2.2) ?_ ?_
  · rintro t e w2 ⟨y, v2', rfl, U2, K2, O2, e2, en⟩
    rw [gs0, en]
    exact hk w2 v1' v2' U2 K2 O1 O2 y e2
  · rcases e1.nil_iff with ⟨he, rfl⟩ | ⟨he, t, z, rfl⟩
    · have bu1 := h1.bu
      simp (disch := first | omega | (simp only [sZb, sZa, sZd] <;> omega) | (simp (disch := first | omega | (simp only [sZb, sZa, sZd] <;> omega) | fail) only [go_sem, bu1, errEqN, fileNe]; done) | fail) only [go_sem, dec_t, dec_f, w_u32, w_u64, w_u16, w_u8, w_i64, Int.reduceToNat, Int.reducePow, Nat.reducePow, bu1, errEqN, fileNe]
      refine write_any (m := m) h1.b (hs.below (h.l.below K1)) (BS_kp hx K1 hx1) (fun e => hx2 _ e (.inl rfl)) (fun e => hx2 _ e (.inr (.inl rfl))) o2 fun w2 v2' y U2 K2 O2 e2 => ?_
      simp (disch := first | omega | (simp only [sZb, sZa, sZd] <;> omega) | (simp (disch := first | omega | (simp only [sZb, sZa, sZd] <;> omega) | fail) only [go_sem]; done) | fail) only [go_sem, dec_t, dec_f, w_u32, w_u64, w_u16, w_u8, w_i64, Int.reduceToNat, Int.reducePow, Nat.reducePow]
      have h2 := h1.setB U2 K2 (by
        rcases O2 with e | e
        · exact .inl e
        · exact .inr e)
      refine ⟨y, v2', rfl, ?_, (Kp_mono K1 fun _ h => .inl h).trans (Kp_mono K2 fun _ h => .inr h) fun _ _ h => h, ?_, ?_, ?_⟩
      · unfold wrU; rw [if_pos he]; exact h2
      · rcases O2 with e | e
        · exact .inl e
        · exact .inr fun k hk => by have := e k hk; omega
      · unfold wrU; rw [if_pos he]; exact e2.less z1
      · unfold wrU; rw [if_pos he]
    · simp (disch := first | omega | (simp only [sZb, sZa, sZd] <;> omega) | (simp (disch := first | omega | (simp only [sZb, sZa, sZd] <;> omega) | fail) only [go_sem, errEqI, fileNe]; done) | fail) only [go_sem, dec_t, dec_f, w_u32, w_u64, w_u16, w_u8, w_i64, Int.reduceToNat, Int.reducePow, Nat.reducePow, errEqI, fileNe]
      refine ⟨_, v2, rfl, ?_, Kp_mono K1 fun _ h => .inl h, .inl rfl, ?_, ?_⟩
      · unfold wrU; rw [if_neg he]; exact h1
      · unfold wrU; rw [if_neg he]; exact e1
      · unfold wrU; rw [if_neg he]
def waU (s1 s2 : FX) (off : Int) (l : List UInt8) : FX × FX × Int × Int :=
  if (wrR { s1 with pos := off } l).2.1 = 0 then ((wrR { s1 with pos := off } l).1, (wrR { s2 with pos := off } l).1, (wrR { s2 with pos := off } l).2.1, (wrR { s1 with pos := off } l).2.2) else ((wrR { s1 with pos := off } l).1, s2, (wrR { s1 with pos := off } l).2.1, (wrR { s1 with pos := off } l).2.2)
theorem writeAtU {off : Int} (h : UU w B u f1 d1 v1 s1 f2 d2 v2 s2) (hs : Sn w B m) (hx : BS w x l) (hx1 : ∀ k, x.ownBlock = some k → ¬ Of f1 d1 v1 k) (hx2 : ∀ k, x.ownBlock = some k → ¬ Of f2 d2 v2 k) (o1 : WrOk s1 off l) (o2 : WrOk s2 off l)
    (hk : UK w B u f1 d1 v1 f2 d2 v2 (waU s1 s2 off l).1 (waU s1 s2 off l).2.1 fun w' => ∀ y, ErrV w' w.heap.size m (waU s1 s2 off l).2.2.1 y → K (tup [.int .i64 (waU s1 s2 off l).2.2.2, y]) w') : Cl P Fn.afero_UnionFile_WriteAt #[pt u 0, x, .int .i64 off] w K := by
  apply S_afero_UnionFile_WriteAt
  unfold F_afero_UnionFile_WriteAt
  have bu := h.bu
  obtain ⟨lu, lt1, lt2⟩ := h.lt
  refine jn_with (fun _ _ => False) (fun _ _ _ h => h.elim) ?_
  simp (disch := first | omega | (simp only [sZb, sZa, sZd] <;> omega) | (simp (disch := first | omega | (simp only [sZb, sZa, sZd] <;> omega) | fail) only [go_sem, bu, fileNe]; done) | fail) only [go_sem, dec_t, dec_f, w_u32, w_u64, w_u16, w_u8, w_i64, Int.reduceToNat, Int.reducePow, Nat.reducePow, bu, fileNe]
  refine writeAt_any (m := m) h.l hs hx (fun e => hx1 _ e (.inl rfl)) (fun e => hx1 _ e (.inr (.inl rfl))) o1 fun w1 v1' y U1 K1 O1 e1 => ?_
  have h1 := h.setL U1 K1 O1
  have z1 := K1.size
  simp (disch := first | omega | (simp only [sZb, sZa, sZd] <;> omega) | (simp (disch := first | omega | (simp only [sZb, sZa, sZd] <;> omega) | fail) only [go_sem]; done) | fail) only [go_sem, dec_t, dec_f, w_u32, w_u64, w_u16, w_u8, w_i64, Int.reduceToNat, Int.reducePow, Nat.reducePow]
  refine jn_with (fun t w' => ∃ y v2', t = [y] ∧ UU w' B u f1 d1 v1' (waU s1 s2 off l).1 f2 d2 v2' (waU s1 s2 off l).2.1 ∧ Kp w w' (Of2 f1 d1 v1 f2 d2 v2) ∧ OwnOk w v2 v2' ∧ ErrV w' w.heap.size m (waU s1 s2 off l).2.2.1 y ∧ (wrR { s1 with pos := off } l).2.2 = (waU s1 s2 off l).2.2.2) ?_ ?_
  · rintro t e w2 ⟨y, v2', rfl, U2, K2, O2, e2, en⟩
    rw [gs0, en]
    exact hk w2 v1' v2' U2 K2 O1 O2 y e2
  · rcases e1.nil_iff with ⟨he, rfl⟩ | ⟨he, t, z, rfl⟩
    · have bu1 := h1.bu
      simp (disch := first | omega | (simp only [sZb, sZa, sZd] <;> omega) | (simp (disch := first | omega | (simp only [sZb, sZa, sZd] <;> omega) | fail) only [go_sem, bu1, errEqN, fileNe]; done) | fail) only [go_sem, dec_t, dec_f, w_u32, w_u64, w_u16, w_u8, w_i64, Int.reduceToNat, Int.reducePow, Nat.reducePow, bu1, errEqN, fileNe]
      refine writeAt_any (m := m) h1.b (hs.below (h.l.below K1)) (BS_kp hx K1 hx1) (fun e => hx2 _ e (.inl rfl)) (fun e => hx2 _ e (.inr (.inl rfl))) o2 fun w2 v2' y U2 K2 O2 e2 => ?_
      simp (disch := first | omega | (simp only [sZb, sZa, sZd] <;> omega) | (simp (disch := first | omega | (simp only [sZb, sZa, sZd] <;> omega) | fail) only [go_sem]; done) | fail) only [go_sem, dec_t, dec_f, w_u32, w_u64, w_u16, w_u8, w_i64, Int.reduceToNat, Int.reducePow, Nat.reducePow]
      have h2 := h1.setB U2 K2 (by
        rcases O2 with e | e
        · exact .inl e
        · exact .inr e)
      refine ⟨y, v2', rfl, ?_, (Kp_mono K1 fun _ h => .inl h).trans (Kp_mono K2 fun _ h => .inr h) fun _ _ h => h, ?_, ?_, ?_⟩
      · unfold waU; rw [if_pos he]; exact h2
      · rcases O2 with e | e
        · exact .inl e
        · exact .inr fun k hk => by have := e k hk; omega
      · unfold waU; rw [if_pos he]; exact e2.less z1
      · unfold waU; rw [if_pos he]
    · simp (disch := first | omega | (simp only [sZb, sZa, sZd] <;> omega) | (simp (disch := first | omega | (simp only [sZb, sZa, sZd] <;> omega) | fail) only [go_sem, errEqI, fileNe]; done) | fail) only [go_sem, dec_t, dec_f, w_u32, w_u64, w_u16, w_u8, w_i64, Int.reduceToNat, Int.reducePow, Nat.reducePow, errEqI, fileNe]
      refine ⟨_, v2, rfl, ?_, Kp_mono K1 fun _ h => .inl h, .inl rfl, ?_, ?_⟩
      · unfold waU; rw [if_neg he]; exact h1
      · unfold waU; rw [if_neg he]; exact e1
      · unfold waU; rw [if_neg he]
def trU (s1 s2 : FX) (n : Int) : FX × FX × Int :=
  if (trR s1 n).2 = 0 then ((trR s1 n).1, (trR s2 n).1, (trR s2 n).2) else ((trR s1 n).1, s2, (trR s1 n).2)
theorem truncU {n : Int} (h : UU w B u f1 d1 v1 s1 f2 d2 v2 s2) (hs : Sn w B m) (hn : n ≤ 281474976710) (b1 : s1.bytes.length ≤ 281474976710) (b2 : s2.bytes.length ≤ 281474976710)
    (hk : UK w B u f1 d1 v1 f2 d2 v2 (trU s1 s2 n).1 (trU s1 s2 n).2.1 fun w' => ∀ y, ErrV w' w.heap.size m (trU s1 s2 n).2.2 y → K y w') : Cl P Fn.afero_UnionFile_Truncate #[pt u 0, .int .i64 n] w K := by
  apply S_afero_UnionFile_Truncate
  unfold F_afero_UnionFile_Truncate
  have bu := h.bu
  obtain ⟨lu, lt1, lt2⟩ := h.lt
  refine jn_with (fun _ _ => False) (fun _ _ _ h => h.elim) ?_
  simp (disch := first | omega | (simp only [sZb, sZa, sZd] <;> omega) | (simp (disch := first | omega | (simp only [sZb, sZa, sZd] <;> omega) | fail) only [go_sem, bu, fileNe]; done) | fail) only [go_sem, dec_t, dec_f, w_u32, w_u64, w_u16, w_u8, w_i64, Int.reduceToNat, Int.reducePow, Nat.reducePow, bu, fileNe]
  refine trunc_any (m := m) h.l hs hn b1 fun w1 v1' y U1 K1 O1 e1 => ?_
  have h1 := h.setL U1 K1 O1
  have z1 := K1.size
  refine jn_with (fun t w' => ∃ y v2', t = [y] ∧ UU w' B u f1 d1 v1' (trU s1 s2 n).1 f2 d2 v2' (trU s1 s2 n).2.1 ∧ Kp w w' (Of2 f1 d1 v1 f2 d2 v2) ∧ OwnOk w v2 v2' ∧ ErrV w' w.heap.size m (trU s1 s2 n).2.2 y) ?_ ?_
  · rintro t e w2 ⟨y, v2', rfl, U2, K2, O2, e2⟩
    rw [gs0]
    exact hk w2 v1' v2' U2 K2 O1 O2 y e2
  · rcases e1.nil_iff with ⟨he, rfl⟩ | ⟨he, t, z, rfl⟩
    · have bu1 := h1.bu
      simp (disch := first | omega | (simp only [sZb, sZa, sZd] <;> omega) | (simp (disch := first | omega | (simp only [sZb, sZa, sZd] <;> omega) | fail) only [go_sem, bu1, errEqN, fileNe]; done) | fail) only [go_sem, dec_t, dec_f, w_u32, w_u64, w_u16, w_u8, w_i64, Int.reduceToNat, Int.reducePow, Nat.reducePow, bu1, errEqN, fileNe]
      refine trunc_any (m := m) h1.b (hs.below (h.l.below K1)) hn b2 fun w2 v2' y U2 K2 O2 e2 => ?_
      have h2 := h1.setB U2 K2 (by
        rcases O2 with e | e
        · exact .inl e
        · exact .inr e)
      refine ⟨y, v2', rfl, ?_, (Kp_mono K1 fun _ h => .inl h).trans (Kp_mono K2 fun _ h => .inr h) fun _ _ h => h, ?_, ?_⟩
      · unfold trU; rw [if_pos he]; exact h2
      · rcases O2 with e | e
        · exact .inl e
        · exact .inr fun k hk => by have := e k hk; omega
      · unfold trU; rw [if_pos he]; exact e2.less z1
    · simp (disch := first | omega | (simp only [sZb, sZa, sZd] <;> omega) | (simp (disch := first | omega | (simp only [sZb, sZa, sZd] <;> omega) | fail) only [go_sem, errEqI, fileNe]; done) | fail) only [go_sem, dec_t, dec_f, w_u32, w_u64, w_u16, w_u8, w_i64, Int.reduceToNat, Int.reducePow, Nat.reducePow, errEqI, fileNe]
      refine ⟨_, v2, rfl, ?_, Kp_mono K1 fun _ h => .inl h, .inl rfl, ?_⟩
      · unfold trU; rw [if_neg he]; exact h1
      · unfold trU; rw [if_neg he]; exact e1
theorem closeU (h : UU w B u f1 d1 v1 s1 f2 d2 v2 s2) (hk : UK w B u f1 d1 v1 f2 d2 v2 (clR s1) (clR s2) fun w' => K .nilIface w') : Cl P Fn.afero_UnionFile_Close #[pt u 0] w K := by
  apply S_afero_UnionFile_Close
  unfold F_afero_UnionFile_Close
  have bu := h.bu
  obtain ⟨lu, lt1, lt2⟩ := h.lt
  refine jn_with (fun t w' => UU w' B u f1 d1 v1 s1 f2 d2 v2 (clR s2) ∧ Kp w w' (Of f2 d2 v2)) ?_ ?_
  · rintro t e w1 ⟨h1, K1⟩
    have bu1 := h1.bu
    obtain ⟨lu1, _, _⟩ := h1.lt
    refine jn_with (fun _ _ => False) (fun _ _ _ h => h.elim) ?_
    simp (disch := first | omega | (simp only [sZb, sZa, sZd] <;> omega) | (simp (disch := first | omega | (simp only [sZb, sZa, sZd] <;> omega) | fail) only [go_sem, bu1, fileNe]; done) | fail) only [go_sem, dec_t, dec_f, w_u32, w_u64, w_u16, w_u8, w_i64, Int.reduceToNat, Int.reducePow, Nat.reducePow, bu1, fileNe]
    refine close_any h1.l fun w2 U2 K2 => ?_
    have h2 := h1.setL U2 K2 (.inl rfl)
    exact hk w2 v1 v2 h2 ((Kp_mono K1 fun _ h => .inr h).trans (Kp_mono K2 fun _ h => .inl h) fun _ _ h => h) (.inl rfl) (.inl rfl)
  · simp (disch := first | omega | (simp only [sZb, sZa, sZd] <;> omega) | (simp (disch := first | omega | (simp only [sZb, sZa, sZd] <;> omega) | fail) only [go_sem, bu, fileNe]; done) | fail) only [go_sem, dec_t, dec_f, w_u32, w_u64, w_u16, w_u8, w_i64, Int.reduceToNat, Int.reducePow, Nat.reducePow, bu, fileNe]
    refine close_any h.b fun w1 U1 K1 => ?_
    exact ⟨h.setB U1 K1 (.inl rfl), K1⟩
theorem syncU (h : UU w B u f1 d1 v1 s1 f2 d2 v2 s2) (hk : K .nilIface w) : Cl P Fn.afero_UnionFile_Sync #[pt u 0] w K := by
  apply S_afero_UnionFile_Sync
  unfold F_afero_UnionFile_Sync
  have bu := h.bu
  obtain ⟨lu, lt1, lt2⟩ := h.lt
  refine jn_with (fun _ _ => False) (fun _ _ _ h => h.elim) ?_
  simp (disch := first | omega | (simp only [sZb, sZa, sZd] <;> omega) | (simp (disch := first | omega | (simp only [sZb, sZa, sZd] <;> omega) | fail) only [go_sem, bu, fileNe]; done) | fail) only [go_sem, dec_t, dec_f, w_u32, w_u64, w_u16, w_u8, w_i64, Int.reduceToNat, Int.reducePow, Nat.reducePow, bu, fileNe]
  refine sync_any ?_
  refine jn_with (fun t w' => t = [.nilIface] ∧ w' = w) ?_ ?_
  · rintro t e w2 ⟨rfl, rfl⟩
    exact hk
  · simp (disch := first | omega | (simp only [sZb, sZa, sZd] <;> omega) | (simp (disch := first | omega | (simp only [sZb, sZa, sZd] <;> omega) | fail) only [go_sem, bu, errEqN, fileNe]; done) | fail) only [go_sem, dec_t, dec_f, w_u32, w_u64, w_u16, w_u8, w_i64, Int.reduceToNat, Int.reducePow, Nat.reducePow, bu, errEqN, fileNe]
    refine sync_any ?_
    exact ⟨rfl, rfl⟩
theorem statU (h : UU w B u f1 d1 v1 s1 f2 d2 v2 s2) (hk : K (tup [pt w.heap.size 0, .nilIface]) (w.alloc (CB [pt d1 0] T.mem_FileInfo))) : Cl P Fn.afero_UnionFile_Stat #[pt u 0] w K := by
  apply S_afero_UnionFile_Stat
  unfold F_afero_UnionFile_Stat
  have bu := h.bu
  obtain ⟨lu, lt1, lt2⟩ := h.lt
  refine jn_with (fun _ _ => False) (fun _ _ _ h => h.elim) ?_
  simp (disch := first | omega | (simp only [sZb, sZa, sZd] <;> omega) | (simp (disch := first | omega | (simp only [sZb, sZa, sZd] <;> omega) | fail) only [go_sem, bu, fileNe]; done) | fail) only [go_sem, dec_t, dec_f, w_u32, w_u64, w_u16, w_u8, w_i64, Int.reduceToNat, Int.reducePow, Nat.reducePow, bu, fileNe]
  refine stat_any h.l ?_
  simp (disch := first | omega | (simp only [sZb, sZa, sZd] <;> omega) | (simp (disch := first | omega | (simp only [sZb, sZa, sZd] <;> omega) | fail) only [go_sem]; done) | fail) only [go_sem, dec_t, dec_f, w_u32, w_u64, w_u16, w_u8, w_i64, Int.reduceToNat, Int.reducePow, Nat.reducePow]
  exact hk
theorem nameU (h : UU w B u f1 d1 v1 s1 f2 d2 v2 s2) (hk : K (S s1.nm) w) : Cl P Fn.afero_UnionFile_Name #[pt u 0] w K := by
  apply S_afero_UnionFile_Name
  unfold F_afero_UnionFile_Name
  have bu := h.bu
  obtain ⟨lu, lt1, lt2⟩ := h.lt
  refine jn_with (fun _ _ => False) (fun _ _ _ h => h.elim) ?_
  simp (disch := first | omega | (simp only [sZb, sZa, sZd] <;> omega) | (simp (disch := first | omega | (simp only [sZb, sZa, sZd] <;> omega) | fail) only [go_sem, bu, fileNe]; done) | fail) only [go_sem, dec_t, dec_f, w_u32, w_u64, w_u16, w_u8, w_i64, Int.reduceToNat, Int.reducePow, Nat.reducePow, bu, fileNe]
  exact name_any h.l hk
theorem readdirU {n : Int} (h : UU w B u f1 d1 v1 s1 f2 d2 v2 s2) (hd : s1.dir = false) (hk : ∀ w' y, Below w.heap.size w w' → ErrV w' w.heap.size m 8 y → K (tup [.slice none 0 0, y]) w') : Cl P Fn.afero_UnionFile_Readdir #[pt u 0, .int .i64 n] w K := by
  apply S_afero_UnionFile_Readdir
  unfold F_afero_UnionFile_Readdir
  have bu := h.bu
  obtain ⟨lu, lt1, lt2⟩ := h.lt
  refine jn_with (fun _ _ => False) (fun _ _ _ h => h.elim) ?_
  simp (disch := first | omega | (simp only [sZb, sZa, sZd] <;> omega) | (simp (disch := first | omega | (simp only [sZb, sZa, sZd] <;> omega) | fail) only [go_sem, bu]; done) | fail) only [go_sem, dec_t, dec_f, w_u32, w_u64, w_u16, w_u8, w_i64, Int.reduceToNat, Int.reducePow, Nat.reducePow, bu]
  refine jn_with (fun _ _ => False) (fun _ _ _ h => h.elim) ?_
  simp (disch := first | omega | (simp only [sZb, sZa, sZd] <;> omega) | (simp (disch := first | omega | (simp only [sZb, sZa, sZd] <;> omega) | fail) only [go_sem, bu, fileNe]; done) | fail) only [go_sem, dec_t, dec_f, w_u32, w_u64, w_u16, w_u8, w_i64, Int.reduceToNat, Int.reducePow, Nat.reducePow, bu, fileNe]
  refine readdir_file (m := m) h.l hd fun w1 y B1 e1 => ?_
  rcases e1.nil_iff with ⟨he, _⟩ | ⟨he, t, z, rfl⟩
  · cases he
  · simp (disch := first | omega | (simp only [sZb, sZa, sZd] <;> omega) | (simp (disch := first | omega | (simp only [sZb, sZa, sZd] <;> omega) | fail) only [go_sem, errNeI]; done) | fail) only [go_sem, dec_t, dec_f, w_u32, w_u64, w_u16, w_u8, w_i64, Int.reduceToNat, Int.reducePow, Nat.reducePow, errNeI]
    exact hk w1 _ B1 e1
theorem namesU {n : Int} (h : UU w B u f1 d1 v1 s1 f2 d2 v2 s2) (hd : s1.dir = false) (hk : ∀ w' y, Below w.heap.size w w' → ErrV w' w.heap.size m 8 y → K (tup [.slice none 0 0, y]) w') : Cl P Fn.afero_UnionFile_Readdirnames #[pt u 0, .int .i64 n] w K := by
  apply S_afero_UnionFile_Readdirnames
  unfold F_afero_UnionFile_Readdirnames
  rw [C.afero_UnionFile_Readdir]
  refine readdirU (m := m) h hd fun w1 y B1 e1 => ?_
  rcases e1.nil_iff with ⟨he, _⟩ | ⟨he, t, z, rfl⟩
  · cases he
  · simp (disch := first | omega | (simp only [sZb, sZa, sZd] <;> omega) | (simp (disch := first | omega | (simp only [sZb, sZa, sZd] <;> omega) | fail) only [go_sem]; done) | fail) only [go_sem, dec_t, dec_f, w_u32, w_u64, w_u16, w_u8, w_i64, Int.reduceToNat, Int.reducePow, Nat.reducePow]
    refine jn_with (fun _ _ => False) (fun _ _ _ h => h.elim) ?_
    simp (disch := first | omega | (simp only [sZb, sZa, sZd] <;> omega) | (simp (disch := first | omega | (simp only [sZb, sZa, sZd] <;> omega) | fail) only [go_sem, errNeI]; done) | fail) only [go_sem, dec_t, dec_f, w_u32, w_u64, w_u16, w_u8, w_i64, Int.reduceToNat, Int.reducePow, Nat.reducePow, errNeI]
    exact hk w1 _ B1 e1
theorem ErrV.few {w : World} {C : Nat} {e : Int} {x : Value} (h : ErrV w C m e x) (he : e = 3 ∨ e = 4 ∨ e = 5) : ∃ g ∈ sents, x = er (m g) ∧ (decide (g = G.io_EOF) = decide (e = 4)) := by
  rcases h with ⟨h, _⟩ | ⟨g, hg, hx, h⟩ | ⟨g, hg, op, hp, h⟩ | ⟨op, q, hp, hq, h⟩
  · omega
  · refine ⟨g, hg, hx, ?_⟩
    subst h
    simp only [sents, List.mem_cons, List.not_mem_nil, or_false] at hg
    rcases hg with h | h | h | h | h | h | h | h | h | h | h <;> (subst h; decide)
  · subst h
    exfalso
    simp only [four, List.mem_cons, List.not_mem_nil, or_false] at hg
    rcases hg with h | h | h | h <;> (subst h; revert he; decide)
  · subst h
    exfalso
    unfold opCode at he
    split at he
    · omega
    · split at he <;> omega
def skU (s1 s2 : FX) (off wh : Int) : FX × FX × Int × Int :=
  if (skR s1 off wh).2.1 = 0 then ((skR s1 off wh).1, (skR s2 off wh).1, (skR s2 off wh).2.1, (skR s1 off wh).2.2) else ((skR s1 off wh).1, s2, (skR s1 off wh).2.1, (skR s1 off wh).2.2)
abbrev I62 (x : Int) : Prop := -4611686018427387904 ≤ x ∧ x ≤ 4611686018427387903
theorem skR_err (s : FX) (off wh : Int) : (skR s off wh).2.1 = 0 ∨ (skR s off wh).2.1 = 3 := by
  unfold skR
  split
  · exact .inr rfl
  · exact .inl rfl
theorem seekU {off wh : Int} (h : UU w B u f1 d1 v1 s1 f2 d2 v2 s2) (hs : Sn w B m) (ho : I62 off) (p1 : I62 s1.pos) (p2 : I62 s2.pos) (b1 : s1.bytes.length ≤ 4611686018427387903) (b2 : s2.bytes.length ≤ 4611686018427387903)
    (hk : UK w B u f1 d1 v1 f2 d2 v2 (skU s1 s2 off wh).1 (skU s1 s2 off wh).2.1 fun w' => ∀ y, ErrV w' w.heap.size m (skU s1 s2 off wh).2.2.1 y → K (tup [.int .i64 (skU s1 s2 off wh).2.2.2, y]) w') : Cl P Fn.afero_UnionFile_Seek #[pt u 0, .int .i64 off, .int .i64 wh] w K := by
  apply S_afero_UnionFile_Seek
  unfold F_afero_UnionFile_Seek
  have bu := h.bu
  obtain ⟨lu, lt1, lt2⟩ := h.lt
  refine jn_with (fun _ _ => False) (fun _ _ _ h => h.elim) ?_
  simp (disch := first | omega | (simp only [sZb, sZa, sZd] <;> omega) | (simp (disch := first | omega | (simp only [sZb, sZa, sZd] <;> omega) | fail) only [go_sem, bu, fileNe]; done) | fail) only [go_sem, dec_t, dec_f, w_u32, w_u64, w_u16, w_u8, w_i64, Int.reduceToNat, Int.reducePow, Nat.reducePow, bu, fileNe]
  refine seek_any (m := m) h.l hs ho p1 b1 fun w1 y U1 K1 e1 => ?_
  have h1 := h.setL U1 K1 (.inl rfl)
  have z1 := K1.size
  have hs1 : Sn w1 B m := hs.below (h.l.below K1)
  simp (disch := first | omega | (simp only [sZb, sZa, sZd] <;> omega) | (simp (disch := first | omega | (simp only [sZb, sZa, sZd] <;> omega) | fail) only [go_sem]; done) | fail) only [go_sem, dec_t, dec_f, w_u32, w_u64, w_u16, w_u8, w_i64, Int.reduceToNat, Int.reducePow, Nat.reducePow]
  refine jn_with (fun t w' => ∃ y, t = [y] ∧ UU w' B u f1 d1 v1 (skU s1 s2 off wh).1 f2 d2 v2 (skU s1 s2 off wh).2.1 ∧ Kp w w' (Of2 f1 d1 v1 f2 d2 v2) ∧ ErrV w' w.heap.size m (skU s1 s2 off wh).2.2.1 y ∧ (skR s1 off wh).2.2 = (skU s1 s2 off wh).2.2.2) ?_ ?_
  · rintro t e w2 ⟨y, rfl, U2, K2, e2, en⟩
    rw [gs0, en]
    exact hk w2 v1 v2 U2 K2 (.inl rfl) (.inl rfl) y e2
  · by_cases he : (skR s1 off wh).2.1 = 0
    · rcases e1.nil_iff with ⟨_, rfl⟩ | ⟨he', _⟩
      · have bu1 := h1.bu
        simp (disch := first | omega | (simp only [sZb, sZa, sZd] <;> omega) | (simp (disch := first | omega | (simp only [sZb, sZa, sZd] <;> omega) | fail) only [go_sem, bu1, errEqN, fileNe]; done) | fail) only [go_sem, dec_t, dec_f, w_u32, w_u64, w_u16, w_u8, w_i64, Int.reduceToNat, Int.reducePow, Nat.reducePow, bu1, errEqN, fileNe]
        refine seek_any (m := m) h1.b hs1 ho p2 b2 fun w2 y U2 K2 e2 => ?_
        simp (disch := first | omega | (simp only [sZb, sZa, sZd] <;> omega) | (simp (disch := first | omega | (simp only [sZb, sZa, sZd] <;> omega) | fail) only [go_sem]; done) | fail) only [go_sem, dec_t, dec_f, w_u32, w_u64, w_u16, w_u8, w_i64, Int.reduceToNat, Int.reducePow, Nat.reducePow]
        have h2 := h1.setB U2 K2 (.inl rfl)
        refine ⟨y, rfl, ?_, (Kp_mono K1 fun _ h => .inl h).trans (Kp_mono K2 fun _ h => .inr h) fun _ _ h => h, ?_, ?_⟩
        · unfold skU; rw [if_pos he]; exact h2
        · unfold skU; rw [if_pos he]; exact e2.less z1
        · unfold skU; rw [if_pos he]
      · exact absurd he he'
    · have he3 := (skR_err s1 off wh).resolve_left he
      obtain ⟨g, hg, rfl, hq⟩ := e1.few (.inl he3)
      have ldE : ∀ L : Value → World → Prop, st P (oLoad T.error (.pointer (some ⟨G.io_EOF, 0, none⟩))) w1 L = L (er (m G.io_EOF)) w1 := fun L => hs1.load (by decide) L
      have eqE : ∀ L : Value → World → Prop, st P (oBin .eql T.error false false (er (m g)) (er (m G.io_EOF))) w1 L = L (.bool false) w1 := fun L => by
        rw [hs1.eql hg (by decide), hq, he3]; rfl
      simp (disch := first | omega | (simp only [sZb, sZa, sZd] <;> omega) | (simp (disch := first | omega | (simp only [sZb, sZa, sZd] <;> omega) | fail) only [go_sem, errEqI, fileNe, ldE, eqE]; done) | fail) only [go_sem, dec_t, dec_f, w_u32, w_u64, w_u16, w_u8, w_i64, Int.reduceToNat, Int.reducePow, Nat.reducePow, errEqI, fileNe, ldE, eqE]
      refine ⟨_, rfl, ?_, Kp_mono K1 fun _ h => .inl h, ?_, ?_⟩
      · unfold skU; rw [if_neg he]; exact h1
      · unfold skU; rw [if_neg he]; exact e1
      · unfold skU; rw [if_neg he]
theorem rdR_err (s : FX) (n : Nat) : (rdR s n).2.2 = 0 ∨ (rdR s n).2.2 = 3 ∨ (rdR s n).2.2 = 4 ∨ (rdR s n).2.2 = 5 := by
  unfold rdR
  split
  · exact .inr (.inl rfl)
  · rcases rdX_err s n with h | h | h <;> rw [h] <;> simp
def rdU (s1 s2 : FX) (n : Nat) : FX × FX × List UInt8 × Int :=
  if (rdR s1 n).2.2 = 0 ∨ (rdR s1 n).2.2 = 4 then ((rdR s1 n).1, (skR s2 (rdR s1 n).2.1.length 1).1, (rdR s1 n).2.1, if (skR s2 (rdR s1 n).2.1.length 1).2.1 = 0 then (rdR s1 n).2.2 else (skR s2 (rdR s1 n).2.1.length 1).2.1)
  else ((rdR s1 n).1, s2, (rdR s1 n).2.1, (rdR s1 n).2.2)
set_option maxHeartbeats 1000000 in
theorem readU {b n : Nat} (h : UU w B u f1 d1 v1 s1 f2 d2 v2 s2) (hs : Sn w B m) (q1 : s1.cl = false → 0 ≤ s1.pos ∧ s1.pos ≤ 4611686018427387903) (p2 : I62 s2.pos) (b1 : s1.bytes.length ≤ 281474976710656) (b2 : s2.bytes.length ≤ 4611686018427387903) (hn : n ≤ 281474976710656)
    (hb : bk w b = some (CB (List.replicate n (.int .u8 0)) T.uint8)) (hb1 : ¬ Of f1 d1 v1 b) (hb2 : ¬ Of f2 d2 v2 b) (hbu : b ≠ u) (hbB : B ≤ b)
    (hk : ∀ w' y, UU w' B u f1 d1 v1 (rdU s1 s2 n).1 f2 d2 v2 (rdU s1 s2 n).2.1 → Kp w w' (fun k => Of2 f1 d1 v1 f2 d2 v2 k ∨ k = b) → bk w' b = some (CB ((rdU s1 s2 n).2.2.1.map byt ++ List.replicate (n - (rdU s1 s2 n).2.2.1.length) (.int .u8 0)) T.uint8) → ErrV w' w.heap.size m (rdU s1 s2 n).2.2.2 y → K (tup [.int .i64 (rdU s1 s2 n).2.2.1.length, y]) w') :
    Cl P Fn.afero_UnionFile_Read #[pt u 0, sl b 0 n n] w K := by
  apply S_afero_UnionFile_Read
  unfold F_afero_UnionFile_Read
  have bu := h.bu
  obtain ⟨lu, lt1, lt2⟩ := h.lt
  have hbl := bk_lt hb
  refine jn_with (fun _ _ => False) (fun _ _ _ h => h.elim) ?_
  simp (disch := first | omega | (simp only [sZb, sZa, sZd] <;> omega) | (simp (disch := first | omega | (simp only [sZb, sZa, sZd] <;> omega) | fail) only [go_sem, bu, fileNe]; done) | fail) only [go_sem, dec_t, dec_f, w_u32, w_u64, w_u16, w_u8, w_i64, Int.reduceToNat, Int.reducePow, Nat.reducePow, bu, fileNe]
  refine read_any (m := m) h.l hs q1 b1 hn hb (fun e => hb1 (.inl e)) (fun e => hb1 (.inr (.inl e))) (fun e => hb1 (.inr (.inr e))) fun w1 y U1 K1 c1 e1 => ?_
  have K1' : Kp w w1 (fun k => Of2 f1 d1 v1 f2 d2 v2 k ∨ k = b) := Kp_mono K1 fun x e => by
    rcases e with e | e
    · exact .inl (.inl (.inl e))
    · exact .inr e
  have hB2 : FH w1 B f2 d2 v2 s2 := h.b.kept K1 fun x hx e => by
    rcases e with e | e
    · exact h.sep x (.inl e) hx
    · exact hb2 (by rw [← e]; exact hx)
  have h1 : UU w1 B u f1 d1 v1 (rdR s1 n).1 f2 d2 v2 s2 := ⟨U1, hB2, h.sep, h.hu, (K1.block u lu fun e => by
    rcases e with e | e
    · exact h.n1 (.inl e)
    · exact hbu e.symm).trans h.bu, h.n1, h.n2⟩
  have z1 := K1.size
  have hle : (rdR s1 n).2.1.length ≤ n := rdR_len s1 n
  have hs1 : Sn w1 B m := hs.below (K1.below (fun x hx e => by
    rcases e with e | e
    · have := h.l.hf; omega
    · omega) (by have := h.l.hf; have := h.l.lt.1; omega))
  simp (disch := first | omega | (simp only [sZb, sZa, sZd] <;> omega) | (simp (disch := first | omega | (simp only [sZb, sZa, sZd] <;> omega) | fail) only [go_sem]; done) | fail) only [go_sem, dec_t, dec_f, w_u32, w_u64, w_u16, w_u8, w_i64, Int.reduceToNat, Int.reducePow, Nat.reducePow]
  refine jn_with (fun t w' => ∃ y, t = [y] ∧ UU w' B u f1 d1 v1 (rdU s1 s2 n).1 f2 d2 v2 (rdU s1 s2 n).2.1 ∧ Kp w w' (fun k => Of2 f1 d1 v1 f2 d2 v2 k ∨ k = b) ∧ bk w' b = some (CB ((rdU s1 s2 n).2.2.1.map byt ++ List.replicate (n - (rdU s1 s2 n).2.2.1.length) (.int .u8 0)) T.uint8) ∧ ErrV w' w.heap.size m (rdU s1 s2 n).2.2.2 y ∧ (rdR s1 n).2.1 = (rdU s1 s2 n).2.2.1) ?_ ?_
  · rintro t e w2 ⟨y, rfl, U2, K2, c2, e2, en⟩
    rw [gs0, en]
    exact hk w2 y U2 K2 c2 e2
  · have bu1 := h1.bu
    -- what the base's seeking comes to
    have fin : ((rdR s1 n).2.2 = 0 ∨ (rdR s1 n).2.2 = 4) → ∀ w2 z, FH w2 B f2 d2 v2 (skR s2 (rdR s1 n).2.1.length 1).1 → Kp w1 w2 (Of f2 d2 v2) → ErrV w2 w1.heap.size m (skR s2 (rdR s1 n).2.1.length 1).2.1 z →
        UU w2 B u f1 d1 v1 (rdU s1 s2 n).1 f2 d2 v2 (rdU s1 s2 n).2.1 ∧ Kp w w2 (fun k => Of2 f1 d1 v1 f2 d2 v2 k ∨ k = b) ∧ bk w2 b = some (CB ((rdU s1 s2 n).2.2.1.map byt ++ List.replicate (n - (rdU s1 s2 n).2.2.1.length) (.int .u8 0)) T.uint8) ∧ ErrV w2 w.heap.size m (rdU s1 s2 n).2.2.2 (if (skR s2 (rdR s1 n).2.1.length 1).2.1 = 0 then y else z) ∧ (rdR s1 n).2.1 = (rdU s1 s2 n).2.2.1 := by
      intro he w2 z U2 K2 e2
      have h2 := h1.setB U2 K2 (.inl rfl)
      unfold rdU
      rw [if_pos he]
      refine ⟨h2, K1'.trans (Kp_mono K2 fun _ h => .inl (.inr h)) fun _ _ h => h, ?_, ?_, rfl⟩
      · rw [K2.block b (by omega) hb2]; exact c1
      · show ErrV w2 w.heap.size m (if _ then _ else _) _
        by_cases hz : (skR s2 (rdR s1 n).2.1.length 1).2.1 = 0
        · rw [if_pos hz, if_pos hz]
          exact e1.kp (Kp_sub K2 fun x _ h => h) fun k hk1 hk2 e => by
            have := (lt2 k e).2; omega
        · rw [if_neg hz, if_neg hz]
          exact e2.less z1
    have len62 : I62 ((rdR s1 n).2.1.length : Int) := ⟨by omega, by omega⟩
    by_cases he0 : (rdR s1 n).2.2 = 0
    · rcases e1.nil_iff with ⟨_, rfl⟩ | ⟨he', _⟩
      · simp (disch := first | omega | (simp only [sZb, sZa, sZd] <;> omega) | (simp (disch := first | omega | (simp only [sZb, sZa, sZd] <;> omega) | fail) only [go_sem, bu1, errEqN, fileNe]; done) | fail) only [go_sem, dec_t, dec_f, w_u32, w_u64, w_u16, w_u8, w_i64, Int.reduceToNat, Int.reducePow, Nat.reducePow, bu1, errEqN, fileNe]
        refine seek_any (m := m) h1.b hs1 len62 p2 b2 fun w2 z U2 K2 e2 => ?_
        have g := fin (.inl he0) w2 z U2 K2 e2
        rcases e2.nil_iff with ⟨hz, rfl⟩ | ⟨hz, t, z', rfl⟩
        · simp (disch := first | omega | (simp only [sZb, sZa, sZd] <;> omega) | (simp (disch := first | omega | (simp only [sZb, sZa, sZd] <;> omega) | fail) only [go_sem, errNeN]; done) | fail) only [go_sem, dec_t, dec_f, w_u32, w_u64, w_u16, w_u8, w_i64, Int.reduceToNat, Int.reducePow, Nat.reducePow, errNeN]
          rw [if_pos hz] at g
          exact ⟨_, rfl, g⟩
        · simp (disch := first | omega | (simp only [sZb, sZa, sZd] <;> omega) | (simp (disch := first | omega | (simp only [sZb, sZa, sZd] <;> omega) | fail) only [go_sem, errNeI]; done) | fail) only [go_sem, dec_t, dec_f, w_u32, w_u64, w_u16, w_u8, w_i64, Int.reduceToNat, Int.reducePow, Nat.reducePow, errNeI]
          rw [if_neg hz] at g
          exact ⟨_, rfl, g⟩
      · exact absurd he0 he'
    · have he3 := (rdR_err s1 n).resolve_left he0
      obtain ⟨g, hg, rfl, hq⟩ := e1.few he3
      have ldE : ∀ L : Value → World → Prop, st P (oLoad T.error (.pointer (some ⟨G.io_EOF, 0, none⟩))) w1 L = L (er (m G.io_EOF)) w1 := fun L => hs1.load (by decide) L
      have eqE : ∀ L : Value → World → Prop, st P (oBin .eql T.error false false (er (m g)) (er (m G.io_EOF))) w1 L = L (.bool (decide ((rdR s1 n).2.2 = 4))) w1 := fun L => by
        rw [hs1.eql hg (by decide), hq]
      by_cases he4 : (rdR s1 n).2.2 = 4
      · have eqE' : ∀ L : Value → World → Prop, st P (oBin .eql T.error false false (er (m g)) (er (m G.io_EOF))) w1 L = L (.bool true) w1 := fun L => by rw [eqE, he4]; rfl
        simp (disch := first | omega | (simp only [sZb, sZa, sZd] <;> omega) | (simp (disch := first | omega | (simp only [sZb, sZa, sZd] <;> omega) | fail) only [go_sem, errEqI, fileNe, ldE, eqE', bu1]; done) | fail) only [go_sem, dec_t, dec_f, w_u32, w_u64, w_u16, w_u8, w_i64, Int.reduceToNat, Int.reducePow, Nat.reducePow, errEqI, fileNe, ldE, eqE', bu1]
        refine seek_any (m := m) h1.b hs1 len62 p2 b2 fun w2 z U2 K2 e2 => ?_
        have g := fin (.inr he4) w2 z U2 K2 e2
        rcases e2.nil_iff with ⟨hz, rfl⟩ | ⟨hz, t, z', rfl⟩
        · simp (disch := first | omega | (simp only [sZb, sZa, sZd] <;> omega) | (simp (disch := first | omega | (simp only [sZb, sZa, sZd] <;> omega) | fail) only [go_sem, errNeN]; done) | fail) only [go_sem, dec_t, dec_f, w_u32, w_u64, w_u16, w_u8, w_i64, Int.reduceToNat, Int.reducePow, Nat.reducePow, errNeN]
          rw [if_pos hz] at g
          exact ⟨_, rfl, g⟩
        · simp (disch := first | omega | (simp only [sZb, sZa, sZd] <;> omega) | (simp (disch := first | omega | (simp only [sZb, sZa, sZd] <;> omega) | fail) only [go_sem, errNeI]; done) | fail) only [go_sem, dec_t, dec_f, w_u32, w_u64, w_u16, w_u8, w_i64, Int.reduceToNat, Int.reducePow, Nat.reducePow, errNeI]
          rw [if_neg hz] at g
          exact ⟨_, rfl, g⟩
      · have eqE' : ∀ L : Value → World → Prop, st P (oBin .eql T.error false false (er (m g)) (er (m G.io_EOF))) w1 L = L (.bool false) w1 := fun L => by rw [eqE, decide_eq_false he4]
        simp (disch := first | omega | (simp only [sZb, sZa, sZd] <;> omega) | (simp (disch := first | omega | (simp only [sZb, sZa, sZd] <;> omega) | fail) only [go_sem, errEqI, fileNe, ldE, eqE', bu1]; done) | fail) only [go_sem, dec_t, dec_f, w_u32, w_u64, w_u16, w_u8, w_i64, Int.reduceToNat, Int.reducePow, Nat.reducePow, errEqI, fileNe, ldE, eqE', bu1]
        have hno : ¬ ((rdR s1 n).2.2 = 0 ∨ (rdR s1 n).2.2 = 4) := fun h => by rcases h with h | h; exact he0 h; exact he4 h
        unfold rdU
        rw [if_neg hno]
        exact ⟨_, rfl, h1, K1', c1, e1, rfl⟩
end
end Go.Proofs.YteblpejgenehfaaDoor.X
end
section
namespace Go.Proofs.YteblpejgenehfaaDoor.X
open Go Go.X Go.Proofs Go.RowKit
structure AnS (w w1 : World) (B : Nat) (R : Nat → Prop) (m : Nat → Nat × Nat) (q : SM.Stp) (x : Value) : Prop where
  sn : Sn w1 B m
  hB : B ≤ w.heap.size
  b0 : Below w.heap.size w w1
  sz : w1.heap.size = w.heap.size + 3
  bs : bk w1 w.heap.size = some (CB (stepC q x) T.impl_Step)
  b4 : bk w1 (w.heap.size + 1) = some (CB ansZ T.impl_Answer)
  b5 : bk w1 (w.heap.size + 1 + 1) = some (CB ansZ T.impl_Answer)
  lR : ∀ k, R k → B ≤ k ∧ k < w.heap.size
def Loc (X : World → (Nat → Prop) → Prop) : Prop := ∀ w w' U k, X w U → Kp w w' (fun b => b = k) → ¬ U k → X w' U
def AnJ (w : World) (B : Nat) (R : Nat → Prop) (m : Nat → Nat × Nat) (X : World → (Nat → Prop) → Prop) (a : SM.Ans) (t : List Value) (w' : World) : Prop :=
  ∃ y x1 x2 x3 U, t = [y] ∧ X w' U ∧ Kp w w' R ∧ (∀ k, U k → R k ∨ w.heap.size + 3 ≤ k) ∧
    bk w' (w.heap.size + 1 + 1) = some (CB (answC { a with e := 0 } x1 x2 x3) T.impl_Answer) ∧ bk w' (w.heap.size + 1) = some (CB ansZ T.impl_Answer) ∧ AnsP w' (w.heap.size + 3) U a x1 x2 x3 ∧ ErrV w' (w.heap.size + 3) m a.e y ∧ Sn w' B m
abbrev AnK (w : World) (R : Nat → Prop) (X : World → (Nat → Prop) → Prop) (a : SM.Ans) (K : Value → World → Prop) : Prop := ∀ w' U c, X w' U → Kp w w' R → (∀ k, U k → R k ∨ w.heap.size ≤ k) → AnsN w' w.heap.size U a c → K (AG c) w'
section
variable {w w1 : World} {K : Value → World → Prop} {B : Nat} {R : Nat → Prop} {X : World → (Nat → Prop) → Prop} {m : Nat → Nat × Nat} {q : SM.Stp} {x : Value}
theorem AnS.nR (o : AnS w w1 B R m q x) {k : Nat} (hk : w.heap.size ≤ k) : ¬ R k := fun e => by have := (o.lR k e).2; omega
theorem AnS.kb (o : AnS w w1 B R m q x) {w2 : World} {R' : Nat → Prop} (k2 : Kp w1 w2 R') (hR : ∀ x, x < w1.heap.size → R' x → R x) :
    bk w2 w.heap.size = some (CB (stepC q x) T.impl_Step) ∧ bk w2 (w.heap.size + 1) = some (CB ansZ T.impl_Answer) ∧ bk w2 (w.heap.size + 1 + 1) = some (CB ansZ T.impl_Answer) := by
  have z := o.sz
  refine ⟨?_, ?_, ?_⟩
  · rw [k2.block _ (by omega) fun e => o.nR (by omega) (hR _ (by omega) e)]; exact o.bs
  · rw [k2.block _ (by omega) fun e => o.nR (by omega) (hR _ (by omega) e)]; exact o.b4
  · rw [k2.block _ (by omega) fun e => o.nR (by omega) (hR _ (by omega) e)]; exact o.b5
theorem AnS.put (o : AnS w w1 B R m q x) (hX : Loc X) {w2 : World} {R' U : Nat → Prop} {a : SM.Ans} {y x1 x2 x3 : Value} (X2 : X w2 U) (k2 : Kp w1 w2 R') (hR : ∀ x, x < w1.heap.size → R' x → R x)
    (hU : ∀ k, U k → R k ∨ w1.heap.size ≤ k) (e2 : ErrV w2 w1.heap.size m a.e y) (a2 : AnsP w2 w1.heap.size U a x1 x2 x3) :
    AnJ w B R m X a [y] (setb w2 (w.heap.size + 1 + 1) (CB (answC { a with e := 0 } x1 x2 x3) T.impl_Answer)) := by
  obtain ⟨g1, g2, g3⟩ := o.kb k2 hR
  have z := o.sz
  have hB := o.hB
  have ks := Kp.setb w2 (w.heap.size + 1 + 1) (CB (answC { a with e := 0 } x1 x2 x3) T.impl_Answer)
  have kk : Kp w w2 R := (Kp.of_below o.b0 _).trans k2 fun x hx e => hR x (by omega) e
  have n5 : ¬ U (w.heap.size + 1 + 1) := fun e => by
    rcases hU _ e with h | h
    · exact o.nR (by omega) h
    · omega
  refine ⟨y, x1, x2, x3, U, rfl, hX _ _ _ _ X2 ks n5, kk.trans ks fun x hx e => by omega, fun k hk => ?_, bk_setb_eq _ _ _ _ rfl (bk_lt g3), ?_, ?_, ?_, ?_⟩
  · rcases hU k hk with h | h
    · exact .inl h
    · exact .inr (by omega)
  · rw [bk_setb_ne _ _ _ _ (by omega)]; exact g2
  · rw [← z]; exact a2.kp ks fun b h1 h2 _ e => by omega
  · rw [← z]; exact e2.kp ks fun b h1 h2 e => by omega
  · refine o.sn.below ?_
    have q1 := k2.below (B := B) (fun x hx e => ?_) (by omega)
    · exact bel_setb q1 (by omega) _
    · have := (o.lR x (hR x (by omega) e)).1; omega
theorem AnS.still (o : AnS w w1 B R m q x) (hX : Loc X) {w2 : World} {R' U : Nat → Prop} {a : SM.Ans} {y : Value} (X2 : X w2 U) (k2 : Kp w1 w2 R') (hR : ∀ x, x < w1.heap.size → R' x → R x) (hU : ∀ k, U k → R k ∨ w1.heap.size ≤ k)
    (h1 : a.data = []) (h2 : a.names = []) (h3 : a.infos = []) (h4 : a.n = 0) (h5 : a.off = 0) (e2 : ErrV w2 w1.heap.size m a.e y) : AnJ w B R m X a [y] w2 := by
  obtain ⟨g1, g2, g3⟩ := o.kb k2 hR
  have j := o.put hX X2 k2 hR hU e2 (AnsP.plain _ _ _ h1 h2 h3)
  have e : (CB (answC { a with e := 0 } (.slice none 0 0) (.slice none 0 0) (.slice none 0 0)) T.impl_Answer) = CB ansZ T.impl_Answer := by
    show CB [.int .i64 0, .int .i64 a.n, .int .i64 a.off, _, _, _] _ = _
    rw [h4, h5]
  rw [e, setb_same g3] at j
  exact j
theorem an_start (sn : Sn w B m) (hB : B ≤ w.heap.size) (lR : ∀ k, R k → B ≤ k ∧ k < w.heap.size) : ∃ w1, w1 = ((w.alloc (CB (stepC q x) T.impl_Step)).alloc (CB ansZ T.impl_Answer)).alloc (CB ansZ T.impl_Answer) ∧ AnS w w1 B R m q x := by
  obtain ⟨w1, ew1⟩ : ∃ w1, w1 = ((w.alloc (CB (stepC q x) T.impl_Step)).alloc (CB ansZ T.impl_Answer)).alloc (CB ansZ T.impl_Answer) := ⟨_, rfl⟩
  have b0 : Below w.heap.size w w1 := by rw [ew1]; repeat (first | exact Below.refl _ _ | assumption | refine bel_setb ?_ (by first | exact Nat.le_refl _ | omega | (simp only [go_sem] <;> omega)) _ | refine Below.alloc ?_ (by first | exact Nat.le_refl _ | omega | (simp only [go_sem]; omega)) _ | refine Below.drew ?_)
  refine ⟨w1, ew1, sn.below (b0.mono hB), hB, b0, by rw [ew1]; simp only [go_sem], ?_, ?_, ?_, lR⟩
  · rw [ew1, bk_alloc_ne _ _ _ (by simp only [go_sem]; omega), bk_alloc_ne _ _ _ (by simp only [go_sem]; omega), bk_alloc_eq _ _ _ rfl]
  · rw [ew1, bk_alloc_ne _ _ _ (by simp only [go_sem]; omega), bk_alloc_eq _ _ _ (by simp only [go_sem])]
  · rw [ew1, bk_alloc_eq _ _ _ (by simp only [go_sem])]
theorem woven_tail {a : SM.Ans} {t : List Value} {u : Env} {w' : World} (o : AnS w w1 B R m q x) (hX : Loc X) (j : AnJ w B R m X a t w') (hk : AnK w R X a K) : J_impl_woven_1 (pt (w.heap.size + 1 + 1) 0) (pt (w.heap.size + 1) 0) K t u w' := by
  obtain ⟨y, x1, x2, x3, U, rfl, X2, K2, hU, k5, k4, a2, e2, sn⟩ := j
  unfold J_impl_woven_1
  rw [gs0, C.impl_kind]
  refine kind_err sn (by have := o.hB; omega) e2 ?_
  obtain ⟨p1, c1, rfl⟩ := BS_slice a2.hx
  obtain ⟨p2, c2, rfl⟩ := RowS_slice a2.hy
  obtain ⟨p3, c3, rfl⟩ := RowS_slice a2.hz
  have l5 := bk_lt k5
  have l4 := bk_lt k4
  simp (disch := first | omega | (simp only [sZb, sZa, sZd] <;> omega) | (simp (disch := first | omega | (simp only [sZb, sZa, sZd] <;> omega) | fail) only [go_sem, k5, k4]; done) | fail) only [go_sem, dec_t, dec_f, w_u32, w_u64, w_u16, w_u8, w_i64, Int.reduceToNat, Int.reducePow, Nat.reducePow, k5, k4]
  generalize hO5 : CB [.int .i64 a.e, _, _, _, _, _] T.impl_Answer = O5
  have s1 := Kp.setb w' (w.heap.size + 1 + 1) O5
  have s2 := Kp.setb (setb w' (w.heap.size + 1 + 1) O5) (w.heap.size + 1) O5
  have nU : ∀ k, w.heap.size ≤ k → k < w.heap.size + 3 → ¬ U k := fun k h1 h2 e => by
    rcases hU k e with h | h
    · exact o.nR h1 h
    · omega
  refine hk _ U _ (hX _ _ _ _ (hX _ _ _ _ X2 s1 (nU _ (by omega) (by omega))) s2 (nU _ (by omega) (by omega))) ((K2.trans s1 fun x hx e => by omega).trans s2 fun x hx e => by omega) (fun k hk => ?_) ?_
  · rcases hU k hk with h | h
    · exact .inl h
    · exact .inr (by omega)
  · exact (((a2.kp s1 fun b h1 h2 _ e => by omega).kp s2 fun b h1 h2 _ e => by omega).n).less (by omega)
end
def wovX (s1 s2 : FX) (q : SM.Stp) : FX × FX × SM.Ans :=
  if q.op = 12 then ((rdU s1 s2 (want q.n)).1, (rdU s1 s2 (want q.n)).2.1, ⟨(rdU s1 s2 (want q.n)).2.2.2, 0, 0, (rdU s1 s2 (want q.n)).2.2.1, [], []⟩)
  else if q.op = 14 then ((wrU s1 s2 q.data).1, (wrU s1 s2 q.data).2.1, ⟨(wrU s1 s2 q.data).2.2.1, (wrU s1 s2 q.data).2.2.2, 0, [], [], []⟩)
  else if q.op = 15 then ((waU s1 s2 q.off q.data).1, (waU s1 s2 q.off q.data).2.1, ⟨(waU s1 s2 q.off q.data).2.2.1, (waU s1 s2 q.off q.data).2.2.2, 0, [], [], []⟩)
  else if q.op = 16 then ((skU s1 s2 q.off q.wh).1, (skU s1 s2 q.off q.wh).2.1, ⟨(skU s1 s2 q.off q.wh).2.2.1, 0, (skU s1 s2 q.off q.wh).2.2.2, [], [], []⟩)
  else if q.op = 17 then ((trU s1 s2 q.off).1, (trU s1 s2 q.off).2.1, ⟨(trU s1 s2 q.off).2.2, 0, 0, [], [], []⟩)
  else if q.op = 18 then (clR s1, clR s2, SM.Ans.z)
  else if q.op = 19 then (s1, s2, SM.Ans.err 8)
  else if q.op = 20 then (s1, s2, SM.Ans.err 8)
  else if q.op = 21 then (s1, s2, ⟨0, 0, 0, [], [], [infoX s1]⟩)
  else if q.op = 22 then (s1, s2, ⟨0, 0, 0, [], [s1.nm], []⟩)
  else (s1, s2, SM.Ans.z)
structure OkU (s1 s2 : FX) (q : SM.Stp) : Prop where
  l : OkX s1 q
  b : OkX s2 q
  n13 : q.op ≠ 13
abbrev Ou (u f1 d1 : Nat) (v1 : Value) (f2 d2 : Nat) (v2 : Value) : Nat → Prop := fun k => k = u ∨ Of2 f1 d1 v1 f2 d2 v2 k
abbrev XU (B u f1 d1 f2 d2 : Nat) (s1 s2 : FX) (w : World) (U : Nat → Prop) : Prop := ∃ v1 v2, UU w B u f1 d1 v1 s1 f2 d2 v2 s2 ∧ U = Ou u f1 d1 v1 f2 d2 v2
theorem XU_loc (B u f1 d1 f2 d2 : Nat) (s1 s2 : FX) : Loc (XU B u f1 d1 f2 d2 s1 s2) := by
  rintro w w' U k ⟨v1, v2, h, rfl⟩ K hn
  have hb := h.lt
  refine ⟨v1, v2, ⟨h.l.kept K fun x hx e => hn (.inr (.inl (by rw [← e]; exact hx))), h.b.kept K fun x hx e => hn (.inr (.inr (by rw [← e]; exact hx))), h.sep, h.hu, ?_, h.n1, h.n2⟩, rfl⟩
  rw [K.block u hb.1 fun e => hn (.inl e.symm)]
  exact h.bu
section
variable {w w1 : World} {K : Value → World → Prop} {B u f1 d1 f2 d2 : Nat} {v1 v2 x : Value} {s1 s2 : FX} {m : Nat → Nat × Nat} {q : SM.Stp} {k1 : List Value → World → Prop}
abbrev WvS (w w1 : World) (B u f1 d1 : Nat) (v1 : Value) (f2 d2 : Nat) (v2 : Value) (m : Nat → Nat × Nat) (q : SM.Stp) (x : Value) : Prop := AnS w w1 B (Ou u f1 d1 v1 f2 d2 v2) m q x
abbrev WvJ (w : World) (B u f1 d1 : Nat) (v1 : Value) (f2 d2 : Nat) (v2 : Value) (m : Nat → Nat × Nat) (r : FX × FX × SM.Ans) : List Value → World → Prop := AnJ w B (Ou u f1 d1 v1 f2 d2 v2) m (XU B u f1 d1 f2 d2 r.1 r.2.1) r.2.2
theorem Ou_new {v1' v2' : Value} (O1 : OwnOk w1 v1 v1') (O2 : OwnOk w1 v2 v2') : ∀ k, Ou u f1 d1 v1' f2 d2 v2' k → Ou u f1 d1 v1 f2 d2 v2 k ∨ w1.heap.size ≤ k := by
  rintro k (h | h | h)
  · exact .inl (.inl h)
  · rcases Of_new O1 h with h | h
    · exact .inl (.inr (.inl h))
    · exact .inr h
  · rcases Of_new O2 h with h | h
    · exact .inl (.inr (.inr h))
    · exact .inr h
theorem wv2 (o : WvS w w1 B u f1 d1 v1 f2 d2 v2 m q x) (h : UU w1 B u f1 d1 v1 s1 f2 d2 v2 s2) (g : OkU s1 s2 q) (hop : q.op = 12) (hk : ∀ t w', WvJ w B u f1 d1 v1 f2 d2 v2 m ((rdU s1 s2 (want q.n)).1, (rdU s1 s2 (want q.n)).2.1, ⟨(rdU s1 s2 (want q.n)).2.2.2, 0, 0, (rdU s1 s2 (want q.n)).2.2.1, [], []⟩) t w' → k1 t w') : J_impl_woven_2 (pt w.heap.size 0) w1 (pt u 0) (pt (w.heap.size + 1 + 1) 0) k1 := by
  unfold J_impl_woven_2
  have ew : (max 0 (min q.n 1048576) : Int) = (want q.n : Nat) := by unfold want; omega
  have hwl : want q.n ≤ 1048576 := by unfold want; omega
  have hbs := o.bs
  have hz := o.sz
  have hB := o.hB
  have hrl : (rdU s1 s2 (want q.n)).2.2.1.length ≤ want q.n := by
    unfold rdU
    split <;> exact rdR_len s1 (want q.n)
  generalize want q.n = N at *
  simp (disch := first | omega | (simp only [sZb, sZa, sZd] <;> omega) | (simp (disch := first | omega | (simp only [sZb, sZa, sZd] <;> omega) | fail) only [go_sem, hbs, ew]; done) | fail) only [go_sem, dec_t, dec_f, w_u32, w_u64, w_u16, w_u8, w_i64, Int.reduceToNat, Int.reducePow, Nat.reducePow, hbs, ew]
  rw [oMkB U.sl_uint8 (by kernel_rfl) N (by omega)]
  have B2 : Below w1.heap.size w1 (w1.alloc (CB (List.replicate N (.int .u8 0)) T.uint8)) := by repeat (first | exact Below.refl _ _ | assumption | refine bel_setb ?_ (by first | exact Nat.le_refl _ | omega | (simp only [go_sem] <;> omega)) _ | refine Below.alloc ?_ (by first | exact Nat.le_refl _ | omega | (simp only [go_sem]; omega)) _ | refine Below.drew ?_)
  have e2 : bk (w1.alloc (CB (List.replicate N (.int .u8 0)) T.uint8)) w1.heap.size = some (CB (List.replicate N (.int .u8 0)) T.uint8) := bk_alloc_eq _ _ _ rfl
  have z2 : (w1.alloc (CB (List.replicate N (.int .u8 0)) T.uint8)).heap.size = w1.heap.size + 1 := by simp only [go_sem]
  generalize w1.alloc (CB (List.replicate N (.int .u8 0)) T.uint8) = w2 at *
  have sn2 : Sn w2 B m := o.sn.below (B2.mono (by omega))
  have nR : ∀ k, w.heap.size ≤ k → ¬ Ou u f1 d1 v1 f2 d2 v2 k := fun k hk => o.nR hk
  refine readU (m := m) (h.old B2) sn2 (fun e => ⟨g.l.rd hop e, g.l.pos.2⟩) g.b.pos (by have := g.l.len; omega) (by have := g.b.len; omega) (by omega) e2 (fun e => nR w1.heap.size (by omega) (.inr (.inl e))) (fun e => nR w1.heap.size (by omega) (.inr (.inr e))) (fun e => nR w1.heap.size (by omega) (.inl e)) (by omega) fun w3 y U3 K3 b3 e3 => ?_
  have hR : ∀ y, y < w1.heap.size → (Of2 f1 d1 v1 f2 d2 v2 y ∨ y = w1.heap.size) → Ou u f1 d1 v1 f2 d2 v2 y := fun y hy h => by
    rcases h with h | h
    · exact .inr h
    · omega
  have K13 : Kp w1 w3 (fun k => Of2 f1 d1 v1 f2 d2 v2 k ∨ k = w1.heap.size) := (Kp.of_below B2 _).trans K3 fun _ _ h => h
  obtain ⟨_, _, k5⟩ := o.kb K13 hR
  have l5 := bk_lt k5
  have sh : ∀ (L : Value → Prop), pu P (oSlice T.sl_uint8 (sl w1.heap.size 0 N N) none (some (.int .i64 (rdU s1 s2 N).2.2.1.length)) none) L = L (sl w1.heap.size 0 (rdU s1 s2 N).2.2.1.length N) := fun L => by
    rw [oSlice_hi (size := 1) L U.sl_uint8 (by kernel_rfl) (by omega) (by omega)]
    rw [Int.toNat_natCast]
  simp (disch := first | omega | (simp only [sZb, sZa, sZd] <;> omega) | (simp (disch := first | omega | (simp only [sZb, sZa, sZd] <;> omega) | fail) only [go_sem, k5, sh]; done) | fail) only [go_sem, dec_t, dec_f, w_u32, w_u64, w_u16, w_u8, w_i64, Int.reduceToNat, Int.reducePow, Nat.reducePow, k5, sh]
  refine hk _ _ (o.put (XU_loc _ _ _ _ _ _ _ _) ⟨v1, v2, U3, rfl⟩ K13 hR (fun k h => .inl h) (e3.less (by omega)) ⟨rd_row b3 hrl, RowS_nil _, RowS_nil _, fun b hb => ?_⟩)
  rcases hb with h | h | h
  · have h9 : w1.heap.size = b := Option.some.inj h
    subst h9
    exact ⟨Nat.le_refl _, bk_lt b3, nR _ (by omega)⟩
  · cases h
  · cases h
theorem wv4 (o : WvS w w1 B u f1 d1 v1 f2 d2 v2 m q x) (h : UU w1 B u f1 d1 v1 s1 f2 d2 v2 s2) (g : OkU s1 s2 q) (hop : q.op = 14) (hx : BS w1 x q.data) (hk : ∀ t w', WvJ w B u f1 d1 v1 f2 d2 v2 m ((wrU s1 s2 q.data).1, (wrU s1 s2 q.data).2.1, ⟨(wrU s1 s2 q.data).2.2.1, (wrU s1 s2 q.data).2.2.2, 0, [], [], []⟩) t w' → k1 t w') : J_impl_woven_4 (pt w.heap.size 0) w1 (pt u 0) (pt (w.heap.size + 1 + 1) 0) k1 := by
  unfold J_impl_woven_4
  have hbs := o.bs
  have hz := o.sz
  have hB := o.hB
  have hq : q.data.length ≤ 281474976710 := g.l.dat
  have nR : ∀ k, w.heap.size ≤ k → ¬ Ou u f1 d1 v1 f2 d2 v2 k := fun k hk => o.nR hk
  simp (disch := first | omega | (simp only [sZb, sZa, sZd] <;> omega) | (simp (disch := first | omega | (simp only [sZb, sZa, sZd] <;> omega) | fail) only [go_sem, hbs]; done) | fail) only [go_sem, dec_t, dec_f, w_u32, w_u64, w_u16, w_u8, w_i64, Int.reduceToNat, Int.reducePow, Nat.reducePow, hbs]
  refine oCopyOf U.sl_uint8 (by kernel_rfl) hx (by omega) fun x2 w2 o2 b2 => ?_
  have z2 := b2.size
  have nx : ∀ k, x2.ownBlock = some k → w.heap.size ≤ k := fun k e => by have := (own_lt o2 k e).1; omega
  refine writeU (m := m) (h.old b2) (o.sn.below (b2.mono (by omega))) (BS_own o2) (fun k e hk => nR k (nx k e) (.inr (.inl hk))) (fun k e hk => nR k (nx k e) (.inr (.inr hk))) (fun h1 h2 => ?_) (fun h1 h2 => ?_) fun w3 v1' v2' U3 K3 O1 O2 y e3 => ?_
  · have := g.l.wr hop h1 h2
    have := g.l.len
    omega
  · have := g.b.wr hop h1 h2
    have := g.b.len
    omega
  have hR : ∀ y, y < w1.heap.size → Of2 f1 d1 v1 f2 d2 v2 y → Ou u f1 d1 v1 f2 d2 v2 y := fun _ _ h => .inr h
  have K13 : Kp w1 w3 (Of2 f1 d1 v1 f2 d2 v2) := (Kp.of_below b2 _).trans K3 fun _ _ h => h
  obtain ⟨_, _, k5⟩ := o.kb K13 hR
  have l5 := bk_lt k5
  simp (disch := first | omega | (simp only [sZb, sZa, sZd] <;> omega) | (simp (disch := first | omega | (simp only [sZb, sZa, sZd] <;> omega) | fail) only [go_sem, k5]; done) | fail) only [go_sem, dec_t, dec_f, w_u32, w_u64, w_u16, w_u8, w_i64, Int.reduceToNat, Int.reducePow, Nat.reducePow, k5]
  refine hk _ _ (o.put (a := ⟨(wrU s1 s2 q.data).2.2.1, (wrU s1 s2 q.data).2.2.2, 0, [], [], []⟩) (XU_loc _ _ _ _ _ _ _ _) ⟨v1', v2', U3, rfl⟩ K13 hR (fun k hk => ?_) (e3.less (by omega)) (AnsP.plain _ _ _ rfl rfl rfl))
  exact (Ou_new O1 O2 k hk).imp id fun h => by omega
theorem wv5 (o : WvS w w1 B u f1 d1 v1 f2 d2 v2 m q x) (h : UU w1 B u f1 d1 v1 s1 f2 d2 v2 s2) (g : OkU s1 s2 q) (hop : q.op = 15) (hx : BS w1 x q.data) (hk : ∀ t w', WvJ w B u f1 d1 v1 f2 d2 v2 m ((waU s1 s2 q.off q.data).1, (waU s1 s2 q.off q.data).2.1, ⟨(waU s1 s2 q.off q.data).2.2.1, (waU s1 s2 q.off q.data).2.2.2, 0, [], [], []⟩) t w' → k1 t w') : J_impl_woven_5 (pt w.heap.size 0) w1 (pt u 0) (pt (w.heap.size + 1 + 1) 0) k1 := by
  unfold J_impl_woven_5
  have hbs := o.bs
  have hz := o.sz
  have hB := o.hB
  have hq : q.data.length ≤ 281474976710 := g.l.dat
  have nR : ∀ k, w.heap.size ≤ k → ¬ Ou u f1 d1 v1 f2 d2 v2 k := fun k hk => o.nR hk
  simp (disch := first | omega | (simp only [sZb, sZa, sZd] <;> omega) | (simp (disch := first | omega | (simp only [sZb, sZa, sZd] <;> omega) | fail) only [go_sem, hbs]; done) | fail) only [go_sem, dec_t, dec_f, w_u32, w_u64, w_u16, w_u8, w_i64, Int.reduceToNat, Int.reducePow, Nat.reducePow, hbs]
  refine oCopyOf U.sl_uint8 (by kernel_rfl) (show BS w1.drew x q.data from hx) (by omega) fun x2 w2 o2 b2' => ?_
  have b2 : Below w1.heap.size w1 w2 := ((Below.refl _ w1).drew).trans b2'
  have z2 := b2.size
  have z2' : w1.drew.heap.size = w1.heap.size := rfl
  have hbs2 := (bel_bk b2 (by omega : w.heap.size < w1.heap.size)).trans hbs
  have nx : ∀ k, x2.ownBlock = some k → w.heap.size ≤ k := fun k e => by have := (own_lt o2 k e).1; omega
  simp (disch := first | omega | (simp only [sZb, sZa, sZd] <;> omega) | (simp (disch := first | omega | (simp only [sZb, sZa, sZd] <;> omega) | fail) only [go_sem, hbs2]; done) | fail) only [go_sem, dec_t, dec_f, w_u32, w_u64, w_u16, w_u8, w_i64, Int.reduceToNat, Int.reducePow, Nat.reducePow, hbs2]
  refine ⟨trivial, writeAtU (m := m) (h.old b2) (o.sn.below (b2.mono (by omega))) (BS_own o2) (fun k e hk => nR k (nx k e) (.inr (.inl hk))) (fun k e hk => nR k (nx k e) (.inr (.inr hk))) (fun h1 h2 => ?_) (fun h1 h2 => ?_) fun w3 v1' v2' U3 K3 O1 O2 y e3 => ?_⟩
  · have := g.l.wa hop h1 h2
    have := g.l.len
    omega
  · have := g.b.wa hop h1 h2
    have := g.b.len
    omega
  have hR : ∀ y, y < w1.heap.size → Of2 f1 d1 v1 f2 d2 v2 y → Ou u f1 d1 v1 f2 d2 v2 y := fun _ _ h => .inr h
  have K13 : Kp w1 w3 (Of2 f1 d1 v1 f2 d2 v2) := (Kp.of_below b2 _).trans K3 fun _ _ h => h
  obtain ⟨_, _, k5⟩ := o.kb K13 hR
  have l5 := bk_lt k5
  simp (disch := first | omega | (simp only [sZb, sZa, sZd] <;> omega) | (simp (disch := first | omega | (simp only [sZb, sZa, sZd] <;> omega) | fail) only [go_sem, k5]; done) | fail) only [go_sem, dec_t, dec_f, w_u32, w_u64, w_u16, w_u8, w_i64, Int.reduceToNat, Int.reducePow, Nat.reducePow, k5]
  refine hk _ _ (o.put (a := ⟨(waU s1 s2 q.off q.data).2.2.1, (waU s1 s2 q.off q.data).2.2.2, 0, [], [], []⟩) (XU_loc _ _ _ _ _ _ _ _) ⟨v1', v2', U3, rfl⟩ K13 hR (fun k hk => ?_) (e3.less (by omega)) (AnsP.plain _ _ _ rfl rfl rfl))
  exact (Ou_new O1 O2 k hk).imp id fun h => by omega
theorem wv6 (o : WvS w w1 B u f1 d1 v1 f2 d2 v2 m q x) (h : UU w1 B u f1 d1 v1 s1 f2 d2 v2 s2) (g : OkU s1 s2 q) (hop : q.op = 16) (hk : ∀ t w', WvJ w B u f1 d1 v1 f2 d2 v2 m ((skU s1 s2 q.off q.wh).1, (skU s1 s2 q.off q.wh).2.1, ⟨(skU s1 s2 q.off q.wh).2.2.1, 0, (skU s1 s2 q.off q.wh).2.2.2, [], [], []⟩) t w' → k1 t w') : J_impl_woven_6 (pt w.heap.size 0) w1 (pt u 0) (pt (w.heap.size + 1 + 1) 0) k1 := by
  unfold J_impl_woven_6
  have hbs := o.bs
  have hz := o.sz
  simp (disch := first | omega | (simp only [sZb, sZa, sZd] <;> omega) | (simp (disch := first | omega | (simp only [sZb, sZa, sZd] <;> omega) | fail) only [go_sem, hbs]; done) | fail) only [go_sem, dec_t, dec_f, w_u32, w_u64, w_u16, w_u8, w_i64, Int.reduceToNat, Int.reducePow, Nat.reducePow, hbs]
  refine seekU (m := m) h o.sn (g.l.off (by omega)) g.l.pos g.b.pos (by have := g.l.len; omega) (by have := g.b.len; omega) fun w3 v1' v2' U3 K3 O1 O2 y e3 => ?_
  have hR : ∀ y, y < w1.heap.size → Of2 f1 d1 v1 f2 d2 v2 y → Ou u f1 d1 v1 f2 d2 v2 y := fun _ _ h => .inr h
  obtain ⟨_, _, k5⟩ := o.kb K3 hR
  have l5 := bk_lt k5
  simp (disch := first | omega | (simp only [sZb, sZa, sZd] <;> omega) | (simp (disch := first | omega | (simp only [sZb, sZa, sZd] <;> omega) | fail) only [go_sem, k5]; done) | fail) only [go_sem, dec_t, dec_f, w_u32, w_u64, w_u16, w_u8, w_i64, Int.reduceToNat, Int.reducePow, Nat.reducePow, k5]
  exact hk _ _ (o.put (a := ⟨(skU s1 s2 q.off q.wh).2.2.1, 0, (skU s1 s2 q.off q.wh).2.2.2, [], [], []⟩) (XU_loc _ _ _ _ _ _ _ _) ⟨v1', v2', U3, rfl⟩ K3 hR (Ou_new O1 O2) e3 (AnsP.plain _ _ _ rfl rfl rfl))
theorem wv7 (o : WvS w w1 B u f1 d1 v1 f2 d2 v2 m q x) (h : UU w1 B u f1 d1 v1 s1 f2 d2 v2 s2) (g : OkU s1 s2 q) (hk : ∀ t w', WvJ w B u f1 d1 v1 f2 d2 v2 m (s1, s2, SM.Ans.err 8) t w' → k1 t w') : J_impl_woven_7 (pt w.heap.size 0) w1 (pt u 0) (pt (w.heap.size + 1 + 1) 0) k1 := by
  unfold J_impl_woven_7
  have hbs := o.bs
  have hz := o.sz
  simp (disch := first | omega | (simp only [sZb, sZa, sZd] <;> omega) | (simp (disch := first | omega | (simp only [sZb, sZa, sZd] <;> omega) | fail) only [go_sem, hbs]; done) | fail) only [go_sem, dec_t, dec_f, w_u32, w_u64, w_u16, w_u8, w_i64, Int.reduceToNat, Int.reducePow, Nat.reducePow, hbs]
  refine readdirU (m := m) h g.l.dir fun w2 y b2 e2 => ?_
  simp (disch := first | omega | (simp only [sZb, sZa, sZd] <;> omega) | (simp (disch := first | omega | (simp only [sZb, sZa, sZd] <;> omega) | fail) only [go_sem]; done) | fail) only [go_sem, dec_t, dec_f, w_u32, w_u64, w_u16, w_u8, w_i64, Int.reduceToNat, Int.reducePow, Nat.reducePow]
  refine fromInfos_spec (fs := []) (is := []) (.inl ⟨rfl, _, _, rfl⟩) (by simp) rfl (fun i h1 => by simp at h1) fun w3 z o3 b3 => ?_
  have z2 := b2.size
  have b13 : Below w1.heap.size w1 w3 := b2.trans (b3.mono z2)
  have hR : ∀ y, y < w1.heap.size → Ou u f1 d1 v1 f2 d2 v2 y → Ou u f1 d1 v1 f2 d2 v2 y := fun _ _ h => h
  have K3 : Kp w1 w3 (Ou u f1 d1 v1 f2 d2 v2) := Kp.of_below b13 _
  obtain ⟨_, _, k5⟩ := o.kb K3 hR
  have l5 := bk_lt k5
  have hz1 : z.oneCell' = true := by
    obtain ⟨p, c, rfl⟩ := own_slice o3
    rfl
  simp (disch := first | omega | (simp only [sZb, sZa, sZd] <;> omega) | (simp (disch := first | omega | (simp only [sZb, sZa, sZd] <;> omega) | fail) only [go_sem, k5, hz1]; done) | fail) only [go_sem, dec_t, dec_f, w_u32, w_u64, w_u16, w_u8, w_i64, Int.reduceToNat, Int.reducePow, Nat.reducePow, k5, hz1]
  refine hk _ _ (o.put (a := SM.Ans.err 8) (XU_loc _ _ _ _ _ _ _ _) ⟨v1, v2, h.old b13, rfl⟩ K3 hR (fun k h => .inl h) (e2.old b3) ⟨BS_nil _, RowS_nil _, RowS_own o3, fun b hb => ?_⟩)
  rcases hb with h | h | h
  · cases h
  · cases h
  · have h1 := own_lt o3 b h
    exact ⟨by omega, h1.2, o.nR (by omega)⟩
theorem wv8 (o : WvS w w1 B u f1 d1 v1 f2 d2 v2 m q x) (h : UU w1 B u f1 d1 v1 s1 f2 d2 v2 s2) (g : OkU s1 s2 q) (hk : ∀ t w', WvJ w B u f1 d1 v1 f2 d2 v2 m (s1, s2, SM.Ans.err 8) t w' → k1 t w') : J_impl_woven_8 (pt w.heap.size 0) w1 (pt u 0) (pt (w.heap.size + 1 + 1) 0) k1 := by
  unfold J_impl_woven_8
  have hbs := o.bs
  have hz := o.sz
  simp (disch := first | omega | (simp only [sZb, sZa, sZd] <;> omega) | (simp (disch := first | omega | (simp only [sZb, sZa, sZd] <;> omega) | fail) only [go_sem, hbs]; done) | fail) only [go_sem, dec_t, dec_f, w_u32, w_u64, w_u16, w_u8, w_i64, Int.reduceToNat, Int.reducePow, Nat.reducePow, hbs]
  refine namesU (m := m) h g.l.dir fun w3 y b13 e2 => ?_
  have hR : ∀ y, y < w1.heap.size → Ou u f1 d1 v1 f2 d2 v2 y → Ou u f1 d1 v1 f2 d2 v2 y := fun _ _ h => h
  have K3 : Kp w1 w3 (Ou u f1 d1 v1 f2 d2 v2) := Kp.of_below b13 _
  obtain ⟨_, _, k5⟩ := o.kb K3 hR
  have l5 := bk_lt k5
  simp (disch := first | omega | (simp only [sZb, sZa, sZd] <;> omega) | (simp (disch := first | omega | (simp only [sZb, sZa, sZd] <;> omega) | fail) only [go_sem, k5]; done) | fail) only [go_sem, dec_t, dec_f, w_u32, w_u64, w_u16, w_u8, w_i64, Int.reduceToNat, Int.reducePow, Nat.reducePow, k5]
  exact hk _ _ (o.put (a := SM.Ans.err 8) (XU_loc _ _ _ _ _ _ _ _) ⟨v1, v2, h.old b13, rfl⟩ K3 hR (fun k h => .inl h) e2 (AnsP.plain _ _ _ rfl rfl rfl))
theorem infoNe (L : Value → Prop) (f : Nat) : pu P (oBin .neq T.p_mem_FileInfo false true (pt f 0) (.pointer none)) L = L (.bool true) := oNeqP U.p_mem_FileInfo _ _ _
theorem wv10 (o : WvS w w1 B u f1 d1 v1 f2 d2 v2 m q x) (h : UU w1 B u f1 d1 v1 s1 f2 d2 v2 s2) (g : OkU s1 s2 q) (hk : ∀ t w', WvJ w B u f1 d1 v1 f2 d2 v2 m (s1, s2, ⟨0, 0, 0, [], [], [infoX s1]⟩) t w' → k1 t w') : J_impl_woven_10 (pt u 0) w1 k1 (pt (w.heap.size + 1 + 1) 0) := by
  unfold J_impl_woven_10
  have hz := o.sz
  simp (disch := first | omega | (simp only [sZb, sZa, sZd] <;> omega) | (simp (disch := first | omega | (simp only [sZb, sZa, sZd] <;> omega) | fail) only [go_sem]; done) | fail) only [go_sem, dec_t, dec_f, w_u32, w_u64, w_u16, w_u8, w_i64, Int.reduceToNat, Int.reducePow, Nat.reducePow]
  refine statU h ?_
  simp (disch := first | omega | (simp only [sZb, sZa, sZd] <;> omega) | (simp (disch := first | omega | (simp only [sZb, sZa, sZd] <;> omega) | fail) only [go_sem]; done) | fail) only [go_sem, dec_t, dec_f, w_u32, w_u64, w_u16, w_u8, w_i64, Int.reduceToNat, Int.reducePow, Nat.reducePow]
  have B2 : Below w1.heap.size w1 (w1.alloc (CB [pt d1 0] T.mem_FileInfo)) := by repeat (first | exact Below.refl _ _ | assumption | refine bel_setb ?_ (by first | exact Nat.le_refl _ | omega | (simp only [go_sem] <;> omega)) _ | refine Below.alloc ?_ (by first | exact Nat.le_refl _ | omega | (simp only [go_sem]; omega)) _ | refine Below.drew ?_)
  have e2 : bk (w1.alloc (CB [pt d1 0] T.mem_FileInfo)) w1.heap.size = some (CB [pt d1 0] T.mem_FileInfo) := bk_alloc_eq _ _ _ rfl
  have z2 : (w1.alloc (CB [pt d1 0] T.mem_FileInfo)).heap.size = w1.heap.size + 1 := by simp only [go_sem]
  generalize w1.alloc (CB [pt d1 0] T.mem_FileInfo) = w2 at *
  refine jn_with (fun t w' => WvJ w B u f1 d1 v1 f2 d2 v2 m (s1, s2, ⟨0, 0, 0, [], [], [infoX s1]⟩) [.nilIface] w') (fun t e w' j => ?_) ?_
  · unfold J_impl_woven_9
    exact hk _ _ j
  simp (disch := first | omega | (simp only [sZb, sZa, sZd] <;> omega) | (simp (disch := first | omega | (simp only [sZb, sZa, sZd] <;> omega) | fail) only [go_sem, errEqN, infoNe]; done) | fail) only [go_sem, dec_t, dec_f, w_u32, w_u64, w_u16, w_u8, w_i64, Int.reduceToNat, Int.reducePow, Nat.reducePow, errEqN, infoNe]
  have h2 := h.old B2
  have ia : InfoAt w2 w1.heap.size (infoX s1) := by
    obtain ⟨p, c, ev, hc⟩ := own_cap h2.l.own
    refine ⟨d1, s1.nm, p, s1.bytes.length, c, s1.md, s1.dir, s1.mode, s1.mt, s1.uid, s1.gid, e2, ?_, g.l.mode.1, g.l.mode.2, g.l.nm, rfl⟩
    rw [← ev]; exact h2.l.bd
  refine fromInfo_spec ia fun w3 b3 => ?_
  rw [oBuildSliceN (z := AG (infoC ⟨[], 0, 0, false, 0⟩)) (size := 5) _ _ U.sl_impl_Info (by kernel_rfl) (by omega) (by omega) rfl]
  have z3 := b3.size
  have B4 : Below w3.heap.size w3 (w3.alloc (CB (infoC (infoX s1)) T.impl_Info)) := by repeat (first | exact Below.refl _ _ | assumption | refine bel_setb ?_ (by first | exact Nat.le_refl _ | omega | (simp only [go_sem] <;> omega)) _ | refine Below.alloc ?_ (by first | exact Nat.le_refl _ | omega | (simp only [go_sem]; omega)) _ | refine Below.drew ?_)
  have r4 : bk (w3.alloc (CB (infoC (infoX s1)) T.impl_Info)) w3.heap.size = some (CB (infoC (infoX s1)) T.impl_Info) := bk_alloc_eq _ _ _ rfl
  generalize w3.alloc (CB (infoC (infoX s1)) T.impl_Info) = w4 at *
  have b14 : Below w1.heap.size w1 w4 := (B2.trans (b3.mono (by omega))).trans (B4.mono (by omega))
  have hR : ∀ y, y < w1.heap.size → Ou u f1 d1 v1 f2 d2 v2 y → Ou u f1 d1 v1 f2 d2 v2 y := fun _ _ h => h
  have K4 : Kp w1 w4 (Ou u f1 d1 v1 f2 d2 v2) := Kp.of_below b14 _
  obtain ⟨_, _, k5⟩ := o.kb K4 hR
  have l5 := bk_lt k5
  simp (disch := first | omega | (simp only [sZb, sZa, sZd] <;> omega) | (simp (disch := first | omega | (simp only [sZb, sZa, sZd] <;> omega) | fail) only [go_sem, k5]; done) | fail) only [go_sem, dec_t, dec_f, w_u32, w_u64, w_u16, w_u8, w_i64, Int.reduceToNat, Int.reducePow, Nat.reducePow, k5]
  refine o.put (a := ⟨0, 0, 0, [], [], [infoX s1]⟩) (XU_loc _ _ _ _ _ _ _ _) ⟨v1, v2, h.old b14, rfl⟩ K4 hR (fun k h => .inl h) (ErrV.nil _ _ _) ⟨BS_nil _, RowS_nil _, .inl ⟨_, _, _, rfl, by rw [r4]; rfl⟩, fun b hb => ?_⟩
  rcases hb with h | h | h
  · cases h
  · cases h
  · have h9 : w3.heap.size = b := Option.some.inj h
    subst h9
    exact ⟨by omega, bk_lt r4, o.nR (by omega)⟩
theorem wv12 {t4 : Value} (o : WvS w w1 B u f1 d1 v1 f2 d2 v2 m q x) (h : UU w1 B u f1 d1 v1 s1 f2 d2 v2 s2) (hop : q.op = 22) (hk : ∀ t w', WvJ w B u f1 d1 v1 f2 d2 v2 m (s1, s2, ⟨0, 0, 0, [], [s1.nm], []⟩) t w' → k1 t w') : J_impl_woven_12 (.int .i64 q.op) (pt u 0) w1 (pt (w.heap.size + 1 + 1) 0) k1 t4 K := by
  unfold J_impl_woven_12
  have hz := o.sz
  simp (disch := first | omega | (simp only [sZb, sZa, sZd] <;> omega) | (simp (disch := first | omega | (simp only [sZb, sZa, sZd] <;> omega) | fail) only [go_sem, hop]; done) | fail) only [go_sem, dec_t, dec_f, w_u32, w_u64, w_u16, w_u8, w_i64, Int.reduceToNat, Int.reducePow, Nat.reducePow, hop]
  refine nameU h ?_
  rw [oBuildSlice1 (z := S []) _ _ U.sl_string (by kernel_rfl) rfl]
  have B3 : Below w1.heap.size w1 (w1.alloc (CB [S s1.nm] T.string)) := by repeat (first | exact Below.refl _ _ | assumption | refine bel_setb ?_ (by first | exact Nat.le_refl _ | omega | (simp only [go_sem] <;> omega)) _ | refine Below.alloc ?_ (by first | exact Nat.le_refl _ | omega | (simp only [go_sem]; omega)) _ | refine Below.drew ?_)
  have r3 : bk (w1.alloc (CB [S s1.nm] T.string)) w1.heap.size = some (CB [S s1.nm] T.string) := bk_alloc_eq _ _ _ rfl
  have hR : ∀ y, y < w1.heap.size → Ou u f1 d1 v1 f2 d2 v2 y → Ou u f1 d1 v1 f2 d2 v2 y := fun _ _ h => h
  generalize w1.alloc (CB [S s1.nm] T.string) = w3 at *
  have K3 : Kp w1 w3 (Ou u f1 d1 v1 f2 d2 v2) := Kp.of_below B3 _
  obtain ⟨_, _, k5⟩ := o.kb K3 hR
  have l5 := bk_lt k5
  simp (disch := first | omega | (simp only [sZb, sZa, sZd] <;> omega) | (simp (disch := first | omega | (simp only [sZb, sZa, sZd] <;> omega) | fail) only [go_sem, k5]; done) | fail) only [go_sem, dec_t, dec_f, w_u32, w_u64, w_u16, w_u8, w_i64, Int.reduceToNat, Int.reducePow, Nat.reducePow, k5]
  refine hk _ _ (o.put (a := ⟨0, 0, 0, [], [s1.nm], []⟩) (XU_loc _ _ _ _ _ _ _ _) ⟨v1, v2, h.old B3, rfl⟩ K3 hR (fun k h => .inl h) (ErrV.nil _ _ _) ⟨BS_nil _, .inl ⟨_, _, _, rfl, by rw [r3]; rfl⟩, RowS_nil _, fun b hb => ?_⟩)
  rcases hb with h | h | h
  · cases h
  · have h9 : w1.heap.size = b := Option.some.inj h
    subst h9
    exact ⟨Nat.le_refl _, bk_lt r3, o.nR (by omega)⟩
  · cases h
abbrev WvK (w : World) (B u f1 d1 : Nat) (v1 : Value) (f2 d2 : Nat) (v2 : Value) (r : FX × FX × SM.Ans) (K : Value → World → Prop) : Prop := AnK w (Ou u f1 d1 v1 f2 d2 v2) (XU B u f1 d1 f2 d2 r.1 r.2.1) r.2.2 K
set_option maxHeartbeats 4000000 in
theorem woven_any (h : UU w B u f1 d1 v1 s1 f2 d2 v2 s2) (sn : Sn w B m) (g : OkU s1 s2 q) (hx : BS w x q.data) (hk : WvK w B u f1 d1 v1 f2 d2 v2 (wovX s1 s2 q) K) : Cl P Fn.impl_woven #[pt u 0, AG (stepC q x)] w K := by
  apply S_impl_woven
  unfold F_impl_woven
  have hv := BS_one' hx
  simp (disch := first | omega | (simp only [sZb, sZa, sZd] <;> omega) | (simp (disch := first | omega | (simp only [sZb, sZa, sZd] <;> omega) | fail) only [go_sem, hv]; done) | fail) only [go_sem, dec_t, dec_f, w_u32, w_u64, w_u16, w_u8, w_i64, Int.reduceToNat, Int.reducePow, Nat.reducePow, hv]
  obtain ⟨l0, l1, l2⟩ := h.lt
  have hu := h.hu
  obtain ⟨w1, ew1, o⟩ := an_start (q := q) (x := x) (R := Ou u f1 d1 v1 f2 d2 v2) sn (by omega) (fun k hk => by
    rcases hk with e | e | e
    · omega
    · exact l1 k e
    · exact l2 k e)
  have b0 := o.b0
  have hx1 : BS w1 x q.data := BS_old hx b0 (Nat.le_refl _)
  have h1 := h.old b0
  rw [setb_same (by rw [← ew1]; exact o.b5), ← ew1]
  clear ew1
  refine jn_with (fun t w' => WvJ w B u f1 d1 v1 f2 d2 v2 m (wovX s1 s2 q) t w') (fun t e w' j => woven_tail o (XU_loc _ _ _ _ _ _ _ _) j hk) ?_
  have hbs := o.bs
  have g1 := g.l.op.1
  have g2 := g.l.op.2
  have c13 := g.n13
  have hR : ∀ y, y < w1.heap.size → Of2 f1 d1 v1 f2 d2 v2 y → Ou u f1 d1 v1 f2 d2 v2 y := fun _ _ h => .inr h
  by_cases c12 : q.op = 12
  · simp (disch := first | omega | (simp only [sZb, sZa, sZd] <;> omega) | (simp (disch := first | omega | (simp only [sZb, sZa, sZd] <;> omega) | fail) only [go_sem, hbs]; done) | fail) only [go_sem, dec_t, dec_f, w_u32, w_u64, w_u16, w_u8, w_i64, Int.reduceToNat, Int.reducePow, Nat.reducePow, hbs]
    refine wv2 o h1 g c12 fun t w' j => ?_
    rw [wovX, if_pos c12]
    exact j
  simp (disch := first | omega | (simp only [sZb, sZa, sZd] <;> omega) | (simp (disch := first | omega | (simp only [sZb, sZa, sZd] <;> omega) | fail) only [go_sem, hbs]; done) | fail) only [go_sem, dec_t, dec_f, w_u32, w_u64, w_u16, w_u8, w_i64, Int.reduceToNat, Int.reducePow, Nat.reducePow, hbs]
  unfold J_impl_woven_21
  simp (disch := first | omega | (simp only [sZb, sZa, sZd] <;> omega) | (simp (disch := first | omega | (simp only [sZb, sZa, sZd] <;> omega) | fail) only [go_sem]; done) | fail) only [go_sem, dec_t, dec_f, w_u32, w_u64, w_u16, w_u8, w_i64, Int.reduceToNat, Int.reducePow, Nat.reducePow]
  unfold J_impl_woven_20
  by_cases c14 : q.op = 14
  · simp (disch := first | omega | (simp only [sZb, sZa, sZd] <;> omega) | (simp (disch := first | omega | (simp only [sZb, sZa, sZd] <;> omega) | fail) only [go_sem]; done) | fail) only [go_sem, dec_t, dec_f, w_u32, w_u64, w_u16, w_u8, w_i64, Int.reduceToNat, Int.reducePow, Nat.reducePow]
    refine wv4 o h1 g c14 hx1 fun t w' j => ?_
    rw [wovX, if_neg c12, if_pos c14]
    exact j
  simp (disch := first | omega | (simp only [sZb, sZa, sZd] <;> omega) | (simp (disch := first | omega | (simp only [sZb, sZa, sZd] <;> omega) | fail) only [go_sem]; done) | fail) only [go_sem, dec_t, dec_f, w_u32, w_u64, w_u16, w_u8, w_i64, Int.reduceToNat, Int.reducePow, Nat.reducePow]
  unfold J_impl_woven_19
  by_cases c15 : q.op = 15
  · simp (disch := first | omega | (simp only [sZb, sZa, sZd] <;> omega) | (simp (disch := first | omega | (simp only [sZb, sZa, sZd] <;> omega) | fail) only [go_sem]; done) | fail) only [go_sem, dec_t, dec_f, w_u32, w_u64, w_u16, w_u8, w_i64, Int.reduceToNat, Int.reducePow, Nat.reducePow]
    refine wv5 o h1 g c15 hx1 fun t w' j => ?_
    rw [wovX, if_neg c12, if_neg c14, if_pos c15]
    exact j
  simp (disch := first | omega | (simp only [sZb, sZa, sZd] <;> omega) | (simp (disch := first | omega | (simp only [sZb, sZa, sZd] <;> omega) | fail) only [go_sem]; done) | fail) only [go_sem, dec_t, dec_f, w_u32, w_u64, w_u16, w_u8, w_i64, Int.reduceToNat, Int.reducePow, Nat.reducePow]
  unfold J_impl_woven_18
  by_cases c16 : q.op = 16
  · simp (disch := first | omega | (simp only [sZb, sZa, sZd] <;> omega) | (simp (disch := first | omega | (simp only [sZb, sZa, sZd] <;> omega) | fail) only [go_sem]; done) | fail) only [go_sem, dec_t, dec_f, w_u32, w_u64, w_u16, w_u8, w_i64, Int.reduceToNat, Int.reducePow, Nat.reducePow]
    refine wv6 o h1 g c16 fun t w' j => ?_
    rw [wovX, if_neg c12, if_neg c14, if_neg c15, if_pos c16]
    exact j
  simp (disch := first | omega | (simp only [sZb, sZa, sZd] <;> omega) | (simp (disch := first | omega | (simp only [sZb, sZa, sZd] <;> omega) | fail) only [go_sem]; done) | fail) only [go_sem, dec_t, dec_f, w_u32, w_u64, w_u16, w_u8, w_i64, Int.reduceToNat, Int.reducePow, Nat.reducePow]
  unfold J_impl_woven_17
  by_cases c17 : q.op = 17
  · simp (disch := first | omega | (simp only [sZb, sZa, sZd] <;> omega) | (simp (disch := first | omega | (simp only [sZb, sZa, sZd] <;> omega) | fail) only [go_sem, hbs]; done) | fail) only [go_sem, dec_t, dec_f, w_u32, w_u64, w_u16, w_u8, w_i64, Int.reduceToNat, Int.reducePow, Nat.reducePow, hbs]
    refine truncU (m := m) h1 o.sn (g.l.tr c17) g.l.len g.b.len fun w3 v1' v2' U3 K3 O1 O2 y e3 => ?_
    rw [wovX, if_neg c12, if_neg c14, if_neg c15, if_neg c16, if_pos c17]
    exact o.still (a := ⟨(trU s1 s2 q.off).2.2, 0, 0, [], [], []⟩) (XU_loc _ _ _ _ _ _ _ _) ⟨v1', v2', U3, rfl⟩ K3 hR (Ou_new O1 O2) rfl rfl rfl rfl rfl e3
  simp (disch := first | omega | (simp only [sZb, sZa, sZd] <;> omega) | (simp (disch := first | omega | (simp only [sZb, sZa, sZd] <;> omega) | fail) only [go_sem]; done) | fail) only [go_sem, dec_t, dec_f, w_u32, w_u64, w_u16, w_u8, w_i64, Int.reduceToNat, Int.reducePow, Nat.reducePow]
  unfold J_impl_woven_16
  by_cases c18 : q.op = 18
  · simp (disch := first | omega | (simp only [sZb, sZa, sZd] <;> omega) | (simp (disch := first | omega | (simp only [sZb, sZa, sZd] <;> omega) | fail) only [go_sem]; done) | fail) only [go_sem, dec_t, dec_f, w_u32, w_u64, w_u16, w_u8, w_i64, Int.reduceToNat, Int.reducePow, Nat.reducePow]
    refine closeU h1 fun w3 v1' v2' U3 K3 O1 O2 => ?_
    rw [wovX, if_neg c12, if_neg c14, if_neg c15, if_neg c16, if_neg c17, if_pos c18]
    exact o.still (a := SM.Ans.z) (XU_loc _ _ _ _ _ _ _ _) ⟨v1', v2', U3, rfl⟩ K3 hR (Ou_new O1 O2) rfl rfl rfl rfl rfl (ErrV.nil _ _ _)
  simp (disch := first | omega | (simp only [sZb, sZa, sZd] <;> omega) | (simp (disch := first | omega | (simp only [sZb, sZa, sZd] <;> omega) | fail) only [go_sem]; done) | fail) only [go_sem, dec_t, dec_f, w_u32, w_u64, w_u16, w_u8, w_i64, Int.reduceToNat, Int.reducePow, Nat.reducePow]
  unfold J_impl_woven_15
  by_cases c19 : q.op = 19
  · simp (disch := first | omega | (simp only [sZb, sZa, sZd] <;> omega) | (simp (disch := first | omega | (simp only [sZb, sZa, sZd] <;> omega) | fail) only [go_sem]; done) | fail) only [go_sem, dec_t, dec_f, w_u32, w_u64, w_u16, w_u8, w_i64, Int.reduceToNat, Int.reducePow, Nat.reducePow]
    refine wv7 o h1 g fun t w' j => ?_
    rw [wovX, if_neg c12, if_neg c14, if_neg c15, if_neg c16, if_neg c17, if_neg c18, if_pos c19]
    exact j
  simp (disch := first | omega | (simp only [sZb, sZa, sZd] <;> omega) | (simp (disch := first | omega | (simp only [sZb, sZa, sZd] <;> omega) | fail) only [go_sem]; done) | fail) only [go_sem, dec_t, dec_f, w_u32, w_u64, w_u16, w_u8, w_i64, Int.reduceToNat, Int.reducePow, Nat.reducePow]
  unfold J_impl_woven_14
  by_cases c20 : q.op = 20
  · simp (disch := first | omega | (simp only [sZb, sZa, sZd] <;> omega) | (simp (disch := first | omega | (simp only [sZb, sZa, sZd] <;> omega) | fail) only [go_sem]; done) | fail) only [go_sem, dec_t, dec_f, w_u32, w_u64, w_u16, w_u8, w_i64, Int.reduceToNat, Int.reducePow, Nat.reducePow]
    refine wv8 o h1 g fun t w' j => ?_
    rw [wovX, if_neg c12, if_neg c14, if_neg c15, if_neg c16, if_neg c17, if_neg c18, if_neg c19, if_pos c20]
    exact j
  simp (disch := first | omega | (simp only [sZb, sZa, sZd] <;> omega) | (simp (disch := first | omega | (simp only [sZb, sZa, sZd] <;> omega) | fail) only [go_sem]; done) | fail) only [go_sem, dec_t, dec_f, w_u32, w_u64, w_u16, w_u8, w_i64, Int.reduceToNat, Int.reducePow, Nat.reducePow]
  unfold J_impl_woven_13
  by_cases c21 : q.op = 21
  · simp (disch := first | omega | (simp only [sZb, sZa, sZd] <;> omega) | (simp (disch := first | omega | (simp only [sZb, sZa, sZd] <;> omega) | fail) only [go_sem]; done) | fail) only [go_sem, dec_t, dec_f, w_u32, w_u64, w_u16, w_u8, w_i64, Int.reduceToNat, Int.reducePow, Nat.reducePow]
    refine wv10 o h1 g fun t w' j => ?_
    rw [wovX, if_neg c12, if_neg c14, if_neg c15, if_neg c16, if_neg c17, if_neg c18, if_neg c19, if_neg c20, if_pos c21]
    exact j
  simp (disch := first | omega | (simp only [sZb, sZa, sZd] <;> omega) | (simp (disch := first | omega | (simp only [sZb, sZa, sZd] <;> omega) | fail) only [go_sem]; done) | fail) only [go_sem, dec_t, dec_f, w_u32, w_u64, w_u16, w_u8, w_i64, Int.reduceToNat, Int.reducePow, Nat.reducePow]
  by_cases c22 : q.op = 22
  · refine wv12 o h1 c22 fun t w' j => ?_
    rw [wovX, if_neg c12, if_neg c14, if_neg c15, if_neg c16, if_neg c17, if_neg c18, if_neg c19, if_neg c20, if_neg c21, if_pos c22]
    exact j
  unfold J_impl_woven_12
  simp (disch := first | omega | (simp only [sZb, sZa, sZd] <;> omega) | (simp (disch := first | omega | (simp only [sZb, sZa, sZd] <;> omega) | fail) only [go_sem]; done) | fail) only [go_sem, dec_t, dec_f, w_u32, w_u64, w_u16, w_u8, w_i64, Int.reduceToNat, Int.reducePow, Nat.reducePow]
  unfold J_impl_woven_11
  simp (disch := first | omega | (simp only [sZb, sZa, sZd] <;> omega) | (simp (disch := first | omega | (simp only [sZb, sZa, sZd] <;> omega) | fail) only [go_sem]; done) | fail) only [go_sem, dec_t, dec_f, w_u32, w_u64, w_u16, w_u8, w_i64, Int.reduceToNat, Int.reducePow, Nat.reducePow]
  refine syncU h1 ?_
  rw [wovX, if_neg c12, if_neg c14, if_neg c15, if_neg c16, if_neg c17, if_neg c18, if_neg c19, if_neg c20, if_neg c21, if_neg c22]
  exact o.still (a := SM.Ans.z) (XU_loc _ _ _ _ _ _ _ _) ⟨v1, v2, h1, rfl⟩ (Kp.refl w1 (Of2 f1 d1 v1 f2 d2 v2)) hR (fun k h => .inl h) rfl rfl rfl rfl rfl (ErrV.nil _ _ _)
end
end Go.Proofs.YteblpejgenehfaaDoor.X
end
section
namespace Go.Proofs.YteblpejgenehfaaDoor.X
open Go Go.X Go.Proofs Go.RowKit
def StepsAt (w : World) (v : Value) (qs : List SM.Stp) (vs : List Value) : Prop :=
  vs.length = qs.length ∧ (∀ i (h1 : i < qs.length) (h2 : i < vs.length), BS w vs[i] qs[i].data) ∧ ((qs = [] ∧ ∃ a cap, v = .slice a 0 cap) ∨ ∃ b o cap, v = sl b o qs.length cap ∧ b < w.heap.size ∧ ∀ i (h1 : i < qs.length) (h2 : i < vs.length), rowOf (bk w b) (o + i * 10) 10 = some (stepC qs[i] vs[i]))
theorem StepsAt.old {w w' : World} {v : Value} {qs : List SM.Stp} {vs : List Value} (h : StepsAt w v qs vs) (hb : Below w.heap.size w w') : StepsAt w' v qs vs := by
  refine ⟨h.1, fun i h1 h2 => BS_old (h.2.1 i h1 h2) hb (Nat.le_refl _), ?_⟩
  rcases h.2.2 with h | ⟨b, o, cap, h1, h2, h3⟩
  · exact .inl h
  · exact .inr ⟨b, o, cap, h1, Nat.lt_of_lt_of_le h2 hb.size, fun i g1 g2 => by rw [bel_bk hb h2]; exact h3 i g1 g2⟩
theorem StepsAt.slice {w : World} {v : Value} {qs : List SM.Stp} {vs : List Value} (h : StepsAt w v qs vs) : ∃ a cap, v = .slice a qs.length cap := by
  rcases h.2.2 with ⟨h, a, cap, e⟩ | ⟨b, o, cap, e, _⟩
  · exact ⟨a, cap, by rw [e, h]; rfl⟩
  · exact ⟨_, _, e⟩
theorem StepsAt.idx {w : World} {v : Value} {qs : List SM.Stp} {vs : List Value} (h : StepsAt w v qs vs) {i : Nat} (hi : i < qs.length) (hv : i < vs.length) :
    ∃ b o, rowOf (bk w b) o 10 = some (stepC qs[i] vs[i]) ∧ b < w.heap.size ∧ ∀ L : Value → Prop, pu P (oIdxA T.sl_impl_Step v (.int .i64 i)) L = L (pt b o) := by
  rcases h.2.2 with ⟨h, _⟩ | ⟨b, o, cap, rfl, hb, hr⟩
  · rw [h] at hi; exact absurd hi (by simp)
  · refine ⟨b, o + i * 10, hr i hi hv, hb, fun L => ?_⟩
    rw [oIdxA_sl (size := 10) L U.sl_impl_Step (by kernel_rfl) (by omega) (by omega), Int.toNat_natCast]
section
variable {σ : Type}
def runX (stp : σ → SM.Stp → σ × SM.Ans) : σ → List SM.Stp → σ × List SM.Ans
  | s, [] => (s, [])
  | s, q :: qs => ((runX stp (stp s q).1 qs).1, (stp s q).2 :: (runX stp (stp s q).1 qs).2)
def okX (stp : σ → SM.Stp → σ × SM.Ans) (ok : σ → SM.Stp → Prop) : σ → List SM.Stp → Prop
  | _, [] => True
  | s, q :: qs => ok s q ∧ okX stp ok (stp s q).1 qs
theorem runX_len (stp : σ → SM.Stp → σ × SM.Ans) : ∀ (s : σ) (qs : List SM.Stp), (runX stp s qs).2.length = qs.length
  | _, [] => rfl
  | s, q :: qs => by simp [runX, runX_len stp (stp s q).1 qs]
def LocS (X : World → (Nat → Prop) → Prop) : Prop := ∀ w w' U S, X w U → Kp w w' S → (∀ k, U k → ¬ S k) → X w' U
def AnsAt (w : World) (lo : Nat) (N : Nat → Prop) (az : List SM.Ans) (cs : List (List Value)) : Prop := cs.length = az.length ∧ ∀ i (h1 : i < cs.length) (h2 : i < az.length), AnsN w lo N az[i] cs[i]
theorem AnsAt.kp {w w' : World} {lo : Nat} {N S : Nat → Prop} {az : List SM.Ans} {cs : List (List Value)} (h : AnsAt w lo N az cs) (k : Kp w w' S) (hS : ∀ b, lo ≤ b → b < w.heap.size → ¬ N b → ¬ S b) : AnsAt w' lo N az cs := ⟨h.1, fun i h1 h2 => (h.2 i h1 h2).kp k hS⟩
theorem AnsAt.to {w : World} {lo : Nat} {N M : Nat → Prop} {az : List SM.Ans} {cs : List (List Value)} (h : AnsAt w lo N az cs) (hM : ∀ b, lo ≤ b → b < w.heap.size → ¬ N b → ¬ M b) : AnsAt w lo M az cs := ⟨h.1, fun i h1 h2 => (h.2 i h1 h2).to hM⟩
theorem AnsAt.snoc {w : World} {lo : Nat} {N : Nat → Prop} {az : List SM.Ans} {cs : List (List Value)} (h : AnsAt w lo N az cs) {a : SM.Ans} {c : List Value} (ha : AnsN w lo N a c) : AnsAt w lo N (az ++ [a]) (cs ++ [c]) := by
  refine ⟨by simp [h.1], fun i h1 h2 => ?_⟩
  by_cases hi : i < cs.length
  · rw [List.getElem_append_left hi, List.getElem_append_left (by rw [← h.1]; exact hi)]
    exact h.2 i hi _
  · have e1 : i = cs.length := by simp at h1; omega
    subst e1
    have e2 : (cs ++ [c])[cs.length] = c := by simp
    have e3 : (az ++ [a])[cs.length]'h2 = a := by simp [h.1]
    rw [e2, e3]
    exact ha
theorem ans_oneCells {w : World} {lo : Nat} {N : Nat → Prop} {a : SM.Ans} {c : List Value} (h : AnsN w lo N a c) : c.length = 6 ∧ ∀ u ∈ c, u.oneCell' = true := by
  obtain ⟨x, y, z, rfl, hx, hy, hz, _⟩ := h
  obtain ⟨p1, c1, rfl⟩ := BS_slice hx
  obtain ⟨p2, c2, rfl⟩ := RowS_slice hy
  obtain ⟨p3, c3, rfl⟩ := RowS_slice hz
  refine ⟨rfl, fun u hu => ?_⟩
  simp only [answC, List.mem_cons, List.not_mem_nil, or_false] at hu
  rcases hu with rfl | rfl | rfl | rfl | rfl | rfl <;> rfl
theorem runX_drop (stp : σ → SM.Stp → σ × SM.Ans) (s : σ) (q : SM.Stp) (qs : List SM.Stp) : (runX stp s (q :: qs)).1 = (runX stp (stp s q).1 qs).1 ∧ (runX stp s (q :: qs)).2 = (stp s q).2 :: (runX stp (stp s q).1 qs).2 := ⟨rfl, rfl⟩
set_option maxHeartbeats 4000000 in
theorem loop_spec {w0 w : World} {B : Nat} {m : Nat → Nat × Nat} {X : σ → World → (Nat → Prop) → Prop} {stp : σ → SM.Stp → σ × SM.Ans} {ok : σ → SM.Stp → Prop} {fn : FuncId} {fv tv : Value} {qs : List SM.Stp} {vs : List Value} {s0 : σ} {U0 : Nat → Prop} {k2 : List Value → World → Prop}
    (hc : ∀ {args : Array Value} {w : World} {K : Value → World → Prop}, Cl P fn args w K → st P (oCall fn args) w K)
    (hloc : ∀ s, LocS (X s))
    (hstep : ∀ s q w x U K, X s w U → Sn w B m → ok s q → BS w x q.data → AnK w U (X (stp s q).1) (stp s q).2 K → Cl P fn #[fv, AG (stepC q x)] w K)
    (hq : StepsAt w0 tv qs vs) (hb : Below w0.heap.size w0 w) (hB : B ≤ w0.heap.size) (sn : Sn w B m) (hql : qs.length ≤ 1000000) (h0 : X s0 w U0) (hU : ∀ k, U0 k → w0.heap.size ≤ k ∧ k < w.heap.size) (hok : okX stp ok s0 qs)
    (hin : ∀ s w U, X s w U → ∀ k, U k → k < w.heap.size)
    (hk : ∀ w' av cs U, Below w0.heap.size w0 w' → X (runX stp s0 qs).1 w' U → (∀ k, U k → w0.heap.size ≤ k) → w'.ownsRow w0.heap.size T.impl_Answer 6 av qs.length (List.flatten cs) → (∀ k, av.ownBlock = some k → ¬ U k) → AnsAt w' w0.heap.size (fun k => U k ∨ av.ownBlock = some k) (runX stp s0 qs).2 cs → k2 [av] w') :
    lp [(.slice none 0 0), (.int .i64 0)] w fun s3 u3 w8 C1 =>
      pu P (oBin .lss T.int false false (gs s3 1) (.int .i64 qs.length)) fun t24 =>
      jn (fun s4 u4 w9 =>
      pu P (oIdxA T.sl_impl_Step tv (gs s3 1)) fun t25 =>
      st P (oLoad T.impl_Step t25) w9 fun t26 w10 =>
      st P (oAlloc T.impl_Step) w10 fun t12 w11 =>
      st P (oStore T.impl_Step t12 t26) w11 fun _ w12 =>
      st P (oLoad T.impl_Step t12) w12 fun t29 w13 =>
      st P (oCall fn #[fv, t29]) w13 fun t30 w14 =>
      st P (oBuildSlice T.sl_impl_Answer 1 #[(0, t30)]) w14 fun t31 w15 =>
      st P (oBuiltin .append #[T.sl_impl_Answer, T.sl_impl_Answer] T.sl_impl_Answer #[false, false] #[(gs s3 0), t31]) w15 fun t32 w16 =>
      pu P (oBin .add T.int false true (gs s3 1) (.int .i64 1)) fun t33 =>
      C1 [t32, t33] w16) fun k3 =>
      cd t24 (
      k3 [] w8) (
      k2 [(gs s3 0)] w8) := by
  refine lp_intro (fun t w' => ∃ av cs U s az, ∃ i : Nat, t = [av, .int .i64 i] ∧ i ≤ qs.length ∧ X s w' U ∧ Below w0.heap.size w0 w' ∧ Sn w' B m ∧ (∀ k, U k → w0.heap.size ≤ k) ∧ w'.ownsRow w0.heap.size T.impl_Answer 6 av i (List.flatten cs) ∧ (∀ k, av.ownBlock = some k → ¬ U k) ∧ az.length = i ∧ AnsAt w' w0.heap.size (fun k => U k ∨ av.ownBlock = some k) az cs ∧ okX stp ok s (qs.drop i) ∧ (runX stp s (qs.drop i)).1 = (runX stp s0 qs).1 ∧ az ++ (runX stp s (qs.drop i)).2 = (runX stp s0 qs).2)
    (fun t _ => qs.length - (RowKit.intOf (gs t 1)).toNat) ⟨.slice none 0 0, [], U0, s0, [], 0, rfl, Nat.zero_le _, h0, hb, sn, fun k h => (hU k h).1, own_nil _ _ _ _, fun k e => (by cases e), rfl, ⟨rfl, fun i h1 => absurd h1 (by simp)⟩, by simpa using hok, by simp, by simp⟩ ?_
  rintro t e w3 ⟨av, cs, Y, s, az, i, rfl, hi, X3, B3, sn3, hU3, o3, hav, hal, hA, hok3, hr1, hr2⟩
  rw [gs1, gs0, oLss]
  by_cases g : (i : Int) < qs.length
  · have hix : i < qs.length := by omega
    have hiv : i < vs.length := by rw [hq.1]; exact hix
    simp (disch := first | omega | (simp only [sZb, sZa, sZd] <;> omega) | (simp (disch := first | omega | (simp only [sZb, sZa, sZd] <;> omega) | fail) only [go_sem]; done) | fail) only [go_sem, dec_t, dec_f, w_u32, w_u64, w_u16, w_u8, w_i64, Int.reduceToNat, Int.reducePow, Nat.reducePow]
    refine jn_with (fun t w' => t = [] ∧ w' = w3) ?_ ⟨rfl, rfl⟩
    rintro t e w4 ⟨rfl, rfl⟩
    rw [List.drop_eq_getElem_cons hix] at hok3 hr1 hr2
    obtain ⟨okq, okr⟩ := hok3
    rw [(runX_drop stp s _ _).1] at hr1
    rw [(runX_drop stp s _ _).2] at hr2
    have hq4 := hq.old B3
    obtain ⟨b, o, hrow, hbl, ix⟩ := hq4.idx hix hiv
    have hqi := hq4.2.1 i hix hiv
    generalize qs[i] = q at *
    generalize vs[i] = x at *
    have one := BS_one' hqi
    rw [ix]
    simp (disch := first | omega | (simp only [sZb, sZa, sZd] <;> omega) | (simp (disch := first | omega | (simp only [sZb, sZa, sZd] <;> omega) | fail) only [go_sem, hrow, one]; done) | fail) only [go_sem, dec_t, dec_f, w_u32, w_u64, w_u16, w_u8, w_i64, Int.reduceToNat, Int.reducePow, Nat.reducePow, hrow, one]
    obtain ⟨wA, hwA⟩ : ∃ wA, wA = setb (w4.alloc (CB [.int .i64 0, S [], S [], .int .i64 0, .int .i64 0, .int .i64 0, .slice none 0 0, .int .i64 0, .int .i64 0, .int .i64 0] T.impl_Step)) w4.heap.size (CB (stepC q x) T.impl_Step) := ⟨_, rfl⟩
    rw [← hwA]
    have BA : Below w4.heap.size w4 wA := by rw [hwA]; repeat (first | exact Below.refl _ _ | assumption | refine bel_setb ?_ (by first | exact Nat.le_refl _ | omega | (simp only [go_sem] <;> omega)) _ | refine Below.alloc ?_ (by first | exact Nat.le_refl _ | omega | (simp only [go_sem]; omega)) _ | refine Below.drew ?_)
    have zA : wA.heap.size = w4.heap.size + 1 := by rw [hwA]; simp only [go_sem]
    have z3 := B3.size
    have kA : Kp w4 wA (fun _ => False) := Kp.of_below BA _
    have X4 := hloc _ _ _ _ _ X3 kA fun _ _ h => h
    have B4 := B3.trans (BA.mono B3.size)
    have oav := own_lt o3
    have hin4 := hin _ _ _ X3
    apply hc
    refine hstep s q wA x Y _ X4 (sn3.below (BA.mono (by omega))) okq (BS_old hqi BA (Nat.le_refl _)) fun w5 U5 c X5 K5 hU5 bc => ?_
    have z5 := K5.size
    have B5 : Below w0.heap.size w0 w5 := B4.trans (K5.below (fun k hk e => by have := hU3 k e; omega) (by omega))
    obtain ⟨cl, c1⟩ := ans_oneCells bc
    rw [oBuildSliceN (size := 6) (z := AG ansZ) _ _ U.sl_impl_Answer (by kernel_rfl) (by omega) (by omega) (l := c) cl]
    obtain ⟨w6, e6⟩ : ∃ w6, w6 = w5.alloc (CB c T.impl_Answer) := ⟨_, rfl⟩
    have B56 : Below w5.heap.size w5 w6 := by rw [e6]; repeat (first | exact Below.refl _ _ | assumption | refine bel_setb ?_ (by first | exact Nat.le_refl _ | omega | (simp only [go_sem] <;> omega)) _ | refine Below.alloc ?_ (by first | exact Nat.le_refl _ | omega | (simp only [go_sem]; omega)) _ | refine Below.drew ?_)
    have z6 : w6.heap.size = w5.heap.size + 1 := by rw [e6]; simp only [go_sem]
    have r6 : bk w6 w5.heap.size = some (CB c T.impl_Answer) := by rw [e6]; exact bk_alloc_eq _ _ _ rfl
    rw [← e6]
    clear e6
    have o5 : w6.ownsRow w0.heap.size T.impl_Answer 6 av i (List.flatten cs) := own_old (own_kp (own_old o3 BA (Nat.le_refl _)) K5 hav) B56 (Nat.le_refl _)
    have k56 : Kp w5 w6 (fun _ => False) := Kp.of_below B56 _
    refine oAppendR (size := 6) (bytes := 96) (z := AG ansZ) (news := c) U.sl_impl_Answer (by kernel_rfl) rfl (by omega) o5 (.inl ⟨_, _, _, rfl, by rw [r6]; simp only [rowOf]; rw [if_pos (by simp)]; simp⟩) cl c1 (by simp only [maxLen]; omega) (by omega) (by omega) fun av6 w7 o6 g6 l6 => ?_
    have K6 := Kp.of_grown g6
    have z7 := K6.size
    have hav6 : ∀ k, av6.ownBlock = some k → av.ownBlock = some k ∨ k = w5.heap.size + 1 := fun k hk => by
      rcases l6 with h | h
      · exact .inl (by rw [← h]; exact hk)
      · rw [hk] at h; injection h with h; exact .inr (by omega)
    have hin5 := hin _ _ _ X5
    have avn : ∀ k, av.ownBlock = some k → ¬ U5 k := fun k hk e => by
      rcases hU5 k e with h | h
      · exact hav k hk h
      · have := (oav k hk).2; omega
    have X6 := hloc _ _ _ _ _ X5 k56 fun _ _ h => h
    have X7 := hloc _ _ _ _ _ X6 K6 fun k hk e => avn k e hk
    have B7 : Below w0.heap.size w0 w7 := (B5.trans (B56.mono (by omega))).trans (K6.below (fun k hk e => by have := (oav k e).1; omega) (by omega))
    have hBw : B ≤ w0.heap.size := hB
    refine ⟨⟨av6, cs ++ [c], U5, (stp s q).1, az ++ [(stp s q).2], i + 1, rfl, by omega, X7, B7, sn3.below ?_, fun k hk => ?_, ?_, fun k hk => ?_, by simp [hal], ?_, okr, hr1, ?_⟩, ?_⟩
    · exact (((BA.mono (by omega)).trans (K5.below (fun k hk e => by have := hU3 k e; omega) (by omega))).trans (B56.mono (by omega))).trans (K6.below (fun k hk e => by have := (oav k e).1; omega) (by omega))
    · rcases hU5 k hk with h | h
      · exact hU3 k h
      · omega
    · rw [List.flatten_append]
      simpa using o6
    · intro e
      rcases hav6 k hk with h | h
      · exact avn k h e
      · have := hin5 k e; omega
    · have tr : ∀ b, w0.heap.size ≤ b → b < w4.heap.size → ¬ (Y b ∨ av.ownBlock = some b) → ¬ (U5 b ∨ av6.ownBlock = some b) := fun b h1 h2 hn h => by
        rcases h with h | h
        · rcases hU5 b h with h | h
          · exact hn (.inl h)
          · omega
        · rcases hav6 b h with h | h
          · exact hn (.inr h)
          · omega
      have q1 := hA.to tr
      refine AnsAt.snoc ?_ ?_
      · have q2 := ((hA.kp kA fun _ _ _ _ h => h).kp K5 fun b _ _ hn h => hn (.inl h)).kp k56 fun _ _ _ _ h => h
        have q3 := q2.kp K6 fun b _ _ hn h => hn (.inr h)
        refine ⟨q3.1, fun j h1 h2 => ?_⟩
        obtain ⟨x1, x2, x3, e1, r1, r2, r3, r4⟩ := q3.2 j h1 h2
        obtain ⟨y1, y2, y3, f1, _, _, _, g4⟩ := q1.2 j h1 h2
        rw [e1] at f1
        simp only [answC, List.cons.injEq, and_true, true_and] at f1
        obtain ⟨rfl, rfl, rfl⟩ := f1
        exact ⟨_, _, _, e1, r1, r2, r3, fun b hb => ⟨(r4 b hb).1, (r4 b hb).2.1, (g4 b hb).2.2⟩⟩
      · have q0 : AnsN w5 wA.heap.size (fun k => U5 k ∨ av6.ownBlock = some k) (stp s q).2 c := bc.to fun b h1 h2 hn h => by
          rcases h with h | h
          · exact hn h
          · rcases hav6 b h with h | h
            · have := (oav b h).2; omega
            · omega
        exact ((q0.kp k56 fun _ _ _ _ h => h).kp K6 fun b h1 h2 hn h => by have := (oav b h).2; omega).less (by omega)
    · rw [List.append_assoc]
      exact hr2
    · simp only [RowKit.intOf, gs1]
      omega
  · have e1 : i = qs.length := by omega
    subst e1
    simp (disch := first | omega | (simp only [sZb, sZa, sZd] <;> omega) | (simp (disch := first | omega | (simp only [sZb, sZa, sZd] <;> omega) | fail) only [go_sem]; done) | fail) only [go_sem, dec_t, dec_f, w_u32, w_u64, w_u16, w_u8, w_i64, Int.reduceToNat, Int.reducePow, Nat.reducePow]
    refine jn_with (fun _ _ => False) (fun _ _ _ h => h.elim) ?_
    rw [List.drop_length] at hr1 hr2
    have hr1' : s = (runX stp s0 qs).1 := hr1
    have hr2' : az = (runX stp s0 qs).2 := by simpa [runX] using hr2
    rw [← hr1'] at hk
    rw [← hr2'] at hk
    exact hk _ av cs Y B3 X3 hU3 o3 hav hA
end
end Go.Proofs.YteblpejgenehfaaDoor.X
end
section
namespace Go.Proofs.YteblpejgenehfaaDoor.X
open Go Go.X Go.Proofs Go.RowKit
section
variable {w W : World} {K : Value → World → Prop} {B pp : Nat} {p : SM.Pair} {F Fb Fl : Fp} {pb pl qo : Nat} {ol : ML Int} {oc : Nat} {s : SM.Stp} {v : Value}
theorem PairS.kp {w w' : World} (h : PairS w B pp p F) {G : Nat → Prop} (k : Kp w w' G) (hG : ∀ x, F.use x → ¬ G x) : PairS w' B pp p F := by
  obtain ⟨Fb, Fl, pb, pl, qo, ol, oc, h, rfl⟩ := h
  exact (h.kp k hG).S
structure PrS (w W : World) (B pp : Nat) (p : SM.Pair) (F : Fp) (Fb Fl : Fp) (pb pl qo : Nat) (ol : ML Int) (oc : Nat) (s : SM.Stp) (v : Value) : Prop where
  h : PairX W B pp p Fb Fl pb pl qo ol oc
  t : Tr w W F (uni Fb Fl pp qo)
  lt : ∀ x, F.use x → x < w.heap.size
  sS : bk W w.heap.size = some (CB (stepC s v) T.impl_Step)
  sA : bk W (w.heap.size + 1) = some (CB ansZ T.impl_Answer)
  hv : BS W v s.data
  hvo : s.data = [] ∨ ∀ b, v.ownBlock = some b → ¬ (uni Fb Fl pp qo).own b
theorem BS_kpe {w w' : World} {S : Nat → Prop} {v : Value} {l : List UInt8} (h : BS w v l) (k : Kp w w' S) (hS : l = [] ∨ ∀ b, v.ownBlock = some b → ¬ S b) : BS w' v l := by
  rcases hS with e | hS
  · obtain ⟨a, c, ev⟩ := BS_slice h
    exact .inl ⟨e, a, c, by rw [ev, e]; rfl⟩
  · exact BS_kp h k hS
theorem PrS.nu (o : PrS w W B pp p F Fb Fl pb pl qo ol oc s v) {x : Nat} (h1 : w.heap.size ≤ x) (h2 : x < w.heap.size + 2) (hz : ∀ x, (uni Fb Fl pp qo).use x → F.use x ∨ w.heap.size + 2 ≤ x) : ¬ (uni Fb Fl pp qo).use x := fun e => by
  rcases hz x e with e | e
  · have := o.lt x e; omega
  · omega
theorem cache_end {w7 : World} {F' : Fp} {p' : SM.Pair} {a : SM.Ans} {c : List Value} {A5 : Nat} {t : List Value} {u : Env} (h : PairS w7 B pp p' F') (tr : Tr w w7 F F') (h5 : bk w7 A5 = some (CB c T.impl_Answer)) (h4 : bk w7 (w.heap.size + 1) = some (CB ansZ T.impl_Answer)) (hA : w.heap.size + 1 < A5) (n4 : ¬ F'.use (w.heap.size + 1))
    (nc : AnsN w7 (w.heap.size + 2) F'.use a c) (hk : PairK w B pp F (p', a) K) : J_spec_Pair_cacheHandle_1 (pt A5 0) (pt (w.heap.size + 1) 0) K t u w7 := by
  unfold J_spec_Pair_cacheHandle_1
  have nc0 := nc
  obtain ⟨x, y, z, rfl, hx, hy, hz, ho⟩ := nc
  obtain ⟨p1, c1, rfl⟩ := BS_slice hx
  obtain ⟨p2, c2, rfl⟩ := RowS_slice hy
  obtain ⟨p3, c3, rfl⟩ := RowS_slice hz
  have l5 := bk_lt h5
  have l4 := bk_lt h4
  simp (disch := first | omega | (simp only [sZb, sZa, sZd] <;> omega) | (simp (disch := first | omega | (simp only [sZb, sZa, sZd] <;> omega) | fail) only [go_sem, h5, h4]; done) | fail) only [go_sem, dec_t, dec_f, w_u32, w_u64, w_u16, w_u8, w_i64, Int.reduceToNat, Int.reducePow, Nat.reducePow, h5, h4]
  generalize hO : CB [.int .i64 a.e, _, _, _, _, _] T.impl_Answer = O
  have s2 := Kp.setb w7 (w.heap.size + 1) O
  refine hk _ F' _ (h.kp s2 fun x hx e => n4 (by rw [← e]; exact hx)) ⟨tr.kp.trans s2 fun x hx e => by omega, tr.st⟩ ?_
  exact (nc0.kp s2 fun b h1 h2 _ e => by omega).less (by omega)
theorem AnsN.step {w w' : World} {lo : Nat} {U V S : Nat → Prop} {a : SM.Ans} {c : List Value} (h : AnsN w lo U a c) (k : Kp w w' S) (hS : ∀ b, lo ≤ b → b < w.heap.size → ¬ U b → ¬ S b ∧ ¬ V b) : AnsN w' lo V a c := by
  obtain ⟨x, y, z, e, h1, h2, h3, h4⟩ := h
  have g : ∀ b, (x.ownBlock = some b ∨ y.ownBlock = some b ∨ z.ownBlock = some b) → ¬ S b ∧ ¬ V b := fun b hb => hS b (h4 b hb).1 (h4 b hb).2.1 (h4 b hb).2.2
  exact ⟨x, y, z, e, BS_kp h1 k fun b hb => (g b (.inl hb)).1, h2.kp k fun b hb => (g b (.inr (.inl hb))).1, h3.kp k fun b hb => (g b (.inr (.inr hb))).1, fun b hb => ⟨(h4 b hb).1, Nat.lt_of_lt_of_le (h4 b hb).2.1 k.size, (g b hb).2⟩⟩
theorem base_do {w6 : World} {q : SM.Pair} {a : SM.Ans} {c : List Value} {A5 : Nat} {s2 : SM.Stp} {v2 : Value} {i : Int} {L : World → Prop} (h : PairX w6 B pp q Fb Fl pb pl qo ol oc) (tr : Tr w w6 F (uni Fb Fl pp qo)) (ok : DoOk q.base s2) (hv2 : BS w6 v2 s2.data)
    (nc : AnsN w6 (w.heap.size + 2) (uni Fb Fl pp qo).use a c) (h5 : bk w6 A5 = some (CB c T.impl_Answer)) (n5 : ¬ (uni Fb Fl pp qo).use A5) (h4 : bk w6 (w.heap.size + 1) = some (CB ansZ T.impl_Answer)) (n4 : ¬ (uni Fb Fl pp qo).use (w.heap.size + 1))
    (hk : ∀ w9 F', PairS w9 B pp { q with base := (q.base.doS i s2).1 } F' → Tr w w9 F F' → AnsN w9 (w.heap.size + 2) F'.use a c → bk w9 A5 = some (CB c T.impl_Answer) → bk w9 (w.heap.size + 1) = some (CB ansZ T.impl_Answer) → ¬ F'.use (w.heap.size + 1) → L w9) :
    Cl P Fn.spec_Mem_Do #[pt pb 0, .int .i64 i, AG (stepC s2 v2)] w6.drew fun _ w9 => L w9 := by
  have b6 : Below w6.heap.size w6 w6.drew := by repeat (first | exact Below.refl _ _ | assumption | refine bel_setb ?_ (by first | exact Nat.le_refl _ | omega | (simp only [go_sem] <;> omega)) _ | refine Below.alloc ?_ (by first | exact Nat.le_refl _ | omega | (simp only [go_sem]; omega)) _ | refine Below.drew ?_)
  have h' := h.old b6
  refine doH_spec (h'.b) (BS_old hv2 b6 (Nat.le_refl _)) ok.mb ok.hb ok.op ok.fb i fun w9 Fb9 c9 h9 t9 a9 => ?_
  obtain ⟨p9, T9⟩ := h'.setB h9 t9
  have z6 : w6.drew.heap.size = w6.heap.size := rfl
  have l5 := bk_lt h5
  have l4 := bk_lt h4
  have T := (tr.after b6).trans T9
  refine hk w9 _ p9.S T ?_ ?_ ?_ fun e => n4 ((T9.st _ (by omega)).2 e)
  · exact (nc.old b6).step t9.kp fun b _ hb hn => ⟨fun e => hn (.inl (h'.b.sub _ e)), fun e => hn ((T9.st b hb).2 e)⟩
  · rw [t9.kp.block A5 (by omega) fun e => n5 (.inl (h'.b.sub _ e))]; exact h5
  · rw [t9.kp.block _ (by omega) fun e => n4 (.inl (h'.b.sub _ e))]; exact h4
theorem cache_mid {w6 : World} {a : SM.Mem × SM.Ans} {c : List Value} {A5 : Nat} (h : PairX w6 B pp { p with layer := a.1 } Fb Fl pb pl qo ol oc) (tr : Tr w w6 F (uni Fb Fl pp qo)) (ha : a = p.layer.doS s.h s) (hof : SM.ofGet p.of s.h = 3) (hop : s.op ≠ 19 ∧ s.op ≠ 20)
    (ok1 : s.op = 12 → DoOk p.base (s.skip a.2.data.length)) (ok2 : s.op ≠ 12 → a.2.e = 0 → DoOk p.base s) (hv : BS w6 v s.data) (sS : bk w6 w.heap.size = some (CB (stepC s v) T.impl_Step))
    (nc : AnsN w6 (w.heap.size + 2) (uni Fb Fl pp qo).use a.2 c) (h5 : bk w6 A5 = some (CB c T.impl_Answer)) (hA : w.heap.size + 1 < A5) (n5 : ¬ (uni Fb Fl pp qo).use A5) (h4 : bk w6 (w.heap.size + 1) = some (CB ansZ T.impl_Answer)) (n4 : ¬ (uni Fb Fl pp qo).use (w.heap.size + 1))
    (hk : PairK w B pp F (p.cacheH s) K) :
    jn (J_spec_Pair_cacheHandle_1 (pt A5 0) (pt (w.heap.size + 1) 0) K) fun k2 =>
      pu P (oFldA T.impl_Step (pt w.heap.size 0) 0) fun t36 =>
      st P (oLoad T.int t36) w6 fun t37 w10 =>
      pu P (oBin .eql T.int false true t37 (.int .i64 12)) fun t38 =>
      cd t38 (J_spec_Pair_cacheHandle_2 (pt pp 0) w10 (pt w.heap.size 0) (pt A5 0) k2) (J_spec_Pair_cacheHandle_4 (pt A5 0) w10 (pt pp 0) (pt w.heap.size 0) k2) := by
  have hx : p.cacheH s = (if s.op = 12 then { ({ p with layer := a.1 } : SM.Pair) with base := (p.base.doS s.h (s.skip a.2.data.length)).1 } else if a.2.e = 0 then { ({ p with layer := a.1 } : SM.Pair) with base := (p.base.doS s.h s).1 } else { p with layer := a.1 }, a.2) := by
    unfold SM.Pair.cacheH
    rw [if_neg (by rintro (h | h | h); exact h hof; exact hop.1 h; exact hop.2 h), ← ha]
  rw [hx] at hk
  clear hx
  obtain ⟨q', eq'⟩ : ∃ q' : SM.Pair, q' = (if s.op = 12 then { ({ p with layer := a.1 } : SM.Pair) with base := (p.base.doS s.h (s.skip a.2.data.length)).1 } else if a.2.e = 0 then { ({ p with layer := a.1 } : SM.Pair) with base := (p.base.doS s.h s).1 } else { p with layer := a.1 }) := ⟨_, rfl⟩
  rw [← eq'] at hk
  refine jn_with (fun t w9 => ∃ F', PairS w9 B pp q' F' ∧ Tr w w9 F F' ∧ AnsN w9 (w.heap.size + 2) F'.use a.2 c ∧ bk w9 A5 = some (CB c T.impl_Answer) ∧ bk w9 (w.heap.size + 1) = some (CB ansZ T.impl_Answer) ∧ ¬ F'.use (w.heap.size + 1)) ?_ ?_
  · rintro t e w9 ⟨F', g1, g2, g3, g4, g5, g6⟩
    exact cache_end g1 g2 g4 g5 hA g6 g3 hk
  · have bp := h.bp
    have nc0 := nc
    obtain ⟨x, y, z, ec, hx, hy, hz, ho⟩ := nc
    obtain ⟨p1, c1, ex⟩ := BS_slice hx
    rw [ec, ex] at h5
    by_cases c12 : s.op = 12
    · simp (disch := first | omega | (simp only [sZb, sZa, sZd] <;> omega) | (simp (disch := first | omega | (simp only [sZb, sZa, sZd] <;> omega) | fail) only [go_sem, sS]; done) | fail) only [go_sem, dec_t, dec_f, w_u32, w_u64, w_u16, w_u8, w_i64, Int.reduceToNat, Int.reducePow, Nat.reducePow, sS]
      unfold J_spec_Pair_cacheHandle_2
      simp (disch := first | omega | (simp only [sZb, sZa, sZd] <;> omega) | (simp (disch := first | omega | (simp only [sZb, sZa, sZd] <;> omega) | fail) only [go_sem, bp, sS, h5]; done) | fail) only [go_sem, dec_t, dec_f, w_u32, w_u64, w_u16, w_u8, w_i64, Int.reduceToNat, Int.reducePow, Nat.reducePow, bp, sS, h5]
      rw [if_pos c12] at eq'
      rw [eq']
      refine base_do (q := { p with layer := a.1 }) (s2 := s.skip a.2.data.length) (v2 := .slice none 0 0) h tr (ok1 c12) (BS_nil _) nc0 (by rw [ec, ex]; exact h5) n5 h4 n4 fun w9 F' g1 g2 g3 g4 g5 g6 => ?_
      exact ⟨F', g1, g2, g3, g4, g5, g6⟩
    · simp (disch := first | omega | (simp only [sZb, sZa, sZd] <;> omega) | (simp (disch := first | omega | (simp only [sZb, sZa, sZd] <;> omega) | fail) only [go_sem, sS]; done) | fail) only [go_sem, dec_t, dec_f, w_u32, w_u64, w_u16, w_u8, w_i64, Int.reduceToNat, Int.reducePow, Nat.reducePow, sS]
      unfold J_spec_Pair_cacheHandle_4
      rw [if_neg c12] at eq'
      by_cases ce : a.2.e = 0
      · simp (disch := first | omega | (simp only [sZb, sZa, sZd] <;> omega) | (simp (disch := first | omega | (simp only [sZb, sZa, sZd] <;> omega) | fail) only [go_sem, h5]; done) | fail) only [go_sem, dec_t, dec_f, w_u32, w_u64, w_u16, w_u8, w_i64, Int.reduceToNat, Int.reducePow, Nat.reducePow, h5]
        unfold J_spec_Pair_cacheHandle_3
        simp (disch := first | omega | (simp only [sZb, sZa, sZd] <;> omega) | (simp (disch := first | omega | (simp only [sZb, sZa, sZd] <;> omega) | fail) only [go_sem, bp, sS]; done) | fail) only [go_sem, dec_t, dec_f, w_u32, w_u64, w_u16, w_u8, w_i64, Int.reduceToNat, Int.reducePow, Nat.reducePow, bp, sS]
        rw [if_pos ce] at eq'
        rw [eq']
        refine base_do (q := { p with layer := a.1 }) h tr (ok2 c12 ce) hv nc0 (by rw [ec, ex]; exact h5) n5 h4 n4 fun w9 F' g1 g2 g3 g4 g5 g6 => ?_
        exact ⟨F', g1, g2, g3, g4, g5, g6⟩
      · simp (disch := first | omega | (simp only [sZb, sZa, sZd] <;> omega) | (simp (disch := first | omega | (simp only [sZb, sZa, sZd] <;> omega) | fail) only [go_sem, h5]; done) | fail) only [go_sem, dec_t, dec_f, w_u32, w_u64, w_u16, w_u8, w_i64, Int.reduceToNat, Int.reducePow, Nat.reducePow, h5]
        rw [if_neg ce] at eq'
        rw [eq']
        exact ⟨_, h.S, tr, nc0, by rw [ec, ex], h4, n4⟩
theorem BS_lt {w : World} {v : Value} {l : List UInt8} (h : BS w v l) : l = [] ∨ ∀ k, v.ownBlock = some k → k < w.heap.size := by
  rcases h with h | ⟨b, o, cap, rfl, h2, h3, h4⟩
  · exact .inl h.1
  · right; intro k e; have e2 : b = k := Option.some.inj e; omega
theorem zeroIntE : rp P (zeroValue T.int) = some (.int .i64 0) := by kernel_rfl
theorem luO_rd (w : World) (K : Value → Prop) (b : Nat) (k : Int) : rd P (oLookup T.map_int_int (.map (some b)) (.int .i64 k) false) w K = optE (mlI (bk w b)) (fun q => K ((mget q.1 k).getD (.int .i64 0))) (farR P (oLookup T.map_int_int (.map (some b)) (.int .i64 k) false) w K) :=
  luI1_rd w U.map_int_int U.int zeroIntE K b k
theorem cache9 (o : PrS w W B pp p F Fb Fl pb pl qo ol oc s v) (zW : W.heap.size = w.heap.size + 2) (nu : ∀ x, w.heap.size ≤ x → x < W.heap.size → ¬ (uni Fb Fl pp qo).use x) (hof : SM.ofGet p.of s.h = 3) (hop : s.op ≠ 19 ∧ s.op ≠ 20) (ok : DoOk p.layer s)
    (ok1 : s.op = 12 → DoOk p.base (s.skip (p.layer.doS s.h s).2.data.length)) (ok2 : s.op ≠ 12 → (p.layer.doS s.h s).2.e = 0 → DoOk p.base s) (hk : PairK w B pp F (p.cacheH s) K) {t : List Value} {u : Env} : J_spec_Pair_cacheHandle_9 (pt pp 0) (pt w.heap.size 0) (pt (w.heap.size + 1) 0) K t u W := by
  unfold J_spec_Pair_cacheHandle_9
  have bp := o.h.bp
  have sS := o.sS
  have hv1 := BS_one' o.hv
  simp (disch := first | omega | (simp only [sZb, sZa, sZd] <;> omega) | (simp (disch := first | omega | (simp only [sZb, sZa, sZd] <;> omega) | fail) only [go_sem, bp, sS, hv1]; done) | fail) only [go_sem, dec_t, dec_f, w_u32, w_u64, w_u16, w_u8, w_i64, Int.reduceToNat, Int.reducePow, Nat.reducePow, bp, sS, hv1]
  have b0 : Below W.heap.size W W.drew := by repeat (first | exact Below.refl _ _ | assumption | refine bel_setb ?_ (by first | exact Nat.le_refl _ | omega | (simp only [go_sem] <;> omega)) _ | refine Below.alloc ?_ (by first | exact Nat.le_refl _ | omega | (simp only [go_sem]; omega)) _ | refine Below.drew ?_)
  refine ⟨?_, ?_⟩
  · have h0 := o.h.old b0
    refine doH_spec h0.l (BS_old o.hv b0 (Nat.le_refl _)) ok.mb ok.hb ok.op ok.fb s.h fun w4 Fl4 c m4 t4 a4 => ?_
    obtain ⟨p4, T4⟩ := h0.setL m4 t4
    have a40 := a4
    obtain ⟨x, y, z, ec, hx, hy, hz, ho⟩ := a4
    obtain ⟨p1, c1, ex⟩ := BS_slice hx
    obtain ⟨p2, c2, ey⟩ := RowS_slice hy
    obtain ⟨p3, c3, ez⟩ := RowS_slice hz
    have z4 := t4.kp.size
    have z0 : W.drew.heap.size = W.heap.size := rfl
    have k4 : ∀ x, w.heap.size ≤ x → x < W.heap.size → bk w4 x = bk W x ∧ ¬ (uni Fb Fl4 pp qo).use x := fun x h1 h2 => by
      have hn := nu x h1 h2
      exact ⟨t4.kp.block x (by omega) fun e => hn (.inr (.inl (h0.l.sub _ e))), fun e => hn ((T4.st x (by omega)).2 e)⟩
    have ec' := ec
    rw [ex, ey, ez] at ec'
    rw [ec']
    simp (disch := first | omega | (simp only [sZb, sZa, sZd] <;> omega) | (simp (disch := first | omega | (simp only [sZb, sZa, sZd] <;> omega) | fail) only [go_sem]; done) | fail) only [go_sem, dec_t, dec_f, w_u32, w_u64, w_u16, w_u8, w_i64, Int.reduceToNat, Int.reducePow, Nat.reducePow]
    obtain ⟨w6, e6⟩ : ∃ w6, w6 = setb (w4.alloc (CB ansZ T.impl_Answer)) w4.heap.size (CB c T.impl_Answer) := ⟨_, rfl⟩
    have b46 : Below w4.heap.size w4 w6 := by rw [e6]; repeat (first | exact Below.refl _ _ | assumption | refine bel_setb ?_ (by first | exact Nat.le_refl _ | omega | (simp only [go_sem] <;> omega)) _ | refine Below.alloc ?_ (by first | exact Nat.le_refl _ | omega | (simp only [go_sem]; omega)) _ | refine Below.drew ?_)
    have h5 : bk w6 w4.heap.size = some (CB c T.impl_Answer) := by rw [e6]; exact bk_setb_eq _ _ _ _ rfl (by simp only [go_sem]; omega)
    have q1 : bk w6 w.heap.size = some (CB (stepC s v) T.impl_Step) := (bel_bk b46 (by omega)).trans ((k4 w.heap.size (by omega) (by omega)).1.trans sS)
    have q2 : bk w6 (w.heap.size + 1) = some (CB ansZ T.impl_Answer) := (bel_bk b46 (by omega)).trans ((k4 (w.heap.size + 1) (by omega) (by omega)).1.trans o.sA)
    have q3 : BS w6 v s.data := BS_old (BS_kpe (BS_old o.hv b0 (Nat.le_refl _)) t4.kp (o.hvo.imp id fun h b hb e => h b hb (.inr (.inl e)))) b46 (Nat.le_refl _)
    have q4 : AnsN w6 (w.heap.size + 2) (uni Fb Fl4 pp qo).use (p.layer.doS s.h s).2 c := ((a40.to (V := (uni Fb Fl4 pp qo).use) fun b h1 h2 hn e => by
      rcases e with e | e | e | e
      · have := h0.b.lt b e; omega
      · exact hn e
      · have := bk_lt h0.bp; omega
      · have := bk_lt h0.bo; omega).old b46).less (by omega)
    have g := cache_mid (w := w) (w6 := w6) (A5 := w4.heap.size) (F := F) (K := K) (s := s) (v := v) (c := c) (p4.old b46) ((o.t.after b0).trans (T4.after b46)) rfl hof hop ok1 ok2 q3 q1 q4 h5 (show w.heap.size + 1 < w4.heap.size by omega) (fun e => Nat.lt_irrefl _ (p4.lt _ e)) q2 (k4 (w.heap.size + 1) (by omega) (by omega)).2 hk
    rw [e6, ec'] at g
    simp only [A.impl_Step_0] at g
    exact g
  · obtain ⟨w5, e5⟩ : ∃ w5, w5 = (W.alloc (CB ansZ T.impl_Answer)).drew := ⟨_, rfl⟩
    have b5 : Below W.heap.size W w5 := by rw [e5]; repeat (first | exact Below.refl _ _ | assumption | refine bel_setb ?_ (by first | exact Nat.le_refl _ | omega | (simp only [go_sem] <;> omega)) _ | refine Below.alloc ?_ (by first | exact Nat.le_refl _ | omega | (simp only [go_sem]; omega)) _ | refine Below.drew ?_)
    have z5 : w5.heap.size = W.heap.size + 1 := by rw [e5]; simp only [go_sem]
    have r5 : bk w5 W.heap.size = some (CB ansZ T.impl_Answer) := by rw [e5]; show bk (W.alloc _) _ = _; exact bk_alloc_eq _ _ _ rfl
    have h0 := o.h.old b5
    have bp5 := h0.bp
    have sS5 := (bel_bk b5 (show w.heap.size < W.heap.size by omega)).trans sS
    have e5' : w5 = (W.alloc (CB [Value.int IntKind.i64 0, Value.int IntKind.i64 0, Value.int IntKind.i64 0, Value.slice none 0 0, Value.slice none 0 0, Value.slice none 0 0] T.impl_Answer)).drew := e5
    rw [← e5']
    simp (disch := first | omega | (simp only [sZb, sZa, sZd] <;> omega) | (simp (disch := first | omega | (simp only [sZb, sZa, sZd] <;> omega) | fail) only [go_sem, bp5, sS5, hv1]; done) | fail) only [go_sem, dec_t, dec_f, w_u32, w_u64, w_u16, w_u8, w_i64, Int.reduceToNat, Int.reducePow, Nat.reducePow, bp5, sS5, hv1]
    refine ⟨trivial, trivial, trivial, ?_⟩
    refine doH_spec h0.l (BS_old o.hv b5 (Nat.le_refl _)) ok.mb ok.hb ok.op ok.fb s.h fun w4 Fl4 c m4 t4 a4 => ?_
    obtain ⟨p4, T4⟩ := h0.setL m4 t4
    have a40 := a4
    obtain ⟨x, y, z, ec, hx, hy, hz, ho⟩ := a4
    obtain ⟨p1, c1, ex⟩ := BS_slice hx
    obtain ⟨p2, c2, ey⟩ := RowS_slice hy
    obtain ⟨p3, c3, ez⟩ := RowS_slice hz
    have z4 := t4.kp.size
    have nu5 : ∀ x, w.heap.size ≤ x → x < w5.heap.size → ¬ (uni Fb Fl pp qo).use x := fun x h1 h2 e => by
      by_cases hx : x < W.heap.size
      · exact nu x h1 hx e
      · have := o.h.lt x e; omega
    have k4 : ∀ x, w.heap.size ≤ x → x < w5.heap.size → bk w4 x = bk w5 x ∧ ¬ (uni Fb Fl4 pp qo).use x := fun x h1 h2 => by
      have hn := nu5 x h1 h2
      exact ⟨t4.kp.block x (by omega) fun e => hn (.inr (.inl (h0.l.sub _ e))), fun e => hn ((T4.st x (by omega)).2 e)⟩
    have ec' := ec
    rw [ex, ey, ez] at ec'
    rw [ec']
    have r4 := (k4 W.heap.size (by omega) (by omega)).1.trans r5
    simp (disch := first | omega | (simp only [sZb, sZa, sZd] <;> omega) | (simp (disch := first | omega | (simp only [sZb, sZa, sZd] <;> omega) | fail) only [go_sem, r4]; done) | fail) only [go_sem, dec_t, dec_f, w_u32, w_u64, w_u16, w_u8, w_i64, Int.reduceToNat, Int.reducePow, Nat.reducePow, r4]
    obtain ⟨w6, e6⟩ : ∃ w6, w6 = setb w4 W.heap.size (CB c T.impl_Answer) := ⟨_, rfl⟩
    have s46 : Kp w4 w6 (fun b => b = W.heap.size) := by rw [e6]; exact Kp.setb _ _ _
    have h5 : bk w6 W.heap.size = some (CB c T.impl_Answer) := by rw [e6]; exact bk_setb_eq _ _ _ _ rfl (by omega)
    have q1 : bk w6 w.heap.size = some (CB (stepC s v) T.impl_Step) := (s46.block _ (by omega) (by omega)).trans ((k4 w.heap.size (by omega) (by omega)).1.trans sS5)
    have q2 : bk w6 (w.heap.size + 1) = some (CB ansZ T.impl_Answer) := (s46.block _ (by omega) (by omega)).trans ((k4 (w.heap.size + 1) (by omega) (by omega)).1.trans ((bel_bk b5 (by omega)).trans o.sA))
    have q3 : BS w6 v s.data := by
      refine BS_kpe (BS_kpe (BS_old o.hv b5 (Nat.le_refl _)) t4.kp (o.hvo.imp id fun h b hb e => h b hb (.inr (.inl e)))) s46 ?_
      rcases BS_lt o.hv with h | h
      · exact .inl h
      · exact .inr fun b hb e => by have := h b hb; omega
    have q4 : AnsN w6 (w.heap.size + 2) (uni Fb Fl4 pp qo).use (p.layer.doS s.h s).2 c := ((a40.to (V := (uni Fb Fl4 pp qo).use) fun b h1 h2 hn e => by
      rcases e with e | e | e | e
      · have := h0.b.lt b e; omega
      · exact hn e
      · have := bk_lt h0.bp; omega
      · have := bk_lt h0.bo; omega).kp s46 fun b h1 _ _ e => by omega).less (by omega)
    have n5 := (k4 W.heap.size (by omega) (by omega)).2
    have p6 := p4.kp s46 fun x hx e => n5 (by rw [← e]; exact hx)
    have T6 : Tr w w6 F (uni Fb Fl4 pp qo) := by
      have T' := (o.t.after b5).trans T4
      exact ⟨T'.kp.trans s46 fun x hx e => by omega, T'.st⟩
    have g := cache_mid (w := w) (w6 := w6) (A5 := W.heap.size) (F := F) (K := K) (s := s) (v := v) (c := c) p6 T6 rfl hof hop ok1 ok2 q3 q1 q4 h5 (show w.heap.size + 1 < W.heap.size by omega) n5 q2 (k4 (w.heap.size + 1) (by omega) (by omega)).2 hk
    rw [e6, ec'] at g
    simp only [A.impl_Step_0] at g
    exact g
theorem cacheH_spec (h : PairS w B pp p F) (hv : BS w v s.data) (hvo : s.data = [] ∨ ∀ b, v.ownBlock = some b → ¬ F.own b) (hof : SM.ofGet p.of s.h = 3) (hop : s.op ≠ 19 ∧ s.op ≠ 20) (ok : DoOk p.layer s)
    (ok1 : s.op = 12 → DoOk p.base (s.skip (p.layer.doS s.h s).2.data.length)) (ok2 : s.op ≠ 12 → (p.layer.doS s.h s).2.e = 0 → DoOk p.base s) (hk : PairK w B pp F (p.cacheH s) K) : Cl P Fn.spec_Pair_cacheHandle #[pt pp 0, AG (stepC s v)] w K := by
  apply S_spec_Pair_cacheHandle
  unfold F_spec_Pair_cacheHandle
  obtain ⟨Fb, Fl, pb, pl, qo, ol, oc, h, rfl⟩ := h
  obtain ⟨W, eW, BW, zW, bS, bA⟩ := start_w w s v
  rw [oBox_agg, M.al_impl_Answer, eW, show (w.alloc (CB (stepC s v) T.impl_Step)).heap.size = w.heap.size + 1 by simp only [go_sem]]
  have o : PrS w W B pp p (uni Fb Fl pp qo) Fb Fl pb pl qo ol oc s v := ⟨h.old BW, Tr.of_below BW _, h.lt, bS, bA, BS_old hv BW (Nat.le_refl _), hvo⟩
  have o' : PrS w W.drew B pp p (uni Fb Fl pp qo) Fb Fl pb pl qo ol oc s v := ⟨o.h.old (by repeat (first | exact Below.refl _ _ | assumption | refine bel_setb ?_ (by first | exact Nat.le_refl _ | omega | (simp only [go_sem] <;> omega)) _ | refine Below.alloc ?_ (by first | exact Nat.le_refl _ | omega | (simp only [go_sem]; omega)) _ | refine Below.drew ?_)), o.t.after (by repeat (first | exact Below.refl _ _ | assumption | refine bel_setb ?_ (by first | exact Nat.le_refl _ | omega | (simp only [go_sem] <;> omega)) _ | refine Below.alloc ?_ (by first | exact Nat.le_refl _ | omega | (simp only [go_sem]; omega)) _ | refine Below.drew ?_)), h.lt, bS, bA, o.hv, hvo⟩
  have bp := o.h.bp
  have bo := o.h.bo
  have om := o.h.om s.h
  rw [hof] at om
  refine jn_with (fun t w' => w' = W.drew) ?_ ?_
  · rintro t e w1 rfl
    exact cache9 o' zW (fun x h1 h2 e => by have := h.lt x e; omega) hof hop ok ok1 ok2 hk
  · have c19 := hop.1
    have c20 := hop.2
    simp (disch := first | omega | (simp only [sZb, sZa, sZd] <;> omega) | (simp (disch := first | omega | (simp only [sZb, sZa, sZd] <;> omega) | fail) only [go_sem, bp, bS, luO_rd, bo, mlI_MO, optE_some, om]; done) | fail) only [go_sem, dec_t, dec_f, w_u32, w_u64, w_u16, w_u8, w_i64, Int.reduceToNat, Int.reducePow, Nat.reducePow, bp, bS, luO_rd, bo, mlI_MO, optE_some, om]
end
end Go.Proofs.YteblpejgenehfaaDoor.X
end
section
namespace Go.Proofs.YteblpejgenehfaaDoor.X
open Go Go.X Go.Proofs Go.RowKit
structure Wv (w W : World) (B pp : Nat) (q : SM.Pair) (F Fb Fl : Fp) (pb pl qo : Nat) (ol : ML Int) (oc : Nat) (s : SM.Stp) (v : Value) : Prop where
  h : PairX W B pp q Fb Fl pb pl qo ol oc
  t : Tr w W F (uni Fb Fl pp qo)
  hv : BS W v s.data
  hvo : s.data = [] ∨ ∀ b, v.ownBlock = some b → b < w.heap.size ∧ ¬ (uni Fb Fl pp qo).own b
section
variable {w W : World} {K : Value → World → Prop} {B pp : Nat} {q : SM.Pair} {F Fb Fl : Fp} {pb pl qo : Nat} {ol : ML Int} {oc : Nat} {s : SM.Stp} {v : Value}
theorem Wv.old (o : Wv w W B pp q F Fb Fl pb pl qo ol oc s v) {W' : World} (k : Below W.heap.size W W') : Wv w W' B pp q F Fb Fl pb pl qo ol oc s v :=
  ⟨o.h.old k, o.t.after k, BS_old o.hv k (Nat.le_refl _), o.hvo⟩
theorem Wv.set (o : Wv w W B pp q F Fb Fl pb pl qo ol oc s v) {A : Nat} (hA : w.heap.size ≤ A) (hn : ¬ (uni Fb Fl pp qo).use A) (x : Obj) : Wv w (setb W A x) B pp q F Fb Fl pb pl qo ol oc s v := by
  have k := Kp.setb W A x
  refine ⟨o.h.kp k fun y hy e => hn (by rw [← e]; exact hy), ⟨o.t.kp.trans k fun y hy e => by omega, o.t.st⟩, BS_kpe o.hv k (o.hvo.imp id fun h b hb e => by have := (h b hb).1; omega), o.hvo⟩
theorem Wv.doL (o : Wv w W B pp q F Fb Fl pb pl qo ol oc s v) (ok : DoOk q.layer s) {i : Int} {L : Value → World → Prop}
    (hk : ∀ W' Fl' c, Wv w W' B pp { q with layer := (q.layer.doS i s).1 } F Fb Fl' pb pl qo ol oc s v → W.heap.size ≤ W'.heap.size → (∀ x, x < W.heap.size → ¬ (uni Fb Fl pp qo).use x → bk W' x = bk W x ∧ ¬ (uni Fb Fl' pp qo).use x) → AnsN W' W.heap.size (uni Fb Fl' pp qo).use (q.layer.doS i s).2 c → L (AG c) W') : Cl P Fn.spec_Mem_Do #[pt pl 0, .int .i64 i, AG (stepC s v)] W L := by
  refine doH_spec o.h.l o.hv ok.mb ok.hb ok.op ok.fb i fun W' Fl' c h4 t4 a4 => ?_
  obtain ⟨p4, T4⟩ := o.h.setL h4 t4
  refine hk W' Fl' c ⟨p4, o.t.trans T4, BS_kpe o.hv t4.kp (o.hvo.imp id fun h b hb e => (h b hb).2 (.inr (.inl e))), o.hvo.imp id fun h b hb => ⟨(h b hb).1, fun e => (h b hb).2 ((T4.st b (Nat.lt_of_lt_of_le (h b hb).1 o.t.kp.size)).1 e)⟩⟩ t4.kp.size (fun x hx hn => ⟨t4.kp.block x hx fun e => hn (.inr (.inl (o.h.l.sub _ e))), fun e => hn ((T4.st x hx).2 e)⟩) (a4.to fun b h1 h2 hn e => ?_)
  rcases e with e | e | e | e
  · have := o.h.b.lt b e; omega
  · exact hn e
  · have := bk_lt o.h.bp; omega
  · have := bk_lt o.h.bo; omega
theorem Wv.doB (o : Wv w W B pp q F Fb Fl pb pl qo ol oc s v) (ok : DoOk q.base s) {i : Int} {L : Value → World → Prop}
    (hk : ∀ W' Fb' c, Wv w W' B pp { q with base := (q.base.doS i s).1 } F Fb' Fl pb pl qo ol oc s v → W.heap.size ≤ W'.heap.size → (∀ x, x < W.heap.size → ¬ (uni Fb Fl pp qo).use x → bk W' x = bk W x ∧ ¬ (uni Fb' Fl pp qo).use x) → (∀ lo (N : Nat → Prop) a c, AnsN W lo (fun b => (uni Fb Fl pp qo).use b ∨ N b) a c → AnsN W' lo (fun b => (uni Fb' Fl pp qo).use b ∨ N b) a c) → AnsN W' W.heap.size (uni Fb' Fl pp qo).use (q.base.doS i s).2 c → L (AG c) W') : Cl P Fn.spec_Mem_Do #[pt pb 0, .int .i64 i, AG (stepC s v)] W L := by
  refine doH_spec o.h.b o.hv ok.mb ok.hb ok.op ok.fb i fun W' Fb' c h4 t4 a4 => ?_
  obtain ⟨p4, T4⟩ := o.h.setB h4 t4
  refine hk W' Fb' c ⟨p4, o.t.trans T4, BS_kpe o.hv t4.kp (o.hvo.imp id fun h b hb e => (h b hb).2 (.inl e)), o.hvo.imp id fun h b hb => ⟨(h b hb).1, fun e => (h b hb).2 ((T4.st b (Nat.lt_of_lt_of_le (h b hb).1 o.t.kp.size)).1 e)⟩⟩ t4.kp.size (fun x hx hn => ⟨t4.kp.block x hx fun e => hn (.inl (o.h.b.sub _ e)), fun e => hn ((T4.st x hx).2 e)⟩) (fun lo N a c ha => ha.step t4.kp fun b h1 h2 hn => ⟨fun e => hn (.inl (.inl (o.h.b.sub _ e))), fun e => hn (e.imp (T4.st b h2).2 id)⟩) (a4.to fun b h1 h2 hn e => ?_)
  rcases e with e | e | e | e
  · exact hn e
  · have := o.h.l.lt b e; omega
  · have := bk_lt o.h.bp; omega
  · have := bk_lt o.h.bo; omega
end
end Go.Proofs.YteblpejgenehfaaDoor.X
end
section
namespace Go.Proofs.YteblpejgenehfaaDoor.X
open Go Go.X Go.Proofs Go.RowKit
section
variable {w W : World} {K : Value → World → Prop} {B pp : Nat} {q : SM.Pair} {F Fb Fl : Fp} {pb pl qo : Nat} {ol : ML Int} {oc : Nat} {s : SM.Stp} {v : Value}
structure Ws (w W : World) (B pp : Nat) (q : SM.Pair) (F Fb Fl : Fp) (pb pl qo : Nat) (ol : ML Int) (oc : Nat) (s : SM.Stp) (v : Value) : Prop where
  o : Wv w W B pp q F Fb Fl pb pl qo ol oc s v
  sS : bk W w.heap.size = some (CB (stepC s v) T.impl_Step)
  sA : bk W (w.heap.size + 1) = some (CB ansZ T.impl_Answer)
  nS : ¬ (uni Fb Fl pp qo).use w.heap.size
  nA : ¬ (uni Fb Fl pp qo).use (w.heap.size + 1)
  lw : w.heap.size + 2 ≤ W.heap.size
theorem Ws.old (o : Ws w W B pp q F Fb Fl pb pl qo ol oc s v) {W' : World} (k : Below W.heap.size W W') : Ws w W' B pp q F Fb Fl pb pl qo ol oc s v := by
  have := o.lw
  exact ⟨o.o.old k, (bel_bk k (by omega)).trans o.sS, (bel_bk k (by omega)).trans o.sA, o.nS, o.nA, Nat.le_trans o.lw k.size⟩
theorem Ws.holdS (o : Ws w W B pp q F Fb Fl pb pl qo ol oc s v) : hold P (oLoad T.impl_Step (pt w.heap.size 0)) (AG (stepC s v)) W := by
  have h := o.sS
  have hv1 := BS_one' o.o.hv
  simp (disch := first | omega | (simp only [sZb, sZa, sZd] <;> omega) | (simp (disch := first | omega | (simp only [sZb, sZa, sZd] <;> omega) | fail) only [go_sem, h, hv1]; done) | fail) only [go_sem, dec_t, dec_f, w_u32, w_u64, w_u16, w_u8, w_i64, Int.reduceToNat, Int.reducePow, Nat.reducePow, h, hv1]
theorem Ws.holdH (o : Ws w W B pp q F Fb Fl pb pl qo ol oc s v) : hold P (oLoad T.int (.pointer (some ⟨w.heap.size, 0 + 5, none⟩))) (.int .i64 s.h) W := by
  have h := o.sS
  simp (disch := first | omega | (simp only [sZb, sZa, sZd] <;> omega) | (simp (disch := first | omega | (simp only [sZb, sZa, sZd] <;> omega) | fail) only [go_sem, h]; done) | fail) only [go_sem, dec_t, dec_f, w_u32, w_u64, w_u16, w_u8, w_i64, Int.reduceToNat, Int.reducePow, Nat.reducePow, h]
theorem Ws.holdB (o : Ws w W B pp q F Fb Fl pb pl qo ol oc s v) : hold P (oLoad T.p_spec_Mem (.pointer (some ⟨pp, 0 + 0, none⟩))) (pt pb 0) W := by
  have h := o.o.h.bp
  simp (disch := first | omega | (simp only [sZb, sZa, sZd] <;> omega) | (simp (disch := first | omega | (simp only [sZb, sZa, sZd] <;> omega) | fail) only [go_sem, h]; done) | fail) only [go_sem, dec_t, dec_f, w_u32, w_u64, w_u16, w_u8, w_i64, Int.reduceToNat, Int.reducePow, Nat.reducePow, h]
theorem Ws.holdL (o : Ws w W B pp q F Fb Fl pb pl qo ol oc s v) : hold P (oLoad T.p_spec_Mem (.pointer (some ⟨pp, 0 + 1, none⟩))) (pt pl 0) W := by
  have h := o.o.h.bp
  simp (disch := first | omega | (simp only [sZb, sZa, sZd] <;> omega) | (simp (disch := first | omega | (simp only [sZb, sZa, sZd] <;> omega) | fail) only [go_sem, h]; done) | fail) only [go_sem, dec_t, dec_f, w_u32, w_u64, w_u16, w_u8, w_i64, Int.reduceToNat, Int.reducePow, Nat.reducePow, h]
theorem storeA {A : Nat} {lo : Nat} {U : Nat → Prop} {a : SM.Ans} {c : List Value} {L : Value → World → Prop} (ha : AnsN W lo U a c) (hb : bk W A = some (CB ansZ T.impl_Answer)) : st P (oStore T.impl_Answer (pt A 0) (AG c)) W L = L undef (setb W A (CB c T.impl_Answer)) := by
  obtain ⟨x, y, z, rfl, hx, hy, hz, _⟩ := ha
  obtain ⟨p1, c1, rfl⟩ := BS_slice hx
  obtain ⟨p2, c2, rfl⟩ := RowS_slice hy
  obtain ⟨p3, c3, rfl⟩ := RowS_slice hz
  simp (disch := first | omega | (simp only [sZb, sZa, sZd] <;> omega) | (simp (disch := first | omega | (simp only [sZb, sZa, sZd] <;> omega) | fail) only [go_sem, hb]; done) | fail) only [go_sem, dec_t, dec_f, w_u32, w_u64, w_u16, w_u8, w_i64, Int.reduceToNat, Int.reducePow, Nat.reducePow, hb]
theorem Ws.alloc (o : Ws w W B pp q F Fb Fl pb pl qo ol oc s v) {L : Value → World → Prop}
    (hk : ∀ W', Ws w W' B pp q F Fb Fl pb pl qo ol oc s v → W'.heap.size = W.heap.size + 1 → bk W' W.heap.size = some (CB ansZ T.impl_Answer) → ¬ (uni Fb Fl pp qo).use W.heap.size → (∀ x, x < W.heap.size → bk W' x = bk W x) → (∀ lo U a c, AnsN W lo U a c → AnsN W' lo (fun x => U x ∨ x = W.heap.size) a c) → L (pt W.heap.size 0) W') : st P (oAlloc T.impl_Answer) W L := by
  rw [M.al_impl_Answer]
  have k : Below W.heap.size W (W.alloc (CB ansZ T.impl_Answer)) := by repeat (first | exact Below.refl _ _ | assumption | refine bel_setb ?_ (by first | exact Nat.le_refl _ | omega | (simp only [go_sem] <;> omega)) _ | refine Below.alloc ?_ (by first | exact Nat.le_refl _ | omega | (simp only [go_sem]; omega)) _ | refine Below.drew ?_)
  refine hk _ (o.old k) (by simp only [go_sem]) (bk_alloc_eq _ _ _ rfl) (fun e => Nat.lt_irrefl _ (o.o.h.lt _ e)) (fun x hx => bel_bk k hx) fun lo U a c ha => (ha.to (V := fun x => U x ∨ x = W.heap.size) fun b h1 h2 hn e => ?_).old k
  rcases e with e | e
  · exact hn e
  · omega
theorem Ws.set (o : Ws w W B pp q F Fb Fl pb pl qo ol oc s v) {A : Nat} (hA : w.heap.size + 2 ≤ A) (hn : ¬ (uni Fb Fl pp qo).use A) (x : Obj) : Ws w (setb W A x) B pp q F Fb Fl pb pl qo ol oc s v :=
  ⟨o.o.set (by omega) hn x, by rw [bk_setb_ne _ _ _ _ (by omega)]; exact o.sS, by rw [bk_setb_ne _ _ _ _ (by omega)]; exact o.sA, o.nS, o.nA, by rw [sZb]; exact o.lw⟩
theorem Ws.doL (o : Ws w W B pp q F Fb Fl pb pl qo ol oc s v) (ok : DoOk q.layer s) {i : Int} {L : Value → World → Prop}
    (hk : ∀ W' Fl' c, Ws w W' B pp { q with layer := (q.layer.doS i s).1 } F Fb Fl' pb pl qo ol oc s v → W.heap.size ≤ W'.heap.size → (∀ x, x < W.heap.size → ¬ (uni Fb Fl pp qo).use x → bk W' x = bk W x ∧ ¬ (uni Fb Fl' pp qo).use x) → AnsN W' W.heap.size (uni Fb Fl' pp qo).use (q.layer.doS i s).2 c → L (AG c) W') : Cl P Fn.spec_Mem_Do #[pt pl 0, .int .i64 i, AG (stepC s v)] W L := by
  have lw := o.lw
  refine o.o.doL ok fun W' Fl' c o' hs hb ha => hk W' Fl' c ⟨o', ?_, ?_, (hb _ (by omega) o.nS).2, (hb _ (by omega) o.nA).2, by omega⟩ hs hb ha
  · rw [(hb _ (by omega) o.nS).1]; exact o.sS
  · rw [(hb _ (by omega) o.nA).1]; exact o.sA
theorem Ws.doB (o : Ws w W B pp q F Fb Fl pb pl qo ol oc s v) (ok : DoOk q.base s) {i : Int} {L : Value → World → Prop}
    (hk : ∀ W' Fb' c, Ws w W' B pp { q with base := (q.base.doS i s).1 } F Fb' Fl pb pl qo ol oc s v → W.heap.size ≤ W'.heap.size → (∀ x, x < W.heap.size → ¬ (uni Fb Fl pp qo).use x → bk W' x = bk W x ∧ ¬ (uni Fb' Fl pp qo).use x) → (∀ lo (N : Nat → Prop) a c, AnsN W lo (fun b => (uni Fb Fl pp qo).use b ∨ N b) a c → AnsN W' lo (fun b => (uni Fb' Fl pp qo).use b ∨ N b) a c) → AnsN W' W.heap.size (uni Fb' Fl pp qo).use (q.base.doS i s).2 c → L (AG c) W') : Cl P Fn.spec_Mem_Do #[pt pb 0, .int .i64 i, AG (stepC s v)] W L := by
  have lw := o.lw
  refine o.o.doB ok fun W' Fb' c o' hs hb ht ha => hk W' Fb' c ⟨o', ?_, ?_, (hb _ (by omega) o.nS).2, (hb _ (by omega) o.nA).2, by omega⟩ hs hb ht ha
  · rw [(hb _ (by omega) o.nS).1]; exact o.sS
  · rw [(hb _ (by omega) o.nA).1]; exact o.sA
theorem wov_fin {q' : SM.Pair} {a : SM.Ans} {c : List Value} {A : Nat} {Z : List Value → Env → World → Prop} (o : Ws w W B pp q' F Fb Fl pb pl qo ol oc s v) (hA : w.heap.size + 2 ≤ A) (h5 : bk W A = some (CB c T.impl_Answer)) (ha : AnsN W (w.heap.size + 2) (uni Fb Fl pp qo).use a c) (he : a.e ≠ 0) (hk : PairK w B pp F (q', a) K) :
    jn Z fun k1 => pu P (oFldA T.impl_Answer (pt A 0) 0) fun t32 =>
      st P (oLoad T.int t32) W fun t33 w52 =>
      pu P (oBin .neq T.int false true t33 (.int .i64 0)) fun t34 =>
      cd t34 (
        st P (oLoad T.impl_Answer (pt A 0)) w52 fun t35 w53 =>
        st P (oStore T.impl_Answer (pt (w.heap.size + 1) 0) t35) w53 fun _ w54 =>
        rsl P T.impl_Answer (pt (w.heap.size + 1) 0) w54 fun r2 =>
        K (tup [r2]) w54) (
        k1 [] w52) := by
  refine jn_with (fun _ _ => False) (fun _ _ _ h => h.elim) ?_
  have ha0 := ha
  obtain ⟨x, y, z, rfl, hx, hy, hz, _⟩ := ha
  obtain ⟨p1, c1, rfl⟩ := BS_slice hx
  obtain ⟨p2, c2, rfl⟩ := RowS_slice hy
  obtain ⟨p3, c3, rfl⟩ := RowS_slice hz
  have h4 := o.sA
  have l4 := bk_lt h4
  simp (disch := first | omega | (simp only [sZb, sZa, sZd] <;> omega) | (simp (disch := first | omega | (simp only [sZb, sZa, sZd] <;> omega) | fail) only [go_sem, h5, h4]; done) | fail) only [go_sem, dec_t, dec_f, w_u32, w_u64, w_u16, w_u8, w_i64, Int.reduceToNat, Int.reducePow, Nat.reducePow, h5, h4]
  generalize hO : CB [.int .i64 a.e, _, _, _, _, _] T.impl_Answer = O
  have s2 := Kp.setb W (w.heap.size + 1) O
  refine hk _ _ _ ((o.o.h.kp s2 fun x hx e => o.nA (by rw [← e]; exact hx)).S) ⟨o.o.t.kp.trans s2 fun x hx e => by omega, o.o.t.st⟩ ?_
  exact (ha0.kp s2 fun b h1 h2 _ e => by omega).less (by omega)
structure Wq (w W : World) (B pp : Nat) (q : SM.Pair) (F Fb Fl : Fp) (pb pl qo : Nat) (ol : ML Int) (oc : Nat) (s : SM.Stp) (v : Value) (az : List (SM.Ans × List Value)) (al : List Nat) : Prop where
  o : Ws w W B pp q F Fb Fl pb pl qo ol oc s v
  ha : ∀ x ∈ az, AnsN W (w.heap.size + 2) (fun b => (uni Fb Fl pp qo).use b ∨ b ∈ al) x.1 x.2
  hb : ∀ A ∈ al, w.heap.size + 2 ≤ A ∧ A < W.heap.size ∧ bk W A = some (CB ansZ T.impl_Answer) ∧ ¬ (uni Fb Fl pp qo).use A
section
variable {az : List (SM.Ans × List Value)} {al : List Nat}
theorem Wq.alloc (o : Wq w W B pp q F Fb Fl pb pl qo ol oc s v az al) {L : Value → World → Prop}
    (hk : ∀ W', Wq w W' B pp q F Fb Fl pb pl qo ol oc s v az (W.heap.size :: al) → (∀ A ∈ al, A ≠ W.heap.size) → L (pt W.heap.size 0) W') : st P (oAlloc T.impl_Answer) W L := by
  have lw := o.o.lw
  refine o.o.alloc fun W' o' z' b' n' hx ha => hk W' ⟨o', fun x hx => ?_, fun A hA => ?_⟩ fun A hA => by have := (o.hb A hA).2.1; omega
  · refine (ha _ _ _ _ (o.ha x hx)).to fun b h1 h2 hn e => hn ?_
    rcases e with e | e
    · exact .inl (.inl e)
    · rcases List.mem_cons.1 e with e | e
      · exact .inr e
      · exact .inl (.inr e)
  · rcases List.mem_cons.1 hA with rfl | hA
    · exact ⟨lw, by omega, b', n'⟩
    · obtain ⟨h1, h2, h3, h4⟩ := o.hb A hA
      exact ⟨h1, by omega, by rw [hx A h2]; exact h3, h4⟩
theorem Wq.doL (o : Wq w W B pp q F Fb Fl pb pl qo ol oc s v [] al) (ok : DoOk q.layer s) {i : Int} {L : Value → World → Prop}
    (hk : ∀ W' Fl' c, Wq w W' B pp { q with layer := (q.layer.doS i s).1 } F Fb Fl' pb pl qo ol oc s v [((q.layer.doS i s).2, c)] al → L (AG c) W') : st P (oCall Fn.spec_Mem_Do #[pt pl 0, .int .i64 i, AG (stepC s v)]) W L := by
  rw [C.spec_Mem_Do]
  have lw := o.o.lw
  refine o.o.doL ok fun W' Fl' c o' hs hb ha => hk W' Fl' c ⟨o', fun x hx => ?_, fun A hA => ?_⟩
  · rw [List.mem_singleton] at hx
    subst hx
    refine (ha.to fun b h1 h2 hn e => ?_).less (by omega)
    rcases e with e | e
    · exact hn e
    · have := (o.hb b e).2.1; omega
  · obtain ⟨h1, h2, h3, h4⟩ := o.hb A hA
    obtain ⟨g1, g2⟩ := hb A h2 h4
    exact ⟨h1, by omega, by rw [g1]; exact h3, g2⟩
theorem Wq.doB (o : Wq w W B pp q F Fb Fl pb pl qo ol oc s v az al) (ok : DoOk q.base s) {i : Int} {L : Value → World → Prop}
    (hk : ∀ W' Fb' c, Wq w W' B pp { q with base := (q.base.doS i s).1 } F Fb' Fl pb pl qo ol oc s v (((q.base.doS i s).2, c) :: az) al → L (AG c) W') : st P (oCall Fn.spec_Mem_Do #[pt pb 0, .int .i64 i, AG (stepC s v)]) W L := by
  rw [C.spec_Mem_Do]
  have lw := o.o.lw
  refine o.o.doB ok fun W' Fb' c o' hs hb ht ha => hk W' Fb' c ⟨o', fun x hx => ?_, fun A hA => ?_⟩
  · rcases List.mem_cons.1 hx with rfl | hx
    · refine (ha.to fun b h1 h2 hn e => ?_).less (by omega)
      rcases e with e | e
      · exact hn e
      · have := (o.hb b e).2.1; omega
    · exact ht _ _ _ _ (o.ha x hx)
  · obtain ⟨h1, h2, h3, h4⟩ := o.hb A hA
    obtain ⟨g1, g2⟩ := hb A h2 h4
    exact ⟨h1, by omega, by rw [g1]; exact h3, g2⟩
structure Wf (w W : World) (B pp : Nat) (q : SM.Pair) (F Fb Fl : Fp) (pb pl qo : Nat) (ol : ML Int) (oc : Nat) (s : SM.Stp) (v : Value) (a b : SM.Ans) (c d : List Value) (A5 A6 : Nat) : Prop where
  o : Ws w W B pp q F Fb Fl pb pl qo ol oc s v
  h5 : bk W A5 = some (CB c T.impl_Answer)
  h6 : bk W A6 = some (CB d T.impl_Answer)
  l5 : w.heap.size + 2 ≤ A5
  l6 : w.heap.size + 2 ≤ A6
  n5 : ¬ (uni Fb Fl pp qo).use A5
  n6 : ¬ (uni Fb Fl pp qo).use A6
  ne : A5 ≠ A6
  ha : AnsN W (w.heap.size + 2) (fun b => (uni Fb Fl pp qo).use b ∨ b = A5 ∨ b = A6) a c
  hb : AnsN W (w.heap.size + 2) (fun b => (uni Fb Fl pp qo).use b ∨ b = A5 ∨ b = A6) b d
theorem Wq.fin (o : Wq w W B pp q F Fb Fl pb pl qo ol oc s v az al) {a b : SM.Ans} {c d : List Value} {A5 A6 : Nat} (h1 : (a, c) ∈ az) (h2 : (b, d) ∈ az) (h3 : A5 ∈ al) (h4 : A6 ∈ al) (hne : A5 ≠ A6) {T' : World → Prop}
    (hT : ∀ W', Wf w W' B pp q F Fb Fl pb pl qo ol oc s v a b c d A5 A6 → T' W') :
    st P (oStore T.impl_Answer (pt A5 0) (AG c)) W fun _ w7 => st P (oStore T.impl_Answer (pt A6 0) (AG d)) w7 fun _ w8 => T' w8 := by
  obtain ⟨g1, g2, g3, g4⟩ := o.hb A5 h3
  obtain ⟨k1, k2, k3, k4⟩ := o.hb A6 h4
  have ga := o.ha _ h1
  have gb := o.ha _ h2
  rw [storeA ga g3]
  have s1 := Kp.setb W A5 (CB c T.impl_Answer)
  have o1 := o.o.set g1 g4 (CB c T.impl_Answer)
  have ga1 := ga.kp s1 fun b _ _ hn e => hn (.inr (by rw [e]; exact h3))
  have gb1 := gb.kp s1 fun b _ _ hn e => hn (.inr (by rw [e]; exact h3))
  have k31 : bk (setb W A5 (CB c T.impl_Answer)) A6 = some (CB ansZ T.impl_Answer) := by rw [bk_setb_ne _ _ _ _ hne.symm]; exact k3
  have g31 : bk (setb W A5 (CB c T.impl_Answer)) A5 = some (CB c T.impl_Answer) := bk_setb_eq _ _ _ _ rfl (by omega)
  generalize setb W A5 (CB c T.impl_Answer) = W1 at *
  rw [storeA gb1 k31]
  have s2 := Kp.setb W1 A6 (CB d T.impl_Answer)
  have o2 := o1.set k1 k4 (CB d T.impl_Answer)
  refine hT _ ⟨o2, by rw [bk_setb_ne _ _ _ _ hne]; exact g31, bk_setb_eq _ _ _ _ rfl (bk_lt k31), g1, k1, g4, k4, hne, ?_, ?_⟩
  · refine (ga1.kp s2 fun b _ _ hn e => hn (.inr (by rw [e]; exact h4))).to fun b _ _ hn e => hn ?_
    rcases e with e | e | e
    · exact .inl e
    · exact .inr (by rw [e]; exact h3)
    · exact .inr (by rw [e]; exact h4)
  · refine (gb1.kp s2 fun b _ _ hn e => hn (.inr (by rw [e]; exact h4))).to fun b _ _ hn e => hn ?_
    rcases e with e | e | e
    · exact .inl e
    · exact .inr (by rw [e]; exact h3)
    · exact .inr (by rw [e]; exact h4)
end
def WT (t4 t5 t6 : Value) (K : Value → World → Prop) (w8 : World) : Prop :=
  jn (J_spec_Pair_woven_9 t4 K t5 t6) fun k1 =>
  pu P (oFldA T.impl_Answer t5 0) fun t32 =>
  st P (oLoad T.int t32) w8 fun t33 w52 =>
  pu P (oBin .neq T.int false true t33 (.int .i64 0)) fun t34 =>
  cd t34 (
    st P (oLoad T.impl_Answer t5) w52 fun t35 w53 =>
    st P (oStore T.impl_Answer t4 t35) w53 fun _ w54 =>
    rsl P T.impl_Answer t4 w54 fun r2 =>
    K (tup [r2]) w54) (
    k1 [] w52)
set_option maxHeartbeats 4000000 in
theorem woven_gen (h : PairS w B pp q F) (hv : BS w v s.data) (hvo : s.data = [] ∨ ∀ b, v.ownBlock = some b → ¬ F.own b) (okl : DoOk q.layer s) (okb : DoOk q.base s)
    (hT : ∀ W Fb Fl pb pl qo ol oc c d A5 A6, Wf w W B pp { base := (q.base.doS s.h s).1, layer := (q.layer.doS s.h s).1, of := q.of } F Fb Fl pb pl qo ol oc s v (q.layer.doS s.h s).2 (q.base.doS s.h s).2 c d A5 A6 → WT (pt (w.heap.size + 1) 0) (pt A5 0) (pt A6 0) K W) : Cl P Fn.spec_Pair_woven #[pt pp 0, AG (stepC s v)] w K := by
  apply S_spec_Pair_woven
  unfold F_spec_Pair_woven
  obtain ⟨Fb, Fl, pb, pl, qo, ol, oc, h, rfl⟩ := h
  obtain ⟨W, eW, BW, zW, bS, bA⟩ := start_w w s v
  rw [oBox_agg, M.al_impl_Answer, eW, show (w.alloc (CB (stepC s v) T.impl_Step)).heap.size = w.heap.size + 1 by simp only [go_sem]]
  have o0 : Wv w W B pp q (uni Fb Fl pp qo) Fb Fl pb pl qo ol oc s v := ⟨h.old BW, Tr.of_below BW _, BS_old hv BW (Nat.le_refl _), (by
    rcases BS_lt hv with e | e
    · exact .inl e
    · exact hvo.imp id fun g b hb => ⟨by have := e b hb; omega, g b hb⟩)⟩
  have bp := o0.h.bp
  have hv1 := BS_one' hv
  have nlt : ∀ x, w.heap.size ≤ x → ¬ (uni Fb Fl pp qo).use x := fun x hx e => by have := h.lt x e; omega
  have o : Wq w W.drew B pp q (uni Fb Fl pp qo) Fb Fl pb pl qo ol oc s v [] [] := ⟨⟨o0.old (W' := W.drew) (by repeat (first | exact Below.refl _ _ | assumption | refine bel_setb ?_ (by first | exact Nat.le_refl _ | omega | (simp only [go_sem] <;> omega)) _ | refine Below.alloc ?_ (by first | exact Nat.le_refl _ | omega | (simp only [go_sem]; omega)) _ | refine Below.drew ?_)), bS, bA, nlt _ (Nat.le_refl _), nlt _ (by omega), by show _ ≤ W.heap.size; omega⟩, (fun x hx => by cases hx), (fun x hx => by cases hx)⟩
  have rL : ∀ L : Value → Prop, rd P (oLoad T.p_spec_Mem (.pointer (some ⟨pp, 0 + 1, none⟩))) W.drew L = L (pt pl 0) := fun L => by
    simp (disch := first | omega | (simp only [sZb, sZa, sZd] <;> omega) | (simp (disch := first | omega | (simp only [sZb, sZa, sZd] <;> omega) | fail) only [go_sem, bp]; done) | fail) only [go_sem, dec_t, dec_f, w_u32, w_u64, w_u16, w_u8, w_i64, Int.reduceToNat, Int.reducePow, Nat.reducePow, bp]
  have rB : ∀ L : Value → Prop, rd P (oLoad T.p_spec_Mem (.pointer (some ⟨pp, 0 + 0, none⟩))) W.drew L = L (pt pb 0) := fun L => by
    simp (disch := first | omega | (simp only [sZb, sZa, sZd] <;> omega) | (simp (disch := first | omega | (simp only [sZb, sZa, sZd] <;> omega) | fail) only [go_sem, bp]; done) | fail) only [go_sem, dec_t, dec_f, w_u32, w_u64, w_u16, w_u8, w_i64, Int.reduceToNat, Int.reducePow, Nat.reducePow, bp]
  have rH : ∀ L : Value → Prop, rd P (oLoad T.int (.pointer (some ⟨w.heap.size, 0 + 5, none⟩))) W.drew L = L (.int .i64 s.h) := fun L => by
    simp (disch := first | omega | (simp only [sZb, sZa, sZd] <;> omega) | (simp (disch := first | omega | (simp only [sZb, sZa, sZd] <;> omega) | fail) only [go_sem, bS]; done) | fail) only [go_sem, dec_t, dec_f, w_u32, w_u64, w_u16, w_u8, w_i64, Int.reduceToNat, Int.reducePow, Nat.reducePow, bS]
  have rS : ∀ L : Value → Prop, rd P (oLoad T.impl_Step (pt w.heap.size 0)) W.drew L = L (AG (stepC s v)) := fun L => by
    simp (disch := first | omega | (simp only [sZb, sZa, sZd] <;> omega) | (simp (disch := first | omega | (simp only [sZb, sZa, sZd] <;> omega) | fail) only [go_sem, bS, hv1]; done) | fail) only [go_sem, dec_t, dec_f, w_u32, w_u64, w_u16, w_u8, w_i64, Int.reduceToNat, Int.reducePow, Nat.reducePow, bS, hv1]
  rw [oNil_ptr, A.spec_Pair_1, rL, A.impl_Step_5, rH, rS, oNil_ptr, A.spec_Pair_0, rB, A.impl_Step_5, rH, rS]
  have m0 : ∀ {α : Type} (x : α) (l : List α), x ∈ x :: l := fun x l => List.mem_cons_self
  have m1 : ∀ {α : Type} (x y : α) (l : List α), x ∈ y :: x :: l := fun x y l => List.mem_cons_of_mem _ List.mem_cons_self
  refine ⟨?_, ?_, ?_⟩
  · refine o.doL okl fun W1 Fl1 c o1 => ?_
    refine ⟨o1.o.holdS, o1.o.holdH, o1.o.holdB, ?_, ?_, ?_⟩
    · refine o1.doB okb fun W2 Fb2 d o2 => ?_
      refine ⟨?_, ?_⟩
      · refine o2.alloc fun W3 o3 _ => ?_
        refine o3.alloc fun W4 o4 n4 => ?_
        exact o4.fin (m1 _ _ _) (m0 _ _) (m1 _ _ _) (m0 _ _) (n4 _ (m0 _ _)) fun W' hf => hT _ _ _ _ _ _ _ _ _ _ _ _ hf
      · refine o2.alloc fun W3 o3 _ => ?_
        refine o3.alloc fun W4 o4 n4 => ?_
        exact o4.fin (m1 _ _ _) (m0 _ _) (m0 _ _) (m1 _ _ _) (n4 _ (m0 _ _)).symm fun W' hf => hT _ _ _ _ _ _ _ _ _ _ _ _ hf
    · refine o1.alloc fun W2 o2 _ => ?_
      refine ⟨o2.o.holdS, o2.o.holdH, o2.o.holdB, ?_, ?_⟩
      · refine o2.doB okb fun W3 Fb3 d o3 => ?_
        refine o3.alloc fun W4 o4 n4 => ?_
        exact o4.fin (m1 _ _ _) (m0 _ _) (m1 _ _ _) (m0 _ _) (n4 _ (m0 _ _)) fun W' hf => hT _ _ _ _ _ _ _ _ _ _ _ _ hf
      · refine o2.alloc fun W3 o3 n3 => ?_
        refine ⟨o3.o.holdS, o3.o.holdH, o3.o.holdB, ?_⟩
        refine o3.doB okb fun W4 Fb4 d o4 => ?_
        exact o4.fin (m1 _ _ _) (m0 _ _) (m1 _ _ _) (m0 _ _) (n3 _ (m0 _ _)) fun W' hf => hT _ _ _ _ _ _ _ _ _ _ _ _ hf
    · refine o1.alloc fun W2 o2 _ => ?_
      refine ⟨o2.o.holdS, o2.o.holdH, o2.o.holdB, ?_, ?_⟩
      · refine o2.doB okb fun W3 Fb3 d o3 => ?_
        refine o3.alloc fun W4 o4 n4 => ?_
        exact o4.fin (m1 _ _ _) (m0 _ _) (m0 _ _) (m1 _ _ _) (n4 _ (m0 _ _)).symm fun W' hf => hT _ _ _ _ _ _ _ _ _ _ _ _ hf
      · refine o2.alloc fun W3 o3 n3 => ?_
        refine ⟨o3.o.holdS, o3.o.holdH, o3.o.holdB, ?_⟩
        refine o3.doB okb fun W4 Fb4 d o4 => ?_
        exact o4.fin (m1 _ _ _) (m0 _ _) (m0 _ _) (m1 _ _ _) (n3 _ (m0 _ _)).symm fun W' hf => hT _ _ _ _ _ _ _ _ _ _ _ _ hf
  · refine o.alloc fun W1 o1 _ => ?_
    refine ⟨o1.o.holdS, o1.o.holdH, o1.o.holdB, o1.o.holdS, o1.o.holdH, o1.o.holdL, ?_, ?_⟩
    · refine o1.doL okl fun W2 Fl2 c o2 => ?_
      refine ⟨o2.o.holdS, o2.o.holdH, o2.o.holdB, ?_, ?_⟩
      · refine o2.doB okb fun W3 Fb3 d o3 => ?_
        refine o3.alloc fun W4 o4 n4 => ?_
        exact o4.fin (m1 _ _ _) (m0 _ _) (m1 _ _ _) (m0 _ _) (n4 _ (m0 _ _)) fun W' hf => hT _ _ _ _ _ _ _ _ _ _ _ _ hf
      · refine o2.alloc fun W3 o3 n3 => ?_
        refine ⟨o3.o.holdS, o3.o.holdH, o3.o.holdB, ?_⟩
        refine o3.doB okb fun W4 Fb4 d o4 => ?_
        exact o4.fin (m1 _ _ _) (m0 _ _) (m1 _ _ _) (m0 _ _) (n3 _ (m0 _ _)) fun W' hf => hT _ _ _ _ _ _ _ _ _ _ _ _ hf
    · refine o1.alloc fun W2 o2 n2 => ?_
      refine ⟨o2.o.holdS, o2.o.holdH, o2.o.holdB, o2.o.holdS, o2.o.holdH, o2.o.holdL, ?_⟩
      refine o2.doL okl fun W3 Fl3 c o3 => ?_
      refine ⟨o3.o.holdS, o3.o.holdH, o3.o.holdB, ?_⟩
      refine o3.doB okb fun W4 Fb4 d o4 => ?_
      exact o4.fin (m1 _ _ _) (m0 _ _) (m1 _ _ _) (m0 _ _) (n2 _ (m0 _ _)) fun W' hf => hT _ _ _ _ _ _ _ _ _ _ _ _ hf
  · refine o.alloc fun W1 o1 _ => ?_
    refine ⟨o1.o.holdS, o1.o.holdH, o1.o.holdB, o1.o.holdS, o1.o.holdH, o1.o.holdL, ?_, ?_⟩
    · refine o1.doL okl fun W2 Fl2 c o2 => ?_
      refine ⟨o2.o.holdS, o2.o.holdH, o2.o.holdB, ?_, ?_⟩
      · refine o2.doB okb fun W3 Fb3 d o3 => ?_
        refine o3.alloc fun W4 o4 n4 => ?_
        exact o4.fin (m1 _ _ _) (m0 _ _) (m0 _ _) (m1 _ _ _) (n4 _ (m0 _ _)).symm fun W' hf => hT _ _ _ _ _ _ _ _ _ _ _ _ hf
      · refine o2.alloc fun W3 o3 n3 => ?_
        refine ⟨o3.o.holdS, o3.o.holdH, o3.o.holdB, ?_⟩
        refine o3.doB okb fun W4 Fb4 d o4 => ?_
        exact o4.fin (m1 _ _ _) (m0 _ _) (m0 _ _) (m1 _ _ _) (n3 _ (m0 _ _)).symm fun W' hf => hT _ _ _ _ _ _ _ _ _ _ _ _ hf
    · refine o1.alloc fun W2 o2 n2 => ?_
      refine ⟨o2.o.holdS, o2.o.holdH, o2.o.holdB, o2.o.holdS, o2.o.holdH, o2.o.holdL, ?_⟩
      refine o2.doL okl fun W3 Fl3 c o3 => ?_
      refine ⟨o3.o.holdS, o3.o.holdH, o3.o.holdB, ?_⟩
      refine o3.doB okb fun W4 Fb4 d o4 => ?_
      exact o4.fin (m1 _ _ _) (m0 _ _) (m0 _ _) (m1 _ _ _) (n2 _ (m0 _ _)).symm fun W' hf => hT _ _ _ _ _ _ _ _ _ _ _ _ hf
theorem woven_err (h : PairS w B pp q F) (hv : BS w v s.data) (hvo : s.data = [] ∨ ∀ b, v.ownBlock = some b → ¬ F.own b) (okl : DoOk q.layer s) (okb : DoOk q.base s) (he : (q.layer.doS s.h s).2.e ≠ 0) (hk : PairK w B pp F (q.wovenS s) K) : Cl P Fn.spec_Pair_woven #[pt pp 0, AG (stepC s v)] w K := by
  refine woven_gen h hv hvo okl okb fun W Fb Fl pb pl qo ol oc c d A5 A6 hf => ?_
  unfold WT
  refine wov_fin hf.o hf.l5 hf.h5 (hf.ha.to fun b _ _ hn e => hn (.inl e)) he ?_
  have e : q.wovenS s = ({ base := (q.base.doS s.h s).1, layer := (q.layer.doS s.h s).1, of := q.of }, (q.layer.doS s.h s).2) := by
    unfold SM.Pair.wovenS
    rw [if_pos he]
  rw [e] at hk
  exact hk
end
end Go.Proofs.YteblpejgenehfaaDoor.X
end
section
namespace Go.Proofs.YteblpejgenehfaaDoor.X
open Go Go.X Go.Proofs Go.RowKit
section
variable {w W : World} {K : Value → World → Prop} {B pp : Nat} {p : SM.Pair} {F Fb Fl : Fp} {pb pl qo : Nat} {ol : ML Int} {oc : Nat} {s : SM.Stp} {v : Value}
theorem ans_ret {w7 : World} {F' : Fp} {p' : SM.Pair} {a : SM.Ans} {c : List Value} (h : PairS w7 B pp p' F') (tr : Tr w w7 F F') (h4 : bk w7 (w.heap.size + 1) = some (CB ansZ T.impl_Answer)) (n4 : ¬ F'.use (w.heap.size + 1))
    (nc : AnsN w7 (w.heap.size + 2) F'.use a c) (hk : PairK w B pp F (p', a) K) : st P (oStore T.impl_Answer (pt (w.heap.size + 1) 0) (AG c)) w7 fun _ w8 => rsl P T.impl_Answer (pt (w.heap.size + 1) 0) w8 fun r => K (tup [r]) w8 := by
  have nc0 := nc
  obtain ⟨x, y, z, rfl, hx, hy, hz, ho⟩ := nc
  obtain ⟨p1, c1, rfl⟩ := BS_slice hx
  obtain ⟨p2, c2, rfl⟩ := RowS_slice hy
  obtain ⟨p3, c3, rfl⟩ := RowS_slice hz
  have l4 := bk_lt h4
  simp (disch := first | omega | (simp only [sZb, sZa, sZd] <;> omega) | (simp (disch := first | omega | (simp only [sZb, sZa, sZd] <;> omega) | fail) only [go_sem, h4]; done) | fail) only [go_sem, dec_t, dec_f, w_u32, w_u64, w_u16, w_u8, w_i64, Int.reduceToNat, Int.reducePow, Nat.reducePow, h4]
  generalize hO : CB [.int .i64 a.e, _, _, _, _, _] T.impl_Answer = O
  have s2 := Kp.setb w7 (w.heap.size + 1) O
  refine hk _ F' _ (h.kp s2 fun x hx e => n4 (by rw [← e]; exact hx)) ⟨tr.kp.trans s2 fun x hx e => by omega, tr.st⟩ ?_
  exact (nc0.kp s2 fun b h1 h2 _ e => by omega).less (by omega)
theorem pass_on {r : SM.Pair × SM.Ans} (h : PairS w B pp p F) (zW : W.heap.size = w.heap.size + 2) (BW : Below w.heap.size w W) (bA : bk W (w.heap.size + 1) = some (CB ansZ T.impl_Answer)) (hk : PairK w B pp F r K) :
    PairK W B pp F r fun v w7 => st P (oStore T.impl_Answer (pt (w.heap.size + 1) 0) v) w7 fun _ w8 => rsl P T.impl_Answer (pt (w.heap.size + 1) 0) w8 fun r => K (tup [r]) w8 := by
  intro w' F' c h' t' a'
  obtain ⟨Fb, Fl, pb, pl, qo, ol, oc, h, rfl⟩ := h
  have nu : ¬ (uni Fb Fl pp qo).use (w.heap.size + 1) := fun e => by have := h.lt _ e; omega
  have no : ¬ (uni Fb Fl pp qo).own (w.heap.size + 1) := fun e => nu (by
    rcases e with e | e | e
    · exact .inl (h.b.sub _ e)
    · exact .inr (.inl (h.l.sub _ e))
    · exact .inr (.inr e))
  refine ans_ret h' ((Tr.of_below BW _).trans t') ?_ (fun e => nu ((t'.st _ (by omega)).2 e)) (a'.less (by omega)) hk
  rw [t'.kp.block _ (by omega) no]; exact bA
theorem onH_list (h : PairS w B pp p F) (hv : BS w v s.data) (hvo : s.data = [] ∨ ∀ b, v.ownBlock = some b → ¬ F.own b) (hof : SM.ofGet p.of s.h = 3) (hop : s.op = 19 ∨ s.op = 20) (okl : DoOk p.layer s) (okb : DoOk p.base s) (he : (p.layer.doS s.h s).2.e ≠ 0) (hk : PairK w B pp F (p.wovenS s) K) : Cl P Fn.spec_Pair_onHandle #[pt pp 0, AG (stepC s v)] w K := by
  apply S_spec_Pair_onHandle
  unfold F_spec_Pair_onHandle
  have h00 := h
  obtain ⟨Fb, Fl, pb, pl, qo, ol, oc, h, rfl⟩ := h
  obtain ⟨W, eW, BW, zW, bS, bA⟩ := start_w w s v
  rw [oBox_agg, M.al_impl_Answer, eW, show (w.alloc (CB (stepC s v) T.impl_Step)).heap.size = w.heap.size + 1 by simp only [go_sem]]
  have h1 := h.old BW
  have bp := h1.bp
  have bo := h1.bo
  have om := h1.om s.h
  rw [hof] at om
  have hv1 := BS_one' hv
  refine jn_with (fun _ _ => False) (fun _ _ _ h => h.elim) ?_
  simp (disch := first | omega | (simp only [sZb, sZa, sZd] <;> omega) | (simp (disch := first | omega | (simp only [sZb, sZa, sZd] <;> omega) | fail) only [go_sem, bp, bS, luO_rd, bo, mlI_MO, optE_some, om]; done) | fail) only [go_sem, dec_t, dec_f, w_u32, w_u64, w_u16, w_u8, w_i64, Int.reduceToNat, Int.reducePow, Nat.reducePow, bp, bS, luO_rd, bo, mlI_MO, optE_some, om]
  unfold J_spec_Pair_onHandle_11
  simp (disch := first | omega | (simp only [sZb, sZa, sZd] <;> omega) | (simp (disch := first | omega | (simp only [sZb, sZa, sZd] <;> omega) | fail) only [go_sem]; done) | fail) only [go_sem, dec_t, dec_f, w_u32, w_u64, w_u16, w_u8, w_i64, Int.reduceToNat, Int.reducePow, Nat.reducePow]
  unfold J_spec_Pair_onHandle_10
  simp (disch := first | omega | (simp only [sZb, sZa, sZd] <;> omega) | (simp (disch := first | omega | (simp only [sZb, sZa, sZd] <;> omega) | fail) only [go_sem]; done) | fail) only [go_sem, dec_t, dec_f, w_u32, w_u64, w_u16, w_u8, w_i64, Int.reduceToNat, Int.reducePow, Nat.reducePow]
  unfold J_spec_Pair_onHandle_9
  refine jn_with (fun _ _ => False) (fun _ _ _ h => h.elim) ?_
  have bD : Below w.heap.size w W.drew := by repeat (first | exact Below.refl _ _ | assumption | refine bel_setb ?_ (by first | exact Nat.le_refl _ | omega | (simp only [go_sem] <;> omega)) _ | refine Below.alloc ?_ (by first | exact Nat.le_refl _ | omega | (simp only [go_sem]; omega)) _ | refine Below.drew ?_)
  have go : ∀ L : Value → World → Prop, PairK W.drew B pp (uni Fb Fl pp qo) (p.wovenS s) L → Cl P Fn.spec_Pair_woven #[pt pp 0, AG (stepC s v)] W.drew L := fun L hL =>
    woven_err (h.old bD).S (BS_old hv bD (Nat.le_refl _)) hvo okl okb he hL
  rcases hop with e | e
  · simp (disch := first | omega | (simp only [sZb, sZa, sZd] <;> omega) | (simp (disch := first | omega | (simp only [sZb, sZa, sZd] <;> omega) | fail) only [go_sem, bS, hv1]; done) | fail) only [go_sem, dec_t, dec_f, w_u32, w_u64, w_u16, w_u8, w_i64, Int.reduceToNat, Int.reducePow, Nat.reducePow, bS, hv1]
    exact go _ (pass_on h00 zW bD bA hk)
  · simp (disch := first | omega | (simp only [sZb, sZa, sZd] <;> omega) | (simp (disch := first | omega | (simp only [sZb, sZa, sZd] <;> omega) | fail) only [go_sem, bS, hv1]; done) | fail) only [go_sem, dec_t, dec_f, w_u32, w_u64, w_u16, w_u8, w_i64, Int.reduceToNat, Int.reducePow, Nat.reducePow, bS, hv1]
    exact go _ (pass_on h00 zW bD bA hk)
theorem cacheH_list (h : PairS w B pp p F) (hv : BS w v s.data) (hvo : s.data = [] ∨ ∀ b, v.ownBlock = some b → ¬ F.own b) (hof : SM.ofGet p.of s.h = 3) (hop : s.op = 19 ∨ s.op = 20) (okl : DoOk p.layer s) (okb : DoOk p.base s) (he : (p.layer.doS s.h s).2.e ≠ 0) (hk : PairK w B pp F (p.cacheH s) K) : Cl P Fn.spec_Pair_cacheHandle #[pt pp 0, AG (stepC s v)] w K := by
  have e : p.cacheH s = p.wovenS s := by
    unfold SM.Pair.cacheH
    rw [if_pos (by omega)]
    unfold SM.Pair.onH
    rw [if_neg (by omega), if_neg (by omega), if_pos hof, if_pos hop]
  rw [e] at hk
  apply S_spec_Pair_cacheHandle
  unfold F_spec_Pair_cacheHandle
  have h00 := h
  obtain ⟨Fb, Fl, pb, pl, qo, ol, oc, h, rfl⟩ := h
  obtain ⟨W, eW, BW, zW, bS, bA⟩ := start_w w s v
  rw [oBox_agg, M.al_impl_Answer, eW, show (w.alloc (CB (stepC s v) T.impl_Step)).heap.size = w.heap.size + 1 by simp only [go_sem]]
  have h1 := h.old BW
  have bp := h1.bp
  have bo := h1.bo
  have om := h1.om s.h
  rw [hof] at om
  have hv1 := BS_one' hv
  refine jn_with (fun _ _ => False) (fun _ _ _ h => h.elim) ?_
  have bD : Below w.heap.size w W.drew := by repeat (first | exact Below.refl _ _ | assumption | refine bel_setb ?_ (by first | exact Nat.le_refl _ | omega | (simp only [go_sem] <;> omega)) _ | refine Below.alloc ?_ (by first | exact Nat.le_refl _ | omega | (simp only [go_sem]; omega)) _ | refine Below.drew ?_)
  have go : ∀ L : Value → World → Prop, PairK W.drew B pp (uni Fb Fl pp qo) (p.wovenS s) L → Cl P Fn.spec_Pair_onHandle #[pt pp 0, AG (stepC s v)] W.drew L := fun L hL =>
    onH_list (h.old bD).S (BS_old hv bD (Nat.le_refl _)) hvo hof hop okl okb he hL
  rcases hop with e | e
  · simp (disch := first | omega | (simp only [sZb, sZa, sZd] <;> omega) | (simp (disch := first | omega | (simp only [sZb, sZa, sZd] <;> omega) | fail) only [go_sem, bp, bS, hv1, luO_rd, bo, mlI_MO, optE_some, om]; done) | fail) only [go_sem, dec_t, dec_f, w_u32, w_u64, w_u16, w_u8, w_i64, Int.reduceToNat, Int.reducePow, Nat.reducePow, bp, bS, hv1, luO_rd, bo, mlI_MO, optE_some, om]
    exact go _ (pass_on h00 zW bD bA hk)
  · simp (disch := first | omega | (simp only [sZb, sZa, sZd] <;> omega) | (simp (disch := first | omega | (simp only [sZb, sZa, sZd] <;> omega) | fail) only [go_sem, bp, bS, hv1, luO_rd, bo, mlI_MO, optE_some, om]; done) | fail) only [go_sem, dec_t, dec_f, w_u32, w_u64, w_u16, w_u8, w_i64, Int.reduceToNat, Int.reducePow, Nat.reducePow, bp, bS, hv1, luO_rd, bo, mlI_MO, optE_some, om]
    exact go _ (pass_on h00 zW bD bA hk)
end
end Go.Proofs.YteblpejgenehfaaDoor.X
end
section
namespace Go.Proofs.YteblpejgenehfaaDoor.X
open Go Go.X Go.Proofs Go.RowKit
abbrev fx0 (data : List UInt8) (ro : Bool) : FX := ⟨data, 0, false, ro, 0, [47, 102], .map none, false, 268435456, 0, 0, 0⟩
abbrev datC (l : List UInt8) (v : Value) : List Value := [S l, v, .map none, .bool false, .int .u32 268435456, .int .i64 0, .int .i64 0, .int .i64 0]
section
variable {w w' : World} {K : Value → World → Prop} {B : Nat} {m : Nat → Nat × Nat}
theorem doorWith_spec {l : List UInt8} {a : Option Addr} {n c : Nat} (hk : ∀ w' d, w.heap.size ≤ d → Below w.heap.size w w' → bk w' d = some (CB (datC l (.slice a n c)) T.mem_FileData) → K (pt d 0) w') : Cl P Fn.mem_DoorWith #[S l, .slice a n c] w K := by
  apply S_mem_DoorWith
  unfold F_mem_DoorWith
  simp (disch := first | omega | (simp only [sZb, sZa, sZd] <;> omega) | (simp (disch := first | omega | (simp only [sZb, sZa, sZd] <;> omega) | fail) only [go_sem]; done) | fail) only [go_sem, dec_t, dec_f, w_u32, w_u64, w_u16, w_u8, w_i64, Int.reduceToNat, Int.reducePow, Nat.reducePow]
  apply S_mem_CreateFile
  unfold F_mem_CreateFile
  simp (disch := first | omega | (simp only [sZb, sZa, sZd] <;> omega) | (simp (disch := first | omega | (simp only [sZb, sZa, sZd] <;> omega) | fail) only [go_sem]; done) | fail) only [go_sem, dec_t, dec_f, w_u32, w_u64, w_u16, w_u8, w_i64, Int.reduceToNat, Int.reducePow, Nat.reducePow]
  refine hk _ _ ?_ ?_ ?_
  · exact Nat.le_refl _
  · repeat (first | exact Below.refl _ _ | assumption | refine bel_setb ?_ (by first | exact Nat.le_refl _ | omega | (simp only [go_sem] <;> omega)) _ | refine Below.alloc ?_ (by first | exact Nat.le_refl _ | omega | (simp only [go_sem]; omega)) _ | refine Below.drew ?_)
  · exact bk_setb_eq _ _ _ _ rfl (by simp only [go_sem]; omega)
theorem newHandle_spec {d : Nat} (hk : ∀ w' f, w.heap.size ≤ f → Below w.heap.size w w' → bk w' f = some (CB [.int .i64 0, .int .i64 0, .bool false, .bool false, pt d 0] T.mem_File) → K (pt f 0) w') : Cl P Fn.mem_NewFileHandle #[pt d 0] w K := by
  apply S_mem_NewFileHandle
  unfold F_mem_NewFileHandle
  simp (disch := first | omega | (simp only [sZb, sZa, sZd] <;> omega) | (simp (disch := first | omega | (simp only [sZb, sZa, sZd] <;> omega) | fail) only [go_sem]; done) | fail) only [go_sem, dec_t, dec_f, w_u32, w_u64, w_u16, w_u8, w_i64, Int.reduceToNat, Int.reducePow, Nat.reducePow]
  refine hk _ _ ?_ ?_ ?_
  · exact Nat.le_refl _
  · repeat (first | exact Below.refl _ _ | assumption | refine bel_setb ?_ (by first | exact Nat.le_refl _ | omega | (simp only [go_sem] <;> omega)) _ | refine Below.alloc ?_ (by first | exact Nat.le_refl _ | omega | (simp only [go_sem]; omega)) _ | refine Below.drew ?_)
  · exact bk_alloc_eq _ _ _ rfl
theorem newReadHandle_spec {d : Nat} (hk : ∀ w' f, w.heap.size ≤ f → Below w.heap.size w w' → bk w' f = some (CB [.int .i64 0, .int .i64 0, .bool false, .bool true, pt d 0] T.mem_File) → K (pt f 0) w') : Cl P Fn.mem_NewReadOnlyFileHandle #[pt d 0] w K := by
  apply S_mem_NewReadOnlyFileHandle
  unfold F_mem_NewReadOnlyFileHandle
  simp (disch := first | omega | (simp only [sZb, sZa, sZd] <;> omega) | (simp (disch := first | omega | (simp only [sZb, sZa, sZd] <;> omega) | fail) only [go_sem]; done) | fail) only [go_sem, dec_t, dec_f, w_u32, w_u64, w_u16, w_u8, w_i64, Int.reduceToNat, Int.reducePow, Nat.reducePow]
  refine hk _ _ ?_ ?_ ?_
  · exact Nat.le_refl _
  · repeat (first | exact Below.refl _ _ | assumption | refine bel_setb ?_ (by first | exact Nat.le_refl _ | omega | (simp only [go_sem] <;> omega)) _ | refine Below.alloc ?_ (by first | exact Nat.le_refl _ | omega | (simp only [go_sem]; omega)) _ | refine Below.drew ?_)
  · exact bk_alloc_eq _ _ _ rfl
theorem own_mono {b0 b1 size n : Nat} {e : TypeId} {v : Value} {xs : List Value} (h : w.ownsRow b1 e size v n xs) (hb : b0 ≤ b1) : w.ownsRow b0 e size v n xs := by
  refine ⟨h.1, ?_⟩
  rcases h.2 with h | ⟨g, cap, cur, h1, h2, h3⟩
  · exact .inl h
  · exact .inr ⟨g, cap, cur, h1, by omega, h3⟩
theorem doorBytes_spec {f d : Nat} {v : Value} {s : FX} (h : FH w B f d v s) (hk : K v w) : Cl P Fn.mem_FileData_DoorBytes #[pt d 0] w K := by
  apply S_mem_FileData_DoorBytes
  unfold F_mem_FileData_DoorBytes
  have hd := h.bd
  obtain ⟨a, c, rfl⟩ := own_slice h.own
  simp (disch := first | omega | (simp only [sZb, sZa, sZd] <;> omega) | (simp (disch := first | omega | (simp only [sZb, sZa, sZd] <;> omega) | fail) only [go_sem, hd]; done) | fail) only [go_sem, dec_t, dec_f, w_u32, w_u64, w_u16, w_u8, w_i64, Int.reduceToNat, Int.reducePow, Nat.reducePow, hd]
  exact hk
theorem XU_locS (B u f1 d1 f2 d2 : Nat) (s : FX × FX) : LocS (XU B u f1 d1 f2 d2 s.1 s.2) := by
  rintro w w' U S ⟨v1, v2, h, rfl⟩ K hn
  have hb := h.lt
  refine ⟨v1, v2, ⟨h.l.kept K fun x hx e => hn x (.inr (.inl hx)) e, h.b.kept K fun x hx e => hn x (.inr (.inr hx)) e, h.sep, h.hu, ?_, h.n1, h.n2⟩, rfl⟩
  rw [K.block u hb.1 fun e => hn u (.inl rfl) e]
  exact h.bu
theorem XU_in (B u f1 d1 f2 d2 : Nat) (s : FX × FX) (w : World) (U : Nat → Prop) (h : XU B u f1 d1 f2 d2 s.1 s.2 w U) : ∀ k, U k → k < w.heap.size := by
  obtain ⟨v1, v2, h, rfl⟩ := h
  rintro k (e | e | e)
  · rw [e]; exact h.lt.1
  · exact (h.lt.2.1 k e).2
  · exact (h.lt.2.2 k e).2
def wovS (s : FX × FX) (q : SM.Stp) : (FX × FX) × SM.Ans := (((wovX s.1 s.2 q).1, (wovX s.1 s.2 q).2.1), (wovX s.1 s.2 q).2.2)
theorem XU_step (B u f1 d1 f2 d2 : Nat) (s : FX × FX) (q : SM.Stp) (w : World) (x : Value) (U : Nat → Prop) (K : Value → World → Prop) (h : XU B u f1 d1 f2 d2 s.1 s.2 w U) (sn : Sn w B m) (g : OkU s.1 s.2 q) (hx : BS w x q.data) (hk : AnK w U (XU B u f1 d1 f2 d2 (wovS s q).1.1 (wovS s q).1.2) (wovS s q).2 K) : Cl P Fn.impl_woven #[pt u 0, AG (stepC q x)] w K := by
  obtain ⟨v1, v2, h, rfl⟩ := h
  exact woven_any h sn g hx hk
abbrev unC (f2 f1 : Nat) : List Value := [pt f2 0, pt f1 0, .int .i64 0, .slice none 0 0]
set_option maxHeartbeats 4000000 in
theorem union_script {t0 t1 tv : Value} {ro : Bool} {l1 l2 : List UInt8} {qs : List SM.Stp} {vs : List Value} (hd1 : BS w t0 l1) (hd2 : BS w t1 l2) (hl1 : l1.length ≤ 140737488355328) (hl2 : l2.length ≤ 140737488355328) (hs : Sn w w.heap.size m) (hq : StepsAt w tv qs vs) (hql : qs.length ≤ 1000000) (hok : okX wovS (fun s q => OkU s.1 s.2 q) (fx0 l1 ro, fx0 l2 ro) qs)
    (hsl1 : (runX wovS (fx0 l1 ro, fx0 l2 ro) qs).1.1.bytes.length ≤ 140737488355328) (hsl2 : (runX wovS (fx0 l1 ro, fx0 l2 ro) qs).1.2.bytes.length ≤ 140737488355328)
    (hk : ∀ w' av lv bv cs, Below w.heap.size w w' → w'.ownsRow w.heap.size T.impl_Answer 6 av qs.length (List.flatten cs) → AnsAt w' w.heap.size (fun k => av.ownBlock = some k) (runX wovS (fx0 l1 ro, fx0 l2 ro) qs).2 cs → w'.ownsRow w.heap.size T.uint8 1 lv (runX wovS (fx0 l1 ro, fx0 l2 ro) qs).1.1.bytes.length ((runX wovS (fx0 l1 ro, fx0 l2 ro) qs).1.1.bytes.map byt) → w'.ownsRow w.heap.size T.uint8 1 bv (runX wovS (fx0 l1 ro, fx0 l2 ro) qs).1.2.bytes.length ((runX wovS (fx0 l1 ro, fx0 l2 ro) qs).1.2.bytes.map byt) → K (tup [av, lv, bv]) w') :
    Cl P Fn.impl_UnionScript #[t0, t1, .bool ro, tv] w K := by
  apply S_impl_UnionScript
  unfold F_impl_UnionScript
  refine oCopyOf U.sl_uint8 (by kernel_rfl) hd1 (by omega) fun dv1 w1 own1 b1 => ?_
  rw [C.mem_DoorWith]
  obtain ⟨a1, c1, rfl⟩ := own_slice own1
  have z1 := b1.size
  refine doorWith_spec fun w2 d1 ld1 b2 e2 => ?_
  have z2 := b2.size
  refine oCopyOf U.sl_uint8 (by kernel_rfl) (BS_old hd2 (b1.trans (b2.mono (by omega))) (Nat.le_refl _)) (by omega) fun dv2 w3 own2 b3 => ?_
  rw [C.mem_DoorWith]
  obtain ⟨a2, c2, rfl⟩ := own_slice own2
  have z3 := b3.size
  refine doorWith_spec fun w4 d2 ld2 b4 e4 => ?_
  have z4 := b4.size
  rw [C.mem_NewFileHandle]
  refine newHandle_spec fun w5 f2 lf2 b5 e5 => ?_
  have z5 := b5.size
  rw [C.mem_NewFileHandle]
  refine newHandle_spec fun w6 f1 lf1 b6 e6 => ?_
  have z6 := b6.size
  have le2 := bk_lt e2
  have le4 := bk_lt e4
  have le5 := bk_lt e5
  have le6 := bk_lt e6
  have lo1 := own_lt own1
  have lo2 := own_lt own2
  -- the memory with both files, without the union
  have mk : ∀ (w9 : World) (g1 g2 : Nat), w4.heap.size ≤ g2 → g2 < g1 → Below w4.heap.size w4 w9 → bk w9 g1 = some (CB [.int .i64 0, .int .i64 0, .bool false, .bool ro, pt d1 0] T.mem_File) → bk w9 g2 = some (CB [.int .i64 0, .int .i64 0, .bool false, .bool ro, pt d2 0] T.mem_File) →
      ∀ w10, w10 = w9.alloc (CB (unC g2 g1) T.afero_UnionFile) → XU w.heap.size w9.heap.size g1 d1 g2 d2 (fx0 l1 ro) (fx0 l2 ro) w10 (Ou w9.heap.size g1 d1 (.slice a1 l1.length c1) g2 d2 (.slice a2 l2.length c2)) ∧ (∀ k, Ou w9.heap.size g1 d1 (.slice a1 l1.length c1) g2 d2 (.slice a2 l2.length c2) k → w.heap.size ≤ k ∧ k < w10.heap.size) := by
    intro w9 g1 g2 hg2 hg1 b9 h1 h2 w10 e10
    have z9 := b9.size
    have b10 : Below w9.heap.size w9 w10 := by rw [e10]; repeat (first | exact Below.refl _ _ | assumption | refine bel_setb ?_ (by first | exact Nat.le_refl _ | omega | (simp only [go_sem] <;> omega)) _ | refine Below.alloc ?_ (by first | exact Nat.le_refl _ | omega | (simp only [go_sem]; omega)) _ | refine Below.drew ?_)
    have b29 : Below w2.heap.size w2 w9 := (b3.trans (b4.mono (by omega))).trans (b9.mono (by omega))
    have lg1 := bk_lt h1
    have lg2 := bk_lt h2
    have o1 := own_old (own_old own1 b2 (Nat.le_refl _)) b29 (Nat.le_refl _)
    have o2 := own_old (own_old own2 b4 (Nat.le_refl _)) b9 (Nat.le_refl _)
    have F1 : FH w9 w.heap.size g1 d1 (.slice a1 l1.length c1) (fx0 l1 ro) := ⟨by omega, by omega, by omega, h1, (bel_bk b29 le2).trans e2, rfl, o1, fun e => by have := (lo1 _ e).2; omega, fun e => by have := (lo1 _ e).2; omega⟩
    have F2 : FH w9 w.heap.size g2 d2 (.slice a2 l2.length c2) (fx0 l2 ro) := ⟨by omega, by omega, by omega, h2, (bel_bk b9 le4).trans e4, rfl, own_mono o2 (by omega), fun e => by have := (lo2 _ e).2; omega, fun e => by have := (lo2 _ e).2; omega⟩
    have r1 : ∀ k, Of g1 d1 (.slice a1 l1.length c1) k → w.heap.size ≤ k ∧ k < w9.heap.size := by
      rintro k (e | e | e)
      · omega
      · omega
      · have := lo1 k e; omega
    have r2 : ∀ k, Of g2 d2 (.slice a2 l2.length c2) k → w.heap.size ≤ k ∧ k < w9.heap.size := by
      rintro k (e | e | e)
      · omega
      · omega
      · have := lo2 k e; omega
    refine ⟨⟨_, _, ⟨F1.old b10, F2.old b10, ?_, by omega, by rw [e10]; exact bk_alloc_eq _ _ _ rfl, fun e => by have := (r1 _ e).2; omega, fun e => by have := (r2 _ e).2; omega⟩, rfl⟩, ?_⟩
    · rintro k (e | e | e) (h | h | h)
      · omega
      · omega
      · have := lo2 k h; omega
      · omega
      · omega
      · have := lo2 k h; omega
      · have := lo1 k e; omega
      · have := lo1 k e; omega
      · have := lo1 k e; have := lo2 k h; omega
    · have z10 := b10.size
      have z10' : w10.heap.size = w9.heap.size + 1 := by rw [e10]; simp only [go_sem]
      rintro k (e | e | e)
      · omega
      · have := r1 k e; omega
      · have := r2 k e; omega
  have B4 : Below w.heap.size w w4 := ((b1.trans (b2.mono (by omega))).trans (b3.mono (by omega))).trans (b4.mono (by omega))
  rw [M.bd_afero_UnionFile _ _ rfl]
  show st P (oBox T.afero_UnionFile (AG (unC f2 f1))) w6 _
  rw [oBox_agg]
  refine jn_with (fun t w' => ∃ u g1 g2 U, t = [pt u 0] ∧ XU w.heap.size u g1 d1 g2 d2 (fx0 l1 ro) (fx0 l2 ro) w' U ∧ (∀ k, U k → w.heap.size ≤ k ∧ k < w'.heap.size) ∧ Below w.heap.size w w') ?_ ?_
  · rintro t e w7 ⟨u, g1, g2, U0, rfl, X7, hU7, B7⟩
    refine jn_with (fun t w' => ∃ av cs U, t = [av] ∧ Below w.heap.size w w' ∧ XU w.heap.size u g1 d1 g2 d2 (runX wovS (fx0 l1 ro, fx0 l2 ro) qs).1.1 (runX wovS (fx0 l1 ro, fx0 l2 ro) qs).1.2 w' U ∧ w'.ownsRow w.heap.size T.impl_Answer 6 av qs.length (List.flatten cs) ∧ AnsAt w' w.heap.size (fun k => U k ∨ av.ownBlock = some k) (runX wovS (fx0 l1 ro, fx0 l2 ro) qs).2 cs) ?_ ?_
    · rintro t e w8 ⟨av, cs, U8, rfl, B8, ⟨v1, v2, F8, rfl⟩, o8, A8⟩
      rw [gs0, C.mem_FileData_DoorBytes]
      refine doorBytes_spec F8.l ?_
      refine oCopyOf U.sl_uint8 (by kernel_rfl) (BS_own F8.l.own) hsl1 fun lv w9 o9 b9 => ?_
      rw [C.mem_FileData_DoorBytes]
      have F9 := F8.old b9
      refine doorBytes_spec F9.b ?_
      refine oCopyOf U.sl_uint8 (by kernel_rfl) (BS_own F9.b.own) hsl2 fun bv w10 o10 b10 => ?_
      have z9 := b9.size
      have z8 := B8.size
      have b8 : Below w8.heap.size w8 w10 := b9.trans (b10.mono (by omega))
      exact hk w10 av lv bv cs (B8.trans (b8.mono B8.size)) (own_old o8 b8 (Nat.le_refl _)) ((A8.kp (Kp.of_below b8 fun _ => False) fun _ _ _ _ h => h).to fun b _ _ hn h => hn (.inr h)) (own_mono (own_old o9 b10 (Nat.le_refl _)) B8.size) (own_mono o10 (by omega))
    · obtain ⟨ta, tc, etv⟩ := hq.slice
      rw [etv, V.len_sl_impl_Step, ← etv, gs0]
      refine loop_spec (k2 := fun t w' => ∃ av cs U, t = [av] ∧ Below w.heap.size w w' ∧ XU w.heap.size u g1 d1 g2 d2 (runX wovS (fx0 l1 ro, fx0 l2 ro) qs).1.1 (runX wovS (fx0 l1 ro, fx0 l2 ro) qs).1.2 w' U ∧ w'.ownsRow w.heap.size T.impl_Answer 6 av qs.length (List.flatten cs) ∧ AnsAt w' w.heap.size (fun k => U k ∨ av.ownBlock = some k) (runX wovS (fx0 l1 ro, fx0 l2 ro) qs).2 cs) (B := w.heap.size) (m := m) (X := fun s => XU w.heap.size u g1 d1 g2 d2 s.1 s.2) (stp := wovS) (ok := fun s q => OkU s.1 s.2 q) (fun h => by rw [C.impl_woven]; exact h) (XU_locS _ _ _ _ _ _) (fun s q w x U K => XU_step _ _ _ _ _ _ s q w x U K) hq B7 (Nat.le_refl _) (hs.below B7) hql X7 hU7 hok (XU_in _ _ _ _ _ _) fun w' av cs U B X hU o hav A => ?_
      exact ⟨av, cs, U, rfl, B, X, o, A⟩
  · obtain ⟨W6, eW6⟩ : ∃ W6, W6 = w6.alloc (CB (unC f2 f1) T.afero_UnionFile) := ⟨_, rfl⟩
    have B6 : Below w6.heap.size w6 W6 := by rw [eW6]; repeat (first | exact Below.refl _ _ | assumption | refine bel_setb ?_ (by first | exact Nat.le_refl _ | omega | (simp only [go_sem] <;> omega)) _ | refine Below.alloc ?_ (by first | exact Nat.le_refl _ | omega | (simp only [go_sem]; omega)) _ | refine Below.drew ?_)
    have zW : W6.heap.size = w6.heap.size + 1 := by rw [eW6]; simp only [go_sem]
    have b46 : Below w4.heap.size w4 w6 := b5.trans (b6.mono (by omega))
    cases ro with
    | true =>
      rw [← eW6]
      simp (disch := first | omega | (simp only [sZb, sZa, sZd] <;> omega) | (simp (disch := first | omega | (simp only [sZb, sZa, sZd] <;> omega) | fail) only [go_sem]; done) | fail) only [go_sem, dec_t, dec_f, w_u32, w_u64, w_u16, w_u8, w_i64, Int.reduceToNat, Int.reducePow, Nat.reducePow]
      refine newReadHandle_spec fun w8 h2 lh2 b8 e8 => ?_
      have z8 := b8.size
      refine newReadHandle_spec fun w9 h1 lh1 b9 e9 => ?_
      simp (disch := first | omega | (simp only [sZb, sZa, sZd] <;> omega) | (simp (disch := first | omega | (simp only [sZb, sZa, sZd] <;> omega) | fail) only [go_sem]; done) | fail) only [go_sem, dec_t, dec_f, w_u32, w_u64, w_u16, w_u8, w_i64, Int.reduceToNat, Int.reducePow, Nat.reducePow]
      have le8 := bk_lt e8
      have b49 : Below w4.heap.size w4 w9 := ((b46.trans (B6.mono (by omega))).trans (b8.mono (by omega))).trans (b9.mono (by omega))
      obtain ⟨k1, k2⟩ := mk w9 h1 h2 (by omega) (by omega) b49 e9 ((bel_bk b9 le8).trans e8) _ rfl
      have z9 := b49.size
      exact ⟨_, _, _, _, rfl, k1, (fun k hk => by have := k2 k hk; simpa only [go_sem] using this), (B4.trans (b49.mono (by have := B4.size; omega))).trans (by repeat (first | exact Below.refl _ _ | assumption | refine bel_setb ?_ (by first | exact Nat.le_refl _ | omega | (simp only [go_sem] <;> omega)) _ | refine Below.alloc ?_ (by first | exact Nat.le_refl _ | omega | (simp only [go_sem]; omega)) _ | refine Below.drew ?_))⟩
    | false =>
      simp (disch := first | omega | (simp only [sZb, sZa, sZd] <;> omega) | (simp (disch := first | omega | (simp only [sZb, sZa, sZd] <;> omega) | fail) only [go_sem]; done) | fail) only [go_sem, dec_t, dec_f, w_u32, w_u64, w_u16, w_u8, w_i64, Int.reduceToNat, Int.reducePow, Nat.reducePow]
      obtain ⟨k1, k2⟩ := mk w6 f1 f2 (by omega) (by omega) b46 e6 ((bel_bk b6 le5).trans e5) _ rfl
      have z9 := b46.size
      exact ⟨_, _, _, _, rfl, k1, (fun k hk => by have := k2 k hk; simpa only [go_sem] using this), (B4.trans (b46.mono (by have := B4.size; omega))).trans (by repeat (first | exact Below.refl _ _ | assumption | refine bel_setb ?_ (by first | exact Nat.le_refl _ | omega | (simp only [go_sem] <;> omega)) _ | refine Below.alloc ?_ (by first | exact Nat.le_refl _ | omega | (simp only [go_sem]; omega)) _ | refine Below.drew ?_))⟩
end
end Go.Proofs.YteblpejgenehfaaDoor.X
end
section
namespace Go.Proofs.YteblpejgenehfaaDoor.X
open Go Go.X Go.Proofs Go.RowKit
def ninfo (n : SM.Node) : SM.Info := ⟨SM.base n.name, if n.dir then 42 else n.data.length, n.mode, n.dir, n.time⟩
def seekN (n : SM.Node) (h : SM.Hnd) (s : SM.Stp) : Int := if s.wh = 0 then s.off else if s.wh = 1 then h.pos + s.off else if s.wh = 2 then n.data.length + s.off else h.pos
def fileN (n : SM.Node) (h : SM.Hnd) (s : SM.Stp) : SM.Node × SM.Hnd × SM.Ans :=
  if s.op = 18 then (if h.ro then n else { n with time := 0 }, { h with cl := true }, SM.Ans.z)
  else if s.op = 21 then (n, h, { SM.Ans.z with infos := [ninfo n] })
  else if s.op = 22 then (n, h, { SM.Ans.z with names := [n.name] })
  else if s.op = 23 then (n, h, SM.Ans.z)
  else if s.op = 19 ∨ s.op = 20 then (n, h, SM.Ans.err 8)
  else if h.cl then (n, h, SM.Ans.err 3)
  else if s.op = 12 then (n, { h with pos := h.pos + (SM.readFrom n.data h.pos s.n).1.length }, ⟨(SM.readFrom n.data h.pos s.n).2, 0, 0, (SM.readFrom n.data h.pos s.n).1, [], []⟩)
  else if s.op = 13 then (n, h, ⟨(SM.readFrom n.data s.off s.n).2, 0, 0, (SM.readFrom n.data s.off s.n).1, [], []⟩)
  else if s.op = 16 then (n, { h with pos := seekN n h s }, ⟨0, 0, seekN n h s, [], [], []⟩)
  else if h.ro then (n, if s.op = 15 then { h with pos := s.off } else h, SM.Ans.err 6)
  else if s.op = 17 ∧ s.off < 0 then (n, h, SM.Ans.err 7)
  else if s.op = 14 ∧ (h.pos < 0 ∨ 1048576 < h.pos) ∨ s.op ≠ 14 ∧ (s.off < 0 ∨ 1048576 < s.off) then (n, h, SM.Ans.err 13)
  else if s.op = 17 then ({ n with data := SM.grown (n.data.take (min (n.data.length : Int) s.off).toNat) s.off, time := 0 }, h, SM.Ans.z)
  else if s.op = 14 then ({ n with data := SM.over n.data h.pos s.data, time := 0 }, { h with pos := h.pos + s.data.length }, ⟨0, s.data.length, 0, [], [], []⟩)
  else if s.op = 15 then ({ n with data := SM.over n.data s.off s.data, time := 0 }, { h with pos := s.off + s.data.length }, ⟨0, s.data.length, 0, [], [], []⟩)
  else (n, h, ⟨0, s.data.length, 0, [], [], []⟩)
theorem iteP {α : Type} {p : Prop} [Decidable p] {Q : α → Prop} {a b : α} (ha : Q a) (hb : Q b) : Q (if p then a else b) := by
  by_cases c : p
  · rw [if_pos c]; exact ha
  · rw [if_neg c]; exact hb
theorem fileN_node (n : SM.Node) (h : SM.Hnd) (s : SM.Stp) : (fileN n h s).2.1.node = h.node ∧ (fileN n h s).1.dir = n.dir := by
  unfold fileN
  repeat' apply iteP (Q := fun r : SM.Node × SM.Hnd × SM.Ans => r.2.1.node = h.node ∧ r.1.dir = n.dir)
  all_goals first | exact ⟨rfl, rfl⟩ | (cases h.ro <;> exact ⟨rfl, rfl⟩) | (constructor <;> (first | rfl | (by_cases c : s.op = 15 <;> simp [c])))
theorem set_self {α : Type} (l : List α) (i : Nat) (d : α) (hi : i < l.length) : l.set i (l.getD i d) = l := by
  have e : l.getD i d = l[i] := by simp [List.getD, hi]
  rw [e]
  exact List.set_getElem_self _
theorem hput_self : ∀ {l : SM.HM} {k : Int} {h : SM.Hnd}, SM.hget l k = some h → SM.hput l k h = l
  | [], _, _, e => by cases e
  | x :: l, k, h, e => by
    simp only [SM.hget] at e
    simp only [SM.hput]
    by_cases c : x.1 = k
    · rw [if_pos c] at e ⊢
      injection e with e
      rw [← e, ← c]
    · rw [if_neg c] at e ⊢
      rw [hput_self e]
def setF (m : SM.Mem) (k : Int) (x : Nat) (r : SM.Node × SM.Hnd × SM.Ans) : SM.Mem × SM.Ans := ({ m with nodes := m.nodes.set x r.1, hs := SM.hput m.hs k r.2.1 }, r.2.2)
theorem fileS_N {m : SM.Mem} {k : Int} {h : SM.Hnd} (s : SM.Stp) (hk : SM.hget m.hs k = some h) (hl : h.node < m.nodes.length) (hd : (m.node h.node).dir = false) : m.fileS k h s = setF m k h.node (fileN (m.node h.node) h s) := by
  have e1 : m.nodes.set h.node (m.node h.node) = m.nodes := set_self _ _ _ hl
  have e2 := hput_self hk
  have e0 : (⟨m.names, m.ats, m.nodes.set h.node (m.node h.node), SM.hput m.hs k h⟩ : SM.Mem) = m := by rw [e1, e2]
  have e3 : ∀ h', (⟨m.names, m.ats, m.nodes.set h.node (m.node h.node), SM.hput m.hs k h'⟩ : SM.Mem) = m.setH k h' := fun h' => by rw [e1]; rfl
  have e4 : ∀ n', (⟨m.names, m.ats, m.nodes.set h.node n', SM.hput m.hs k h⟩ : SM.Mem) = m.setNode h.node n' := fun n' => by rw [e2]; rfl
  unfold setF
  by_cases c18 : s.op = 18
  · unfold SM.Mem.fileS fileN
    rw [if_pos c18, if_pos c18]
    cases hr : h.ro with
    | true => exact Prod.ext (e3 _).symm rfl
    | false => rfl
  by_cases c21 : s.op = 21
  · unfold SM.Mem.fileS fileN
    rw [if_neg c18, if_pos c21, if_neg c18, if_pos c21]
    exact Prod.ext e0.symm rfl
  by_cases c22 : s.op = 22
  · unfold SM.Mem.fileS fileN
    rw [if_neg c18, if_neg c21, if_pos c22, if_neg c18, if_neg c21, if_pos c22]
    exact Prod.ext e0.symm rfl
  by_cases c23 : s.op = 23
  · unfold SM.Mem.fileS fileN
    rw [if_neg c18, if_neg c21, if_neg c22, if_pos c23, if_neg c18, if_neg c21, if_neg c22, if_pos c23]
    exact Prod.ext e0.symm rfl
  by_cases c19 : s.op = 19 ∨ s.op = 20
  · unfold SM.Mem.fileS SM.Mem.listS fileN
    rw [if_neg c18, if_neg c21, if_neg c22, if_neg c23, if_pos c19, if_neg c18, if_neg c21, if_neg c22, if_neg c23, if_pos c19]
    simp only [hd, if_true]
    exact Prod.ext e0.symm rfl
  unfold SM.Mem.fileS fileN
  rw [if_neg c18, if_neg c21, if_neg c22, if_neg c23, if_neg c19, if_neg c18, if_neg c21, if_neg c22, if_neg c23, if_neg c19]
  by_cases cc : h.cl = true
  · rw [if_pos cc, if_pos cc]; exact Prod.ext e0.symm rfl
  rw [if_neg cc, if_neg cc]
  by_cases c12 : s.op = 12
  · rw [if_pos c12, if_pos c12]; exact Prod.ext (e3 _).symm rfl
  rw [if_neg c12, if_neg c12]
  by_cases c13 : s.op = 13
  · rw [if_pos c13, if_pos c13]; exact Prod.ext e0.symm rfl
  rw [if_neg c13, if_neg c13]
  by_cases c16 : s.op = 16
  · rw [if_pos c16, if_pos c16]; exact Prod.ext (e3 _).symm rfl
  rw [if_neg c16, if_neg c16]
  by_cases cr : h.ro = true
  · rw [if_pos cr, if_pos cr]
    by_cases c15 : s.op = 15
    · rw [if_pos c15, if_pos c15]; exact Prod.ext (e3 _).symm rfl
    · rw [if_neg c15, if_neg c15]; exact Prod.ext e0.symm rfl
  rw [if_neg cr, if_neg cr]
  by_cases ca : s.op = 17 ∧ s.off < 0
  · rw [if_pos ca, if_pos ca]; exact Prod.ext e0.symm rfl
  rw [if_neg ca, if_neg ca]
  by_cases cb : s.op = 14 ∧ (h.pos < 0 ∨ 1048576 < h.pos) ∨ s.op ≠ 14 ∧ (s.off < 0 ∨ 1048576 < s.off)
  · rw [if_pos cb, if_pos cb]; exact Prod.ext e0.symm rfl
  rw [if_neg cb, if_neg cb]
  by_cases c17 : s.op = 17
  · rw [if_pos c17, if_pos c17]; exact Prod.ext (e4 _).symm rfl
  rw [if_neg c17, if_neg c17]
  by_cases c14 : s.op = 14
  · rw [if_pos c14, if_pos c14]; rfl
  rw [if_neg c14, if_neg c14]
  by_cases c15 : s.op = 15
  · rw [if_pos c15, if_pos c15]; rfl
  · rw [if_neg c15, if_neg c15]; exact Prod.ext e0.symm rfl
def one (n : SM.Node) (h : SM.Hnd) : SM.Mem := ⟨[[47], [47, 102]], [0, 1], [⟨true, 2147484141, [], 0, [47]⟩, n], [(0, h)]⟩
theorem doS_one {n : SM.Node} {h : SM.Hnd} {s : SM.Stp} (hn : h.node = 1) (hd : n.dir = false) (ho : 12 ≤ s.op ∧ s.op ≤ 23) (hh : s.h = 0) (i : Int) : (one n h).doS i s = (one (fileN n h s).1 (fileN n h s).2.1, (fileN n h s).2.2) := by
  have hg : SM.hget (one n h).hs s.h = some h := by rw [hh]; rfl
  have hnn : (one n h).node h.node = n := by rw [hn]; rfl
  unfold SM.Mem.doS
  rw [if_neg (by omega), if_neg (by omega), hg]
  simp only
  rw [if_neg (by omega), fileS_N s hg (by rw [hn]; show 1 < 2; omega) (by rw [hnn]; exact hd), hnn, hn, hh]
  rfl
theorem speaks_one {n : SM.Node} {h : SM.Hnd} {s : SM.Stp} (hn : h.node = 1) (ho : 12 ≤ s.op ∧ s.op ≤ 23) (hh : s.h = 0) (k : (one n h).speaks s = true) : s.data.length ≤ 4096 ∧ (one n h).speaksFile h s = true := by
  unfold SM.Mem.speaks at k
  by_cases c : 400 < s.name.length ∨ 400 < s.other.length ∨ 4096 < s.data.length
  · rw [if_pos c] at k; cases k
  · rw [if_neg c, if_neg (by omega), if_neg (by omega)] at k
    have hg : SM.hget (one n h).hs s.h = some h := by rw [hh]; rfl
    rw [hg] at k
    exact ⟨by omega, k⟩
structure Rel (c : Int) (x : FX) (n : SM.Node) (h : SM.Hnd) : Prop where
  bytes : x.bytes = n.data
  cl : x.cl = h.cl
  ro : x.ro = h.ro
  dx : x.dir = false
  dn : n.dir = false
  nm : x.nm = n.name
  mode : x.mode = n.mode
  mt : x.mt = n.time
  len : n.data.length ≤ 8192
  nl : n.name.length ≤ 400
  md : 0 ≤ n.mode ∧ n.mode ≤ 4294967295
  pos : h.cl = false → x.pos = h.pos
  px : -4398046511104 - c ≤ x.pos ∧ x.pos ≤ 4398046511104 + c
  ph : -4398046511104 - c ≤ h.pos ∧ h.pos ≤ 4398046511104 + c
  c0 : 0 ≤ c
theorem wrX_over (x : FX) (b : List UInt8) (h0 : 0 ≤ x.pos) : wrX x b = SM.over x.bytes x.pos b := by
  unfold wrX SM.over SM.grown
  obtain ⟨p, hp⟩ : ∃ p : Nat, x.pos = p := ⟨x.pos.toNat, by omega⟩
  rw [hp]
  by_cases c : (x.bytes.length : Int) < p
  · rw [if_pos c]
    rw [show ((p : Int) + b.length).toNat = p + b.length by omega, Int.toNat_natCast]
    rw [List.take_append, List.drop_of_length_le (by simp; omega), List.take_of_length_le (by omega), List.take_replicate, List.append_nil, List.append_assoc]
    rw [show min (p - x.bytes.length) (p + b.length - x.bytes.length) = p - x.bytes.length by omega]
  · rw [if_neg c]
    rw [show ((p : Int) + b.length).toNat = p + b.length by omega, Int.toNat_natCast]
    rw [List.take_append_of_le_length (by omega), List.drop_append]
    have : List.drop (p + b.length - x.bytes.length) (List.replicate (p + b.length - x.bytes.length) (0 : UInt8)) = [] := List.drop_of_length_le (by simp)
    rw [this, List.append_nil]
theorem over_len (d : List UInt8) (p : Nat) (b : List UInt8) : (SM.over d p b).length = max d.length (p + b.length) := by
  unfold SM.over SM.grown
  rw [show ((p : Int) + b.length).toNat = p + b.length by omega, Int.toNat_natCast]
  simp only [List.length_append, List.length_take, List.length_drop, List.length_replicate]
  omega
theorem rdX_from (x : FX) (n : Int) (h0 : 0 ≤ x.pos) (hn : 0 ≤ n ∧ n ≤ 1048576) : (rdX x (want n)).1 = (SM.readFrom x.bytes x.pos n).1 ∧ ((rdX x (want n)).2 : Int) = (SM.readFrom x.bytes x.pos n).2 := by
  have e : (max n 0).toNat = want n := by unfold want; omega
  have e2 : 0 < max n 0 ↔ 0 < want n := by unfold want; omega
  unfold rdX SM.readFrom
  rw [if_neg (show ¬ x.pos < 0 by omega), e]
  by_cases c1 : 0 < want n ∧ x.pos = x.bytes.length
  · rw [if_pos c1, if_pos (show 0 < max n 0 ∧ x.pos = x.bytes.length from ⟨e2.2 c1.1, c1.2⟩)]; exact ⟨rfl, rfl⟩
  · rw [if_neg c1, if_neg (show ¬ (0 < max n 0 ∧ x.pos = x.bytes.length) from fun q => c1 ⟨e2.1 q.1, q.2⟩)]
    by_cases c2 : (x.bytes.length : Int) < x.pos
    · rw [if_pos c2, if_pos c2]; exact ⟨rfl, rfl⟩
    · rw [if_neg c2, if_neg c2]; exact ⟨rfl, rfl⟩
theorem readFrom_len (d : List UInt8) (p n : Int) (hn : n ≤ 4096) : ((SM.readFrom d p n).1.length : Int) ≤ 4096 ∧ (SM.readFrom d p n).1.length ≤ d.length := by
  unfold SM.readFrom
  repeat' split
  all_goals simp
  omega
structure SpF (n : SM.Node) (h : SM.Hnd) (s : SM.Stp) : Prop where
  op : 12 ≤ s.op ∧ s.op ≤ 23
  dl : s.data.length ≤ 4096
  nn : s.op < 18 → 0 ≤ s.n ∧ s.n ≤ 4096
  off : s.op < 18 → -1099511627776 ≤ s.off ∧ s.off ≤ 1099511627776
  rd : s.op = 12 → h.cl = true ∨ 0 ≤ h.pos
  ra : s.op = 13 → 0 ≤ s.off
  wr : s.op = 14 → 0 ≤ h.pos ∧ h.pos ≤ 4096
  wa : s.op = 15 → 0 ≤ s.off ∧ s.off ≤ 4096
  tr : s.op = 17 → s.off ≤ 4096
  sk : s.op = 16 → h.pos < 2199023255552 ∧ -2199023255552 < h.pos
theorem SpF_of {m : SM.Mem} {n : SM.Node} {h : SM.Hnd} {s : SM.Stp} (hn : m.node h.node = n) (hd : n.dir = false) (ho : 12 ≤ s.op ∧ s.op ≤ 23) (hl : s.data.length ≤ 4096) (k : m.speaksFile h s = true) : SpF n h s := by
  unfold SM.Mem.speaksFile at k
  rw [hn] at k
  simp only [hd] at k
  by_cases c : s.op < 18
  · rw [if_neg (by omega), if_neg (by omega)] at k
    simp only [Bool.false_or, Bool.or_eq_true, decide_eq_true_eq] at k
    by_cases c2 : (((4096 < s.data.length ∨ s.n < 0) ∨ 4096 < s.n) ∨ 1099511627776 < s.off) ∨ s.off < -1099511627776
    · rw [if_pos c2] at k; cases k
    · rw [if_neg c2] at k
      refine ⟨ho, hl, fun _ => by omega, fun _ => by omega, fun e => ?_, fun e => ?_, fun e => ?_, fun e => ?_, fun e => ?_, fun e => ?_⟩
      all_goals simp [e] at k
      all_goals first | omega | simpa using k
  · exact ⟨ho, hl, fun h => by omega, fun h => by omega, fun h => by omega, fun h => by omega, fun h => by omega, fun h => by omega, fun h => by omega, fun h => by omega⟩
section
variable {c : Int} {x : FX} {n : SM.Node} {h : SM.Hnd} {s : SM.Stp}
theorem Rel.okX (r : Rel c x n h) (p : SpF n h s) (hc : c ≤ 1000000000) : OkX x s := by
  have h1 := r.px
  have h2 := r.ph
  refine ⟨p.op, r.dx, by rw [r.bytes]; have := r.len; omega, by rw [r.nm]; have := r.nl; omega, by rw [r.mode]; exact r.md, by have := p.dl; omega, fun e => by have := p.off e; omega, by omega, fun e q => ?_, p.ra, fun e q _ => ?_, fun e q _ => ?_, fun e => ?_⟩
  · rw [r.cl] at q
    rw [r.pos q]
    rcases p.rd e with h | h
    · rw [q] at h; cases h
    · exact h
  · rw [r.cl] at q
    rw [r.pos q]
    have := p.wr e; omega
  · have := p.wa e; omega
  · have := p.tr e; omega
theorem onX_12 (x : FX) (e : s.op = 12) : onX x s = ((rdR x (want s.n)).1, ⟨(rdR x (want s.n)).2.2, 0, 0, (rdR x (want s.n)).2.1, [], []⟩) := by unfold onX; rw [if_pos e]
theorem onX_13 (x : FX) (e : s.op = 13) : onX x s = (x, ⟨(raR x s.off (want s.n)).2, 0, 0, (raR x s.off (want s.n)).1, [], []⟩) := by unfold onX; rw [if_neg (by omega), if_pos e]
theorem onX_14 (x : FX) (e : s.op = 14) : onX x s = ((wrR x s.data).1, ⟨(wrR x s.data).2.1, (wrR x s.data).2.2, 0, [], [], []⟩) := by unfold onX; rw [if_neg (by omega), if_neg (by omega), if_pos e]
theorem onX_15 (x : FX) (e : s.op = 15) : onX x s = ((wrR { x with pos := s.off } s.data).1, ⟨(wrR { x with pos := s.off } s.data).2.1, (wrR { x with pos := s.off } s.data).2.2, 0, [], [], []⟩) := by
  unfold onX; rw [if_neg (by omega), if_neg (by omega), if_neg (by omega), if_pos e]
theorem onX_16 (x : FX) (e : s.op = 16) : onX x s = ((skR x s.off s.wh).1, ⟨(skR x s.off s.wh).2.1, 0, (skR x s.off s.wh).2.2, [], [], []⟩) := by
  unfold onX; rw [if_neg (by omega), if_neg (by omega), if_neg (by omega), if_neg (by omega), if_pos e]
theorem onX_17 (x : FX) (e : s.op = 17) : onX x s = ((trR x s.off).1, ⟨(trR x s.off).2, 0, 0, [], [], []⟩) := by
  unfold onX; rw [if_neg (by omega), if_neg (by omega), if_neg (by omega), if_neg (by omega), if_neg (by omega), if_pos e]
theorem onX_18 (x : FX) (e : s.op = 18) : onX x s = (clR x, SM.Ans.z) := by
  unfold onX; rw [if_neg (by omega), if_neg (by omega), if_neg (by omega), if_neg (by omega), if_neg (by omega), if_neg (by omega), if_pos e]
theorem onX_19 (x : FX) (e : s.op = 19 ∨ s.op = 20) : onX x s = (x, SM.Ans.err 8) := by
  unfold onX; rw [if_neg (by omega), if_neg (by omega), if_neg (by omega), if_neg (by omega), if_neg (by omega), if_neg (by omega), if_neg (by omega)]
  by_cases q : s.op = 19
  · rw [if_pos q]
  · rw [if_neg q, if_pos (by omega)]
theorem onX_21 (x : FX) (e : s.op = 21) : onX x s = (x, ⟨0, 0, 0, [], [], [infoX x]⟩) := by
  unfold onX; rw [if_neg (by omega), if_neg (by omega), if_neg (by omega), if_neg (by omega), if_neg (by omega), if_neg (by omega), if_neg (by omega), if_neg (by omega), if_neg (by omega), if_pos e]
theorem onX_22 (x : FX) (e : s.op = 22) : onX x s = (x, ⟨0, 0, 0, [], [x.nm], []⟩) := by
  unfold onX; rw [if_neg (by omega), if_neg (by omega), if_neg (by omega), if_neg (by omega), if_neg (by omega), if_neg (by omega), if_neg (by omega), if_neg (by omega), if_neg (by omega), if_neg (by omega), if_pos e]
theorem onX_23 (x : FX) (e : s.op = 23) : onX x s = (x, SM.Ans.z) := by
  unfold onX; rw [if_neg (by omega), if_neg (by omega), if_neg (by omega), if_neg (by omega), if_neg (by omega), if_neg (by omega), if_neg (by omega), if_neg (by omega), if_neg (by omega), if_neg (by omega), if_neg (by omega)]
theorem fileN_18 (e : s.op = 18) : fileN n h s = (if h.ro then n else { n with time := 0 }, { h with cl := true }, SM.Ans.z) := by unfold fileN; rw [if_pos e]
theorem fileN_21 (e : s.op = 21) : fileN n h s = (n, h, { SM.Ans.z with infos := [ninfo n] }) := by unfold fileN; rw [if_neg (by omega), if_pos e]
theorem fileN_22 (e : s.op = 22) : fileN n h s = (n, h, { SM.Ans.z with names := [n.name] }) := by unfold fileN; rw [if_neg (by omega), if_neg (by omega), if_pos e]
theorem fileN_23 (e : s.op = 23) : fileN n h s = (n, h, SM.Ans.z) := by unfold fileN; rw [if_neg (by omega), if_neg (by omega), if_neg (by omega), if_pos e]
theorem fileN_19 (e : s.op = 19 ∨ s.op = 20) : fileN n h s = (n, h, SM.Ans.err 8) := by unfold fileN; rw [if_neg (by omega), if_neg (by omega), if_neg (by omega), if_neg (by omega), if_pos e]
theorem fileN_cl (o : s.op < 18) (c : h.cl = true) : fileN n h s = (n, h, SM.Ans.err 3) := by unfold fileN; rw [if_neg (by omega), if_neg (by omega), if_neg (by omega), if_neg (by omega), if_neg (by omega), if_pos c]
theorem fileN_12 (e : s.op = 12) (c : h.cl = false) : fileN n h s = (n, { h with pos := h.pos + (SM.readFrom n.data h.pos s.n).1.length }, ⟨(SM.readFrom n.data h.pos s.n).2, 0, 0, (SM.readFrom n.data h.pos s.n).1, [], []⟩) := by
  unfold fileN; rw [if_neg (by omega), if_neg (by omega), if_neg (by omega), if_neg (by omega), if_neg (by omega), if_neg (by rw [c]; exact Bool.false_ne_true), if_pos e]
theorem fileN_13 (e : s.op = 13) (c : h.cl = false) : fileN n h s = (n, h, ⟨(SM.readFrom n.data s.off s.n).2, 0, 0, (SM.readFrom n.data s.off s.n).1, [], []⟩) := by
  unfold fileN; rw [if_neg (by omega), if_neg (by omega), if_neg (by omega), if_neg (by omega), if_neg (by omega), if_neg (by rw [c]; exact Bool.false_ne_true), if_neg (by omega), if_pos e]
theorem fileN_16 (e : s.op = 16) (c : h.cl = false) : fileN n h s = (n, { h with pos := seekN n h s }, ⟨0, 0, seekN n h s, [], [], []⟩) := by
  unfold fileN; rw [if_neg (by omega), if_neg (by omega), if_neg (by omega), if_neg (by omega), if_neg (by omega), if_neg (by rw [c]; exact Bool.false_ne_true), if_neg (by omega), if_neg (by omega), if_pos e]
theorem fileN_ro (o : s.op = 14 ∨ s.op = 15 ∨ s.op = 17) (c : h.cl = false) (r : h.ro = true) : fileN n h s = (n, if s.op = 15 then { h with pos := s.off } else h, SM.Ans.err 6) := by
  unfold fileN; rw [if_neg (by omega), if_neg (by omega), if_neg (by omega), if_neg (by omega), if_neg (by omega), if_neg (by rw [c]; exact Bool.false_ne_true), if_neg (by omega), if_neg (by omega), if_neg (by omega), if_pos r]
theorem fileN_rw (o : s.op = 14 ∨ s.op = 15 ∨ s.op = 17) (c : h.cl = false) (r : h.ro = false) : fileN n h s =
    if s.op = 17 ∧ s.off < 0 then (n, h, SM.Ans.err 7)
    else if s.op = 14 ∧ (h.pos < 0 ∨ 1048576 < h.pos) ∨ s.op ≠ 14 ∧ (s.off < 0 ∨ 1048576 < s.off) then (n, h, SM.Ans.err 13)
    else if s.op = 17 then ({ n with data := SM.grown (n.data.take (min (n.data.length : Int) s.off).toNat) s.off, time := 0 }, h, SM.Ans.z)
    else if s.op = 14 then ({ n with data := SM.over n.data h.pos s.data, time := 0 }, { h with pos := h.pos + s.data.length }, ⟨0, s.data.length, 0, [], [], []⟩)
    else if s.op = 15 then ({ n with data := SM.over n.data s.off s.data, time := 0 }, { h with pos := s.off + s.data.length }, ⟨0, s.data.length, 0, [], [], []⟩)
    else (n, h, ⟨0, s.data.length, 0, [], [], []⟩) := by
  conv => lhs; unfold fileN
  rw [if_neg (by omega), if_neg (by omega), if_neg (by omega), if_neg (by omega), if_neg (by omega), if_neg (by rw [c]; exact Bool.false_ne_true), if_neg (by omega), if_neg (by omega), if_neg (by omega), if_neg (by rw [r]; exact Bool.false_ne_true)]
theorem fileN_17a (e : s.op = 17) (c : h.cl = false) (r : h.ro = false) (o : s.off < 0) : fileN n h s = (n, h, SM.Ans.err 7) := by rw [fileN_rw (by omega) c r, if_pos ⟨e, o⟩]
theorem fileN_17 (e : s.op = 17) (c : h.cl = false) (r : h.ro = false) (o : 0 ≤ s.off ∧ s.off ≤ 1048576) : fileN n h s = ({ n with data := SM.grown (n.data.take (min (n.data.length : Int) s.off).toNat) s.off, time := 0 }, h, SM.Ans.z) := by
  rw [fileN_rw (by omega) c r, if_neg (by omega), if_neg (by omega), if_pos e]
theorem fileN_14 (e : s.op = 14) (c : h.cl = false) (r : h.ro = false) (o : 0 ≤ h.pos ∧ h.pos ≤ 1048576) : fileN n h s = ({ n with data := SM.over n.data h.pos s.data, time := 0 }, { h with pos := h.pos + s.data.length }, ⟨0, s.data.length, 0, [], [], []⟩) := by
  rw [fileN_rw (by omega) c r, if_neg (by omega), if_neg (by omega), if_neg (by omega), if_pos e]
theorem fileN_15 (e : s.op = 15) (c : h.cl = false) (r : h.ro = false) (o : 0 ≤ s.off ∧ s.off ≤ 1048576) : fileN n h s = ({ n with data := SM.over n.data s.off s.data, time := 0 }, { h with pos := s.off + s.data.length }, ⟨0, s.data.length, 0, [], [], []⟩) := by
  rw [fileN_rw (by omega) c r, if_neg (by omega), if_neg (by omega), if_neg (by omega), if_neg (by omega), if_pos e]
theorem Rel.to (r : Rel c x n h) {c' : Int} (hc : c ≤ c') : Rel c' x n h := by
  obtain ⟨r1, r2, r3, r4, r5, r6, r7, r8, r9, r10, r11, r12, r13, r14, r15⟩ := r
  exact ⟨r1, r2, r3, r4, r5, r6, r7, r8, r9, r10, r11, r12, by omega, by omega, by omega⟩
set_option maxHeartbeats 1000000 in
theorem Rel.step (r : Rel c x n h) (p : SpF n h s) : Rel (c + 8192) (onX x s).1 (fileN n h s).1 (fileN n h s).2.1 ∧ (onX x s).2 = (fileN n h s).2.2 := by
  have hs : Rel (c + 8192) x n h := r.to (by omega)
  obtain ⟨r1, r2, r3, r4, r5, r6, r7, r8, r9, r10, r11, r12, r13, r14, r15⟩ := r
  have po := p.op
  have hsz : infoX x = ninfo n := by
    unfold infoX ninfo
    rw [r1, r4, r5, r6, r7, r8]
  by_cases e18 : s.op = 18
  · rw [onX_18 x e18, fileN_18 e18]
    refine ⟨?_, rfl⟩
    unfold clR
    rw [r3]
    by_cases hr : h.ro = true
    · rw [if_pos hr, if_pos hr]
      exact ⟨r1, rfl, rfl, r4, r5, r6, r7, r8, r9, r10, r11, (fun h => by cases h), hs.px, hs.ph, hs.c0⟩
    · rw [if_neg hr, if_neg hr]
      exact ⟨r1, rfl, rfl, r4, r5, r6, r7, rfl, r9, r10, r11, (fun h => by cases h), hs.px, hs.ph, hs.c0⟩
  by_cases e21 : s.op = 21
  · rw [onX_21 x e21, fileN_21 e21, hsz]; exact ⟨hs, rfl⟩
  by_cases e22 : s.op = 22
  · rw [onX_22 x e22, fileN_22 e22, r6]; exact ⟨hs, rfl⟩
  by_cases e23 : s.op = 23
  · rw [onX_23 x e23, fileN_23 e23]; exact ⟨hs, rfl⟩
  by_cases e19 : s.op = 19 ∨ s.op = 20
  · rw [onX_19 x e19, fileN_19 e19]; exact ⟨hs, rfl⟩
  have pn := p.nn (by omega)
  have pf := p.off (by omega)
  cases hc : h.cl with
  | true =>
    rw [fileN_cl (by omega) hc]
    have xc : x.cl = true := by rw [r2, hc]
    by_cases e : s.op = 12
    · rw [onX_12 x e]; unfold rdR; rw [if_pos xc]; exact ⟨hs, rfl⟩
    by_cases e : s.op = 13
    · rw [onX_13 x e]; unfold raR; rw [if_pos xc]; exact ⟨hs, rfl⟩
    by_cases e : s.op = 14
    · rw [onX_14 x e]; unfold wrR; rw [if_pos xc]; exact ⟨hs, rfl⟩
    by_cases e : s.op = 15
    · rw [onX_15 x e]; unfold wrR; rw [if_pos xc]
      exact ⟨⟨r1, r2, r3, r4, r5, r6, r7, r8, r9, r10, r11, (fun e => by rw [hc] at e; cases e), by have := p.wa e; simp only; omega, hs.ph, hs.c0⟩, by trivial⟩
    by_cases e : s.op = 16
    · rw [onX_16 x e]; unfold skR; rw [if_pos xc]; exact ⟨hs, rfl⟩
    · rw [onX_17 x (by omega)]; unfold trR; rw [if_pos xc]; exact ⟨hs, rfl⟩
  | false =>
    have xp := r12 hc
    have xc : ¬ x.cl = true := by rw [r2, hc]; exact Bool.false_ne_true
    by_cases e12 : s.op = 12
    · rw [onX_12 x e12, fileN_12 e12 hc]
      unfold rdR
      rw [if_neg xc]
      have h0 : 0 ≤ h.pos := by
        rcases p.rd e12 with q | q
        · rw [hc] at q; cases q
        · exact q
      obtain ⟨g1, g2⟩ := rdX_from x s.n (by omega) (by omega)
      obtain ⟨l1, l2⟩ := readFrom_len n.data h.pos s.n (by omega)
      rw [xp, r1] at g1 g2
      simp only
      rw [g1, g2]
      exact ⟨⟨r1, r2, r3, r4, r5, r6, r7, r8, r9, r10, r11, (fun _ => by simp only; omega), by simp only; omega, by simp only; omega, hs.c0⟩, by trivial⟩
    by_cases e13 : s.op = 13
    · rw [onX_13 x e13, fileN_13 e13 hc]
      unfold raR
      rw [if_neg xc]
      have h0 := p.ra e13
      obtain ⟨g1, g2⟩ := rdX_from { x with pos := s.off } s.n (by simp only; omega) (by omega)
      simp only at g1 g2
      rw [g1, g2, r1]
      exact ⟨hs, rfl⟩
    by_cases e16 : s.op = 16
    · rw [onX_16 x e16, fileN_16 e16 hc]
      unfold skR
      rw [if_neg xc]
      have hsk := p.sk e16
      have e : seekX x s.off s.wh = seekN n h s := by
        unfold seekX seekN
        rw [r1, xp]
      have b : -4398046511104 - (c + 8192) ≤ seekN n h s ∧ seekN n h s ≤ 4398046511104 + (c + 8192) := by
        have := n.data.length.zero_le
        unfold seekN
        repeat' split
        all_goals omega
      simp only
      rw [e]
      exact ⟨⟨r1, r2, r3, r4, r5, r6, r7, r8, r9, r10, r11, (fun _ => rfl), b, b, hs.c0⟩, by trivial⟩
    cases hr : h.ro with
    | true =>
      have xr : x.ro = true := by rw [r3, hr]
      rw [fileN_ro (by omega) hc hr]
      by_cases e : s.op = 14
      · rw [onX_14 x e, if_neg (by omega)]; unfold wrR; rw [if_neg xc, if_pos xr]; exact ⟨hs, rfl⟩
      by_cases e : s.op = 15
      · rw [onX_15 x e, if_pos e]; unfold wrR; rw [if_neg (show ¬ ({ x with pos := s.off } : FX).cl = true from xc), if_pos (show ({ x with pos := s.off } : FX).ro = true from xr)]
        exact ⟨⟨r1, r2, r3, r4, r5, r6, r7, r8, r9, r10, r11, (fun _ => rfl), by have := p.wa e; simp only; omega, by have := p.wa e; simp only; omega, hs.c0⟩, by trivial⟩
      · rw [onX_17 x (by omega), if_neg e]; unfold trR; rw [if_neg xc, if_pos xr]; exact ⟨hs, rfl⟩
    | false =>
      have xr : ¬ x.ro = true := by rw [r3, hr]; exact Bool.false_ne_true
      by_cases e17 : s.op = 17
      · have ht := p.tr e17
        rw [onX_17 x e17]
        unfold trR
        rw [if_neg xc, if_neg xr]
        by_cases g : s.off < 0
        · rw [if_pos g, fileN_17a e17 hc hr g]; exact ⟨hs, rfl⟩
        · rw [if_neg g, fileN_17 e17 hc hr (by omega)]
          have e : (if (x.bytes.length : Int) < s.off then x.bytes ++ List.replicate (s.off.toNat - x.bytes.length) 0 else x.bytes.take s.off.toNat) = SM.grown (n.data.take (min (n.data.length : Int) s.off).toNat) s.off := by
            rw [r1]
            unfold SM.grown
            by_cases g2 : (n.data.length : Int) < s.off
            · rw [if_pos g2, List.take_of_length_le (by omega)]
            · rw [if_neg g2, show (min (n.data.length : Int) s.off).toNat = s.off.toNat by omega, show s.off.toNat - (List.take s.off.toNat n.data).length = 0 by rw [List.length_take]; omega, List.replicate_zero, List.append_nil]
          have l : (SM.grown (n.data.take (min (n.data.length : Int) s.off).toNat) s.off).length ≤ 8192 := by
            unfold SM.grown
            simp only [List.length_append, List.length_take, List.length_replicate]
            omega
          simp only
          rw [e]
          exact ⟨⟨rfl, r2, r3, r4, r5, r6, r7, rfl, l, r10, r11, r12, hs.px, hs.ph, hs.c0⟩, by trivial⟩
      by_cases e14 : s.op = 14
      · have hw := p.wr e14
        have dl := p.dl
        rw [onX_14 x e14, fileN_14 e14 hc hr (by omega)]
        unfold wrR
        rw [if_neg xc, if_neg xr, wrX_over x s.data (by omega), xp, r1]
        obtain ⟨q, hq⟩ : ∃ q : Nat, h.pos = q := ⟨h.pos.toNat, by omega⟩
        have l : (SM.over n.data h.pos s.data).length ≤ 8192 := by rw [hq, over_len]; omega
        exact ⟨⟨rfl, r2, r3, r4, r5, r6, r7, rfl, l, r10, r11, (fun _ => rfl), by simp only; omega, by simp only; omega, hs.c0⟩, by trivial⟩
      · have e15 : s.op = 15 := by omega
        have hw := p.wa e15
        have dl := p.dl
        rw [onX_15 x e15, fileN_15 e15 hc hr (by omega)]
        unfold wrR
        rw [if_neg (show ¬ ({ x with pos := s.off } : FX).cl = true from xc), if_neg (show ¬ ({ x with pos := s.off } : FX).ro = true from xr), wrX_over { x with pos := s.off } s.data (by simp only; omega)]
        simp only
        rw [r1]
        obtain ⟨q, hq⟩ : ∃ q : Nat, s.off = q := ⟨s.off.toNat, by omega⟩
        have l : (SM.over n.data s.off s.data).length ≤ 8192 := by rw [hq, over_len]; omega
        exact ⟨⟨rfl, r2, r3, r4, r5, r6, r7, rfl, l, r10, r11, (fun _ => rfl), by simp only; omega, by simp only; omega, hs.c0⟩, by trivial⟩
end
end Go.Proofs.YteblpejgenehfaaDoor.X
end
section
namespace Go.Proofs.YteblpejgenehfaaDoor.X
open Go Go.X Go.Proofs Go.RowKit
structure U4 where
  n1 : SM.Node
  h1 : SM.Hnd
  n2 : SM.Node
  h2 : SM.Hnd
def U4.pair (u : U4) : SM.Pair := ⟨one u.n2 u.h2, one u.n1 u.h1, [(0, 3)]⟩
def U4.next (u : U4) (s : SM.Stp) : U4 × SM.Ans :=
  let a := fileN u.n1 u.h1 s
  let b := if s.op = 12 then fileN u.n2 u.h2 (s.skip a.2.2.data.length) else if a.2.2.e = 0 then fileN u.n2 u.h2 s else (u.n2, u.h2, a.2.2)
  (⟨a.1, a.2.1, b.1, b.2.1⟩, a.2.2)
structure U4.Ok (u : U4) : Prop where
  k1 : u.h1.node = 1
  k2 : u.h2.node = 1
  d1 : u.n1.dir = false
  d2 : u.n2.dir = false
section
variable {u : U4} {s : SM.Stp}
theorem U4.next_ok (o : u.Ok) (s : SM.Stp) : (u.next s).1.Ok := by
  obtain ⟨a1, a2⟩ := fileN_node u.n1 u.h1 s
  obtain ⟨b1, b2⟩ := fileN_node u.n2 u.h2 (s.skip (fileN u.n1 u.h1 s).2.2.data.length)
  obtain ⟨c1, c2⟩ := fileN_node u.n2 u.h2 s
  unfold U4.next
  simp only
  split
  · exact ⟨a1.trans o.k1, b1.trans o.k2, a2.trans o.d1, b2.trans o.d2⟩
  · split
    · exact ⟨a1.trans o.k1, c1.trans o.k2, a2.trans o.d1, c2.trans o.d2⟩
    · exact ⟨a1.trans o.k1, o.k2, a2.trans o.d1, o.d2⟩
theorem cacheH_one (o : u.Ok) (ho : 12 ≤ s.op ∧ s.op ≤ 23) (hh : s.h = 0) : u.pair.cacheH s = ((u.next s).1.pair, (u.next s).2) := by
  have e3 : SM.ofGet u.pair.of s.h = 3 := by rw [hh]; rfl
  have el : u.pair.layer.doS s.h s = (one (fileN u.n1 u.h1 s).1 (fileN u.n1 u.h1 s).2.1, (fileN u.n1 u.h1 s).2.2) := doS_one o.k1 o.d1 ho hh _
  have eb : u.pair.base.doS s.h s = (one (fileN u.n2 u.h2 s).1 (fileN u.n2 u.h2 s).2.1, (fileN u.n2 u.h2 s).2.2) := doS_one o.k2 o.d2 ho hh _
  have ek : ∀ k, u.pair.base.doS s.h (s.skip k) = (one (fileN u.n2 u.h2 (s.skip k)).1 (fileN u.n2 u.h2 (s.skip k)).2.1, (fileN u.n2 u.h2 (s.skip k)).2.2) := fun k => doS_one (s := s.skip k) o.k2 o.d2 (by show 12 ≤ (16 : Int) ∧ (16 : Int) ≤ 23; omega) hh _
  unfold SM.Pair.cacheH U4.next
  by_cases c : s.op = 19 ∨ s.op = 20
  · rw [if_pos (by omega)]
    unfold SM.Pair.onH
    rw [e3, if_neg (by omega), if_neg (by omega), if_pos rfl, if_pos c]
    unfold SM.Pair.wovenS
    simp only [el, eb, fileN_19 c]
    rw [if_pos (by decide), if_neg (by omega), if_neg (by decide)]
    rfl
  · rw [if_neg (by omega)]
    simp only [el, eb, ek]
    by_cases c12 : s.op = 12
    · rw [if_pos c12, if_pos c12]; rfl
    · rw [if_neg c12, if_neg c12]
      by_cases ce : (fileN u.n1 u.h1 s).2.2.e = 0
      · rw [if_pos ce, if_pos ce]; rfl
      · rw [if_neg ce, if_neg ce]; rfl
end
structure RelU (c : Int) (x : FX × FX) (u : U4) : Prop where
  l : Rel c x.1 u.n1 u.h1
  b : Rel c x.2 u.n2 u.h2
  cl : u.h1.cl = u.h2.cl
  ro : u.h1.ro = u.h2.ro
structure SpU (u : U4) (s : SM.Stp) : Prop where
  l : SpF u.n1 u.h1 s
  b : SpF u.n2 u.h2 s
  no : s.op ≠ 13 ∧ s.op ≠ 21 ∧ s.op ≠ 22
section
variable {c : Int} {x x1 x2 : FX} {n n1 n2 : SM.Node} {h h1 h2 : SM.Hnd} {s : SM.Stp} {u : U4}
theorem fileN_e (p1 : SpF n1 h1 s) (p2 : SpF n2 h2 s) (hc : h1.cl = h2.cl) (hr : h1.ro = h2.ro) (no : s.op ≠ 12 ∧ s.op ≠ 13) : (fileN n1 h1 s).2.2.e = (fileN n2 h2 s).2.2.e := by
  have po := p1.op
  by_cases e18 : s.op = 18
  · rw [fileN_18 e18, fileN_18 e18]
  by_cases e21 : s.op = 21
  · rw [fileN_21 e21, fileN_21 e21]
  by_cases e22 : s.op = 22
  · rw [fileN_22 e22, fileN_22 e22]
  by_cases e23 : s.op = 23
  · rw [fileN_23 e23, fileN_23 e23]
  by_cases e19 : s.op = 19 ∨ s.op = 20
  · rw [fileN_19 e19, fileN_19 e19]
  cases c1 : h1.cl with
  | true => rw [fileN_cl (by omega) c1, fileN_cl (by omega) (by rw [← hc, c1])]
  | false =>
    have c2 : h2.cl = false := by rw [← hc, c1]
    by_cases e16 : s.op = 16
    · rw [fileN_16 e16 c1, fileN_16 e16 c2]
    cases r1 : h1.ro with
    | true => rw [fileN_ro (by omega) c1 r1, fileN_ro (by omega) c2 (by rw [← hr, r1])]
    | false =>
      have r2 : h2.ro = false := by rw [← hr, r1]
      by_cases e17 : s.op = 17
      · have ht := p1.tr e17
        by_cases g : s.off < 0
        · rw [fileN_17a e17 c1 r1 g, fileN_17a e17 c2 r2 g]
        · rw [fileN_17 e17 c1 r1 (by omega), fileN_17 e17 c2 r2 (by omega)]
      by_cases e14 : s.op = 14
      · have h1 := p1.wr e14
        have h2 := p2.wr e14
        rw [fileN_14 e14 c1 r1 (by omega), fileN_14 e14 c2 r2 (by omega)]
      · have e15 : s.op = 15 := by omega
        have h1 := p1.wa e15
        rw [fileN_15 e15 c1 r1 (by omega), fileN_15 e15 c2 r2 (by omega)]
theorem fileN_keep : (fileN n h s).2.1.ro = h.ro ∧ (fileN n h s).2.1.cl = (if s.op = 18 then true else h.cl) := by
  by_cases c : s.op = 18
  · rw [fileN_18 c, if_pos c]; exact ⟨rfl, rfl⟩
  · rw [if_neg c]
    unfold fileN
    rw [if_neg c]
    repeat' apply iteP (Q := fun r : SM.Node × SM.Hnd × SM.Ans => r.2.1.ro = h.ro ∧ r.2.1.cl = h.cl)
    all_goals first | exact ⟨rfl, rfl⟩ | (constructor <;> (first | rfl | (by_cases c : s.op = 15 <;> simp [c])))
theorem Rel.skip (r : Rel c x n h) (s : SM.Stp) {k : Nat} (hk : k ≤ 4096) : Rel (c + 8192) (skR x k 1).1 (fileN n h (s.skip k)).1 (fileN n h (s.skip k)).2.1 ∧ (h.cl = false → (skR x k 1).2.1 = 0) ∧ (h.cl = true → (skR x k 1).1 = x) := by
  have hs : Rel (c + 8192) x n h := r.to (by omega)
  have e16 : (s.skip k).op = 16 := rfl
  have r2 := r.cl
  have px := r.px
  have ph := r.ph
  unfold skR
  cases hc : h.cl with
  | true =>
    rw [fileN_cl (by rw [e16]; omega) hc, if_pos (by rw [r2, hc])]
    exact ⟨hs, (fun e => by cases e), fun _ => rfl⟩
  | false =>
    have xp := r.pos hc
    rw [fileN_16 e16 hc, if_neg (by rw [r2, hc]; exact Bool.false_ne_true)]
    have e1 : seekX x k 1 = x.pos + k := by unfold seekX; rw [if_neg (by omega), if_pos rfl]
    have e2 : seekN n h (s.skip k) = h.pos + k := by
      unfold seekN
      rw [if_neg (by show ¬ (1 : Int) = 0; omega), if_pos (by rfl)]
      rfl
    rw [e1, e2]
    exact ⟨⟨r.bytes, r.cl, r.ro, r.dx, r.dn, r.nm, r.mode, r.mt, r.len, r.nl, r.md, (fun _ => by simp only; omega), by simp only; omega, by simp only; omega, hs.c0⟩, (fun _ => rfl), fun e => by cases e⟩
theorem wov_gen (po : 12 ≤ s.op ∧ s.op ≤ 23) (no : s.op ≠ 12 ∧ s.op ≠ 13 ∧ s.op ≠ 21 ∧ s.op ≠ 22) : wovX x1 x2 s = ((onX x1 s).1, if (onX x1 s).2.e = 0 then (onX x2 s).1 else x2, if (onX x1 s).2.e = 0 then { (onX x1 s).2 with e := (onX x2 s).2.e } else (onX x1 s).2) := by
  unfold wovX
  rw [if_neg no.1]
  by_cases e14 : s.op = 14
  · rw [if_pos e14, onX_14 x1 e14, onX_14 x2 e14]
    unfold wrU
    simp only
    by_cases c : (wrR x1 s.data).2.1 = 0
    · rw [if_pos c, if_pos c, if_pos c]
    · rw [if_neg c, if_neg c, if_neg c]
  rw [if_neg e14]
  by_cases e15 : s.op = 15
  · rw [if_pos e15, onX_15 x1 e15, onX_15 x2 e15]
    unfold waU
    simp only
    by_cases c : (wrR { x1 with pos := s.off } s.data).2.1 = 0
    · rw [if_pos c, if_pos c, if_pos c]
    · rw [if_neg c, if_neg c, if_neg c]
  rw [if_neg e15]
  by_cases e16 : s.op = 16
  · rw [if_pos e16, onX_16 x1 e16, onX_16 x2 e16]
    unfold skU
    simp only
    by_cases c : (skR x1 s.off s.wh).2.1 = 0
    · rw [if_pos c, if_pos c, if_pos c]
    · rw [if_neg c, if_neg c, if_neg c]
  rw [if_neg e16]
  by_cases e17 : s.op = 17
  · rw [if_pos e17, onX_17 x1 e17, onX_17 x2 e17]
    unfold trU
    simp only
    by_cases c : (trR x1 s.off).2 = 0
    · rw [if_pos c, if_pos c, if_pos c]
    · rw [if_neg c, if_neg c, if_neg c]
  rw [if_neg e17]
  by_cases e18 : s.op = 18
  · rw [if_pos e18, onX_18 x1 e18, onX_18 x2 e18]
    rfl
  rw [if_neg e18]
  by_cases e19 : s.op = 19
  · rw [if_pos e19, onX_19 x1 (.inl e19), onX_19 x2 (.inl e19)]
    rfl
  rw [if_neg e19]
  by_cases e20 : s.op = 20
  · rw [if_pos e20, onX_19 x1 (.inr e20), onX_19 x2 (.inr e20)]
    rfl
  rw [if_neg e20, if_neg no.2.2.1, if_neg no.2.2.2, onX_23 x1 (by omega), onX_23 x2 (by omega)]
  rfl
theorem RelU.step {x : FX × FX} (r : RelU c x u) (p : SpU u s) : RelU (c + 8192) (wovS x s).1 (u.next s).1 ∧ (wovS x s).2 = (u.next s).2 := by
  obtain ⟨x1, x2⟩ := x
  obtain ⟨rl, rb, hc, hr⟩ := r
  obtain ⟨sl, se⟩ := rl.step p.l
  obtain ⟨sb, sf⟩ := rb.step p.b
  have k1 := fileN_keep (n := u.n1) (h := u.h1) (s := s)
  have k2 := fileN_keep (n := u.n2) (h := u.h2) (s := s)
  have k3 := fun k => fileN_keep (n := u.n2) (h := u.h2) (s := s.skip k)
  have po := p.l.op
  unfold wovS U4.next
  simp only at rl rb sl se sb sf ⊢
  by_cases e12 : s.op = 12
  · have nn := p.l.nn (by omega)
    simp only [if_pos e12]
    unfold wovX
    rw [if_pos e12]
    rw [onX_12 x1 e12] at sl se
    have hd : (rdR x1 (want s.n)).2.1 = (fileN u.n1 u.h1 s).2.2.data := by rw [← se]
    have he : (rdR x1 (want s.n)).2.2 = (fileN u.n1 u.h1 s).2.2.e := by rw [← se]
    have hl : (fileN u.n1 u.h1 s).2.2.data.length ≤ 4096 := by
      cases q : u.h1.cl with
      | true => rw [fileN_cl (by omega) q]; exact Nat.zero_le _
      | false =>
        rw [fileN_12 e12 q]
        have := (readFrom_len u.n1.data u.h1.pos s.n nn.2).1
        simp only
        omega
    obtain ⟨g1, g2, g3⟩ := rb.skip s hl
    have kk : (fileN u.n1 u.h1 s).2.1.cl = (fileN u.n2 u.h2 (s.skip (fileN u.n1 u.h1 s).2.2.data.length)).2.1.cl ∧ (fileN u.n1 u.h1 s).2.1.ro = (fileN u.n2 u.h2 (s.skip (fileN u.n1 u.h1 s).2.2.data.length)).2.1.ro := by
      rw [k1.1, k1.2, (k3 _).1, (k3 _).2, if_neg (by omega), if_neg (by show ¬ (16 : Int) = 18; omega)]
      exact ⟨hc, hr⟩
    unfold rdU
    rw [hd]
    by_cases ce : (rdR x1 (want s.n)).2.2 = 0 ∨ (rdR x1 (want s.n)).2.2 = 4
    · rw [if_pos ce]
      have hcf : u.h1.cl = false := by
        cases q : u.h1.cl with
        | false => rfl
        | true =>
          rw [he, fileN_cl (by omega) q] at ce
          rcases ce with e | e <;> cases e
      have z := g2 (by rw [← hc, hcf])
      refine ⟨⟨sl, g1, kk.1, kk.2⟩, ?_⟩
      simp only
      rw [if_pos z, ← se]
    · rw [if_neg ce]
      have hz : (skR x2 ((fileN u.n1 u.h1 s).2.2.data.length) 1).1 = x2 ∨ (fileN u.n1 u.h1 s).2.2.data.length = 0 := by
        cases q : u.h1.cl with
        | true => exact .inl (g3 (by rw [← hc, q]))
        | false =>
          right
          rw [he, fileN_12 e12 q] at ce
          rw [fileN_12 e12 q]
          simp only at ce ⊢
          unfold SM.readFrom at ce ⊢
          repeat' split
          all_goals first | rfl | skip
          rename_i q1 q2 q3
          rw [if_neg q1, if_neg q2, if_neg q3] at ce
          exact absurd (Or.inl rfl) ce
      have hz2 : (skR x2 ((fileN u.n1 u.h1 s).2.2.data.length) 1).1 = x2 := by
        rcases hz with e | e
        · exact e
        · rw [e]
          unfold skR
          by_cases q : x2.cl = true
          · rw [if_pos q]
          · rw [if_neg q]
            unfold seekX
            simp
      rw [hz2] at g1
      refine ⟨⟨sl, g1, kk.1, kk.2⟩, ?_⟩
      simp only
      rw [← se]
  · rw [wov_gen po ⟨e12, p.no⟩]
    simp only [if_neg e12]
    have ee : (onX x1 s).2.e = (fileN u.n1 u.h1 s).2.2.e := by rw [se]
    have ef : (onX x2 s).2.e = (fileN u.n2 u.h2 s).2.2.e := by rw [sf]
    have eq := fileN_e p.l p.b hc hr ⟨e12, p.no.1⟩
    by_cases ce : (fileN u.n1 u.h1 s).2.2.e = 0
    · rw [ee, if_pos ce, if_pos ce, if_pos ce]
      refine ⟨⟨sl, sb, ?_, ?_⟩, ?_⟩
      · show (fileN u.n1 u.h1 s).2.1.cl = (fileN u.n2 u.h2 s).2.1.cl
        rw [k1.2, k2.2, hc]
      · show (fileN u.n1 u.h1 s).2.1.ro = (fileN u.n2 u.h2 s).2.1.ro
        rw [k1.1, k2.1, hr]
      · show ({ (onX x1 s).2 with e := (onX x2 s).2.e } : SM.Ans) = (fileN u.n1 u.h1 s).2.2
        rw [ef, ← eq, ← ee, ← se]
    · rw [ee, if_neg ce, if_neg ce, if_neg ce]
      refine ⟨⟨sl, rb.to (by omega), ?_, ?_⟩, se⟩
      · show (fileN u.n1 u.h1 s).2.1.cl = u.h2.cl
        have n18 : s.op ≠ 18 := fun e => ce (by rw [fileN_18 e])
        rw [k1.2, if_neg n18, hc]
      · show (fileN u.n1 u.h1 s).2.1.ro = u.h2.ro
        rw [k1.1, hr]
theorem RelU.okU {x : FX × FX} (r : RelU c x u) (p : SpU u s) (hc : c ≤ 1000000000) : OkU x.1 x.2 s := ⟨r.l.okX p.l hc, r.b.okX p.b hc, p.no.1⟩
end
end Go.Proofs.YteblpejgenehfaaDoor.X
end
