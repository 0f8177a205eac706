/- A file's handle: what its methods do. No condition. -/
import Derived.Test.YteblpejgenehfaaDoorXU
import Derived.Test.YteblpejgenehfaaDoorXBuf
import Derived.Test.YteblpejgenehfaaDoorXF0
import Derived.Test.YteblpejgenehfaaDoorXF1
import Derived.Test.YteblpejgenehfaaDoorXF2
set_option linter.unusedVariables false
set_option linter.unusedSimpArgs false
set_option maxRecDepth 100000
namespace Go.Proofs.YteblpejgenehfaaDoor.X
open Go Go.X Go.Proofs Go.RowKit

/-- A file as a handle has it. -/
structure FS where
  bytes : List UInt8
  pos : Int
  cl : Bool
  ro : Bool
/-- The handle at f, the file's data at d, its bytes the slice v. -/
structure FD (w : World) (B f d : Nat) (v : Value) (s : FS) : Prop where
  hf : B ≤ f
  hd : B ≤ d
  fd : f ≠ d
  bf : ∃ rdc : Int, bk w f = some (CB [.int .i64 s.pos, .int .i64 rdc, .bool s.cl, .bool s.ro, pt d 0] T.mem_File)
  bd : ∃ nm md dir mode mt uid gid, bk w d = some (CB [S nm, v, md, .bool dir, .int .u32 mode, .int .i64 mt, .int .i64 uid, .int .i64 gid] T.mem_FileData) ∧ md.oneCell' = true
  own : w.ownsRow B T.uint8 1 v s.bytes.length (s.bytes.map byt)
  nf : v.ownBlock ≠ some f
  nd : v.ownBlock ≠ some d
/-- The blocks that a file's own methods may turn. -/
abbrev Of (f d : Nat) (v : Value) : Nat → Prop := fun k => k = f ∨ k = d ∨ v.ownBlock = some k
theorem FD.lt {w : World} {B f d : Nat} {v : Value} {s : FS} (h : FD w B f d v s) : f < w.heap.size ∧ d < w.heap.size := by
  obtain ⟨_, h1⟩ := h.bf
  obtain ⟨_, _, _, _, _, _, _, h2, _⟩ := h.bd
  exact ⟨bk_lt h1, bk_lt h2⟩
theorem own_lt {w : World} {B n size : Nat} {e : TypeId} {v : Value} {xs : List Value} (h : w.ownsRow B e size v n xs) : ∀ k, v.ownBlock = some k → B ≤ k ∧ k < w.heap.size := fun k hk => by
  rcases h.2 with ⟨rfl, _⟩ | ⟨g, cap, cur, rfl, h1, h2, h3⟩
  · cases hk
  · injection hk with hk
    subst hk
    exact ⟨h1, (Array.getElem?_eq_some_iff.1 h2).1⟩
theorem FD.kept {w w' : World} {B f d : Nat} {v : Value} {s : FS} (h : FD w B f d v s) {R : Nat → Prop} (k : Kp w w' R) (hR : ∀ x, Of f d v x → ¬ R x) : FD w' B f d v s := by
  obtain ⟨l1, l2⟩ := h.lt
  refine ⟨h.hf, h.hd, h.fd, ?_, ?_, own_kp h.own k fun x hx => hR x (.inr (.inr hx)), h.nf, h.nd⟩
  · rw [k.block f l1 (hR f (.inl rfl))]; exact h.bf
  · rw [k.block d l2 (hR d (.inr (.inl rfl)))]; exact h.bd
theorem FD.old {w w' : World} {B f d : Nat} {v : Value} {s : FS} (h : FD w B f d v s) (hb : Below w.heap.size w w') : FD w' B f d v s := by
  refine h.kept (R := fun x => w.heap.size ≤ x) ⟨hb.os, hb.tape, hb.output, hb.size, fun k hk _ => hb.block k hk⟩ fun x hx => ?_
  obtain ⟨l1, l2⟩ := h.lt
  rcases hx with rfl | rfl | hx
  · omega
  · omega
  · have := (own_lt h.own x hx).2; omega
theorem FD.below {w w' : World} {B f d : Nat} {v : Value} {s : FS} (h : FD w B f d v s) (k : Kp w w' (Of f d v)) : Below B w w' := by
  refine k.below (fun x hx hs => ?_) (by have := h.lt.1; have := h.hf; omega)
  rcases hs with rfl | rfl | hs
  · exact absurd h.hf (by omega)
  · exact absurd h.hd (by omega)
  · have := (own_lt h.own x hs).1; omega
/-- The place set. -/
theorem FD.setPos {w : World} {B f d : Nat} {v : Value} {s : FS} (h : FD w B f d v s) (p rdc : Int) : FD (setb w f (CB [.int .i64 p, .int .i64 rdc, .bool s.cl, .bool s.ro, pt d 0] T.mem_File)) B f d v { s with pos := p } := by
  obtain ⟨l1, l2⟩ := h.lt
  have k := Kp.setb w f (CB [.int .i64 p, .int .i64 rdc, .bool s.cl, .bool s.ro, pt d 0] T.mem_File)
  refine ⟨h.hf, h.hd, h.fd, ⟨rdc, bk_setb_eq _ _ _ _ rfl l1⟩, ?_, own_kp h.own k fun x hx e => h.nf (by rw [hx, e]), h.nf, h.nd⟩
  rw [bk_setb_ne _ _ _ _ (Ne.symm h.fd)]
  exact h.bd

/-- Where seeking leads to. -/
def seekTo (s : FS) (off wh : Int) : Int := if wh = 0 then off else if wh = 1 then s.pos + off else if wh = 2 then s.bytes.length + off else s.pos
theorem seek_spec {w : World} {K : Value → World → Prop} {B f d : Nat} {v : Value} {s : FS} {off wh : Int} (h : FD w B f d v s) (hc : s.cl = false) (h1 : -4611686018427387904 ≤ off ∧ off ≤ 4611686018427387903) (h2 : -4611686018427387904 ≤ s.pos ∧ s.pos ≤ 4611686018427387903) (h3 : s.bytes.length ≤ 4611686018427387903)
    (hk : ∀ w', FD w' B f d v { s with pos := seekTo s off wh } → Kp w w' (Of f d v) → K (tup [.int .i64 (seekTo s off wh), .nilIface]) w') : Cl P Fn.mem_File_Seek #[pt f 0, .int .i64 off, .int .i64 wh] w K := by
  apply S_mem_File_Seek
  unfold F_mem_File_Seek
  obtain ⟨rdc, hf⟩ := h.bf
  obtain ⟨nm, md, dir, mode, mt, uid, gid, hd, hmd⟩ := h.bd
  obtain ⟨l1, l2⟩ := h.lt
  have hfd := h.fd
  obtain ⟨a, cap, rfl⟩ := own_slice h.own
  have fin : ∀ p : Int, seekTo s off wh = p → ∀ w', w' = setb w f (CB [.int .i64 p, .int .i64 rdc, .bool s.cl, .bool s.ro, pt d 0] T.mem_File) → K (tup [.int .i64 p, .nilIface]) w' := fun p e w' e2 => by
    subst e
    subst e2
    have kp := Kp.setb w f (CB [.int .i64 (seekTo s off wh), .int .i64 rdc, .bool s.cl, .bool s.ro, pt d 0] T.mem_File)
    exact hk _ (h.setPos _ rdc) ⟨kp.os, kp.tape, kp.output, kp.size, fun k hk hn => kp.block k hk fun e3 => hn (.inl e3)⟩
  refine jn_with (fun t w' => w' = w) ?_ ?_
  · rintro t e w1 rfl
    refine jn_with (fun t w' => w' = setb w1 f (CB [.int .i64 (seekTo s off wh), .int .i64 rdc, .bool s.cl, .bool s.ro, pt d 0] T.mem_File)) ?_ ?_
    · rintro t e w2 e2
      have hf2 : bk w2 f = some (CB [.int .i64 (seekTo s off wh), .int .i64 rdc, .bool s.cl, .bool s.ro, pt d 0] T.mem_File) := by rw [e2]; exact bk_setb_eq _ _ _ _ rfl l1
      simp (disch := first | omega | (simp only [size_setb, size_alloc', size_drew'] <;> omega) | (simp (disch := first | omega | (simp only [size_setb, size_alloc', size_drew'] <;> omega) | fail) only [go_sem, hf2]; done) | fail) only [go_sem, dec_t, dec_f, w_u32, w_u64, w_u16, w_u8, w_i64, Int.reduceToNat, Int.reducePow, Nat.reducePow, hf2]
      exact fin _ rfl _ e2
    · by_cases c0 : wh = 0
      · simp (disch := first | omega | (simp only [size_setb, size_alloc', size_drew'] <;> omega) | (simp (disch := first | omega | (simp only [size_setb, size_alloc', size_drew'] <;> omega) | fail) only [go_sem, c0, hf, decide_true]; done) | fail) only [go_sem, dec_t, dec_f, w_u32, w_u64, w_u16, w_u8, w_i64, Int.reduceToNat, Int.reducePow, Nat.reducePow, c0, hf, decide_true]
        simp [seekTo]
      by_cases c1 : wh = 1
      · simp (disch := first | omega | (simp only [size_setb, size_alloc', size_drew'] <;> omega) | (simp (disch := first | omega | (simp only [size_setb, size_alloc', size_drew'] <;> omega) | fail) only [go_sem, c0, c1, hf, decide_true, decide_false]; done) | fail) only [go_sem, dec_t, dec_f, w_u32, w_u64, w_u16, w_u8, w_i64, Int.reduceToNat, Int.reducePow, Nat.reducePow, c0, c1, hf, decide_true, decide_false]
        simp [seekTo]
      by_cases c2 : wh = 2
      · simp (disch := first | omega | (simp only [size_setb, size_alloc', size_drew'] <;> omega) | (simp (disch := first | omega | (simp only [size_setb, size_alloc', size_drew'] <;> omega) | fail) only [go_sem, c0, c1, c2, hf, hd, decide_true, decide_false]; done) | fail) only [go_sem, dec_t, dec_f, w_u32, w_u64, w_u16, w_u8, w_i64, Int.reduceToNat, Int.reducePow, Nat.reducePow, c0, c1, c2, hf, hd, decide_true, decide_false]
        simp [seekTo]
      · simp (disch := first | omega | (simp only [size_setb, size_alloc', size_drew'] <;> omega) | (simp (disch := first | omega | (simp only [size_setb, size_alloc', size_drew'] <;> omega) | fail) only [go_sem, c0, c1, c2, hf, decide_true, decide_false]; done) | fail) only [go_sem, dec_t, dec_f, w_u32, w_u64, w_u16, w_u8, w_i64, Int.reduceToNat, Int.reducePow, Nat.reducePow, c0, c1, c2, hf, decide_true, decide_false]
        have e5 : seekTo s off wh = s.pos := by simp [seekTo, c0, c1, c2]
        rw [e5]
        exact (setb_same hf).symm
  · simp (disch := first | omega | (simp only [size_setb, size_alloc', size_drew'] <;> omega) | (simp (disch := first | omega | (simp only [size_setb, size_alloc', size_drew'] <;> omega) | fail) only [go_sem, hf, hc]; done) | fail) only [go_sem, dec_t, dec_f, w_u32, w_u64, w_u16, w_u8, w_i64, Int.reduceToNat, Int.reducePow, Nat.reducePow, hf, hc]

/-! ### Errors -/
/-- The variables that hold an error. -/
def sents : List Nat := [G.os_ErrNotExist, G.os_ErrExist, G.os_ENOENT, G.os_ENOTDIR, G.os_EPERM, G.os_EIO, G.os_EBADFD, G.io_EOF, G.io_ErrUnexpectedEOF, G.mem_ErrFileClosed, G.mem_ErrOutOfRange]
/-- An error of errors.New. -/
abbrev er (q : Nat × Nat) : Value := .iface T.p_errors_errorString (pt q.1 q.2)
structure Sn (w : World) (B : Nat) (m : Nat → Nat × Nat) : Prop where
  at_ : ∀ g ∈ sents, g < B ∧ ∃ tt, bk w g = some (CB [er (m g)] tt)
  cell : ∀ g ∈ sents, (m g).1 < B ∧ ∃ l tt, bk w (m g).1 = some (CB l tt)
  inj : ∀ g ∈ sents, ∀ g' ∈ sents, m g = m g' → g = g'
theorem Sn.below {w w' : World} {B : Nat} {m : Nat → Nat × Nat} (h : Sn w B m) (hb : Below B w w') : Sn w' B m :=
  ⟨fun g hg => ⟨(h.at_ g hg).1, by rw [bel_bk hb (h.at_ g hg).1]; exact (h.at_ g hg).2⟩, fun g hg => ⟨(h.cell g hg).1, by rw [bel_bk hb (h.cell g hg).1]; exact (h.cell g hg).2⟩, h.inj⟩

/-! ### Reading -/
/-- What reading n bytes gives, and which error (4 the end, 5 beyond it). -/
def rdF (s : FS) (n : Nat) : List UInt8 × Nat := if 0 < n ∧ s.pos = s.bytes.length then ([], 4) else if (s.bytes.length : Int) < s.pos then ([], 5) else ((s.bytes.drop s.pos.toNat).take n, 0)
def errV (m : Nat → Nat × Nat) (k : Nat) : Value := if k = 4 then er (m G.io_EOF) else if k = 5 then er (m G.io_ErrUnexpectedEOF) else .nilIface

set_option maxHeartbeats 4000000 in
theorem read_spec {w : World} {K : Value → World → Prop} {B f d b n : Nat} {v : Value} {s : FS} {m : Nat → Nat × Nat} (h : FD w B f d v s) (hs : Sn w B m) (hc : s.cl = false) (h2 : 0 ≤ s.pos ∧ s.pos ≤ 4611686018427387903) (h3 : s.bytes.length ≤ 281474976710656) (hn : n ≤ 281474976710656)
    (hb : bk w b = some (CB (List.replicate n (.int .u8 0)) T.uint8)) (hbf : b ≠ f) (hbd : b ≠ d) (hbv : v.ownBlock ≠ some b)
    (hk : ∀ w', FD w' B f d v { s with pos := s.pos + (rdF s n).1.length } → Kp w w' (fun k => k = f ∨ k = b) → bk w' b = some (CB ((rdF s n).1.map byt ++ List.replicate (n - (rdF s n).1.length) (.int .u8 0)) T.uint8) → K (tup [.int .i64 (rdF s n).1.length, errV m (rdF s n).2]) w') :
    Cl P Fn.mem_File_Read #[pt f 0, sl b 0 n n] w K := by
  apply S_mem_File_Read
  unfold F_mem_File_Read
  obtain ⟨rdc, hf⟩ := h.bf
  obtain ⟨nm, md, dir, mode, mt, uid, gid, hd, hmd⟩ := h.bd
  obtain ⟨l1, l2⟩ := h.lt
  have hfd := h.fd
  obtain ⟨a, cap, rfl⟩ := own_slice h.own
  obtain ⟨q1, t1, e1⟩ := hs.at_ G.io_EOF (by simp [sents])
  obtain ⟨q2, t2, e2⟩ := hs.at_ G.io_ErrUnexpectedEOF (by simp [sents])
  have fin0 : ∀ k, rdF s n = ([], k) → ∀ w', Kp w w' (fun _ => False) → K (tup [.int .i64 0, errV m k]) w' := fun k e w' kp => by
    have q := hk w'
    rw [e] at q
    refine q ?_ ⟨kp.os, kp.tape, kp.output, kp.size, fun x hx _ => kp.block x hx id⟩ ?_
    · have := h.kept kp fun _ _ h => h
      simpa using this
    · rw [kp.block b (bk_lt hb) id, hb]; simp
  have kd : ∀ {x : World}, Kp w x (fun _ => False) → Kp w x.drew (fun _ => False) := fun h => ⟨h.os, h.tape, h.output, h.size, h.block⟩
  refine jn_with (fun t w' => t = [.nilIface] ∧ w' = w) ?_ ?_
  · rintro t e w1 ⟨rfl, rfl⟩
    refine jn_with (fun t w' => t = [.nilIface] ∧ Kp w1 w' (fun _ => False) ∧ ¬ (0 < n ∧ s.pos = s.bytes.length)) ?_ ?_
    · rintro t e w2 ⟨rfl, k2, hn2⟩
      have hf2 := (k2.block f l1 id).trans hf
      have hd2 := (k2.block d l2 id).trans hd
      by_cases c2 : (s.bytes.length : Int) < s.pos
      · refine jn_with (fun _ _ => False) (fun _ _ _ h => h.elim) ?_
        have e3 : bk w2 G.io_ErrUnexpectedEOF = some (CB [er (m G.io_ErrUnexpectedEOF)] t2) := by
          rw [k2.block _ (by have := h.hf; omega) id, e2]
        simp (disch := first | omega | (simp only [size_setb, size_alloc', size_drew'] <;> omega) | (simp (disch := first | omega | (simp only [size_setb, size_alloc', size_drew'] <;> omega) | fail) only [go_sem, hf2, hd2, e3]; done) | fail) only [go_sem, dec_t, dec_f, w_u32, w_u64, w_u16, w_u8, w_i64, Int.reduceToNat, Int.reducePow, Nat.reducePow, hf2, hd2, e3]
        exact fin0 5 (by rw [rdF, if_neg hn2, if_pos c2]) _ (kd (kd k2))
      · refine jn_with (fun t w' => t = [.nilIface] ∧ Kp w1 w' (fun _ => False)) ?_ ?_
        · rintro t e w3 ⟨rfl, k3⟩
          have hf3 := (k3.block f l1 id).trans hf
          have hd3 := (k3.block d l2 id).trans hd
          have hb3 := (k3.block b (bk_lt hb) id).trans hb
          obtain ⟨p, hp⟩ := Int.eq_ofNat_of_zero_le h2.1
          have hpl : p ≤ s.bytes.length := by omega
          have erd : rdF s n = ((s.bytes.drop p).take n, 0) := by rw [rdF, if_neg hn2, if_neg c2, hp]; rfl
          have erl : (rdF s n).1.length = min n (s.bytes.length - p) := by rw [erd]; simp
          refine jn_with (fun t w' => t = [.int .i64 (rdF s n).1.length] ∧ Kp w1 w' (fun _ => False)) ?_ ?_
          · rintro t e w4 ⟨rfl, k4⟩
            have hf4 := (k4.block f l1 id).trans hf
            have hd4 := (k4.block d l2 id).trans hd
            have hb4 := (k4.block b (bk_lt hb) id).trans hb
            have lb4 : b < w4.heap.size := bk_lt hb4
            have lf4 : f < w4.heap.size := bk_lt hf4
            have ed : (rdF s n).1 = (s.bytes.drop p).take n := congrArg Prod.fst erd
            have ek : (rdF s n).2 = 0 := congrArg Prod.snd erd
            have h4 : FD w4.drew B f d (.slice a s.bytes.length cap) s := h.kept (kd k4) fun _ _ h => h
            generalize hM : (rdF s n).1.length = M at *
            rw [ek] at hk
            have hMl : p + M ≤ s.bytes.length := by omega
            have hMn : M ≤ n := by omega
            have fin : ∀ w5, w5 = setb w4.drew b (CB ((rdF s n).1.map byt ++ List.replicate (n - M) (.int .u8 0)) T.uint8) → ∀ w6, w6 = setb w5 f (CB [.int .i64 (s.pos + M), .int .i64 rdc, .bool s.cl, .bool s.ro, pt d 0] T.mem_File) → K (tup [.int .i64 M, .nilIface]) w6 := by
              rintro w5 rfl w6 rfl
              have k5 := Kp.setb w4.drew b (CB ((rdF s n).1.map byt ++ List.replicate (n - M) (.int .u8 0)) T.uint8)
              have h5 := h4.kept k5 fun x hx e => by
                subst e
                rcases hx with e | e | e
                · exact hbf e
                · exact hbd e
                · exact hbv e
              have h6 := h5.setPos (s.pos + M) rdc
              refine hk _ h6 ?_ ?_
              · have k6 := Kp.setb (setb w4.drew b (CB ((rdF s n).1.map byt ++ List.replicate (n - M) (.int .u8 0)) T.uint8)) f (CB [.int .i64 (s.pos + M), .int .i64 rdc, .bool s.cl, .bool s.ro, pt d 0] T.mem_File)
                have q1 := (kd k4).trans (k5) (S := fun _ => False) (T := fun x => x = b)
                refine ⟨k6.os.trans (k5.os.trans k4.os), k6.tape.trans (k5.tape.trans k4.tape), k6.output.trans (k5.output.trans k4.output), ?_, ?_⟩
                · simp only [go_sem]; exact k4.size
                · intro x hx hn3
                  have n1 : x ≠ f := fun e => hn3 (.inl e)
                  have n2 : x ≠ b := fun e => hn3 (.inr e)
                  rw [bk_setb_ne _ _ _ _ n1, bk_setb_ne _ _ _ _ n2]
                  exact k4.block x hx id
              · rw [bk_setb_ne _ _ _ _ hbf]
                exact bk_setb_eq _ _ _ _ rfl (show b < w4.drew.heap.size from lb4)
            by_cases hz : s.bytes.length = 0
            · have hp0 : p = 0 := by omega
              have hM0 : M = 0 := by omega
              subst hp0 hM0
              have ei : ((0 : Nat) : Int) = 0 := rfl
              have sx : ∀ (L : Value → Prop), pu P (oSlice T.sl_uint8 (.slice a s.bytes.length cap) (some (.int .i64 0)) (some (.int .i64 0)) none) L = L (.slice a 0 cap) := fun L => oSlice_00 (size := 1) U.sl_uint8 (by kernel_rfl)
              have cp : ∀ (w : World) (L : Value → World → Prop), st P (oBuiltin .copy #[T.sl_uint8, T.sl_uint8] T.int #[false, false] #[sl b 0 n n, .slice a 0 cap]) w L = L (.int .i64 0) w := fun w L => oCopy0 U.sl_uint8 (by kernel_rfl)
              have er0 : (rdF s n).1 = [] := List.length_eq_zero_iff.1 hM
              have f5 := fin w4.drew (by
                rw [er0]
                simp only [List.map_nil, List.nil_append, Nat.sub_zero]
                exact (setb_same (w := w4.drew) hb4).symm) _ rfl
              rw [hp] at f5
              simp (disch := first | omega | (simp only [size_setb, size_alloc', size_drew'] <;> omega) | (simp (disch := first | omega | (simp only [size_setb, size_alloc', size_drew'] <;> omega) | fail) only [go_sem, hf4, hd4, hp, ei, Int.add_zero, sx, cp]; done) | fail) only [go_sem, dec_t, dec_f, w_u32, w_u64, w_u16, w_u8, w_i64, Int.reduceToNat, Int.reducePow, Nat.reducePow, hf4, hd4, hp, ei, Int.add_zero, sx, cp]
              simpa using f5
            · obtain ⟨b', cap', cur, ev, r1, r2, r3, r4, r5, r6⟩ := own_row h4.own hz
              injection ev with ev1 ev2 ev3
              subst ev1 ev3
              obtain ⟨o', eo, hro⟩ := part_at (w := w4.drew) (b := b') (cap := cap) r4 (by omega) (by simpa using r6) r1 p M hMl
              have sx : ∀ (L : Value → Prop), pu P (oSlice T.sl_uint8 (sl b' 0 s.bytes.length cap) (some (.int .i64 p)) (some (.int .i64 ((p : Int) + M))) none) L = L (sl b' o' M (cap - p)) := fun L => by
                rw [oSlice_sl (size := 1) L U.sl_uint8 (by kernel_rfl) (by omega) (by omega) (by omega)]
                rw [show (p : Int).toNat = p by omega, show ((p : Int) + M).toNat - p = M by omega, eo]
              have hpre : (rdF s n).1 = (s.bytes.drop p).take M := by
                have q := List.prefix_iff_eq_take.1 (List.take_prefix n (s.bytes.drop p))
                rw [← ed, hM] at q
                exact q
              have hl : ((s.bytes.drop p).take M).length = M := by rw [← hpre, hM]
              have cp : ∀ (L : Value → World → Prop), st P (oBuiltin .copy #[T.sl_uint8, T.sl_uint8] T.int #[false, false] #[sl b 0 n n, sl b' o' M (cap - p)]) w4.drew L = L (.int .i64 M) (setb w4.drew b (CB ((rdF s n).1.map byt ++ List.replicate (n - M) (.int .u8 0)) T.uint8)) := fun L => by
                rw [oCopy L w4.drew (tE := T.uint8) (l0 := List.replicate n (.int .u8 0)) (t := T.uint8) (l := (s.bytes.drop p).take M) U.sl_uint8 (by kernel_rfl) hb4 hl.symm (by omega) (by simp only [List.length_replicate]; omega) hro]
                rw [hl, ← hpre]
                simp
              have f5 := fin _ rfl _ rfl
              rw [hp] at f5
              have hf5 : bk (setb w4.drew b (CB ((rdF s n).1.map byt ++ List.replicate (n - M) (.int .u8 0)) T.uint8)) f = some (CB [.int .i64 s.pos, .int .i64 rdc, .bool s.cl, .bool s.ro, pt d 0] T.mem_File) := by
                rw [bk_setb_ne _ _ _ _ (Ne.symm hbf)]; exact hf4
              simp (disch := first | omega | (simp only [size_setb, size_alloc', size_drew'] <;> omega) | (simp (disch := first | omega | (simp only [size_setb, size_alloc', size_drew'] <;> omega) | fail) only [go_sem, hf4, hd4, hp, sx, cp, hf5]; done) | fail) only [go_sem, dec_t, dec_f, w_u32, w_u64, w_u16, w_u8, w_i64, Int.reduceToNat, Int.reducePow, Nat.reducePow, hf4, hd4, hp, sx, cp, hf5]
              exact f5
          · rw [erl]
            by_cases c3 : (n : Int) ≤ (s.bytes.length : Int) - p
            · simp (disch := first | omega | (simp only [size_setb, size_alloc', size_drew'] <;> omega) | (simp (disch := first | omega | (simp only [size_setb, size_alloc', size_drew'] <;> omega) | fail) only [go_sem, hf3, hd3, hp]; done) | fail) only [go_sem, dec_t, dec_f, w_u32, w_u64, w_u16, w_u8, w_i64, Int.reduceToNat, Int.reducePow, Nat.reducePow, hf3, hd3, hp]
              exact ⟨by rw [Nat.min_eq_left (by omega)], kd k3⟩
            · simp (disch := first | omega | (simp only [size_setb, size_alloc', size_drew'] <;> omega) | (simp (disch := first | omega | (simp only [size_setb, size_alloc', size_drew'] <;> omega) | fail) only [go_sem, hf3, hd3, hp]; done) | fail) only [go_sem, dec_t, dec_f, w_u32, w_u64, w_u16, w_u8, w_i64, Int.reduceToNat, Int.reducePow, Nat.reducePow, hf3, hd3, hp]
              refine ⟨?_, kd (kd k3)⟩
              have e9 : ((s.bytes.length : Int) - p) = (min n (s.bytes.length - p) : Nat) := by omega
              rw [e9]
        · simp (disch := first | omega | (simp only [size_setb, size_alloc', size_drew'] <;> omega) | (simp (disch := first | omega | (simp only [size_setb, size_alloc', size_drew'] <;> omega) | fail) only [go_sem, hf2, hd2]; done) | fail) only [go_sem, dec_t, dec_f, w_u32, w_u64, w_u16, w_u8, w_i64, Int.reduceToNat, Int.reducePow, Nat.reducePow, hf2, hd2]
          exact ⟨trivial, kd k2⟩
    · by_cases c1 : 0 < n ∧ s.pos = s.bytes.length
      · have g1 : (0 : Int) < n := by omega
        have g2 : s.pos = (s.bytes.length : Int) := c1.2
        simp (disch := first | omega | (simp only [size_setb, size_alloc', size_drew'] <;> omega) | (simp (disch := first | omega | (simp only [size_setb, size_alloc', size_drew'] <;> omega) | fail) only [go_sem, hf, hd, e1]; done) | fail) only [go_sem, dec_t, dec_f, w_u32, w_u64, w_u16, w_u8, w_i64, Int.reduceToNat, Int.reducePow, Nat.reducePow, hf, hd, e1]
        exact fin0 4 (by rw [rdF, if_pos c1]) _ (kd (kd (Kp.refl _ _)))
      · by_cases g1 : (0 : Int) < n
        · have g2 : ¬ s.pos = (s.bytes.length : Int) := fun e => c1 ⟨by omega, e⟩
          simp (disch := first | omega | (simp only [size_setb, size_alloc', size_drew'] <;> omega) | (simp (disch := first | omega | (simp only [size_setb, size_alloc', size_drew'] <;> omega) | fail) only [go_sem, hf, hd]; done) | fail) only [go_sem, dec_t, dec_f, w_u32, w_u64, w_u16, w_u8, w_i64, Int.reduceToNat, Int.reducePow, Nat.reducePow, hf, hd]
          exact ⟨trivial, kd (Kp.refl _ _), c1⟩
        · simp (disch := first | omega | (simp only [size_setb, size_alloc', size_drew'] <;> omega) | (simp (disch := first | omega | (simp only [size_setb, size_alloc', size_drew'] <;> omega) | fail) only [go_sem, hf, hd]; done) | fail) only [go_sem, dec_t, dec_f, w_u32, w_u64, w_u16, w_u8, w_i64, Int.reduceToNat, Int.reducePow, Nat.reducePow, hf, hd]
          exact ⟨trivial, kd (Kp.refl _ _), c1⟩
  · simp (disch := first | omega | (simp only [size_setb, size_alloc', size_drew'] <;> omega) | (simp (disch := first | omega | (simp only [size_setb, size_alloc', size_drew'] <;> omega) | fail) only [go_sem, hf, hc]; done) | fail) only [go_sem, dec_t, dec_f, w_u32, w_u64, w_u16, w_u8, w_i64, Int.reduceToNat, Int.reducePow, Nat.reducePow, hf, hc]
    exact ⟨trivial, trivial⟩

theorem readAt_spec {w : World} {K : Value → World → Prop} {B f d b n : Nat} {v : Value} {s : FS} {m : Nat → Nat × Nat} {off : Int} (h : FD w B f d v s) (hs : Sn w B m) (hc : s.cl = false) (h2 : 0 ≤ off ∧ off ≤ 4611686018427387903) (h3 : s.bytes.length ≤ 281474976710656) (hn : n ≤ 281474976710656)
    (hb : bk w b = some (CB (List.replicate n (.int .u8 0)) T.uint8)) (hbf : b ≠ f) (hbd : b ≠ d) (hbv : v.ownBlock ≠ some b)
    (hk : ∀ w', FD w' B f d v s → Kp w w' (fun k => k = f ∨ k = b) → bk w' b = some (CB ((rdF { s with pos := off } n).1.map byt ++ List.replicate (n - (rdF { s with pos := off } n).1.length) (.int .u8 0)) T.uint8) → K (tup [.int .i64 (rdF { s with pos := off } n).1.length, errV m (rdF { s with pos := off } n).2]) w') :
    Cl P Fn.mem_File_ReadAt #[pt f 0, sl b 0 n n, .int .i64 off] w K := by
  apply S_mem_File_ReadAt
  unfold F_mem_File_ReadAt
  obtain ⟨rdc, hf⟩ := h.bf
  obtain ⟨l1, l2⟩ := h.lt
  simp (disch := first | omega | (simp only [size_setb, size_alloc', size_drew'] <;> omega) | (simp (disch := first | omega | (simp only [size_setb, size_alloc', size_drew'] <;> omega) | fail) only [go_sem, hf]; done) | fail) only [go_sem, dec_t, dec_f, w_u32, w_u64, w_u16, w_u8, w_i64, Int.reduceToNat, Int.reducePow, Nat.reducePow, hf]
  have h5 := h.setPos off rdc
  have k5 := Kp.setb w f (CB [.int .i64 off, .int .i64 rdc, .bool s.cl, .bool s.ro, pt d 0] T.mem_File)
  refine read_spec (m := m) h5 (hs.below (k5.below (fun x hx e => by have := h.hf; omega) (by have := h.hf; omega))) hc h2 h3 hn (by rw [bk_setb_ne _ _ _ _ hbf]; exact hb) hbf hbd hbv fun w2 F2 K2 kb => ?_
  obtain ⟨rdc2, hf2⟩ := F2.bf
  have l3 := bk_lt hf2
  simp (disch := first | omega | (simp only [size_setb, size_alloc', size_drew'] <;> omega) | (simp (disch := first | omega | (simp only [size_setb, size_alloc', size_drew'] <;> omega) | fail) only [go_sem, hf2]; done) | fail) only [go_sem, dec_t, dec_f, w_u32, w_u64, w_u16, w_u8, w_i64, Int.reduceToNat, Int.reducePow, Nat.reducePow, hf2]
  have F3 := F2.setPos s.pos rdc2
  refine hk _ F3 ?_ ?_
  · have k6 := Kp.setb w2 f (CB [.int .i64 s.pos, .int .i64 rdc2, .bool s.cl, .bool s.ro, pt d 0] T.mem_File)
    have k5' : Kp w (setb w f (CB [.int .i64 off, .int .i64 rdc, .bool s.cl, .bool s.ro, pt d 0] T.mem_File)) (fun k => k = f ∨ k = b) := ⟨k5.os, k5.tape, k5.output, k5.size, fun k hk hn => k5.block k hk fun e => hn (.inl e)⟩
    exact (k5'.trans K2 fun _ _ h => h).trans k6 fun x hx e => .inl e
  · rw [bk_setb_ne _ _ _ _ hbf]; exact kb

/-! ### What kind of error -/
theorem errT : ErrT P T.error T.p_errors_errorString T.errors_errorString := ⟨⟨_, Tryd.underlying99⟩, U.p_errors_errorString, by kernel_rfl, by kernel_rfl⟩
theorem Sn.load {w : World} {B : Nat} {m : Nat → Nat × Nat} (h : Sn w B m) {g : Nat} (hg : g ∈ sents) (L : Value → World → Prop) : st P (oLoad T.error (.pointer (some ⟨g, 0, none⟩))) w L = L (er (m g)) w := by
  obtain ⟨_, tt, e⟩ := h.at_ g hg
  have q : cellOf (bk w g) 0 = some (er (m g)) := by rw [e]; rfl
  rw [show st P (oLoad T.error (.pointer (some ⟨g, 0, none⟩))) w L = st P (oLoad T.error (pt g 0)) w L from rfl]
  rw [M.ld_error _ _ _ _ (by rw [q]; rfl), q]
  rfl
theorem Sn.eql {w : World} {B : Nat} {m : Nat → Nat × Nat} (h : Sn w B m) {g g' : Nat} (hg : g ∈ sents) (hg' : g' ∈ sents) (L : Value → World → Prop) : st P (oBin .eql T.error false false (er (m g)) (er (m g'))) w L = L (.bool (decide (g = g'))) w := by
  obtain ⟨_, l, t, e⟩ := h.cell g hg
  obtain ⟨_, l', t', e'⟩ := h.cell g' hg'
  rw [stEqlErr errT false false e e']
  congr 2
  refine decide_eq_decide.2 ⟨fun q => h.inj g hg g' hg' (Prod.ext q.1 q.2), fun q => by subst q; exact ⟨rfl, rfl⟩⟩
theorem oAssertEr (L : Value → Prop) (q : Nat × Nat) : pu P (oAssert (er q) T.error T.p_os_PathError true) L = L (tup [.pointer none, .bool false]) := oAssertOther U.p_os_PathError (by kernel_rfl) (by decide) _
theorem oEqlEr (L : Value → Prop) (q : Nat × Nat) : pu P (oBin .eql T.error false true (er q) .nilIface) L = L (.bool false) := oEqlNil2 Tryd.underlying99 _ _ _ _
theorem kind_nil {w : World} {K : Value → World → Prop} (h : K (.int .i64 0) w) : Cl P Fn.impl_kind #[.nilIface] w K := by
  apply S_impl_kind
  unfold F_impl_kind
  refine jn_with (fun t w' => t = [.nilIface] ∧ w' = w) ?_ ?_
  · rintro t e w1 ⟨rfl, rfl⟩
    refine jn_with (fun _ _ => False) (fun _ _ _ h => h.elim) ?_
    rw [gs0, oEqlNil Tryd.underlying99]
    simp (disch := first | omega | (simp only [size_setb, size_alloc', size_drew'] <;> omega) | (simp (disch := first | omega | (simp only [size_setb, size_alloc', size_drew'] <;> omega) | fail) only [go_sem]; done) | fail) only [go_sem, dec_t, dec_f, w_u32, w_u64, w_u16, w_u8, w_i64, Int.reduceToNat, Int.reducePow, Nat.reducePow]
    exact h
  · rw [oAssertNil U.p_os_PathError (by kernel_rfl)]
    simp (disch := first | omega | (simp only [size_setb, size_alloc', size_drew'] <;> omega) | (simp (disch := first | omega | (simp only [size_setb, size_alloc', size_drew'] <;> omega) | fail) only [go_sem]; done) | fail) only [go_sem, dec_t, dec_f, w_u32, w_u64, w_u16, w_u8, w_i64, Int.reduceToNat, Int.reducePow, Nat.reducePow]
    exact ⟨trivial, trivial⟩
theorem kind_eof {w : World} {K : Value → World → Prop} {B : Nat} {m : Nat → Nat × Nat} (hs : Sn w B m) (h : K (.int .i64 4) w) : Cl P Fn.impl_kind #[er (m G.io_EOF)] w K := by
  apply S_impl_kind
  unfold F_impl_kind
  have ld_os_ErrNotExist : ∀ L : Value → World → Prop, st P (oLoad T.error (.pointer (some ⟨G.os_ErrNotExist, 0, none⟩))) w L = L (er (m G.os_ErrNotExist)) w := fun L => hs.load (by decide) L
  have eq_os_ErrNotExist : ∀ L : Value → World → Prop, st P (oBin .eql T.error false false (er (m G.io_EOF)) (er (m G.os_ErrNotExist))) w L = L (.bool false) w := fun L => hs.eql (by decide) (by decide) L
  have ld_os_ErrExist : ∀ L : Value → World → Prop, st P (oLoad T.error (.pointer (some ⟨G.os_ErrExist, 0, none⟩))) w L = L (er (m G.os_ErrExist)) w := fun L => hs.load (by decide) L
  have eq_os_ErrExist : ∀ L : Value → World → Prop, st P (oBin .eql T.error false false (er (m G.io_EOF)) (er (m G.os_ErrExist))) w L = L (.bool false) w := fun L => hs.eql (by decide) (by decide) L
  have ld_os_ENOENT : ∀ L : Value → World → Prop, st P (oLoad T.error (.pointer (some ⟨G.os_ENOENT, 0, none⟩))) w L = L (er (m G.os_ENOENT)) w := fun L => hs.load (by decide) L
  have eq_os_ENOENT : ∀ L : Value → World → Prop, st P (oBin .eql T.error false false (er (m G.io_EOF)) (er (m G.os_ENOENT))) w L = L (.bool false) w := fun L => hs.eql (by decide) (by decide) L
  have ld_os_ENOTDIR : ∀ L : Value → World → Prop, st P (oLoad T.error (.pointer (some ⟨G.os_ENOTDIR, 0, none⟩))) w L = L (er (m G.os_ENOTDIR)) w := fun L => hs.load (by decide) L
  have eq_os_ENOTDIR : ∀ L : Value → World → Prop, st P (oBin .eql T.error false false (er (m G.io_EOF)) (er (m G.os_ENOTDIR))) w L = L (.bool false) w := fun L => hs.eql (by decide) (by decide) L
  have ld_os_EPERM : ∀ L : Value → World → Prop, st P (oLoad T.error (.pointer (some ⟨G.os_EPERM, 0, none⟩))) w L = L (er (m G.os_EPERM)) w := fun L => hs.load (by decide) L
  have eq_os_EPERM : ∀ L : Value → World → Prop, st P (oBin .eql T.error false false (er (m G.io_EOF)) (er (m G.os_EPERM))) w L = L (.bool false) w := fun L => hs.eql (by decide) (by decide) L
  have ld_os_EIO : ∀ L : Value → World → Prop, st P (oLoad T.error (.pointer (some ⟨G.os_EIO, 0, none⟩))) w L = L (er (m G.os_EIO)) w := fun L => hs.load (by decide) L
  have eq_os_EIO : ∀ L : Value → World → Prop, st P (oBin .eql T.error false false (er (m G.io_EOF)) (er (m G.os_EIO))) w L = L (.bool false) w := fun L => hs.eql (by decide) (by decide) L
  have ld_os_EBADFD : ∀ L : Value → World → Prop, st P (oLoad T.error (.pointer (some ⟨G.os_EBADFD, 0, none⟩))) w L = L (er (m G.os_EBADFD)) w := fun L => hs.load (by decide) L
  have eq_os_EBADFD : ∀ L : Value → World → Prop, st P (oBin .eql T.error false false (er (m G.io_EOF)) (er (m G.os_EBADFD))) w L = L (.bool false) w := fun L => hs.eql (by decide) (by decide) L
  have ld_io_EOF : ∀ L : Value → World → Prop, st P (oLoad T.error (.pointer (some ⟨G.io_EOF, 0, none⟩))) w L = L (er (m G.io_EOF)) w := fun L => hs.load (by decide) L
  have eq_io_EOF : ∀ L : Value → World → Prop, st P (oBin .eql T.error false false (er (m G.io_EOF)) (er (m G.io_EOF))) w L = L (.bool true) w := fun L => hs.eql (by decide) (by decide) L
  have ld_io_ErrUnexpectedEOF : ∀ L : Value → World → Prop, st P (oLoad T.error (.pointer (some ⟨G.io_ErrUnexpectedEOF, 0, none⟩))) w L = L (er (m G.io_ErrUnexpectedEOF)) w := fun L => hs.load (by decide) L
  have eq_io_ErrUnexpectedEOF : ∀ L : Value → World → Prop, st P (oBin .eql T.error false false (er (m G.io_EOF)) (er (m G.io_ErrUnexpectedEOF))) w L = L (.bool false) w := fun L => hs.eql (by decide) (by decide) L
  have ld_mem_ErrFileClosed : ∀ L : Value → World → Prop, st P (oLoad T.error (.pointer (some ⟨G.mem_ErrFileClosed, 0, none⟩))) w L = L (er (m G.mem_ErrFileClosed)) w := fun L => hs.load (by decide) L
  have eq_mem_ErrFileClosed : ∀ L : Value → World → Prop, st P (oBin .eql T.error false false (er (m G.io_EOF)) (er (m G.mem_ErrFileClosed))) w L = L (.bool false) w := fun L => hs.eql (by decide) (by decide) L
  have ld_mem_ErrOutOfRange : ∀ L : Value → World → Prop, st P (oLoad T.error (.pointer (some ⟨G.mem_ErrOutOfRange, 0, none⟩))) w L = L (er (m G.mem_ErrOutOfRange)) w := fun L => hs.load (by decide) L
  have eq_mem_ErrOutOfRange : ∀ L : Value → World → Prop, st P (oBin .eql T.error false false (er (m G.io_EOF)) (er (m G.mem_ErrOutOfRange))) w L = L (.bool false) w := fun L => hs.eql (by decide) (by decide) L
  refine jn_with (fun t w' => t = [er (m G.io_EOF)] ∧ w' = w) ?_ ?_
  · rintro t e w1 ⟨rfl, rfl⟩
    refine jn_with (fun _ _ => False) (fun _ _ _ h => h.elim) ?_
    rw [gs0, oEqlEr]
    simp (disch := first | omega | (simp only [size_setb, size_alloc', size_drew'] <;> omega) | (simp (disch := first | omega | (simp only [size_setb, size_alloc', size_drew'] <;> omega) | fail) only [go_sem]; done) | fail) only [go_sem, dec_t, dec_f, w_u32, w_u64, w_u16, w_u8, w_i64, Int.reduceToNat, Int.reducePow, Nat.reducePow]
    refine jn_with (fun t w' => t = [.bool false] ∧ w' = w1) ?_ ?_
    · rintro t e w2 ⟨rfl, rfl⟩
      simp (disch := first | omega | (simp only [size_setb, size_alloc', size_drew'] <;> omega) | (simp (disch := first | omega | (simp only [size_setb, size_alloc', size_drew'] <;> omega) | fail) only [go_sem, ld_os_ErrNotExist, eq_os_ErrNotExist, ld_os_ErrExist, eq_os_ErrExist, ld_os_ENOENT, eq_os_ENOENT, ld_os_ENOTDIR, eq_os_ENOTDIR, ld_os_EPERM, eq_os_EPERM, ld_os_EIO, eq_os_EIO, ld_os_EBADFD, eq_os_EBADFD, ld_io_EOF, eq_io_EOF, ld_io_ErrUnexpectedEOF, eq_io_ErrUnexpectedEOF, ld_mem_ErrFileClosed, eq_mem_ErrFileClosed, ld_mem_ErrOutOfRange, eq_mem_ErrOutOfRange]; done) | fail) only [go_sem, dec_t, dec_f, w_u32, w_u64, w_u16, w_u8, w_i64, Int.reduceToNat, Int.reducePow, Nat.reducePow, ld_os_ErrNotExist, eq_os_ErrNotExist, ld_os_ErrExist, eq_os_ErrExist, ld_os_ENOENT, eq_os_ENOENT, ld_os_ENOTDIR, eq_os_ENOTDIR, ld_os_EPERM, eq_os_EPERM, ld_os_EIO, eq_os_EIO, ld_os_EBADFD, eq_os_EBADFD, ld_io_EOF, eq_io_EOF, ld_io_ErrUnexpectedEOF, eq_io_ErrUnexpectedEOF, ld_mem_ErrFileClosed, eq_mem_ErrFileClosed, ld_mem_ErrOutOfRange, eq_mem_ErrOutOfRange]
      exact h
    · simp (disch := first | omega | (simp only [size_setb, size_alloc', size_drew'] <;> omega) | (simp (disch := first | omega | (simp only [size_setb, size_alloc', size_drew'] <;> omega) | fail) only [go_sem, ld_os_ErrNotExist, eq_os_ErrNotExist, ld_os_ErrExist, eq_os_ErrExist, ld_os_ENOENT, eq_os_ENOENT, ld_os_ENOTDIR, eq_os_ENOTDIR, ld_os_EPERM, eq_os_EPERM, ld_os_EIO, eq_os_EIO, ld_os_EBADFD, eq_os_EBADFD, ld_io_EOF, eq_io_EOF, ld_io_ErrUnexpectedEOF, eq_io_ErrUnexpectedEOF, ld_mem_ErrFileClosed, eq_mem_ErrFileClosed, ld_mem_ErrOutOfRange, eq_mem_ErrOutOfRange]; done) | fail) only [go_sem, dec_t, dec_f, w_u32, w_u64, w_u16, w_u8, w_i64, Int.reduceToNat, Int.reducePow, Nat.reducePow, ld_os_ErrNotExist, eq_os_ErrNotExist, ld_os_ErrExist, eq_os_ErrExist, ld_os_ENOENT, eq_os_ENOENT, ld_os_ENOTDIR, eq_os_ENOTDIR, ld_os_EPERM, eq_os_EPERM, ld_os_EIO, eq_os_EIO, ld_os_EBADFD, eq_os_EBADFD, ld_io_EOF, eq_io_EOF, ld_io_ErrUnexpectedEOF, eq_io_ErrUnexpectedEOF, ld_mem_ErrFileClosed, eq_mem_ErrFileClosed, ld_mem_ErrOutOfRange, eq_mem_ErrOutOfRange]
      exact ⟨trivial, trivial⟩
  · rw [oAssertEr]
    simp (disch := first | omega | (simp only [size_setb, size_alloc', size_drew'] <;> omega) | (simp (disch := first | omega | (simp only [size_setb, size_alloc', size_drew'] <;> omega) | fail) only [go_sem]; done) | fail) only [go_sem, dec_t, dec_f, w_u32, w_u64, w_u16, w_u8, w_i64, Int.reduceToNat, Int.reducePow, Nat.reducePow]
    exact ⟨trivial, trivial⟩
theorem kind_ueof {w : World} {K : Value → World → Prop} {B : Nat} {m : Nat → Nat × Nat} (hs : Sn w B m) (h : K (.int .i64 5) w) : Cl P Fn.impl_kind #[er (m G.io_ErrUnexpectedEOF)] w K := by
  apply S_impl_kind
  unfold F_impl_kind
  have ld_os_ErrNotExist : ∀ L : Value → World → Prop, st P (oLoad T.error (.pointer (some ⟨G.os_ErrNotExist, 0, none⟩))) w L = L (er (m G.os_ErrNotExist)) w := fun L => hs.load (by decide) L
  have eq_os_ErrNotExist : ∀ L : Value → World → Prop, st P (oBin .eql T.error false false (er (m G.io_ErrUnexpectedEOF)) (er (m G.os_ErrNotExist))) w L = L (.bool false) w := fun L => hs.eql (by decide) (by decide) L
  have ld_os_ErrExist : ∀ L : Value → World → Prop, st P (oLoad T.error (.pointer (some ⟨G.os_ErrExist, 0, none⟩))) w L = L (er (m G.os_ErrExist)) w := fun L => hs.load (by decide) L
  have eq_os_ErrExist : ∀ L : Value → World → Prop, st P (oBin .eql T.error false false (er (m G.io_ErrUnexpectedEOF)) (er (m G.os_ErrExist))) w L = L (.bool false) w := fun L => hs.eql (by decide) (by decide) L
  have ld_os_ENOENT : ∀ L : Value → World → Prop, st P (oLoad T.error (.pointer (some ⟨G.os_ENOENT, 0, none⟩))) w L = L (er (m G.os_ENOENT)) w := fun L => hs.load (by decide) L
  have eq_os_ENOENT : ∀ L : Value → World → Prop, st P (oBin .eql T.error false false (er (m G.io_ErrUnexpectedEOF)) (er (m G.os_ENOENT))) w L = L (.bool false) w := fun L => hs.eql (by decide) (by decide) L
  have ld_os_ENOTDIR : ∀ L : Value → World → Prop, st P (oLoad T.error (.pointer (some ⟨G.os_ENOTDIR, 0, none⟩))) w L = L (er (m G.os_ENOTDIR)) w := fun L => hs.load (by decide) L
  have eq_os_ENOTDIR : ∀ L : Value → World → Prop, st P (oBin .eql T.error false false (er (m G.io_ErrUnexpectedEOF)) (er (m G.os_ENOTDIR))) w L = L (.bool false) w := fun L => hs.eql (by decide) (by decide) L
  have ld_os_EPERM : ∀ L : Value → World → Prop, st P (oLoad T.error (.pointer (some ⟨G.os_EPERM, 0, none⟩))) w L = L (er (m G.os_EPERM)) w := fun L => hs.load (by decide) L
  have eq_os_EPERM : ∀ L : Value → World → Prop, st P (oBin .eql T.error false false (er (m G.io_ErrUnexpectedEOF)) (er (m G.os_EPERM))) w L = L (.bool false) w := fun L => hs.eql (by decide) (by decide) L
  have ld_os_EIO : ∀ L : Value → World → Prop, st P (oLoad T.error (.pointer (some ⟨G.os_EIO, 0, none⟩))) w L = L (er (m G.os_EIO)) w := fun L => hs.load (by decide) L
  have eq_os_EIO : ∀ L : Value → World → Prop, st P (oBin .eql T.error false false (er (m G.io_ErrUnexpectedEOF)) (er (m G.os_EIO))) w L = L (.bool false) w := fun L => hs.eql (by decide) (by decide) L
  have ld_os_EBADFD : ∀ L : Value → World → Prop, st P (oLoad T.error (.pointer (some ⟨G.os_EBADFD, 0, none⟩))) w L = L (er (m G.os_EBADFD)) w := fun L => hs.load (by decide) L
  have eq_os_EBADFD : ∀ L : Value → World → Prop, st P (oBin .eql T.error false false (er (m G.io_ErrUnexpectedEOF)) (er (m G.os_EBADFD))) w L = L (.bool false) w := fun L => hs.eql (by decide) (by decide) L
  have ld_io_EOF : ∀ L : Value → World → Prop, st P (oLoad T.error (.pointer (some ⟨G.io_EOF, 0, none⟩))) w L = L (er (m G.io_EOF)) w := fun L => hs.load (by decide) L
  have eq_io_EOF : ∀ L : Value → World → Prop, st P (oBin .eql T.error false false (er (m G.io_ErrUnexpectedEOF)) (er (m G.io_EOF))) w L = L (.bool false) w := fun L => hs.eql (by decide) (by decide) L
  have ld_io_ErrUnexpectedEOF : ∀ L : Value → World → Prop, st P (oLoad T.error (.pointer (some ⟨G.io_ErrUnexpectedEOF, 0, none⟩))) w L = L (er (m G.io_ErrUnexpectedEOF)) w := fun L => hs.load (by decide) L
  have eq_io_ErrUnexpectedEOF : ∀ L : Value → World → Prop, st P (oBin .eql T.error false false (er (m G.io_ErrUnexpectedEOF)) (er (m G.io_ErrUnexpectedEOF))) w L = L (.bool true) w := fun L => hs.eql (by decide) (by decide) L
  have ld_mem_ErrFileClosed : ∀ L : Value → World → Prop, st P (oLoad T.error (.pointer (some ⟨G.mem_ErrFileClosed, 0, none⟩))) w L = L (er (m G.mem_ErrFileClosed)) w := fun L => hs.load (by decide) L
  have eq_mem_ErrFileClosed : ∀ L : Value → World → Prop, st P (oBin .eql T.error false false (er (m G.io_ErrUnexpectedEOF)) (er (m G.mem_ErrFileClosed))) w L = L (.bool false) w := fun L => hs.eql (by decide) (by decide) L
  have ld_mem_ErrOutOfRange : ∀ L : Value → World → Prop, st P (oLoad T.error (.pointer (some ⟨G.mem_ErrOutOfRange, 0, none⟩))) w L = L (er (m G.mem_ErrOutOfRange)) w := fun L => hs.load (by decide) L
  have eq_mem_ErrOutOfRange : ∀ L : Value → World → Prop, st P (oBin .eql T.error false false (er (m G.io_ErrUnexpectedEOF)) (er (m G.mem_ErrOutOfRange))) w L = L (.bool false) w := fun L => hs.eql (by decide) (by decide) L
  refine jn_with (fun t w' => t = [er (m G.io_ErrUnexpectedEOF)] ∧ w' = w) ?_ ?_
  · rintro t e w1 ⟨rfl, rfl⟩
    refine jn_with (fun _ _ => False) (fun _ _ _ h => h.elim) ?_
    rw [gs0, oEqlEr]
    simp (disch := first | omega | (simp only [size_setb, size_alloc', size_drew'] <;> omega) | (simp (disch := first | omega | (simp only [size_setb, size_alloc', size_drew'] <;> omega) | fail) only [go_sem]; done) | fail) only [go_sem, dec_t, dec_f, w_u32, w_u64, w_u16, w_u8, w_i64, Int.reduceToNat, Int.reducePow, Nat.reducePow]
    refine jn_with (fun t w' => t = [.bool false] ∧ w' = w1) ?_ ?_
    · rintro t e w2 ⟨rfl, rfl⟩
      simp (disch := first | omega | (simp only [size_setb, size_alloc', size_drew'] <;> omega) | (simp (disch := first | omega | (simp only [size_setb, size_alloc', size_drew'] <;> omega) | fail) only [go_sem, ld_os_ErrNotExist, eq_os_ErrNotExist, ld_os_ErrExist, eq_os_ErrExist, ld_os_ENOENT, eq_os_ENOENT, ld_os_ENOTDIR, eq_os_ENOTDIR, ld_os_EPERM, eq_os_EPERM, ld_os_EIO, eq_os_EIO, ld_os_EBADFD, eq_os_EBADFD, ld_io_EOF, eq_io_EOF, ld_io_ErrUnexpectedEOF, eq_io_ErrUnexpectedEOF, ld_mem_ErrFileClosed, eq_mem_ErrFileClosed, ld_mem_ErrOutOfRange, eq_mem_ErrOutOfRange]; done) | fail) only [go_sem, dec_t, dec_f, w_u32, w_u64, w_u16, w_u8, w_i64, Int.reduceToNat, Int.reducePow, Nat.reducePow, ld_os_ErrNotExist, eq_os_ErrNotExist, ld_os_ErrExist, eq_os_ErrExist, ld_os_ENOENT, eq_os_ENOENT, ld_os_ENOTDIR, eq_os_ENOTDIR, ld_os_EPERM, eq_os_EPERM, ld_os_EIO, eq_os_EIO, ld_os_EBADFD, eq_os_EBADFD, ld_io_EOF, eq_io_EOF, ld_io_ErrUnexpectedEOF, eq_io_ErrUnexpectedEOF, ld_mem_ErrFileClosed, eq_mem_ErrFileClosed, ld_mem_ErrOutOfRange, eq_mem_ErrOutOfRange]
      exact h
    · simp (disch := first | omega | (simp only [size_setb, size_alloc', size_drew'] <;> omega) | (simp (disch := first | omega | (simp only [size_setb, size_alloc', size_drew'] <;> omega) | fail) only [go_sem, ld_os_ErrNotExist, eq_os_ErrNotExist, ld_os_ErrExist, eq_os_ErrExist, ld_os_ENOENT, eq_os_ENOENT, ld_os_ENOTDIR, eq_os_ENOTDIR, ld_os_EPERM, eq_os_EPERM, ld_os_EIO, eq_os_EIO, ld_os_EBADFD, eq_os_EBADFD, ld_io_EOF, eq_io_EOF, ld_io_ErrUnexpectedEOF, eq_io_ErrUnexpectedEOF, ld_mem_ErrFileClosed, eq_mem_ErrFileClosed, ld_mem_ErrOutOfRange, eq_mem_ErrOutOfRange]; done) | fail) only [go_sem, dec_t, dec_f, w_u32, w_u64, w_u16, w_u8, w_i64, Int.reduceToNat, Int.reducePow, Nat.reducePow, ld_os_ErrNotExist, eq_os_ErrNotExist, ld_os_ErrExist, eq_os_ErrExist, ld_os_ENOENT, eq_os_ENOENT, ld_os_ENOTDIR, eq_os_ENOTDIR, ld_os_EPERM, eq_os_EPERM, ld_os_EIO, eq_os_EIO, ld_os_EBADFD, eq_os_EBADFD, ld_io_EOF, eq_io_EOF, ld_io_ErrUnexpectedEOF, eq_io_ErrUnexpectedEOF, ld_mem_ErrFileClosed, eq_mem_ErrFileClosed, ld_mem_ErrOutOfRange, eq_mem_ErrOutOfRange]
      exact ⟨trivial, trivial⟩
  · rw [oAssertEr]
    simp (disch := first | omega | (simp only [size_setb, size_alloc', size_drew'] <;> omega) | (simp (disch := first | omega | (simp only [size_setb, size_alloc', size_drew'] <;> omega) | fail) only [go_sem]; done) | fail) only [go_sem, dec_t, dec_f, w_u32, w_u64, w_u16, w_u8, w_i64, Int.reduceToNat, Int.reducePow, Nat.reducePow]
    exact ⟨trivial, trivial⟩
theorem kind_closed {w : World} {K : Value → World → Prop} {B : Nat} {m : Nat → Nat × Nat} (hs : Sn w B m) (h : K (.int .i64 3) w) : Cl P Fn.impl_kind #[er (m G.mem_ErrFileClosed)] w K := by
  apply S_impl_kind
  unfold F_impl_kind
  have ld_os_ErrNotExist : ∀ L : Value → World → Prop, st P (oLoad T.error (.pointer (some ⟨G.os_ErrNotExist, 0, none⟩))) w L = L (er (m G.os_ErrNotExist)) w := fun L => hs.load (by decide) L
  have eq_os_ErrNotExist : ∀ L : Value → World → Prop, st P (oBin .eql T.error false false (er (m G.mem_ErrFileClosed)) (er (m G.os_ErrNotExist))) w L = L (.bool false) w := fun L => hs.eql (by decide) (by decide) L
  have ld_os_ErrExist : ∀ L : Value → World → Prop, st P (oLoad T.error (.pointer (some ⟨G.os_ErrExist, 0, none⟩))) w L = L (er (m G.os_ErrExist)) w := fun L => hs.load (by decide) L
  have eq_os_ErrExist : ∀ L : Value → World → Prop, st P (oBin .eql T.error false false (er (m G.mem_ErrFileClosed)) (er (m G.os_ErrExist))) w L = L (.bool false) w := fun L => hs.eql (by decide) (by decide) L
  have ld_os_ENOENT : ∀ L : Value → World → Prop, st P (oLoad T.error (.pointer (some ⟨G.os_ENOENT, 0, none⟩))) w L = L (er (m G.os_ENOENT)) w := fun L => hs.load (by decide) L
  have eq_os_ENOENT : ∀ L : Value → World → Prop, st P (oBin .eql T.error false false (er (m G.mem_ErrFileClosed)) (er (m G.os_ENOENT))) w L = L (.bool false) w := fun L => hs.eql (by decide) (by decide) L
  have ld_os_ENOTDIR : ∀ L : Value → World → Prop, st P (oLoad T.error (.pointer (some ⟨G.os_ENOTDIR, 0, none⟩))) w L = L (er (m G.os_ENOTDIR)) w := fun L => hs.load (by decide) L
  have eq_os_ENOTDIR : ∀ L : Value → World → Prop, st P (oBin .eql T.error false false (er (m G.mem_ErrFileClosed)) (er (m G.os_ENOTDIR))) w L = L (.bool false) w := fun L => hs.eql (by decide) (by decide) L
  have ld_os_EPERM : ∀ L : Value → World → Prop, st P (oLoad T.error (.pointer (some ⟨G.os_EPERM, 0, none⟩))) w L = L (er (m G.os_EPERM)) w := fun L => hs.load (by decide) L
  have eq_os_EPERM : ∀ L : Value → World → Prop, st P (oBin .eql T.error false false (er (m G.mem_ErrFileClosed)) (er (m G.os_EPERM))) w L = L (.bool false) w := fun L => hs.eql (by decide) (by decide) L
  have ld_os_EIO : ∀ L : Value → World → Prop, st P (oLoad T.error (.pointer (some ⟨G.os_EIO, 0, none⟩))) w L = L (er (m G.os_EIO)) w := fun L => hs.load (by decide) L
  have eq_os_EIO : ∀ L : Value → World → Prop, st P (oBin .eql T.error false false (er (m G.mem_ErrFileClosed)) (er (m G.os_EIO))) w L = L (.bool false) w := fun L => hs.eql (by decide) (by decide) L
  have ld_os_EBADFD : ∀ L : Value → World → Prop, st P (oLoad T.error (.pointer (some ⟨G.os_EBADFD, 0, none⟩))) w L = L (er (m G.os_EBADFD)) w := fun L => hs.load (by decide) L
  have eq_os_EBADFD : ∀ L : Value → World → Prop, st P (oBin .eql T.error false false (er (m G.mem_ErrFileClosed)) (er (m G.os_EBADFD))) w L = L (.bool false) w := fun L => hs.eql (by decide) (by decide) L
  have ld_io_EOF : ∀ L : Value → World → Prop, st P (oLoad T.error (.pointer (some ⟨G.io_EOF, 0, none⟩))) w L = L (er (m G.io_EOF)) w := fun L => hs.load (by decide) L
  have eq_io_EOF : ∀ L : Value → World → Prop, st P (oBin .eql T.error false false (er (m G.mem_ErrFileClosed)) (er (m G.io_EOF))) w L = L (.bool false) w := fun L => hs.eql (by decide) (by decide) L
  have ld_io_ErrUnexpectedEOF : ∀ L : Value → World → Prop, st P (oLoad T.error (.pointer (some ⟨G.io_ErrUnexpectedEOF, 0, none⟩))) w L = L (er (m G.io_ErrUnexpectedEOF)) w := fun L => hs.load (by decide) L
  have eq_io_ErrUnexpectedEOF : ∀ L : Value → World → Prop, st P (oBin .eql T.error false false (er (m G.mem_ErrFileClosed)) (er (m G.io_ErrUnexpectedEOF))) w L = L (.bool false) w := fun L => hs.eql (by decide) (by decide) L
  have ld_mem_ErrFileClosed : ∀ L : Value → World → Prop, st P (oLoad T.error (.pointer (some ⟨G.mem_ErrFileClosed, 0, none⟩))) w L = L (er (m G.mem_ErrFileClosed)) w := fun L => hs.load (by decide) L
  have eq_mem_ErrFileClosed : ∀ L : Value → World → Prop, st P (oBin .eql T.error false false (er (m G.mem_ErrFileClosed)) (er (m G.mem_ErrFileClosed))) w L = L (.bool true) w := fun L => hs.eql (by decide) (by decide) L
  have ld_mem_ErrOutOfRange : ∀ L : Value → World → Prop, st P (oLoad T.error (.pointer (some ⟨G.mem_ErrOutOfRange, 0, none⟩))) w L = L (er (m G.mem_ErrOutOfRange)) w := fun L => hs.load (by decide) L
  have eq_mem_ErrOutOfRange : ∀ L : Value → World → Prop, st P (oBin .eql T.error false false (er (m G.mem_ErrFileClosed)) (er (m G.mem_ErrOutOfRange))) w L = L (.bool false) w := fun L => hs.eql (by decide) (by decide) L
  refine jn_with (fun t w' => t = [er (m G.mem_ErrFileClosed)] ∧ w' = w) ?_ ?_
  · rintro t e w1 ⟨rfl, rfl⟩
    refine jn_with (fun _ _ => False) (fun _ _ _ h => h.elim) ?_
    rw [gs0, oEqlEr]
    simp (disch := first | omega | (simp only [size_setb, size_alloc', size_drew'] <;> omega) | (simp (disch := first | omega | (simp only [size_setb, size_alloc', size_drew'] <;> omega) | fail) only [go_sem]; done) | fail) only [go_sem, dec_t, dec_f, w_u32, w_u64, w_u16, w_u8, w_i64, Int.reduceToNat, Int.reducePow, Nat.reducePow]
    refine jn_with (fun t w' => t = [.bool false] ∧ w' = w1) ?_ ?_
    · rintro t e w2 ⟨rfl, rfl⟩
      simp (disch := first | omega | (simp only [size_setb, size_alloc', size_drew'] <;> omega) | (simp (disch := first | omega | (simp only [size_setb, size_alloc', size_drew'] <;> omega) | fail) only [go_sem, ld_os_ErrNotExist, eq_os_ErrNotExist, ld_os_ErrExist, eq_os_ErrExist, ld_os_ENOENT, eq_os_ENOENT, ld_os_ENOTDIR, eq_os_ENOTDIR, ld_os_EPERM, eq_os_EPERM, ld_os_EIO, eq_os_EIO, ld_os_EBADFD, eq_os_EBADFD, ld_io_EOF, eq_io_EOF, ld_io_ErrUnexpectedEOF, eq_io_ErrUnexpectedEOF, ld_mem_ErrFileClosed, eq_mem_ErrFileClosed, ld_mem_ErrOutOfRange, eq_mem_ErrOutOfRange]; done) | fail) only [go_sem, dec_t, dec_f, w_u32, w_u64, w_u16, w_u8, w_i64, Int.reduceToNat, Int.reducePow, Nat.reducePow, ld_os_ErrNotExist, eq_os_ErrNotExist, ld_os_ErrExist, eq_os_ErrExist, ld_os_ENOENT, eq_os_ENOENT, ld_os_ENOTDIR, eq_os_ENOTDIR, ld_os_EPERM, eq_os_EPERM, ld_os_EIO, eq_os_EIO, ld_os_EBADFD, eq_os_EBADFD, ld_io_EOF, eq_io_EOF, ld_io_ErrUnexpectedEOF, eq_io_ErrUnexpectedEOF, ld_mem_ErrFileClosed, eq_mem_ErrFileClosed, ld_mem_ErrOutOfRange, eq_mem_ErrOutOfRange]
      exact h
    · simp (disch := first | omega | (simp only [size_setb, size_alloc', size_drew'] <;> omega) | (simp (disch := first | omega | (simp only [size_setb, size_alloc', size_drew'] <;> omega) | fail) only [go_sem, ld_os_ErrNotExist, eq_os_ErrNotExist, ld_os_ErrExist, eq_os_ErrExist, ld_os_ENOENT, eq_os_ENOENT, ld_os_ENOTDIR, eq_os_ENOTDIR, ld_os_EPERM, eq_os_EPERM, ld_os_EIO, eq_os_EIO, ld_os_EBADFD, eq_os_EBADFD, ld_io_EOF, eq_io_EOF, ld_io_ErrUnexpectedEOF, eq_io_ErrUnexpectedEOF, ld_mem_ErrFileClosed, eq_mem_ErrFileClosed, ld_mem_ErrOutOfRange, eq_mem_ErrOutOfRange]; done) | fail) only [go_sem, dec_t, dec_f, w_u32, w_u64, w_u16, w_u8, w_i64, Int.reduceToNat, Int.reducePow, Nat.reducePow, ld_os_ErrNotExist, eq_os_ErrNotExist, ld_os_ErrExist, eq_os_ErrExist, ld_os_ENOENT, eq_os_ENOENT, ld_os_ENOTDIR, eq_os_ENOTDIR, ld_os_EPERM, eq_os_EPERM, ld_os_EIO, eq_os_EIO, ld_os_EBADFD, eq_os_EBADFD, ld_io_EOF, eq_io_EOF, ld_io_ErrUnexpectedEOF, eq_io_ErrUnexpectedEOF, ld_mem_ErrFileClosed, eq_mem_ErrFileClosed, ld_mem_ErrOutOfRange, eq_mem_ErrOutOfRange]
      exact ⟨trivial, trivial⟩
  · rw [oAssertEr]
    simp (disch := first | omega | (simp only [size_setb, size_alloc', size_drew'] <;> omega) | (simp (disch := first | omega | (simp only [size_setb, size_alloc', size_drew'] <;> omega) | fail) only [go_sem]; done) | fail) only [go_sem, dec_t, dec_f, w_u32, w_u64, w_u16, w_u8, w_i64, Int.reduceToNat, Int.reducePow, Nat.reducePow]
    exact ⟨trivial, trivial⟩
end Go.Proofs.YteblpejgenehfaaDoor.X
