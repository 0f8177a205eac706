/- Attributes: put into the inode or the block. No condition. -/
import Derived.Test.YtfiepdikejoeeaaDoorF2
set_option linter.unusedVariables false
set_option linter.unusedSimpArgs false
set_option maxRecDepth 100000
namespace Go.Proofs.YtfiepdikejoeeaaDoor.X
open Go Go.X Go.Proofs Go.RowKit

section
variable {w : World} {L : Value → World → Prop}
/-- One element put behind owned ones. -/
theorem put1 {tB tE : TypeId} {z : Value} {bytes : Nat} (h2 : P.underlying tB = some (.slice tE)) (hi : (P.info? tE).map (fun i => (i.zero, i.size, i.bytes)) = some (some z, 1, bytes)) (hz : z.cells.size = 1) (hb : bytes ≤ 1000) {B n : Nat} {v : Value} {xs : List Value} {x : Value} (hx : x.oneCell' = true)
    (o : w.ownsRow B tE 1 v n xs) (hn : n ≤ 100000) (hB : B ≤ w.heap.size) (hk : ∀ v' w', w'.ownsRow B tE 1 v' (n + 1) (xs ++ [x]) → Kp w w' (fun k => v.ownBlock = some k) → (∀ k, v'.ownBlock = some k → v.ownBlock = some k ∨ w.heap.size ≤ k) → L v' w') :
    st P (oBuildSlice tB 1 #[(0, x)]) w fun t w1 => st P (oBuiltin .append #[tB, tB] tB #[false, false] #[v, t]) w1 L := by
  have hi2 : (P.info? tE).map (fun i => (i.zero, i.size)) = some (some z, 1) := by
    cases hq : P.info? tE with
    | none => rw [hq] at hi; cases hi
    | some i => rw [hq] at hi; simp only [Option.map_some, Option.some.injEq, Prod.mk.injEq] at hi ⊢; exact ⟨hi.1, hi.2.1⟩
  rw [oBuildSlice1 (z := z) _ _ h2 hi2 hx]
  have B3 : Below w.heap.size w (w.alloc (CB [x] tE)) := by repeat (first | exact Below.refl _ _ | assumption | refine bel_setb ?_ (by first | exact Nat.le_refl _ | omega | (simp only [go_sem] <;> omega)) _ | refine Below.alloc ?_ (by first | exact Nat.le_refl _ | omega | (simp only [go_sem]; omega)) _ | refine Below.drew ?_)
  have r3 : rowOf (bk (w.alloc (CB [x] tE)) w.heap.size) 0 1 = some [x] := by rw [bk_alloc_eq _ _ _ rfl]; rfl
  have z3 : (w.alloc (CB [x] tE)).heap.size = w.heap.size + 1 := by simp only [go_sem]
  generalize w.alloc (CB [x] tE) = w1 at *
  have o1 := own_old o B3 (Nat.le_refl _)
  have hmul : (n + 1) * bytes ≤ 100001 * 1000 := Nat.mul_le_mul (by omega) hb
  refine oAppendR (z := z) (size := 1) (bytes := bytes) (m := 1) (news := [x]) h2 hi hz (by omega) o1 (.inl ⟨_, _, _, rfl, r3⟩) rfl (fun u hu => by simp at hu; subst hu; exact hx) (by simp only [maxLen]; omega) (by omega) (by omega) fun v4 w4 o4 g4 l4 => ?_
  refine hk v4 w4 o4 ((Kp.of_below B3 _).trans (Kp.of_grown g4) fun _ _ h => h) fun k hk => ?_
  rcases l4 with h | h
  · exact .inl (by rw [← h]; exact hk)
  · rw [hk] at h; injection h with h; exact .inr (by omega)
/-- The same for elements of more cells. -/
theorem putN {tB tE : TypeId} {z : Value} {size bytes : Nat} (h2 : P.underlying tB = some (.slice tE)) (hi : (P.info? tE).map (fun i => (i.zero, i.size, i.bytes)) = some (some z, size, bytes)) (hz : z.cells.size = size) (h0 : 0 < size) (h24 : size ≤ 1000) (hb : bytes ≤ 1000) {B n : Nat} {v : Value} {xs l : List Value} (hl : l.length = size) (hx : ∀ x ∈ l, x.oneCell' = true)
    (o : w.ownsRow B tE size v n xs) (hn : n ≤ 100000) (hB : B ≤ w.heap.size) (hk : ∀ v' w', w'.ownsRow B tE size v' (n + 1) (xs ++ l) → Kp w w' (fun k => v.ownBlock = some k) → (∀ k, v'.ownBlock = some k → v.ownBlock = some k ∨ w.heap.size ≤ k) → L v' w') :
    st P (oBuildSlice tB 1 #[(0, AG l)]) w fun t w1 => st P (oBuiltin .append #[tB, tB] tB #[false, false] #[v, t]) w1 L := by
  have hi2 : (P.info? tE).map (fun i => (i.zero, i.size)) = some (some z, size) := by
    cases hq : P.info? tE with
    | none => rw [hq] at hi; cases hi
    | some i => rw [hq] at hi; simp only [Option.map_some, Option.some.injEq, Prod.mk.injEq] at hi ⊢; exact ⟨hi.1, hi.2.1⟩
  rw [oBuildSliceN (size := size) (z := z) _ _ h2 hi2 h0 (by omega) hl]
  have B3 : Below w.heap.size w (w.alloc (CB l tE)) := by repeat (first | exact Below.refl _ _ | assumption | refine bel_setb ?_ (by first | exact Nat.le_refl _ | omega | (simp only [go_sem] <;> omega)) _ | refine Below.alloc ?_ (by first | exact Nat.le_refl _ | omega | (simp only [go_sem]; omega)) _ | refine Below.drew ?_)
  have r3 : rowOf (bk (w.alloc (CB l tE)) w.heap.size) 0 size = some l := by rw [bk_alloc_eq _ _ _ rfl, rowOf_CB _ _ _ _ (by omega), List.drop_zero, List.take_of_length_le (by omega)]
  have z3 : (w.alloc (CB l tE)).heap.size = w.heap.size + 1 := by simp only [go_sem]
  generalize w.alloc (CB l tE) = w1 at *
  have o1 := own_old o B3 (Nat.le_refl _)
  have hmul : (n + 1) * bytes ≤ 100001 * 1000 := Nat.mul_le_mul (by omega) hb
  refine oAppendR (z := z) (size := size) (bytes := bytes) (m := 1) (news := l) h2 hi hz h0 o1 (.inl ⟨_, _, _, rfl, by rw [hl]; exact r3⟩) (by omega) hx (by simp only [maxLen]; omega) (by omega) (by omega) fun v4 w4 o4 g4 l4 => ?_
  refine hk v4 w4 o4 ((Kp.of_below B3 _).trans (Kp.of_grown g4) fun _ _ h => h) fun k hk => ?_
  rcases l4 with h | h
  · exact .inl (by rw [← h]; exact hk)
  · rw [hk] at h; injection h with h; exact .inr (by omega)
end

/-- What is kept while attributes are laid: two lists and what is left of two rooms. -/
structure Rm (w : World) (B k : Nat) (v0 v1 : Value) (n0 n1 a b : Nat) : Prop where
  blk : bk w k = some (CB [v0, v1, .int .i64 a, .int .i64 b] T.compactext4_xattrState)
  o0 : ∃ xs, w.ownsRow B T.compactext4_xattr 3 v0 n0 xs
  o1 : ∃ xs, w.ownsRow B T.compactext4_xattr 3 v1 n1 xs
  d0 : v0.ownBlock ≠ some k
  d1 : v1.ownBlock ≠ some k
  d01 : ∀ g, v0.ownBlock = some g → v1.ownBlock ≠ some g
  kB : B ≤ k ∧ k < w.heap.size
def Rm.fp (k : Nat) (v0 v1 : Value) (g : Nat) : Prop := g = k ∨ v0.ownBlock = some g ∨ v1.ownBlock = some g
section
variable {w : World} {K : Value → World → Prop} {B k n0 n1 a b : Nat} {v0 v1 : Value}
theorem Rm.old {w' : World} (h : Rm w B k v0 v1 n0 n1 a b) (hb : Below w.heap.size w w') : Rm w' B k v0 v1 n0 n1 a b := by
  obtain ⟨xs, o0⟩ := h.o0
  obtain ⟨ys, o1⟩ := h.o1
  exact ⟨(bel_bk hb h.kB.2).trans h.blk, ⟨xs, own_old o0 hb (Nat.le_refl _)⟩, ⟨ys, own_old o1 hb (Nat.le_refl _)⟩, h.d0, h.d1, h.d01, h.kB.1, Nat.lt_of_lt_of_le h.kB.2 hb.size⟩
theorem Rm.kp {w' : World} {T : Nat → Prop} (h : Rm w B k v0 v1 n0 n1 a b) (hb : Kp w w' T) (hT : ∀ g, Rm.fp k v0 v1 g → ¬ T g) : Rm w' B k v0 v1 n0 n1 a b := by
  obtain ⟨xs, o0⟩ := h.o0
  obtain ⟨ys, o1⟩ := h.o1
  exact ⟨(hb.block k h.kB.2 (hT k (.inl rfl))).trans h.blk, ⟨xs, own_kp2 o0 hb fun g hg => hT g (.inr (.inl hg))⟩, ⟨ys, own_kp2 o1 hb fun g hg => hT g (.inr (.inr hg))⟩, h.d0, h.d1, h.d01, h.kB.1, Nat.lt_of_lt_of_le h.kB.2 hb.size⟩
theorem entry_spec {p : Nat} {n d : List UInt8} {x : Int} {v : Value} (h : bk w p = some (CB [S n, .int .u8 x, v] T.compactext4_xattr)) (hn : n.length ≤ 140737488351232) (hk : K (.int .i64 (16 + (n.length + 3) / 4 * 4 : Nat)) w) : Cl P Fn.compactext4_xattr_EntryLen #[pt p 0] w K := by
  apply S_compactext4_xattr_EntryLen
  unfold F_compactext4_xattr_EntryLen
  simp (disch := first | omega | (simp only [size_setb, size_alloc', size_drew'] <;> omega) | (simp (disch := first | omega | (simp only [size_setb, size_alloc', size_drew'] <;> omega) | fail) only [go_sem, h]; done) | fail) only [go_sem, dec_t, dec_f, w_u32, w_u64, w_u16, w_u8, w_i64, Int.reduceToNat, Int.reducePow, Nat.reducePow, h]
  rw [show ((n.length : Int) + 3) = ((n.length + 3 : Nat) : Int) by omega, oAndNot3 _ _ _ _ _ (by omega)]
  simp (disch := first | omega | (simp only [size_setb, size_alloc', size_drew'] <;> omega) | (simp (disch := first | omega | (simp only [size_setb, size_alloc', size_drew'] <;> omega) | fail) only [go_sem]; done) | fail) only [go_sem, dec_t, dec_f, w_u32, w_u64, w_u16, w_u8, w_i64, Int.reduceToNat, Int.reducePow, Nat.reducePow]
  rw [show (((n.length + 3) / 4 * 4 : Nat) : Int) + 16 = ((16 + (n.length + 3) / 4 * 4 : Nat) : Int) by omega]
  exact hk
theorem value_spec {p : Nat} {n d : List UInt8} {x : Int} {v : Value} (h : bk w p = some (CB [S n, .int .u8 x, v] T.compactext4_xattr)) (hv : ∃ a cap, v = .slice a d.length cap) (hn : d.length ≤ 140737488351232) (hk : K (.int .i64 ((d.length + 3) / 4 * 4 : Nat)) w) : Cl P Fn.compactext4_xattr_ValueLen #[pt p 0] w K := by
  apply S_compactext4_xattr_ValueLen
  unfold F_compactext4_xattr_ValueLen
  obtain ⟨a, cap, rfl⟩ := hv
  simp (disch := first | omega | (simp only [size_setb, size_alloc', size_drew'] <;> omega) | (simp (disch := first | omega | (simp only [size_setb, size_alloc', size_drew'] <;> omega) | fail) only [go_sem, h]; done) | fail) only [go_sem, dec_t, dec_f, w_u32, w_u64, w_u16, w_u8, w_i64, Int.reduceToNat, Int.reducePow, Nat.reducePow, h]
  rw [show ((d.length : Int) + 3) = ((d.length + 3 : Nat) : Int) by omega, oAndNot3 _ _ _ _ _ (by omega)]
  exact hk
theorem add_J2 {r d : List UInt8} {R p : Nat} {ix : Int} {av : Option Addr} {cv : Nat} {k1 : List Value → World → Prop} (h : Rm w B k v0 v1 n0 n1 a b) (x2 : bk w p = some (CB [S r, .int .u8 ix, .slice av d.length cv] T.compactext4_xattr)) (hR : R ≤ a) (ha : a ≤ 96) (hb : b ≤ 4060) (hn0 : n0 ≤ 1000) (hn1 : n1 ≤ 1000) (hB : B ≤ w.heap.size)
    (hk : ∀ w' v0', Rm w' B k v0' v1 (n0 + 1) n1 (a - R) b → Kp w w' (Rm.fp k v0 v1) → (∀ g, v0'.ownBlock = some g → v0.ownBlock = some g ∨ w.heap.size ≤ g) → k1 [] w') : J_compactext4_xattrState_addXattr_2 (pt k 0) w (pt p 0) (.int .i64 R) k1 := by
  unfold J_compactext4_xattrState_addXattr_2
  have hblk := h.blk
  obtain ⟨hkB, hkw⟩ := h.kB
  obtain ⟨xs, o0⟩ := h.o0
  obtain ⟨ys, o1⟩ := h.o1
  obtain ⟨a0, c0, e0⟩ := own_slice o0
  obtain ⟨a1, c1, e1⟩ := own_slice o1
  have one0 : v0.oneCell' = true := by rw [e0]; rfl
  have one1 : v1.oneCell' = true := by rw [e1]; rfl
  simp (disch := first | omega | (simp only [size_setb, size_alloc', size_drew'] <;> omega) | (simp (disch := first | omega | (simp only [size_setb, size_alloc', size_drew'] <;> omega) | fail) only [go_sem, hblk, x2]; done) | fail) only [go_sem, dec_t, dec_f, w_u32, w_u64, w_u16, w_u8, w_i64, Int.reduceToNat, Int.reducePow, Nat.reducePow, hblk, x2]
  rw [oBuildSliceN (size := 3) (z := AG [S [], .int .u8 0, .slice none 0 0]) _ _ U.sl_compactext4_xattr (by kernel_rfl) (by omega) (by omega) (l := [S r, .int .u8 ix, .slice av d.length cv]) rfl]
  obtain ⟨w1, ew⟩ : ∃ w1, w1 = w.drew.alloc (CB [S r, .int .u8 ix, .slice av d.length cv] T.compactext4_xattr) := ⟨_, rfl⟩
  have B1 : Below w.heap.size w w1 := by rw [ew]; repeat (first | exact Below.refl _ _ | assumption | refine bel_setb ?_ (by first | exact Nat.le_refl _ | omega | (simp only [go_sem] <;> omega)) _ | refine Below.alloc ?_ (by first | exact Nat.le_refl _ | omega | (simp only [go_sem]; omega)) _ | refine Below.drew ?_)
  have r1 : bk w1 w.heap.size = some (CB [S r, .int .u8 ix, .slice av d.length cv] T.compactext4_xattr) := by rw [ew]; exact bk_alloc_eq _ _ _ rfl
  have z1 : w1.heap.size = w.heap.size + 1 := by rw [ew]; simp only [go_sem]
  rw [← ew]
  clear ew
  have h1 := h.old B1
  have hblk1 := h1.blk
  refine ⟨by simp (disch := first | omega | (simp only [size_setb, size_alloc', size_drew'] <;> omega) | (simp (disch := first | omega | (simp only [size_setb, size_alloc', size_drew'] <;> omega) | fail) only [go_sem, hblk1]; done) | fail) only [go_sem, dec_t, dec_f, w_u32, w_u64, w_u16, w_u8, w_i64, Int.reduceToNat, Int.reducePow, Nat.reducePow, hblk1], ?_⟩
  have o0' := own_old o0 B1 (Nat.le_refl _)
  have o1' := own_old o1 B1 (Nat.le_refl _)
  refine oAppendR (z := AG [S [], .int .u8 0, .slice none 0 0]) (size := 3) (bytes := 48) (m := 1) (news := [S r, .int .u8 ix, .slice av d.length cv]) U.sl_compactext4_xattr (by kernel_rfl) rfl (by omega) o0' (.inl ⟨_, _, _, rfl, by rw [show w.drew.heap.size = w.heap.size from rfl, r1]; rfl⟩) rfl (fun u hu => ?_) (by simp only [maxLen]; omega) (by omega) (by omega) fun v' w2 o2 g2 l2 => ?_
  · simp only [List.mem_cons, List.not_mem_nil, or_false] at hu
    rcases hu with rfl | rfl | rfl <;> rfl
  have K2 := Kp.of_grown g2
  have hw2 : k < w2.heap.size := Nat.lt_of_lt_of_le (by omega) K2.size
  have hblk2 : bk w2 k = some (CB [v0, v1, .int .i64 a, .int .i64 b] T.compactext4_xattrState) := by rw [K2.block k (by omega) h.d0]; exact hblk1
  have one2 : v'.oneCell' = true := by obtain ⟨a', c', e'⟩ := own_slice o2; rw [e']; rfl
  simp (disch := first | omega | (simp only [size_setb, size_alloc', size_drew'] <;> omega) | (simp (disch := first | omega | (simp only [size_setb, size_alloc', size_drew'] <;> omega) | fail) only [go_sem, hblk2, one2, hw2]; done) | fail) only [go_sem, dec_t, dec_f, w_u32, w_u64, w_u16, w_u8, w_i64, Int.reduceToNat, Int.reducePow, Nat.reducePow, hblk2, one2, hw2]
  rw [show ((a : Int) - (R : Int)) = ((a - R : Nat) : Int) by omega]
  have hv' : ∀ g, v'.ownBlock = some g → v0.ownBlock = some g ∨ w.heap.size ≤ g := fun g hg => by
    rcases l2 with q | q
    · exact .inl (by rw [← q]; exact hg)
    · rw [hg] at q; injection q with q; exact .inr (by omega)
  have hvk : v'.ownBlock ≠ some k := fun e => by rcases hv' k e with q | q; exact h.d0 q; omega
  have hvo : ∀ g, v'.ownBlock = some g → v1.ownBlock ≠ some g := fun g hg e => by
    rcases hv' g hg with q | q
    · exact h.d01 g q e
    · have := own_in o1 g e; omega
  have o1'' := own_kp2 o1' K2 fun g hg e => h.d01 g e hg
  obtain ⟨w3, e3⟩ : ∃ w3, w3 = setb (setb w2 k (CB [v', v1, .int .i64 a, .int .i64 b] T.compactext4_xattrState)) k (CB [v', v1, .int .i64 ((a - R : Nat) : Int), .int .i64 b] T.compactext4_xattrState) := ⟨_, rfl⟩
  rw [← e3]
  have K3 : Kp w2 w3 fun g => g = k := by rw [e3]; exact (Kp.setb _ _ _).trans (Kp.setb _ _ _) fun _ _ h => h
  have r3 : bk w3 k = some (CB [v', v1, .int .i64 ((a - R : Nat) : Int), .int .i64 b] T.compactext4_xattrState) := by rw [e3]; exact bk_setb_eq _ _ _ _ rfl (by simp only [go_sem]; exact hw2)
  clear e3
  have oN := own_kp2 o2 K3 fun g hg e => hvk (by rw [← e]; exact hg)
  have oO := own_kp2 o1'' K3 fun g hg e => h.d1 (by rw [← e]; exact hg)
  refine hk w3 v' ⟨r3, ⟨_, oN⟩, ⟨_, oO⟩, hvk, h.d1, hvo, hkB, Nat.lt_of_lt_of_le hw2 K3.size⟩ (((Kp.of_below B1 _).trans K2 fun g _ q => .inr (.inl q)).trans K3 fun g _ q => .inl q) hv'
theorem add_J3 {r d : List UInt8} {R p : Nat} {ix : Int} {av : Option Addr} {cv : Nat} {k1 : List Value → World → Prop} (h : Rm w B k v0 v1 n0 n1 a b) (x2 : bk w p = some (CB [S r, .int .u8 ix, .slice av d.length cv] T.compactext4_xattr)) (hR : R ≤ b) (ha : a ≤ 96) (hb : b ≤ 4060) (hn0 : n0 ≤ 1000) (hn1 : n1 ≤ 1000) (hB : B ≤ w.heap.size)
    (hk : ∀ w' v1', Rm w' B k v0 v1' n0 (n1 + 1) a (b - R) → Kp w w' (Rm.fp k v0 v1) → (∀ g, v1'.ownBlock = some g → v1.ownBlock = some g ∨ w.heap.size ≤ g) → k1 [] w') : J_compactext4_xattrState_addXattr_3 (pt k 0) w (pt p 0) (.int .i64 R) k1 := by
  unfold J_compactext4_xattrState_addXattr_3
  have hblk := h.blk
  obtain ⟨hkB, hkw⟩ := h.kB
  obtain ⟨xs, o0⟩ := h.o0
  obtain ⟨ys, o1⟩ := h.o1
  obtain ⟨a0, c0, e0⟩ := own_slice o0
  obtain ⟨a1, c1, e1⟩ := own_slice o1
  have one0 : v0.oneCell' = true := by rw [e0]; rfl
  have one1 : v1.oneCell' = true := by rw [e1]; rfl
  simp (disch := first | omega | (simp only [size_setb, size_alloc', size_drew'] <;> omega) | (simp (disch := first | omega | (simp only [size_setb, size_alloc', size_drew'] <;> omega) | fail) only [go_sem, hblk, x2]; done) | fail) only [go_sem, dec_t, dec_f, w_u32, w_u64, w_u16, w_u8, w_i64, Int.reduceToNat, Int.reducePow, Nat.reducePow, hblk, x2]
  rw [oBuildSliceN (size := 3) (z := AG [S [], .int .u8 0, .slice none 0 0]) _ _ U.sl_compactext4_xattr (by kernel_rfl) (by omega) (by omega) (l := [S r, .int .u8 ix, .slice av d.length cv]) rfl]
  obtain ⟨w1, ew⟩ : ∃ w1, w1 = w.drew.alloc (CB [S r, .int .u8 ix, .slice av d.length cv] T.compactext4_xattr) := ⟨_, rfl⟩
  have B1 : Below w.heap.size w w1 := by rw [ew]; repeat (first | exact Below.refl _ _ | assumption | refine bel_setb ?_ (by first | exact Nat.le_refl _ | omega | (simp only [go_sem] <;> omega)) _ | refine Below.alloc ?_ (by first | exact Nat.le_refl _ | omega | (simp only [go_sem]; omega)) _ | refine Below.drew ?_)
  have r1 : bk w1 w.heap.size = some (CB [S r, .int .u8 ix, .slice av d.length cv] T.compactext4_xattr) := by rw [ew]; exact bk_alloc_eq _ _ _ rfl
  have z1 : w1.heap.size = w.heap.size + 1 := by rw [ew]; simp only [go_sem]
  rw [← ew]
  clear ew
  have h1 := h.old B1
  have hblk1 := h1.blk
  refine ⟨by simp (disch := first | omega | (simp only [size_setb, size_alloc', size_drew'] <;> omega) | (simp (disch := first | omega | (simp only [size_setb, size_alloc', size_drew'] <;> omega) | fail) only [go_sem, hblk1]; done) | fail) only [go_sem, dec_t, dec_f, w_u32, w_u64, w_u16, w_u8, w_i64, Int.reduceToNat, Int.reducePow, Nat.reducePow, hblk1], ?_⟩
  have o0' := own_old o0 B1 (Nat.le_refl _)
  have o1' := own_old o1 B1 (Nat.le_refl _)
  refine oAppendR (z := AG [S [], .int .u8 0, .slice none 0 0]) (size := 3) (bytes := 48) (m := 1) (news := [S r, .int .u8 ix, .slice av d.length cv]) U.sl_compactext4_xattr (by kernel_rfl) rfl (by omega) o1' (.inl ⟨_, _, _, rfl, by rw [show w.drew.heap.size = w.heap.size from rfl, r1]; rfl⟩) rfl (fun u hu => ?_) (by simp only [maxLen]; omega) (by omega) (by omega) fun v' w2 o2 g2 l2 => ?_
  · simp only [List.mem_cons, List.not_mem_nil, or_false] at hu
    rcases hu with rfl | rfl | rfl <;> rfl
  have K2 := Kp.of_grown g2
  have hw2 : k < w2.heap.size := Nat.lt_of_lt_of_le (by omega) K2.size
  have hblk2 : bk w2 k = some (CB [v0, v1, .int .i64 a, .int .i64 b] T.compactext4_xattrState) := by rw [K2.block k (by omega) h.d1]; exact hblk1
  have one2 : v'.oneCell' = true := by obtain ⟨a', c', e'⟩ := own_slice o2; rw [e']; rfl
  simp (disch := first | omega | (simp only [size_setb, size_alloc', size_drew'] <;> omega) | (simp (disch := first | omega | (simp only [size_setb, size_alloc', size_drew'] <;> omega) | fail) only [go_sem, hblk2, one2, hw2]; done) | fail) only [go_sem, dec_t, dec_f, w_u32, w_u64, w_u16, w_u8, w_i64, Int.reduceToNat, Int.reducePow, Nat.reducePow, hblk2, one2, hw2]
  rw [show ((b : Int) - (R : Int)) = ((b - R : Nat) : Int) by omega]
  have hv' : ∀ g, v'.ownBlock = some g → v1.ownBlock = some g ∨ w.heap.size ≤ g := fun g hg => by
    rcases l2 with q | q
    · exact .inl (by rw [← q]; exact hg)
    · rw [hg] at q; injection q with q; exact .inr (by omega)
  have hvk : v'.ownBlock ≠ some k := fun e => by rcases hv' k e with q | q; exact h.d1 q; omega
  have hvo : ∀ g, v'.ownBlock = some g → v0.ownBlock ≠ some g := fun g hg e => by
    rcases hv' g hg with q | q
    · exact h.d01 g e q
    · have := own_in o0 g e; omega
  have o0'' := own_kp2 o0' K2 fun g hg e => h.d01 g hg e
  obtain ⟨w3, e3⟩ : ∃ w3, w3 = setb (setb w2 k (CB [v0, v', .int .i64 a, .int .i64 b] T.compactext4_xattrState)) k (CB [v0, v', .int .i64 a, .int .i64 ((b - R : Nat) : Int)] T.compactext4_xattrState) := ⟨_, rfl⟩
  rw [← e3]
  have K3 : Kp w2 w3 fun g => g = k := by rw [e3]; exact (Kp.setb _ _ _).trans (Kp.setb _ _ _) fun _ _ h => h
  have r3 : bk w3 k = some (CB [v0, v', .int .i64 a, .int .i64 ((b - R : Nat) : Int)] T.compactext4_xattrState) := by rw [e3]; exact bk_setb_eq _ _ _ _ rfl (by simp only [go_sem]; exact hw2)
  clear e3
  have oN := own_kp2 o2 K3 fun g hg e => hvk (by rw [← e]; exact hg)
  have oO := own_kp2 o0'' K3 fun g hg e => h.d0 (by rw [← e]; exact hg)
  refine hk w3 v' ⟨r3, ⟨_, oO⟩, ⟨_, oN⟩, h.d0, hvk, fun g hg e => hvo g e hg, hkB, Nat.lt_of_lt_of_le hw2 K3.size⟩ (((Kp.of_below B1 _).trans K2 fun g _ q => .inr (.inr q)).trans K3 fun g _ q => .inl q) hv'
theorem addXattr_spec {n d : List UInt8} {v : Value} (h : Rm w B k v0 v1 n0 n1 a b) (hp : Pre w) (hn : n.length ≤ 140737488351232) (hv : ∃ a cap, v = .slice a d.length cap) (hd : d.length ≤ 140737488351232) (ha : a ≤ 96) (hb : b ≤ 4060) (hn0 : n0 ≤ 1000) (hn1 : n1 ≤ 1000)
    (h1 : rm n d ≤ a → ∀ w' v0', Rm w' B k v0' v1 (n0 + 1) n1 (a - rm n d) b → Kp w w' (Rm.fp k v0 v1) → (∀ g, v0'.ownBlock = some g → v0.ownBlock = some g ∨ w.heap.size ≤ g) → K (.bool true) w')
    (h2 : ¬ rm n d ≤ a → rm n d ≤ b → ∀ w' v1', Rm w' B k v0 v1' n0 (n1 + 1) a (b - rm n d) → Kp w w' (Rm.fp k v0 v1) → (∀ g, v1'.ownBlock = some g → v1.ownBlock = some g ∨ w.heap.size ≤ g) → K (.bool true) w')
    (h3 : ¬ rm n d ≤ a → ¬ rm n d ≤ b → ∀ w', Below w.heap.size w w' → K (.bool false) w') : Cl P Fn.compactext4_xattrState_addXattr #[pt k 0, S n, v] w K := by
  apply S_compactext4_xattrState_addXattr
  unfold F_compactext4_xattrState_addXattr
  simp (disch := first | omega | (simp only [size_setb, size_alloc', size_drew'] <;> omega) | (simp (disch := first | omega | (simp only [size_setb, size_alloc', size_drew'] <;> omega) | fail) only [go_sem]; done) | fail) only [go_sem, dec_t, dec_f, w_u32, w_u64, w_u16, w_u8, w_i64, Int.reduceToNat, Int.reducePow, Nat.reducePow]
  refine compress_spec hn hp fun w1 b1 => ?_
  have hm := (cmp_len n).1
  unfold rm at h1 h2 h3
  generalize (cmpL preL n).2 = r at *
  generalize (cmpL preL n).1 = ix at *
  obtain ⟨av, cv, rfl⟩ := hv
  simp (disch := first | omega | (simp only [size_setb, size_alloc', size_drew'] <;> omega) | (simp (disch := first | omega | (simp only [size_setb, size_alloc', size_drew'] <;> omega) | fail) only [go_sem]; done) | fail) only [go_sem, dec_t, dec_f, w_u32, w_u64, w_u16, w_u8, w_i64, Int.reduceToNat, Int.reducePow, Nat.reducePow]
  have h1' := h.old b1
  obtain ⟨w2, e2⟩ : ∃ w2, w2 = setb (w1.alloc (CB [S [], .int .u8 0, .slice none 0 0] T.compactext4_xattr)) w1.heap.size (CB [S r, .int .u8 ix, .slice av d.length cv] T.compactext4_xattr) := ⟨_, rfl⟩
  rw [← e2]
  have b2 : Below w1.heap.size w1 w2 := by rw [e2]; repeat (first | exact Below.refl _ _ | assumption | refine bel_setb ?_ (by first | exact Nat.le_refl _ | omega | (simp only [go_sem] <;> omega)) _ | refine Below.alloc ?_ (by first | exact Nat.le_refl _ | omega | (simp only [go_sem]; omega)) _ | refine Below.drew ?_)
  have x2 : bk w2 w1.heap.size = some (CB [S r, .int .u8 ix, .slice av d.length cv] T.compactext4_xattr) := by rw [e2]; exact bk_setb_eq _ _ _ _ rfl (by simp only [go_sem]; omega)
  clear e2
  have h2' := h1'.old b2
  have hblk := h2'.blk
  refine entry_spec (d := d) x2 (by omega) ?_
  refine value_spec (d := d) x2 ⟨_, _, rfl⟩ hd ?_
  obtain ⟨R, hR⟩ : ∃ R : Nat, R = 16 + (r.length + 3) / 4 * 4 + (d.length + 3) / 4 * 4 := ⟨_, rfl⟩
  rw [← hR] at h1 h2 h3
  rw [oAdd, w_i64 (by omega) (by omega), show (((16 + (r.length + 3) / 4 * 4 : Nat) : Int) + (((d.length + 3) / 4 * 4 : Nat) : Int)) = (R : Int) by omega]
  refine jn_with (fun t w' => K (.bool true) w') (fun t e w' h => by unfold J_compactext4_xattrState_addXattr_1; exact h) ?_
  by_cases c : R ≤ a
  · have c' : ((a : Int) ≥ R) := by omega
    simp (disch := first | omega | (simp only [size_setb, size_alloc', size_drew'] <;> omega) | (simp (disch := first | omega | (simp only [size_setb, size_alloc', size_drew'] <;> omega) | fail) only [go_sem, hblk, c']; done) | fail) only [go_sem, dec_t, dec_f, w_u32, w_u64, w_u16, w_u8, w_i64, Int.reduceToNat, Int.reducePow, Nat.reducePow, hblk, c']
    refine add_J2 h2' x2 c ha hb hn0 hn1 (by have := h2'.kB; omega) fun w3 v0' h3 k3 g3 => ?_
    exact h1 c w3 v0' h3 (((Kp.of_below b1 _).trans (Kp.of_below b2 _) fun _ _ h => h).trans k3 fun _ _ h => h) fun g hg => (g3 g hg).imp_right fun q => by have := b1.size; have := b2.size; omega
  · by_cases c2 : R ≤ b
    · simp (disch := first | omega | (simp only [size_setb, size_alloc', size_drew'] <;> omega) | (simp (disch := first | omega | (simp only [size_setb, size_alloc', size_drew'] <;> omega) | fail) only [go_sem, hblk]; done) | fail) only [go_sem, dec_t, dec_f, w_u32, w_u64, w_u16, w_u8, w_i64, Int.reduceToNat, Int.reducePow, Nat.reducePow, hblk]
      unfold J_compactext4_xattrState_addXattr_4
      simp (disch := first | omega | (simp only [size_setb, size_alloc', size_drew'] <;> omega) | (simp (disch := first | omega | (simp only [size_setb, size_alloc', size_drew'] <;> omega) | fail) only [go_sem, hblk]; done) | fail) only [go_sem, dec_t, dec_f, w_u32, w_u64, w_u16, w_u8, w_i64, Int.reduceToNat, Int.reducePow, Nat.reducePow, hblk]
      refine add_J3 h2' x2 c2 ha hb hn0 hn1 (by have := h2'.kB; omega) fun w3 v1' h3 k3 g3 => ?_
      exact h2 c c2 w3 v1' h3 (((Kp.of_below b1 _).trans (Kp.of_below b2 _) fun _ _ h => h).trans k3 fun _ _ h => h) fun g hg => (g3 g hg).imp_right fun q => by have := b1.size; have := b2.size; omega
    · simp (disch := first | omega | (simp only [size_setb, size_alloc', size_drew'] <;> omega) | (simp (disch := first | omega | (simp only [size_setb, size_alloc', size_drew'] <;> omega) | fail) only [go_sem, hblk]; done) | fail) only [go_sem, dec_t, dec_f, w_u32, w_u64, w_u16, w_u8, w_i64, Int.reduceToNat, Int.reducePow, Nat.reducePow, hblk]
      unfold J_compactext4_xattrState_addXattr_4
      simp (disch := first | omega | (simp only [size_setb, size_alloc', size_drew'] <;> omega) | (simp (disch := first | omega | (simp only [size_setb, size_alloc', size_drew'] <;> omega) | fail) only [go_sem, hblk]; done) | fail) only [go_sem, dec_t, dec_f, w_u32, w_u64, w_u16, w_u8, w_i64, Int.reduceToNat, Int.reducePow, Nat.reducePow, hblk]
      exact h3 c c2 w2 (b1.trans (b2.mono b1.size))
end
end Go.Proofs.YtfiepdikejoeeaaDoor.X
