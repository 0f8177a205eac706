/- Writing and cutting through a handle that writes. No condition. -/
import Derived.Test.YteblpejgenehfaaDoorRo
import Derived.Test.YteblpejgenehfaaDoorXWr
set_option linter.unusedVariables false
set_option linter.unusedSimpArgs false
set_option maxRecDepth 100000
namespace Go.Proofs.YteblpejgenehfaaDoor.X
open Go Go.X Go.Proofs Go.RowKit

theorem Kp_mono {a b : World} {S T : Nat → Prop} (h : Kp a b S) (hS : ∀ x, S x → T x) : Kp a b T := ⟨h.os, h.tape, h.output, h.size, fun k hk hn => h.block k hk fun hs => hn (hS k hs)⟩
/-- The bytes behind a writing. -/
def wrB (s : FS) (l : List UInt8) : List UInt8 :=
  if (s.bytes.length : Int) < s.pos then s.bytes ++ (List.replicate (s.pos.toNat - s.bytes.length) 0 ++ l) else s.bytes.take s.pos.toNat ++ l ++ s.bytes.drop (s.pos.toNat + l.length)
theorem byt_zeros (n : Nat) : (List.replicate n (0 : UInt8)).map byt = List.replicate n (.int .u8 0) := by rw [List.map_replicate]; rfl
/-- The data and the slice set. -/
theorem FD.setData {w : World} {B f d : Nat} {v v' : Value} {s : FS} (h : FD w B f d v s) {l : List UInt8} (o : w.ownsRow B T.uint8 1 v' l.length (l.map byt)) (n1 : v'.ownBlock ≠ some f) (n2 : v'.ownBlock ≠ some d) {nm : List UInt8} {md : Value} {dir : Bool} {mode mt uid gid : Int} (hmd : md.oneCell' = true) :
    FD (setb w d (CB [S nm, v', md, .bool dir, .int .u32 mode, .int .i64 mt, .int .i64 uid, .int .i64 gid] T.mem_FileData)) B f d v' { s with bytes := l } := by
  obtain ⟨l1, l2⟩ := h.lt
  have k := Kp.setb w d (CB [S nm, v', md, .bool dir, .int .u32 mode, .int .i64 mt, .int .i64 uid, .int .i64 gid] T.mem_FileData)
  refine ⟨h.hf, h.hd, h.fd, ?_, ⟨nm, md, dir, mode, mt, uid, gid, bk_setb_eq _ _ _ _ rfl l2, hmd⟩, own_kp o k fun x hx e => n2 (by rw [hx, e]), n1, n2⟩
  rw [bk_setb_ne _ _ _ _ h.fd]
  exact h.bf

theorem app_nil {w : World} {L : Value → World → Prop} {B n : Nat} {v : Value} {xs : List Value} (h : w.ownsRow B T.uint8 1 v n xs) {cs : Array Bool} {ty : TypeId} : st P (oBuiltin .append #[T.sl_uint8, T.sl_uint8] ty cs #[v, .slice none 0 0]) w L = L v w := by
  obtain ⟨a, cap, rfl, hc⟩ := own_cap h
  exact oAppend_none U.sl_uint8 (by kernel_rfl) (Src.ofNil w U.sl_uint8 0) hc
theorem map_byt_inj_take {cur : List Value} {l : List UInt8} {n : Nat} (h : cur.take n = l.map byt) (p : Nat) (hp : p ≤ n) : cur.take p = (l.take p).map byt := by
  rw [List.map_take, ← h, List.take_take, Nat.min_eq_left hp]
/-- The bytes of a block, a part of them written over, the end laid onto itself. -/
theorem over_list {cur cur' : List Value} {bs l : List UInt8} {cap p : Nat} (hc : cur.length = cap) (ht : cur.take bs.length = bs.map byt) (hp : p + l.length < bs.length) (hl : bs.length ≤ cap) (e : cur' = cur.take p ++ l.map byt ++ cur.drop (p + l.length)) :
    (cur'.take (p + l.length) ++ (bs.drop (p + l.length)).map byt ++ cur'.drop bs.length).length = cap ∧ (cur'.take (p + l.length) ++ (bs.drop (p + l.length)).map byt ++ cur'.drop bs.length).take bs.length = (bs.take p ++ l ++ bs.drop (p + l.length)).map byt ∧ cur'.length = cap ∧ (cur'.drop (p + l.length)).take (bs.length - (p + l.length)) = (bs.drop (p + l.length)).map byt := by
  have k1 : cur'.length = cap := by rw [e]; simp; omega
  have k2 : cur'.take (p + l.length) = (bs.take p ++ l).map byt := by
    rw [e, List.take_append_of_le_length (by simp; omega), List.take_of_length_le (by simp; omega), map_byt_inj_take ht p (by omega), List.map_append]
  refine ⟨by simp; omega, ?_, k1, ?_⟩
  · rw [List.take_append_of_le_length (by simp; omega), List.take_of_length_le (by simp; omega), k2]
    simp
  · have e1 : cur'.drop (p + l.length) = cur.drop (p + l.length) := by
      rw [e, List.drop_append, List.drop_of_length_le (by simp; omega), List.nil_append]
      simp
      have e0 : p + l.length - (min p cur.length + l.length) = 0 := by omega
      rw [e0, Nat.add_zero]
    rw [e1, ← List.drop_take, ht, List.map_drop]

set_option maxHeartbeats 8000000 in
theorem write_spec {w : World} {K : Value → World → Prop} {B f d : Nat} {v x : Value} {s : FS} {l : List UInt8} (h : FD w B f d v s) (hc : s.cl = false) (hro : s.ro = false) (hx : BS w x l) (hxf : x.ownBlock ≠ some f) (hxd : x.ownBlock ≠ some d) (h0 : 0 ≤ s.pos) (h1 : s.pos + l.length ≤ 140737488355328) (h2 : s.bytes.length ≤ 140737488355328)
    (hk : ∀ w' v', FD w' B f d v' { s with bytes := wrB s l, pos := s.pos + l.length } → Kp w w' (Of f d v) → (v'.ownBlock = v.ownBlock ∨ ∀ k, v'.ownBlock = some k → w.heap.size ≤ k) → K (tup [.int .i64 l.length, .nilIface]) w') : Cl P Fn.mem_File_Write #[pt f 0, x] w K := by
  apply S_mem_File_Write
  unfold F_mem_File_Write
  obtain ⟨rdc, hf⟩ := h.bf
  obtain ⟨nm, md, dir, mode, mt, uid, gid, hd, hmd⟩ := h.bd
  obtain ⟨l1, l2⟩ := h.lt
  have hfd := h.fd
  have hBf := h.hf
  have hBd := h.hd
  have hnf := h.nf
  have hnd := h.nd
  have hown := h.own
  have hlt := own_lt h.own
  obtain ⟨a, cap, ev, hcap⟩ := own_cap h.own
  obtain ⟨xa, xc, ex⟩ := BS_slice hx
  obtain ⟨p, hp⟩ := Int.eq_ofNat_of_zero_le h0
  refine jn_with (fun t w' => t = [.nilIface] ∧ w' = w) ?_ ?_
  · rintro t e w1 ⟨rfl, rfl⟩
    refine jn_with (fun t w' => t = [.nilIface] ∧ w' = w1) ?_ ?_
    · rintro t e w2 ⟨rfl, rfl⟩
      subst ex ev
      simp (disch := first | omega | (simp only [size_setb, size_alloc', size_drew'] <;> omega) | (simp (disch := first | omega | (simp only [size_setb, size_alloc', size_drew'] <;> omega) | fail) only [go_sem, hf, hd]; done) | fail) only [go_sem, dec_t, dec_f, w_u32, w_u64, w_u16, w_u8, w_i64, Int.reduceToNat, Int.reducePow, Nat.reducePow, hf, hd]
      refine jn_with (fun t w' => w' = w2 ∧ ((¬ p + l.length < s.bytes.length ∧ t = [.slice none 0 0]) ∨ (p + l.length < s.bytes.length ∧ ∃ g, a = some ⟨g, 0, none⟩ ∧ t = [sl g (p + l.length) (s.bytes.length - (p + l.length)) (cap - (p + l.length))]))) ?_ ?_
      · rintro t e w3 ⟨rfl, ht⟩
        refine jn_with (fun t w' => ∃ v', FD w' B f d v' { s with bytes := wrB s l } ∧ Kp w3 w' (Of f d (.slice a s.bytes.length cap)) ∧ (v'.ownBlock = (Value.slice a s.bytes.length cap).ownBlock ∨ ∀ k, v'.ownBlock = some k → w3.heap.size ≤ k)) ?_ ?_
        · rintro t e w4 ⟨v4, F4, K4, a4⟩
          obtain ⟨rdc4, hf4⟩ := F4.bf
          obtain ⟨nm4, md4, dir4, mode4, mt4, uid4, gid4, hd4, hmd4⟩ := F4.bd
          obtain ⟨l14, l24⟩ := F4.lt
          simp (disch := first | omega | (simp only [size_setb, size_alloc', size_drew'] <;> omega) | (simp (disch := first | omega | (simp only [size_setb, size_alloc', size_drew'] <;> omega) | fail) only [go_sem, hf4]; done) | fail) only [go_sem, dec_t, dec_f, w_u32, w_u64, w_u16, w_u8, w_i64, Int.reduceToNat, Int.reducePow, Nat.reducePow, hf4]
          apply S_mem_setModTime
          unfold F_mem_setModTime
          simp (disch := first | omega | (simp only [size_setb, size_alloc', size_drew'] <;> omega) | (simp (disch := first | omega | (simp only [size_setb, size_alloc', size_drew'] <;> omega) | fail) only [go_sem, hd4, hf4]; done) | fail) only [go_sem, dec_t, dec_f, w_u32, w_u64, w_u16, w_u8, w_i64, Int.reduceToNat, Int.reducePow, Nat.reducePow, hd4, hf4]
          have F5 := F4.setData F4.own F4.nf F4.nd (nm := nm4) (md := md4) (dir := dir4) (mode := mode4) (mt := 0) (uid := uid4) (gid := gid4) hmd4
          have K5 := K4.trans (Kp.setb w4 d (CB [S nm4, v4, md4, .bool dir4, .int .u32 mode4, .int .i64 0, .int .i64 uid4, .int .i64 gid4] T.mem_FileData)) fun y _ e => .inr (.inl e)
          generalize setb w4 d (CB [S nm4, v4, md4, .bool dir4, .int .u32 mode4, .int .i64 0, .int .i64 uid4, .int .i64 gid4] T.mem_FileData) = w5 at *
          refine hk _ _ (F5.setPos (s.pos + l.length) rdc4) (K5.trans (Kp.setb w5 f _) fun y _ e => .inl e) a4
        · have fin : ∀ w5 v5, bk w5 f = some (CB [.int .i64 s.pos, .int .i64 rdc, .bool s.cl, .bool s.ro, pt d 0] T.mem_File) → w5.ownsRow B T.uint8 1 v5 (wrB s l).length ((wrB s l).map byt) → v5.ownBlock ≠ some f → v5.ownBlock ≠ some d → Kp w3 w5 (Of f d (.slice a s.bytes.length cap)) → (v5.ownBlock = (Value.slice a s.bytes.length cap).ownBlock ∨ ∀ k, v5.ownBlock = some k → w3.heap.size ≤ k) → ∀ w6, w6 = setb w5 d (CB [S nm, v5, md, .bool dir, .int .u32 mode, .int .i64 mt, .int .i64 uid, .int .i64 gid] T.mem_FileData) →
              ∃ v', FD w6 B f d v' { s with bytes := wrB s l } ∧ Kp w3 w6 (Of f d (.slice a s.bytes.length cap)) ∧ (v'.ownBlock = (Value.slice a s.bytes.length cap).ownBlock ∨ ∀ k, v'.ownBlock = some k → w3.heap.size ≤ k) := by
            rintro w5 v5 f5 o5 n1 n2 K5 a5 w6 rfl
            have k := Kp.setb w5 d (CB [S nm, v5, md, .bool dir, .int .u32 mode, .int .i64 mt, .int .i64 uid, .int .i64 gid] T.mem_FileData)
            have z5 := K5.size
            refine ⟨v5, ⟨hBf, hBd, hfd, ⟨rdc, ?_⟩, ⟨nm, md, dir, mode, mt, uid, gid, bk_setb_eq _ _ _ _ rfl (by omega), hmd⟩, own_kp o5 k fun y hy e => n2 (by rw [hy, e]), n1, n2⟩, K5.trans k fun y _ e => .inr (.inl e), a5⟩
            rw [bk_setb_ne _ _ _ _ hfd]
            exact f5
          have fin2 : ∀ w6 v6, bk w6 f = some (CB [.int .i64 s.pos, .int .i64 rdc, .bool s.cl, .bool s.ro, pt d 0] T.mem_File) → w6.ownsRow B T.uint8 1 v6 (wrB s l).length ((wrB s l).map byt) → v6.ownBlock ≠ some f → v6.ownBlock ≠ some d → Kp w3 w6 (Of f d (.slice a s.bytes.length cap)) → (v6.ownBlock = (Value.slice a s.bytes.length cap).ownBlock ∨ ∀ k, v6.ownBlock = some k → w3.heap.size ≤ k) →
              st P (oBuiltin .append #[T.sl_uint8, T.sl_uint8] T.sl_uint8 #[false, false] #[v6, .slice none 0 0]) (setb w6 d (CB [S nm, v6, md, .bool dir, .int .u32 mode, .int .i64 mt, .int .i64 uid, .int .i64 gid] T.mem_FileData)).drew fun t100 w16 => hold P (oLoad T.p_mem_FileData (.pointer (some ⟨f, 4, none⟩))) (pt d 0) w16 ∧ st P (oStore T.sl_uint8 (.pointer (some ⟨d, 1, none⟩)) t100) w16 fun _ w17 =>
                ∃ v', FD w17 B f d v' { s with bytes := wrB s l } ∧ Kp w3 w17 (Of f d (.slice a s.bytes.length cap)) ∧ (v'.ownBlock = (Value.slice a s.bytes.length cap).ownBlock ∨ ∀ k, v'.ownBlock = some k → w3.heap.size ≤ k) := by
            intro w6 v6 hf6 o6 n61 n62 K6 a6
            have z6 := K6.size
            have o7 := own_kp o6 ((Kp.setb w6 d (CB [S nm, v6, md, .bool dir, .int .u32 mode, .int .i64 mt, .int .i64 uid, .int .i64 gid] T.mem_FileData)).trans (Kp.drew _ (fun k => k = d)) fun _ _ h => h) fun k hk e => n62 (by rw [hk, e])
            have one6 : v6.oneCell' = true := by obtain ⟨_, _, rfl⟩ := own_slice o6; rfl
            rw [app_nil o7]
            simp (disch := first | omega | (simp only [size_setb, size_alloc', size_drew'] <;> omega) | (simp (disch := first | omega | (simp only [size_setb, size_alloc', size_drew'] <;> omega) | fail) only [go_sem, hf6, one6]; done) | fail) only [go_sem, dec_t, dec_f, w_u32, w_u64, w_u16, w_u8, w_i64, Int.reduceToNat, Int.reducePow, Nat.reducePow, hf6, one6]
            refine ⟨trivial, ?_⟩
            rw [setb_same (w := (setb w6 d (CB [S nm, v6, md, .bool dir, .int .u32 mode, .int .i64 mt, .int .i64 uid, .int .i64 gid] T.mem_FileData)).drew) (by show bk (setb w6 d _) d = _; exact bk_setb_eq _ _ _ _ rfl (by omega))]
            exact fin w6.drew v6 hf6 o6 n61 n62 (K6.trans (Kp.drew _ (fun _ => False)) fun _ _ h => h.elim) a6 _ rfl
          rcases ht with ⟨g1, rfl⟩ | ⟨g1, g, rfl, rfl⟩
          · by_cases g2 : s.bytes.length < p
            · have ed : s.pos - (s.bytes.length : Int) = ((p - s.bytes.length : Nat) : Int) := by omega
              generalize hm : p - s.bytes.length = m at *
              simp (disch := first | omega | (simp only [size_setb, size_alloc', size_drew'] <;> omega) | (simp (disch := first | omega | (simp only [size_setb, size_alloc', size_drew'] <;> omega) | fail) only [go_sem, ed]; done) | fail) only [go_sem, dec_t, dec_f, w_u32, w_u64, w_u16, w_u8, w_i64, Int.reduceToNat, Int.reducePow, Nat.reducePow, ed]
              simp (disch := first | omega | (simp only [size_setb, size_alloc', size_drew'] <;> omega) | (simp (disch := first | omega | (simp only [size_setb, size_alloc', size_drew'] <;> omega) | fail) only [go_sem, hf, hd]; done) | fail) only [go_sem, dec_t, dec_f, w_u32, w_u64, w_u16, w_u8, w_i64, Int.reduceToNat, Int.reducePow, Nat.reducePow, hf, hd]
              rw [oMkB U.sl_uint8 (by kernel_rfl) m (by omega)]
              have oz : (w3.drew.alloc (CB (List.replicate m (.int .u8 0)) T.uint8)).ownsRow w3.heap.size T.uint8 1 (sl w3.heap.size 0 m m) m ((List.replicate m (0 : UInt8)).map byt) := ⟨by simp, .inr ⟨w3.heap.size, m, (List.replicate m (.int .u8 0)).toArray, rfl, Nat.le_refl _, heap_alloc_new w3.drew _, Nat.le_refl _, by simp only [maxLen]; omega, by simp, by rw [byt_zeros]; simp⟩⟩
              have B4 : Below w3.heap.size w3 (w3.drew.alloc (CB (List.replicate m (.int .u8 0)) T.uint8)) := by repeat (first | exact Below.refl _ _ | assumption | refine bel_setb ?_ (by first | exact Nat.le_refl _ | omega | (simp only [go_sem] <;> omega)) _ | refine Below.alloc ?_ (by first | exact Nat.le_refl _ | omega | (simp only [go_sem]; omega)) _ | refine Below.drew ?_)
              have z4 : (w3.drew.alloc (CB (List.replicate m (.int .u8 0)) T.uint8)).heap.size = w3.heap.size + 1 := by simp only [go_sem]
              rw [show sl w3.drew.heap.size 0 m m = sl w3.heap.size 0 m m from rfl]
              generalize w3.drew.alloc (CB (List.replicate m (.int .u8 0)) T.uint8) = w4 at *
              have hf4 := (bel_bk B4 l1).trans hf
              have hd4 := (bel_bk B4 l2).trans hd
              simp (disch := first | omega | (simp only [size_setb, size_alloc', size_drew'] <;> omega) | (simp (disch := first | omega | (simp only [size_setb, size_alloc', size_drew'] <;> omega) | fail) only [go_sem, hf4, hd4]; done) | fail) only [go_sem, dec_t, dec_f, w_u32, w_u64, w_u16, w_u8, w_i64, Int.reduceToNat, Int.reducePow, Nat.reducePow, hf4, hd4]
              refine ⟨trivial, trivial, trivial, ?_⟩
              refine oAppendBS U.sl_uint8 (by kernel_rfl) oz (BS_old hx B4 (Nat.le_refl _)) (by omega) (by omega) fun y w5 o5 g5 a5 => ?_
              have K5 := Kp.of_grown g5
              have z5 := K5.size
              have n5 : ∀ k, k < w3.heap.size → ¬ ((sl w3.heap.size 0 m m).ownBlock = some k) := fun k hk e => by
                have e2 : w3.heap.size = k := Option.some.inj e
                omega
              have hf5 := (K5.block f (by omega) (n5 f l1)).trans hf4
              have hd5 := (K5.block d (by omega) (n5 d l2)).trans hd4
              have own5 := own_kp (own_old hown B4 (Nat.le_refl _)) K5 fun k hk => n5 k (hlt k hk).2
              have y5 : ∀ k, y.ownBlock = some k → w3.heap.size ≤ k := fun k hk => (own_lt o5 k hk).1
              rw [← List.map_append] at o5
              have el : (List.replicate m (0 : UInt8) ++ l).length = m + l.length := by simp
              rw [← el] at o5
              have by5 := BS_own o5
              have B5 : Below w3.heap.size w3 w5 := B4.trans (K5.below (fun k hk => n5 k hk) (by omega))
              obtain ⟨ya, yc, ey⟩ := own_slice o5
              simp (disch := first | omega | (simp only [size_setb, size_alloc', size_drew'] <;> omega) | (simp (disch := first | omega | (simp only [size_setb, size_alloc', size_drew'] <;> omega) | fail) only [go_sem, hf5, hd5]; done) | fail) only [go_sem, dec_t, dec_f, w_u32, w_u64, w_u16, w_u8, w_i64, Int.reduceToNat, Int.reducePow, Nat.reducePow, hf5, hd5]
              refine ⟨trivial, trivial, trivial, ?_⟩
              refine oAppendBS U.sl_uint8 (by kernel_rfl) own5 by5 (by omega) (by omega) fun v6 w6 o6 g6 a6 => ?_
              have K6 := Kp.of_grown g6
              have z6 := K6.size
              have hf6 := (K6.block f (by omega) hnf).trans hf5
              have hd6 := (K6.block d (by omega) hnd).trans hd5
              have ew : wrB s l = s.bytes ++ (List.replicate m (0 : UInt8) ++ l) := by
                unfold wrB
                rw [if_pos (by omega)]
                congr 3
                omega
              rw [← List.map_append, ← ew] at o6
              rw [show s.bytes.length + (List.replicate m (0 : UInt8) ++ l).length = (wrB s l).length by rw [ew, List.length_append, List.length_append, List.length_append]] at o6
              have n61 : v6.ownBlock ≠ some f := fun e => by
                rcases a6 with h | h
                · exact hnf (by rw [← h]; exact e)
                · rw [h] at e; have := Option.some.inj e; omega
              have n62 : v6.ownBlock ≠ some d := fun e => by
                rcases a6 with h | h
                · exact hnd (by rw [← h]; exact e)
                · rw [h] at e; have := Option.some.inj e; omega
              have a6' : v6.ownBlock = (Value.slice a s.bytes.length cap).ownBlock ∨ ∀ k, v6.ownBlock = some k → w3.heap.size ≤ k := by
                rcases a6 with h | h
                · exact .inl h
                · exact .inr fun k hk => by rw [h] at hk; have := Option.some.inj hk; omega
              have K6' : Kp w3 w6 (Of f d (.slice a s.bytes.length cap)) := (Kp.of_below B5 _).trans K6 fun y _ e => .inr (.inr e)
              have one6 : v6.oneCell' = true := by obtain ⟨_, _, rfl⟩ := own_slice o6; rfl
              simp (disch := first | omega | (simp only [size_setb, size_alloc', size_drew'] <;> omega) | (simp (disch := first | omega | (simp only [size_setb, size_alloc', size_drew'] <;> omega) | fail) only [go_sem, hf6, hd6, one6]; done) | fail) only [go_sem, dec_t, dec_f, w_u32, w_u64, w_u16, w_u8, w_i64, Int.reduceToNat, Int.reducePow, Nat.reducePow, hf6, hd6, one6]
              refine ⟨trivial, ?_⟩
              exact fin2 w6 v6 hf6 o6 n61 n62 K6' a6'
            · simp (disch := first | omega | (simp only [size_setb, size_alloc', size_drew'] <;> omega) | (simp (disch := first | omega | (simp only [size_setb, size_alloc', size_drew'] <;> omega) | fail) only [go_sem, hp]; done) | fail) only [go_sem, dec_t, dec_f, w_u32, w_u64, w_u16, w_u8, w_i64, Int.reduceToNat, Int.reducePow, Nat.reducePow, hp]
              simp (disch := first | omega | (simp only [size_setb, size_alloc', size_drew'] <;> omega) | (simp (disch := first | omega | (simp only [size_setb, size_alloc', size_drew'] <;> omega) | fail) only [go_sem, hp, hf, hd]; done) | fail) only [go_sem, dec_t, dec_f, w_u32, w_u64, w_u16, w_u8, w_i64, Int.reduceToNat, Int.reducePow, Nat.reducePow, hp, hf, hd]
              obtain ⟨v4, o4, e4, sl4, _⟩ := own_hi U.sl_uint8 (by kernel_rfl) hown (p := p) (by omega)
              simp (disch := first | omega | (simp only [size_setb, size_alloc', size_drew'] <;> omega) | (simp (disch := first | omega | (simp only [size_setb, size_alloc', size_drew'] <;> omega) | fail) only [go_sem, hp, hf, hd, sl4]; done) | fail) only [go_sem, dec_t, dec_f, w_u32, w_u64, w_u16, w_u8, w_i64, Int.reduceToNat, Int.reducePow, Nat.reducePow, hp, hf, hd, sl4]
              refine oAppendBS (w := w3.drew) U.sl_uint8 (by kernel_rfl) (own_kp o4 (Kp.drew _ (fun _ => False)) fun _ _ h => h) (show BS w3.drew _ l from hx) (by omega) (by show B ≤ w3.heap.size; omega) fun v6 w6 o6 g6 a6 => ?_
              have K6 := Kp.of_grown g6
              have z6 : w3.heap.size ≤ w6.heap.size := K6.size
              rw [e4] at K6 a6
              have hf6 := (K6.block f l1 hnf).trans hf
              have hd6 := (K6.block d l2 hnd).trans hd
              have ew : wrB s l = s.bytes.take p ++ l := by
                unfold wrB
                rw [if_neg (by omega), hp]
                simp only [Int.toNat_natCast]
                rw [List.drop_of_length_le (by omega), List.append_nil]
              rw [← List.map_take, ← List.map_append, ← ew] at o6
              rw [show p + l.length = (wrB s l).length by rw [ew, List.length_append, List.length_take]; omega] at o6
              have n61 : v6.ownBlock ≠ some f := fun e => by
                rcases a6 with h | h
                · exact hnf (by rw [← h]; exact e)
                · rw [h] at e
                  have e2 : w3.heap.size = f := Option.some.inj e
                  omega
              have n62 : v6.ownBlock ≠ some d := fun e => by
                rcases a6 with h | h
                · exact hnd (by rw [← h]; exact e)
                · rw [h] at e
                  have e2 : w3.heap.size = d := Option.some.inj e
                  omega
              have a6' : v6.ownBlock = (Value.slice a s.bytes.length cap).ownBlock ∨ ∀ k, v6.ownBlock = some k → w3.heap.size ≤ k := by
                rcases a6 with h | h
                · exact .inl h
                · refine .inr fun k hk => ?_
                  rw [h] at hk
                  have e2 : w3.heap.size = k := Option.some.inj hk
                  omega
              have K6' : Kp w3 w6 (Of f d (.slice a s.bytes.length cap)) := ((Kp.drew w3 _).trans K6 (S := Of f d (.slice a s.bytes.length cap)) (T := fun k => (Value.slice a s.bytes.length cap).ownBlock = some k) fun y _ e => .inr (.inr e))
              have one6 : v6.oneCell' = true := by obtain ⟨_, _, rfl⟩ := own_slice o6; rfl
              rw [hp] at hf6
              simp (disch := first | omega | (simp only [size_setb, size_alloc', size_drew'] <;> omega) | (simp (disch := first | omega | (simp only [size_setb, size_alloc', size_drew'] <;> omega) | fail) only [go_sem, hf6, hd6, one6]; done) | fail) only [go_sem, dec_t, dec_f, w_u32, w_u64, w_u16, w_u8, w_i64, Int.reduceToNat, Int.reducePow, Nat.reducePow, hf6, hd6, one6]
              refine ⟨trivial, ?_⟩
              have q := fin2 w6 v6 (by rw [hp]; exact hf6) o6 n61 n62 K6' a6'
              rw [hp] at q
              exact q
          · obtain ⟨b', cap', cur, ev, r1, r2, r3, r4, r5, r6⟩ := own_row hown (by omega)
            injection ev with ev1 ev2 ev3
            injection ev1 with ev1
            injection ev1 with ev1
            subst ev1 ev3
            rw [Nat.mul_one] at r5 r6
            have gp : ¬ ((s.bytes.length : Int) < p) := by omega
            simp (disch := first | omega | (simp only [size_setb, size_alloc', size_drew'] <;> omega) | (simp (disch := first | omega | (simp only [size_setb, size_alloc', size_drew'] <;> omega) | fail) only [go_sem, hp, hf, hd]; done) | fail) only [go_sem, dec_t, dec_f, w_u32, w_u64, w_u16, w_u8, w_i64, Int.reduceToNat, Int.reducePow, Nat.reducePow, hp, hf, hd]
            have sl4 : ∀ (M : Value → Prop), pu P (oSlice T.sl_uint8 (sl g 0 s.bytes.length cap) none (some (.int .i64 p)) none) M = M (sl g 0 p cap) := fun M => by
              rw [oSlice_hi (size := 1) M U.sl_uint8 (by kernel_rfl) (by omega) (by omega), Int.toNat_natCast]
            simp (disch := first | omega | (simp only [size_setb, size_alloc', size_drew'] <;> omega) | (simp (disch := first | omega | (simp only [size_setb, size_alloc', size_drew'] <;> omega) | fail) only [go_sem, hp, hf, hd, sl4]; done) | fail) only [go_sem, dec_t, dec_f, w_u32, w_u64, w_u16, w_u8, w_i64, Int.reduceToNat, Int.reducePow, Nat.reducePow, hp, hf, hd, sl4]
            rw [oAppend_room (P := P) (w := w3.drew) U.sl_uint8 (by kernel_rfl) (BS_src U.sl_uint8 (show BS w3.drew _ l from hx)) (show bk w3.drew g = _ from r4) (by omega) (by omega)]
            obtain ⟨cur', ecur'⟩ : ∃ cur' : List Value, cur' = cur.take (0 + p) ++ l.map byt ++ cur.drop (0 + p + l.length) := ⟨_, rfl⟩
            rw [← ecur']
            rw [Nat.zero_add] at ecur'
            obtain ⟨q1, q2, q3, q4⟩ := over_list r5 r6 g1 r1 ecur'
            have gf : g ≠ f := fun e => hnf (by rw [e]; rfl)
            have gd : g ≠ d := fun e => hnd (by rw [e]; rfl)
            have lg : g < w3.heap.size := r3
            obtain ⟨wg, ewg⟩ : ∃ wg : World, wg = setb w3.drew g (CB cur' T.uint8) := ⟨_, rfl⟩
            have Kg : Kp w3 wg (Of f d (sl g 0 s.bytes.length cap)) := by
              rw [ewg]
              exact (Kp.drew w3 _).trans (Kp.setb w3.drew g (CB cur' T.uint8)) fun y _ e => .inr (.inr (by rw [e]; rfl))
            have zg : wg.heap.size = w3.heap.size := by rw [ewg]; simp only [go_sem]
            have hfg : bk wg f = some (CB [.int .i64 p, .int .i64 rdc, .bool s.cl, .bool s.ro, pt d 0] T.mem_File) := by rw [ewg, bk_setb_ne _ _ _ _ (Ne.symm gf), ← hp]; exact hf
            have hdg : bk wg d = some (CB [S nm, sl g 0 s.bytes.length cap, md, .bool dir, .int .u32 mode, .int .i64 mt, .int .i64 uid, .int .i64 gid] T.mem_FileData) := by rw [ewg, bk_setb_ne _ _ _ _ (Ne.symm gd)]; exact hd
            have hgg : bk wg g = some (CB cur' T.uint8) := by rw [ewg]; exact bk_setb_eq _ _ _ _ rfl lg
            rw [← ewg]
            clear ewg
            simp (disch := first | omega | (simp only [size_setb, size_alloc', size_drew'] <;> omega) | (simp (disch := first | omega | (simp only [size_setb, size_alloc', size_drew'] <;> omega) | fail) only [go_sem, hfg, hdg]; done) | fail) only [go_sem, dec_t, dec_f, w_u32, w_u64, w_u16, w_u8, w_i64, Int.reduceToNat, Int.reducePow, Nat.reducePow, hfg, hdg]
            refine ⟨trivial, ?_⟩
            obtain ⟨wh, ewh⟩ : ∃ wh : World, wh = (setb wg d (CB [S nm, sl g 0 (p + l.length) cap, md, .bool dir, .int .u32 mode, .int .i64 mt, .int .i64 uid, .int .i64 gid] T.mem_FileData)).drew := ⟨_, rfl⟩
            have Kh : Kp w3 wh (Of f d (sl g 0 s.bytes.length cap)) := by
              rw [ewh]
              exact (Kg.trans (Kp.setb wg d _) fun y _ e => .inr (.inl e)).trans (Kp.drew _ _) fun _ _ h => h
            have zh : wh.heap.size = w3.heap.size := by rw [ewh]; simp only [go_sem, zg]
            have hfh : bk wh f = some (CB [.int .i64 p, .int .i64 rdc, .bool s.cl, .bool s.ro, pt d 0] T.mem_File) := by rw [ewh]; show bk (setb wg d _) f = _; rw [bk_setb_ne _ _ _ _ hfd]; exact hfg
            have hdh : bk wh d = some (CB [S nm, sl g 0 (p + l.length) cap, md, .bool dir, .int .u32 mode, .int .i64 mt, .int .i64 uid, .int .i64 gid] T.mem_FileData) := by rw [ewh]; show bk (setb wg d _) d = _; exact bk_setb_eq _ _ _ _ rfl (by omega)
            have hgh : bk wh g = some (CB cur' T.uint8) := by rw [ewh]; show bk (setb wg d _) g = _; rw [bk_setb_ne _ _ _ _ gd]; exact hgg
            rw [← ewh]
            clear ewh
            have enl : ((s.bytes.drop (p + l.length)).map byt).length = s.bytes.length - (p + l.length) := by simp
            have srcT : Src P 1 T.sl_uint8 (sl g (p + l.length) (s.bytes.length - (p + l.length)) (cap - (p + l.length))) (s.bytes.length - (p + l.length)) ((s.bytes.drop (p + l.length)).map byt) wh := by
              refine src_row U.sl_uint8 ?_ enl.symm fun u hu => by obtain ⟨y, _, rfl⟩ := List.mem_map.1 hu; rfl
              rw [hgh, enl]
              simp only [rowOf]
              rw [if_pos (by simp only [List.size_toArray]; omega)]
              exact congrArg some q4
            rw [oAppend_room (P := P) (w := wh) U.sl_uint8 (by kernel_rfl) srcT hgh (by omega) (by omega)]
            have lhg : g < wh.heap.size := by omega
            obtain ⟨wi, ewi⟩ : ∃ wi : World, wi = setb wh g (CB (cur'.take (0 + (p + l.length)) ++ (s.bytes.drop (p + l.length)).map byt ++ cur'.drop (0 + (p + l.length) + (s.bytes.length - (p + l.length)))) T.uint8) := ⟨_, rfl⟩
            have en : p + l.length + (s.bytes.length - (p + l.length)) = s.bytes.length := by omega
            rw [← ewi]
            rw [Nat.zero_add, en] at ewi
            have Ki : Kp w3 wi (Of f d (sl g 0 s.bytes.length cap)) := by
              rw [ewi]
              exact Kh.trans (Kp.setb wh g _) fun y _ e => .inr (.inr (by rw [e]; rfl))
            have hfi : bk wi f = some (CB [.int .i64 p, .int .i64 rdc, .bool s.cl, .bool s.ro, pt d 0] T.mem_File) := by rw [ewi, bk_setb_ne _ _ _ _ (Ne.symm gf)]; exact hfh
            have hdi : bk wi d = some (CB [S nm, sl g 0 (p + l.length) cap, md, .bool dir, .int .u32 mode, .int .i64 mt, .int .i64 uid, .int .i64 gid] T.mem_FileData) := by rw [ewi, bk_setb_ne _ _ _ _ (Ne.symm gd)]; exact hdh
            have ldi := bk_lt hdi
            have ew : wrB s l = s.bytes.take p ++ l ++ s.bytes.drop (p + l.length) := by
              unfold wrB
              rw [if_neg (by omega), hp]
              simp only [Int.toNat_natCast]
            have ewl : (wrB s l).length = s.bytes.length := by rw [ew]; simp; omega
            have hcapm : cap ≤ maxLen := by
              rcases hown.2 with ⟨e, _⟩ | ⟨gb, cap', cur, e, h3, h4, h5, h6, _⟩
              · cases e
              · injection e with _ _ ec; rw [ec]; exact h6
            have oi : wi.ownsRow B T.uint8 1 (sl g 0 s.bytes.length cap) (wrB s l).length ((wrB s l).map byt) := by
              refine ⟨by simp, .inr ⟨g, cap, _, by rw [ewl], r2, by rw [ewi]; exact bk_setb_eq _ _ _ _ rfl lhg, by omega, hcapm, ?_, ?_⟩⟩
              · simp only [List.size_toArray, q1, Nat.mul_one]
              · rw [Nat.mul_one, ewl, ew]; exact q2
            rw [en]
            simp (disch := first | omega | (simp only [size_setb, size_alloc', size_drew'] <;> omega) | (simp (disch := first | omega | (simp only [size_setb, size_alloc', size_drew'] <;> omega) | fail) only [go_sem, hfi, hdi]; done) | fail) only [go_sem, dec_t, dec_f, w_u32, w_u64, w_u16, w_u8, w_i64, Int.reduceToNat, Int.reducePow, Nat.reducePow, hfi, hdi]
            refine ⟨trivial, ?_⟩
            have q := fin wi (sl g 0 s.bytes.length cap) (by rw [hp]; exact hfi) oi hnf hnd Ki (.inl rfl) _ rfl
            rw [hp] at q
            exact q
      · by_cases g1 : p + l.length < s.bytes.length
        · obtain ⟨b', cap', cur, ev, r1, r2, r3, r4, r5, r6⟩ := own_row hown (by omega)
          injection ev with ev1 ev2 ev3
          subst ev1 ev3
          have e1 : (l.length : Int) + p = ((p + l.length : Nat) : Int) := by omega
          simp (disch := first | omega | (simp only [size_setb, size_alloc', size_drew'] <;> omega) | (simp (disch := first | omega | (simp only [size_setb, size_alloc', size_drew'] <;> omega) | fail) only [go_sem, hp, e1, hf, hd]; done) | fail) only [go_sem, dec_t, dec_f, w_u32, w_u64, w_u16, w_u8, w_i64, Int.reduceToNat, Int.reducePow, Nat.reducePow, hp, e1, hf, hd]
          rw [oSlice_lo (size := 1) _ U.sl_uint8 (by kernel_rfl) (by omega) (by omega) (by omega)]
          refine ⟨trivial, .inr ⟨g1, b', rfl, ?_⟩⟩
          rw [Int.toNat_natCast, if_neg (by omega)]
          simp
        · simp (disch := first | omega | (simp only [size_setb, size_alloc', size_drew'] <;> omega) | (simp (disch := first | omega | (simp only [size_setb, size_alloc', size_drew'] <;> omega) | fail) only [go_sem, hp]; done) | fail) only [go_sem, dec_t, dec_f, w_u32, w_u64, w_u16, w_u8, w_i64, Int.reduceToNat, Int.reducePow, Nat.reducePow, hp]
          exact ⟨trivial, .inl ⟨g1, trivial⟩⟩
    · simp (disch := first | omega | (simp only [size_setb, size_alloc', size_drew'] <;> omega) | (simp (disch := first | omega | (simp only [size_setb, size_alloc', size_drew'] <;> omega) | fail) only [go_sem, hf, hro]; done) | fail) only [go_sem, dec_t, dec_f, w_u32, w_u64, w_u16, w_u8, w_i64, Int.reduceToNat, Int.reducePow, Nat.reducePow, hf, hro]
      exact ⟨trivial, trivial⟩
  · simp (disch := first | omega | (simp only [size_setb, size_alloc', size_drew'] <;> omega) | (simp (disch := first | omega | (simp only [size_setb, size_alloc', size_drew'] <;> omega) | fail) only [go_sem, hf, hc]; done) | fail) only [go_sem, dec_t, dec_f, w_u32, w_u64, w_u16, w_u8, w_i64, Int.reduceToNat, Int.reducePow, Nat.reducePow, hf, hc]
    exact ⟨trivial, trivial⟩
theorem writeAt_spec {w : World} {K : Value → World → Prop} {B f d : Nat} {v x : Value} {s : FS} {l : List UInt8} {off : Int} (h : FD w B f d v s) (hc : s.cl = false) (hro : s.ro = false) (hx : BS w x l) (hxf : x.ownBlock ≠ some f) (hxd : x.ownBlock ≠ some d) (h0 : 0 ≤ off) (h1 : off + l.length ≤ 140737488355328) (h2 : s.bytes.length ≤ 140737488355328)
    (hk : ∀ w' v', FD w' B f d v' { s with bytes := wrB { s with pos := off } l, pos := off + l.length } → Kp w w' (Of f d v) → (v'.ownBlock = v.ownBlock ∨ ∀ k, v'.ownBlock = some k → w.heap.size ≤ k) → K (tup [.int .i64 l.length, .nilIface]) w') : Cl P Fn.mem_File_WriteAt #[pt f 0, x, .int .i64 off] w K := by
  apply S_mem_File_WriteAt
  unfold F_mem_File_WriteAt
  obtain ⟨rdc, hf⟩ := h.bf
  obtain ⟨l1, l2⟩ := h.lt
  simp (disch := first | omega | (simp only [size_setb, size_alloc', size_drew'] <;> omega) | (simp (disch := first | omega | (simp only [size_setb, size_alloc', size_drew'] <;> omega) | fail) only [go_sem, hf]; done) | fail) only [go_sem, dec_t, dec_f, w_u32, w_u64, w_u16, w_u8, w_i64, Int.reduceToNat, Int.reducePow, Nat.reducePow, hf]
  have h5 := h.setPos off rdc
  have k5 := Kp.setb w f (CB [.int .i64 off, .int .i64 rdc, .bool s.cl, .bool s.ro, pt d 0] T.mem_File)
  have z5 : (setb w f (CB [.int .i64 off, .int .i64 rdc, .bool s.cl, .bool s.ro, pt d 0] T.mem_File)).heap.size = w.heap.size := by simp only [go_sem]
  have x5 := BS_kp hx k5 fun k hk e => hxf (by rw [hk, e])
  generalize setb w f (CB [.int .i64 off, .int .i64 rdc, .bool s.cl, .bool s.ro, pt d 0] T.mem_File) = w1 at *
  refine write_spec h5 hc hro x5 hxf hxd h0 h1 h2 fun w2 v2 F2 K2 a2 => ?_
  rw [z5] at a2
  simp (disch := first | omega | (simp only [size_setb, size_alloc', size_drew'] <;> omega) | (simp (disch := first | omega | (simp only [size_setb, size_alloc', size_drew'] <;> omega) | fail) only [go_sem]; done) | fail) only [go_sem, dec_t, dec_f, w_u32, w_u64, w_u16, w_u8, w_i64, Int.reduceToNat, Int.reducePow, Nat.reducePow]
  exact hk w2 v2 F2 ((Kp_mono k5 fun _ e => .inl e).trans K2 fun _ _ h => h) a2
/-- An own copy's block. -/
theorem copy_fresh {w : World} {B : Nat} {x : Value} {n : Nat} {xs : List Value} (o : w.ownsRow B T.uint8 1 x n xs) {k : Nat} (hk : k < B) : x.ownBlock ≠ some k := fun e => by have := (own_lt o k e).1; omega
set_option maxHeartbeats 4000000 in
theorem on_write {w : World} {K : Value → World → Prop} {B f d : Nat} {v : Value} {s : FS} {q : Stp} {m : Nat → Nat × Nat} (h : FD w B f d v s) (hs : Sn w B m) (hop : q.op = 14) (hq : BS w q.v q.data) (hc : s.cl = false) (hr : s.ro = false) (h0 : 0 ≤ s.pos) (h1 : s.pos + q.data.length ≤ 140737488355328) (h2 : s.bytes.length ≤ 140737488355328)
    (hk : ∀ w' v', FD w' B f d v' { s with bytes := wrB s q.data, pos := s.pos + q.data.length } → Kp w w' (Of f d v) → (v'.ownBlock = v.ownBlock ∨ ∀ k, v'.ownBlock = some k → w.heap.size ≤ k) → K (AG (ansL 0 q.data.length 0 (.slice none 0 0))) w') : Cl P Fn.impl_on #[pt f 0, AG q.cells] w K := by
  apply S_impl_on
  unfold F_impl_on
  have hv := BS_one hq
  simp (disch := first | omega | (simp only [size_setb, size_alloc', size_drew'] <;> omega) | (simp (disch := first | omega | (simp only [size_setb, size_alloc', size_drew'] <;> omega) | fail) only [go_sem, hop, hv]; done) | fail) only [go_sem, dec_t, dec_f, w_u32, w_u64, w_u16, w_u8, w_i64, Int.reduceToNat, Int.reducePow, Nat.reducePow, hop, hv]
  obtain ⟨lf, ld⟩ := h.lt
  have own := own_lt h.own
  obtain ⟨B0, hs0, h5, h4, h1'⟩ := w1of_facts w q
  rw [setb_same h5]
  generalize w1of w q = w1 at *
  have hBw : B ≤ w.heap.size := by have := h.hf; omega
  refine jn_with (fun t w' => ∃ v', t = [.nilIface] ∧ FD w' B f d v' { s with bytes := wrB s q.data, pos := s.pos + q.data.length } ∧ Kp w w' (Of f d v) ∧ (v'.ownBlock = v.ownBlock ∨ ∀ k, v'.ownBlock = some k → w1.heap.size ≤ k) ∧ bk w' (w.heap.size + 1 + 1) = some (ansB 0 q.data.length 0 (.slice none 0 0)) ∧ bk w' (w.heap.size + 1) = some (ansB 0 0 0 (.slice none 0 0))) ?_ ?_
  · rintro t e w2 ⟨v', rfl, F2, K2, a2, k5, k4⟩
    rw [gs0]
    have nv : ∀ k, w.heap.size ≤ k → k < w1.heap.size → v'.ownBlock ≠ some k := fun k hk1 hk2 e => by
      rcases a2 with h | h
      · rw [h] at e; have := (own k e).2; omega
      · have := h k e; omega
    refine on_tail k5 k4 (by omega) rfl (fun K h => kind_nil h) ?_
    obtain ⟨F3, K3⟩ := on_fin (A4 := w.heap.size + 1) (A5 := w.heap.size + 1 + 1) (o4 := ansB 0 q.data.length 0 (.slice none 0 0)) (o5 := ansB 0 q.data.length 0 (.slice none 0 0)) F2 K2 (by omega) (by omega) lf ld (nv _ (by omega) (by omega)) (nv _ (by omega) (by omega))
    refine hk _ _ F3 K3 ?_
    rcases a2 with h | h
    · exact .inl h
    · exact .inr fun k hk => by have := h k hk; omega
  · refine oCopyOf U.sl_uint8 (by kernel_rfl) (BS_old hq B0 (Nat.le_refl _)) (by omega) fun x w2 o2 b2 => ?_
    have B2 : Below w.heap.size w w2 := B0.trans (b2.mono (by omega))
    have z2 := b2.size
    refine write_spec (h.old B2) hc hr (BS_own o2) (copy_fresh o2 (by omega)) (copy_fresh o2 (by omega)) h0 h1 h2 fun w3 v3 F3 K3 a3 => ?_
    have z3 := K3.size
    have nOf : ∀ y, w.heap.size ≤ y → ¬ Of f d v y := fun y hy => by
      rintro (e | e | e)
      · omega
      · omega
      · have := (own y e).2; omega
    have k5 : bk w3 (w.heap.size + 1 + 1) = some (ansB 0 0 0 (.slice none 0 0)) := ((K3.block _ (by omega) (nOf _ (by omega))).trans (bel_bk b2 (by omega))).trans h5
    have k4 : bk w3 (w.heap.size + 1) = some (ansB 0 0 0 (.slice none 0 0)) := ((K3.block _ (by omega) (nOf _ (by omega))).trans (bel_bk b2 (by omega))).trans h4
    have l5 := bk_lt k5
    have nv : ∀ k, w.heap.size ≤ k → k < w1.heap.size → v3.ownBlock ≠ some k := fun k hk1 hk2 e => by
      rcases a3 with h | h
      · rw [h] at e; have := (own k e).2; omega
      · have := h k e; omega
    simp (disch := first | omega | (simp only [size_setb, size_alloc', size_drew'] <;> omega) | (simp (disch := first | omega | (simp only [size_setb, size_alloc', size_drew'] <;> omega) | fail) only [go_sem, k5]; done) | fail) only [go_sem, dec_t, dec_f, w_u32, w_u64, w_u16, w_u8, w_i64, Int.reduceToNat, Int.reducePow, Nat.reducePow, k5]
    obtain ⟨F4, K4⟩ := on_mid (w := w) (v := v) (A5 := w.heap.size + 1 + 1) (o5 := ansB 0 q.data.length 0 (.slice none 0 0)) B2 F3 K3 (fun _ _ h => h) (by omega) lf ld (nv _ (by omega) (by omega))
    refine ⟨v3, trivial, F4, K4, ?_, trivial, k4⟩
    rcases a3 with h | h
    · exact .inl h
    · exact .inr fun k hk => by have := h k hk; omega
set_option maxHeartbeats 4000000 in
theorem on_writeAt {w : World} {K : Value → World → Prop} {B f d : Nat} {v : Value} {s : FS} {q : Stp} {m : Nat → Nat × Nat} (h : FD w B f d v s) (hs : Sn w B m) (hop : q.op = 15) (hq : BS w q.v q.data) (hc : s.cl = false) (hr : s.ro = false) (h0 : 0 ≤ q.off) (h1 : q.off + q.data.length ≤ 140737488355328) (h2 : s.bytes.length ≤ 140737488355328)
    (hk : ∀ w' v', FD w' B f d v' { s with bytes := wrB { s with pos := q.off } q.data, pos := q.off + q.data.length } → Kp w w' (Of f d v) → (v'.ownBlock = v.ownBlock ∨ ∀ k, v'.ownBlock = some k → w.heap.size ≤ k) → K (AG (ansL 0 q.data.length 0 (.slice none 0 0))) w') : Cl P Fn.impl_on #[pt f 0, AG q.cells] w K := by
  apply S_impl_on
  unfold F_impl_on
  have hv := BS_one hq
  simp (disch := first | omega | (simp only [size_setb, size_alloc', size_drew'] <;> omega) | (simp (disch := first | omega | (simp only [size_setb, size_alloc', size_drew'] <;> omega) | fail) only [go_sem, hop, hv]; done) | fail) only [go_sem, dec_t, dec_f, w_u32, w_u64, w_u16, w_u8, w_i64, Int.reduceToNat, Int.reducePow, Nat.reducePow, hop, hv]
  obtain ⟨lf, ld⟩ := h.lt
  have own := own_lt h.own
  obtain ⟨B0, hs0, h5, h4, h1'⟩ := w1of_facts w q
  rw [setb_same h5]
  generalize w1of w q = w1 at *
  have hBw : B ≤ w.heap.size := by have := h.hf; omega
  refine jn_with (fun t w' => ∃ v', t = [.nilIface] ∧ FD w' B f d v' { s with bytes := wrB { s with pos := q.off } q.data, pos := q.off + q.data.length } ∧ Kp w w' (Of f d v) ∧ (v'.ownBlock = v.ownBlock ∨ ∀ k, v'.ownBlock = some k → w1.heap.size ≤ k) ∧ bk w' (w.heap.size + 1 + 1) = some (ansB 0 q.data.length 0 (.slice none 0 0)) ∧ bk w' (w.heap.size + 1) = some (ansB 0 0 0 (.slice none 0 0))) ?_ ?_
  · rintro t e w2 ⟨v', rfl, F2, K2, a2, k5, k4⟩
    rw [gs0]
    have nv : ∀ k, w.heap.size ≤ k → k < w1.heap.size → v'.ownBlock ≠ some k := fun k hk1 hk2 e => by
      rcases a2 with h | h
      · rw [h] at e; have := (own k e).2; omega
      · have := h k e; omega
    refine on_tail k5 k4 (by omega) rfl (fun K h => kind_nil h) ?_
    obtain ⟨F3, K3⟩ := on_fin (A4 := w.heap.size + 1) (A5 := w.heap.size + 1 + 1) (o4 := ansB 0 q.data.length 0 (.slice none 0 0)) (o5 := ansB 0 q.data.length 0 (.slice none 0 0)) F2 K2 (by omega) (by omega) lf ld (nv _ (by omega) (by omega)) (nv _ (by omega) (by omega))
    refine hk _ _ F3 K3 ?_
    rcases a2 with h | h
    · exact .inl h
    · exact .inr fun k hk => by have := h k hk; omega
  · refine oCopyOf U.sl_uint8 (by kernel_rfl) (show BS w1.drew q.v q.data from (BS_old hq B0 (Nat.le_refl _) : BS w1 q.v q.data)) (by omega) fun x w2 o2 b2' => ?_
    have b2 : Below w1.heap.size w1 w2 := ((Below.refl _ w1).drew).trans b2'
    have B2 : Below w.heap.size w w2 := B0.trans (b2.mono (by omega))
    have z2 := b2.size
    have z2' : w1.drew.heap.size = w1.heap.size := rfl
    have h12 : bk w2 w.heap.size = some (CB q.cells T.impl_Step) := (bel_bk b2 (by omega)).trans h1'
    simp (disch := first | omega | (simp only [size_setb, size_alloc', size_drew'] <;> omega) | (simp (disch := first | omega | (simp only [size_setb, size_alloc', size_drew'] <;> omega) | fail) only [go_sem, h12]; done) | fail) only [go_sem, dec_t, dec_f, w_u32, w_u64, w_u16, w_u8, w_i64, Int.reduceToNat, Int.reducePow, Nat.reducePow, h12]
    refine ⟨trivial, writeAt_spec (h.old B2) hc hr (BS_own o2) (copy_fresh o2 (by omega)) (copy_fresh o2 (by omega)) h0 h1 h2 fun w3 v3 F3 K3 a3 => ?_⟩
    have z3 := K3.size
    have nOf : ∀ y, w.heap.size ≤ y → ¬ Of f d v y := fun y hy => by
      rintro (e | e | e)
      · omega
      · omega
      · have := (own y e).2; omega
    have k5 : bk w3 (w.heap.size + 1 + 1) = some (ansB 0 0 0 (.slice none 0 0)) := ((K3.block _ (by omega) (nOf _ (by omega))).trans (bel_bk b2 (by omega))).trans h5
    have k4 : bk w3 (w.heap.size + 1) = some (ansB 0 0 0 (.slice none 0 0)) := ((K3.block _ (by omega) (nOf _ (by omega))).trans (bel_bk b2 (by omega))).trans h4
    have l5 := bk_lt k5
    have nv : ∀ k, w.heap.size ≤ k → k < w1.heap.size → v3.ownBlock ≠ some k := fun k hk1 hk2 e => by
      rcases a3 with h | h
      · rw [h] at e; have := (own k e).2; omega
      · have := h k e; omega
    simp (disch := first | omega | (simp only [size_setb, size_alloc', size_drew'] <;> omega) | (simp (disch := first | omega | (simp only [size_setb, size_alloc', size_drew'] <;> omega) | fail) only [go_sem, k5]; done) | fail) only [go_sem, dec_t, dec_f, w_u32, w_u64, w_u16, w_u8, w_i64, Int.reduceToNat, Int.reducePow, Nat.reducePow, k5]
    obtain ⟨F4, K4⟩ := on_mid (w := w) (v := v) (A5 := w.heap.size + 1 + 1) (o5 := ansB 0 q.data.length 0 (.slice none 0 0)) B2 F3 K3 (fun _ _ h => h) (by omega) lf ld (nv _ (by omega) (by omega))
    refine ⟨v3, trivial, F4, K4, ?_, trivial, k4⟩
    rcases a3 with h | h
    · exact .inl h
    · exact .inr fun k hk => by have := h k hk; omega
end Go.Proofs.YteblpejgenehfaaDoor.X
