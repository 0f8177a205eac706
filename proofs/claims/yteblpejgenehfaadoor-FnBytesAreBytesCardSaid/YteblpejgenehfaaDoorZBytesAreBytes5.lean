/- What the claim needs of the texts on it, laid together. No condition. -/
import Derived.Test.YteblpejgenehfaaDoorZBytesAreBytes4
set_option linter.unusedVariables false
set_option linter.unusedSimpArgs false
set_option maxRecDepth 100000
section
namespace Go.Proofs.YteblpejgenehfaaDoor.X
open Go Go.X Go.Proofs Go.RowKit
def recB (o : UInt8) (l : List UInt8) : List UInt8 := l.map fun x => x * o
def recX (o : UInt8) (x : FX) : FX := { x with bytes := recB o x.bytes }
def recA (o : UInt8) (a : SM.Ans) : SM.Ans := { a with data := recB o a.data }
def recS (o : UInt8) (q : SM.Stp) : SM.Stp := { q with data := recB o q.data }
theorem recB_len (o : UInt8) (l : List UInt8) : (recB o l).length = l.length := List.length_map _
theorem recB_zero (o : UInt8) (n : Nat) : recB o (List.replicate n 0) = List.replicate n 0 := by
  unfold recB
  rw [List.map_replicate]
  simp
theorem rdX_rec (o : UInt8) (x : FX) (n : Nat) : rdX (recX o x) n = (recB o (rdX x n).1, (rdX x n).2) := by
  unfold rdX
  have e : (recX o x).bytes.length = x.bytes.length := recB_len o _
  have e2 : (recX o x).pos = x.pos := rfl
  rw [e, e2]
  by_cases c1 : 0 < n ∧ x.pos = x.bytes.length
  · rw [if_pos c1, if_pos c1]; rfl
  · rw [if_neg c1, if_neg c1]
    by_cases c2 : (x.bytes.length : Int) < x.pos
    · rw [if_pos c2, if_pos c2]; rfl
    · rw [if_neg c2, if_neg c2]
      show ((((recB o x.bytes).drop x.pos.toNat).take n), 0) = (recB o ((x.bytes.drop x.pos.toNat).take n), 0)
      unfold recB
      rw [List.map_take, List.map_drop]
theorem wrX_rec (o : UInt8) (x : FX) (l : List UInt8) : wrX (recX o x) (recB o l) = recB o (wrX x l) := by
  unfold wrX
  have e : (recX o x).bytes.length = x.bytes.length := recB_len o _
  have e2 : (recX o x).pos = x.pos := rfl
  rw [e, e2, recB_len]
  by_cases c : (x.bytes.length : Int) < x.pos
  · rw [if_pos c, if_pos c]
    have z := recB_zero o (x.pos.toNat - x.bytes.length)
    conv => lhs; rw [← z]
    unfold recB recX recB
    simp only [List.map_append]
  · rw [if_neg c, if_neg c]
    unfold recB recX recB
    simp only [List.map_append, List.map_take, List.map_drop]
theorem onX_rec (o : UInt8) (x : FX) (q : SM.Stp) : onX (recX o x) (recS o q) = (recX o (onX x q).1, recA o (onX x q).2) := by
  have ei : infoX (recX o x) = infoX x := by
    unfold infoX recX
    simp only [recB_len]
  have eo : (recS o q).op = q.op := rfl
  unfold onX
  rw [eo]
  by_cases e12 : q.op = 12
  · rw [if_pos e12, if_pos e12]
    unfold rdR
    by_cases c : x.cl = true
    · rw [if_pos (show (recX o x).cl = true from c), if_pos c]; rfl
    · rw [if_neg (show ¬ (recX o x).cl = true from c), if_neg c]
      show _ = _
      rw [show (recS o q).n = q.n from rfl, rdX_rec]
      simp only [recB_len]
      rfl
  rw [if_neg e12, if_neg e12]
  by_cases e13 : q.op = 13
  · rw [if_pos e13, if_pos e13]
    unfold raR
    by_cases c : x.cl = true
    · rw [if_pos (show (recX o x).cl = true from c), if_pos c]; rfl
    · rw [if_neg (show ¬ (recX o x).cl = true from c), if_neg c]
      have := rdX_rec o { x with pos := q.off } (want q.n)
      rw [show ({ recX o x with pos := (recS o q).off } : FX) = recX o { x with pos := q.off } from rfl, show (recS o q).n = q.n from rfl, this]
      rfl
  rw [if_neg e13, if_neg e13]
  by_cases e14 : q.op = 14
  · rw [if_pos e14, if_pos e14]
    unfold wrR
    by_cases c : x.cl = true
    · rw [if_pos (show (recX o x).cl = true from c), if_pos c]; rfl
    rw [if_neg (show ¬ (recX o x).cl = true from c), if_neg c]
    by_cases r : x.ro = true
    · rw [if_pos (show (recX o x).ro = true from r), if_pos r]; rfl
    · rw [if_neg (show ¬ (recX o x).ro = true from r), if_neg r]
      rw [show (recS o q).data = recB o q.data from rfl, wrX_rec]
      simp only [recB_len]
      rfl
  rw [if_neg e14, if_neg e14]
  by_cases e15 : q.op = 15
  · rw [if_pos e15, if_pos e15]
    rw [show ({ recX o x with pos := (recS o q).off } : FX) = recX o { x with pos := q.off } from rfl]
    unfold wrR
    by_cases c : x.cl = true
    · rw [if_pos (show (recX o { x with pos := q.off }).cl = true from c), if_pos (show ({ x with pos := q.off } : FX).cl = true from c)]; rfl
    rw [if_neg (show ¬ (recX o { x with pos := q.off }).cl = true from c), if_neg (show ¬ ({ x with pos := q.off } : FX).cl = true from c)]
    by_cases r : x.ro = true
    · rw [if_pos (show (recX o { x with pos := q.off }).ro = true from r), if_pos (show ({ x with pos := q.off } : FX).ro = true from r)]; rfl
    · rw [if_neg (show ¬ (recX o { x with pos := q.off }).ro = true from r), if_neg (show ¬ ({ x with pos := q.off } : FX).ro = true from r)]
      rw [show (recS o q).data = recB o q.data from rfl, wrX_rec]
      simp only [recB_len]
      rfl
  rw [if_neg e15, if_neg e15]
  by_cases e16 : q.op = 16
  · rw [if_pos e16, if_pos e16]
    unfold skR
    have es : seekX (recX o x) (recS o q).off (recS o q).wh = seekX x q.off q.wh := by
      unfold seekX
      rw [show (recX o x).bytes.length = x.bytes.length from recB_len o _]
      rfl
    by_cases c : x.cl = true
    · rw [if_pos (show (recX o x).cl = true from c), if_pos c]; rfl
    · rw [if_neg (show ¬ (recX o x).cl = true from c), if_neg c, es]; rfl
  rw [if_neg e16, if_neg e16]
  by_cases e17 : q.op = 17
  · rw [if_pos e17, if_pos e17]
    unfold trR
    by_cases c : x.cl = true
    · rw [if_pos (show (recX o x).cl = true from c), if_pos c]; rfl
    rw [if_neg (show ¬ (recX o x).cl = true from c), if_neg c]
    by_cases r : x.ro = true
    · rw [if_pos (show (recX o x).ro = true from r), if_pos r]; rfl
    rw [if_neg (show ¬ (recX o x).ro = true from r), if_neg r]
    by_cases g : q.off < 0
    · rw [if_pos (show (recS o q).off < 0 from g), if_pos g]; rfl
    · rw [if_neg (show ¬ (recS o q).off < 0 from g), if_neg g]
      have e : (if ((recX o x).bytes.length : Int) < (recS o q).off then (recX o x).bytes ++ List.replicate ((recS o q).off.toNat - (recX o x).bytes.length) 0 else (recX o x).bytes.take (recS o q).off.toNat) = recB o (if (x.bytes.length : Int) < q.off then x.bytes ++ List.replicate (q.off.toNat - x.bytes.length) 0 else x.bytes.take q.off.toNat) := by
        rw [show (recX o x).bytes.length = x.bytes.length from recB_len o _, show (recS o q).off = q.off from rfl]
        by_cases c2 : (x.bytes.length : Int) < q.off
        · rw [if_pos c2, if_pos c2]
          have z := recB_zero o (q.off.toNat - x.bytes.length)
          conv => lhs; rw [← z]
          unfold recB recX recB
          simp only [List.map_append]
        · rw [if_neg c2, if_neg c2]
          unfold recB recX recB
          simp only [List.map_take]
      rw [e]
      rfl
  rw [if_neg e17, if_neg e17]
  by_cases e18 : q.op = 18
  · rw [if_pos e18, if_pos e18]
    unfold clR
    by_cases r : x.ro = true
    · rw [if_pos (show (recX o x).ro = true from r), if_pos r]; rfl
    · rw [if_neg (show ¬ (recX o x).ro = true from r), if_neg r]; rfl
  rw [if_neg e18, if_neg e18]
  by_cases e19 : q.op = 19
  · rw [if_pos e19, if_pos e19]; rfl
  rw [if_neg e19, if_neg e19]
  by_cases e20 : q.op = 20
  · rw [if_pos e20, if_pos e20]; rfl
  rw [if_neg e20, if_neg e20]
  by_cases e21 : q.op = 21
  · rw [if_pos e21, if_pos e21, ei]; rfl
  rw [if_neg e21, if_neg e21]
  by_cases e22 : q.op = 22
  · rw [if_pos e22, if_pos e22]; rfl
  · rw [if_neg e22, if_neg e22]; rfl
theorem OkX_rec {o : UInt8} {x : FX} {q : SM.Stp} (h : OkX x q) : OkX (recX o x) (recS o q) :=
  ⟨h.op, h.dir, by show (recB o x.bytes).length ≤ _; rw [recB_len]; exact h.len, h.nm, h.mode, by show (recB o q.data).length ≤ _; rw [recB_len]; exact h.dat, h.off, h.pos, h.rd, h.ra, h.wr, h.wa, h.tr⟩
theorem run_rec (o : UInt8) : ∀ (qs : List SM.Stp) (x : FX), (runX onX (recX o x) (qs.map (recS o))).1 = recX o (runX onX x qs).1 ∧ (runX onX (recX o x) (qs.map (recS o))).2 = (runX onX x qs).2.map (recA o) ∧ (okX onX OkX x qs → okX onX OkX (recX o x) (qs.map (recS o)))
  | [], x => ⟨rfl, rfl, fun h => h⟩
  | q :: qs, x => by
    obtain ⟨h1, h2, h3⟩ := run_rec o qs (onX x q).1
    simp only [List.map_cons, runX, okX, onX_rec]
    exact ⟨h1, by rw [h2], fun h => ⟨OkX_rec h.1, h3 h.2⟩⟩
theorem okX_all {Q : SM.Stp → Prop} (h : ∀ s q, OkX s q → Q q) : ∀ (qs : List SM.Stp) (x : FX), okX onX OkX x qs → ∀ q ∈ qs, Q q
  | [], x, _, q, hq => by cases hq
  | y :: qs, x, hk, q, hq => by
    rcases List.mem_cons.1 hq with rfl | hq
    · exact h _ _ hk.1
    · exact okX_all h qs _ hk.2 q hq
theorem onX_data {x : FX} {q : SM.Stp} : (onX x q).2.data.length ≤ 1048576 := by
  have hr : ∀ y : FX, (rdX y (want q.n)).1.length ≤ 1048576 := fun y => by
    unfold rdX
    have : want q.n ≤ 1048576 := by unfold want; omega
    split
    · exact Nat.zero_le _
    · split
      · exact Nat.zero_le _
      · simp only [List.length_take]; omega
  unfold onX
  repeat' apply iteP (Q := fun r : FX × SM.Ans => r.2.data.length ≤ 1048576)
  · show (rdR x (want q.n)).2.1.length ≤ _
    unfold rdR
    split
    · exact Nat.zero_le _
    · exact hr x
  · show (raR x q.off (want q.n)).1.length ≤ _
    unfold raR
    split
    · exact Nat.zero_le _
    · exact hr _
  all_goals exact Nat.zero_le _
theorem run_data : ∀ (qs : List SM.Stp) (x : FX), ∀ a ∈ (runX onX x qs).2, a.data.length ≤ 1048576
  | [], x, a, ha => by cases ha
  | q :: qs, x, a, ha => by
    rcases List.mem_cons.1 ha with rfl | ha
    · exact onX_data
    · exact run_data qs _ a ha
theorem onX_plain {x : FX} {q : SM.Stp} : (onX x q).2.names.length ≤ 1 ∧ (onX x q).2.infos.length ≤ 1 := by
  unfold onX
  repeat' apply iteP (Q := fun r : FX × SM.Ans => r.2.names.length ≤ 1 ∧ r.2.infos.length ≤ 1)
  all_goals exact ⟨by simp, by simp⟩
theorem run_plain : ∀ (qs : List SM.Stp) (x : FX), ∀ a ∈ (runX onX x qs).2, a.names.length ≤ 1 ∧ a.infos.length ≤ 1
  | [], x, a, ha => by cases ha
  | q :: qs, x, a, ha => by
    rcases List.mem_cons.1 ha with rfl | ha
    · exact onX_plain
    · exact run_plain qs _ a ha
theorem wrap8 (x : Nat) : IntKind.u8.wrap (x : Int) = ((x % 256 : Nat) : Int) := by
  simp only [IntKind.wrap]
  simp [IntKind.bits, IntKind.signed]
theorem mulB {K : Value → Prop} (t : TypeId) (cx cy : Bool) (a b : UInt8) : pu P (oBin .mul t cx cy (byt a) (byt b)) K = K (byt (a * b)) :=
  bin_int K (by
    simp only [binOp]
    rw [if_neg (by simp)]
    simp only [Op.intArith]
    rw [rp_pure]
    have e : ((a.toNat : Int) * (b.toNat : Int)) = ((a.toNat * b.toNat : Nat) : Int) := by simp
    rw [e, wrap8]
    simp [byt, UInt8.toNat_mul])
section
variable {w : World} {K : Value → World → Prop}
theorem byte_put {L : Value → World → Prop} {B n : Nat} {v : Value} {xs : List Value} (x : UInt8) (o : w.ownsRow B T.uint8 1 v n xs) (hn : n ≤ 281474976711) (hB : B ≤ w.heap.size) (hk : ∀ v' w', w'.ownsRow B T.uint8 1 v' (n + 1) (xs ++ [byt x]) → Below B w w' → w.heap.size ≤ w'.heap.size → L v' w') :
    st P (oBuildSlice T.sl_uint8 1 #[(0, byt x)]) w fun t w1 => st P (oBuiltin .append #[T.sl_uint8, T.sl_uint8] T.sl_uint8 #[false, false] #[v, t]) w1 L := by
  rw [oBuildSlice1 (z := .int .u8 0) _ _ U.sl_uint8 (by kernel_rfl) rfl]
  have B3 : Below w.heap.size w (w.alloc (CB [byt x] T.uint8)) := by repeat (first | exact Below.refl _ _ | assumption | refine bel_setb ?_ (by first | exact Nat.le_refl _ | omega | (simp only [go_sem] <;> omega)) _ | refine Below.alloc ?_ (by first | exact Nat.le_refl _ | omega | (simp only [go_sem]; omega)) _ | refine Below.drew ?_)
  have r3 : rowOf (bk (w.alloc (CB [byt x] T.uint8)) w.heap.size) 0 1 = some [byt x] := by rw [bk_alloc_eq _ _ _ rfl]; rfl
  have z3 : (w.alloc (CB [byt x] T.uint8)).heap.size = w.heap.size + 1 := by simp only [go_sem]
  generalize w.alloc (CB [byt x] T.uint8) = w1 at *
  have o1 := own_old o B3 (Nat.le_refl _)
  refine oAppendR (z := .int .u8 0) (size := 1) (bytes := 1) (m := 1) (news := [byt x]) U.sl_uint8 infoB rfl (by omega) o1 (.inl ⟨_, _, _, rfl, r3⟩) rfl (fun u hu => by simp at hu; subst hu; rfl) (by simp only [maxLen]; omega) (by omega) (by omega) fun v4 w4 o4 g4 _ => ?_
  have := (Kp.of_grown g4).size
  exact hk v4 w4 o4 ((B3.mono hB).trans (own_bel o1 g4 (by omega))) (by omega)
theorem BS_idx {v : Value} {l : List UInt8} (h : BS w v l) {i : Nat} (hi : i < l.length) : ∃ b o, cellOf (bk w b) o = some (byt l[i]) ∧ ∀ M : Value → Prop, pu P (oIdxA T.sl_uint8 v (.int .i64 i)) M = M (pt b o) := by
  rcases h with ⟨e, _⟩ | ⟨b, o, cap, rfl, h3, h4, h5⟩
  · rw [e] at hi; exact absurd hi (by simp)
  · refine ⟨b, o + i, rowB_cell h4 hi, fun M => ?_⟩
    rw [oIdxA_sl (size := 1) M U.sl_uint8 (by kernel_rfl) (by omega) (by omega), Int.toNat_natCast, Nat.mul_one]
theorem own_lit2 {B g n size : Nat} {e : TypeId} {l : List Value} (hb : bk w g = some (CB l e)) (hl : l.length = n * size) (hB : B ≤ g) (hn : n ≤ maxLen) : w.ownsRow B e size (sl g 0 n n) n l := by
  unfold bk at hb
  exact ⟨hl, .inr ⟨g, n, l.toArray, rfl, hB, hb, Nat.le_refl _, hn, by simpa using hl, by rw [← hl]; simp⟩⟩
theorem recoded_spec {v : Value} {l : List UInt8} {o : UInt8} (hv : BS w v l) (hl : l.length ≤ 281474976710) (hk : ∀ v' w', w'.ownsRow w.heap.size T.uint8 1 v' l.length ((recB o l).map byt) → Below w.heap.size w w' → K v' w') : Cl P Fn.laws_recoded #[v, byt o] w K := by
  apply S_laws_recoded
  unfold F_laws_recoded
  rw [oBuildSlice0 (n := 1) _ _ U.sl_uint8 (by kernel_rfl)]
  obtain ⟨w1, e1⟩ : ∃ w1, w1 = w.alloc (CB [] T.uint8) := ⟨_, rfl⟩
  have b1 : Below w.heap.size w w1 := by rw [e1]; repeat (first | exact Below.refl _ _ | assumption | refine bel_setb ?_ (by first | exact Nat.le_refl _ | omega | (simp only [go_sem] <;> omega)) _ | refine Below.alloc ?_ (by first | exact Nat.le_refl _ | omega | (simp only [go_sem]; omega)) _ | refine Below.drew ?_)
  have r1 : bk w1 w.heap.size = some (CB [] T.uint8) := by rw [e1]; exact bk_alloc_eq _ _ _ rfl
  have o1 : w1.ownsRow w.heap.size T.uint8 1 (sl w.heap.size 0 0 0) 0 [] := own_lit2 r1 rfl (Nat.le_refl _) (Nat.zero_le _)
  rw [← e1]
  clear e1
  refine jn_with (fun t w' => ∃ v', t = [v'] ∧ w'.ownsRow w.heap.size T.uint8 1 v' l.length ((recB o l).map byt) ∧ Below w.heap.size w w') ?_ ?_
  · rintro t e w2 ⟨v', rfl, o2, b2⟩
    simp (disch := first | omega | (simp only [sZb, sZa, sZd] <;> omega) | (simp (disch := first | omega | (simp only [sZb, sZa, sZd] <;> omega) | fail) only [go_sem]; done) | fail) only [go_sem, dec_t, dec_f, w_u32, w_u64, w_u16, w_u8, w_i64, Int.reduceToNat, Int.reducePow, Nat.reducePow]
    exact hk v' w2 o2 b2
  obtain ⟨a, cap, ev⟩ := BS_slice hv
  rw [ev, V.len_sl_uint8, ← ev]
  refine lp_intro (fun t w' => ∃ v', ∃ i : Nat, t = [v', .int .i64 i] ∧ i ≤ l.length ∧ w'.ownsRow w.heap.size T.uint8 1 v' i ((recB o (l.take i)).map byt) ∧ Below w.heap.size w w') (fun t _ => l.length - (RowKit.intOf (gs t 1)).toNat) ⟨_, 0, rfl, Nat.zero_le _, o1, b1⟩ ?_
  rintro t e w2 ⟨v2, i, rfl, hi, o2, b2⟩
  by_cases g : (i : Int) < l.length
  · have hix : i < l.length := by omega
    simp (disch := first | omega | (simp only [sZb, sZa, sZd] <;> omega) | (simp (disch := first | omega | (simp only [sZb, sZa, sZd] <;> omega) | fail) only [go_sem]; done) | fail) only [go_sem, dec_t, dec_f, w_u32, w_u64, w_u16, w_u8, w_i64, Int.reduceToNat, Int.reducePow, Nat.reducePow]
    refine jn_with (fun t w' => t = [] ∧ w' = w2) ?_ ⟨rfl, rfl⟩
    rintro t e w3 ⟨rfl, rfl⟩
    obtain ⟨b, p, hc, ix⟩ := BS_idx (BS_old hv b2 (Nat.le_refl _)) hix
    have z2 := b2.size
    simp (disch := first | omega | (simp only [sZb, sZa, sZd] <;> omega) | (simp (disch := first | omega | (simp only [sZb, sZa, sZd] <;> omega) | fail) only [go_sem, ix, hc, mulB]; done) | fail) only [go_sem, dec_t, dec_f, w_u32, w_u64, w_u16, w_u8, w_i64, Int.reduceToNat, Int.reducePow, Nat.reducePow, ix, hc, mulB]
    refine byte_put (l[i] * o) o2 (by omega) (by omega) fun v' w' o' b' z' => ?_
    have e : (recB o (l.take i)).map byt ++ [byt (l[i] * o)] = (recB o (l.take (i + 1))).map byt := by
      rw [List.take_succ_eq_append_getElem hix]
      unfold recB
      rw [List.map_append, List.map_append]
      rfl
    rw [e] at o'
    refine ⟨⟨v', i + 1, rfl, by omega, o', b2.trans b'⟩, ?_⟩
    simp only [RowKit.intOf, gs1]
    omega
  · have ei : i = l.length := by omega
    subst ei
    rw [List.take_length] at o2
    simp (disch := first | omega | (simp only [sZb, sZa, sZd] <;> omega) | (simp (disch := first | omega | (simp only [sZb, sZa, sZd] <;> omega) | fail) only [go_sem]; done) | fail) only [go_sem, dec_t, dec_f, w_u32, w_u64, w_u16, w_u8, w_i64, Int.reduceToNat, Int.reducePow, Nat.reducePow]
    exact jn_with (fun _ _ => False) (fun _ _ _ h => h.elim) ⟨v2, rfl, o2, b2⟩
variable {t0 tv : Value} {ro : Bool} {data : List UInt8} {qs : List SM.Stp} {vs : List Value} {m : Nat → Nat × Nat} {z : Int}
set_option maxHeartbeats 4000000 in
theorem FnBytesAreBytes_law (hd : BS w t0 data) (hq : StepsAt w tv qs vs) (hs : Sn w w.heap.size m) (hz : 0 ≤ z ∧ z ≤ 255) :
    Cl P Fn.laws_FnBytesAreBytes #[t0, .bool ro, tv, .int .u8 z] w fun v w' => v = .bool true ∧ Below w.heap.size w w' := by
  apply S_laws_FnBytesAreBytes
  unfold F_laws_FnBytesAreBytes
  obtain ⟨a0, c0, rfl⟩ := BS_slice hd
  obtain ⟨ta, tc, etv⟩ := hq.slice
  refine jn_with (fun t w' => Below w.heap.size w w') ?_ ?_
  rotate_left
  · by_cases h1 : (2147483647 : Int) < data.length
    · simp (disch := first | omega | (simp only [sZb, sZa, sZd] <;> omega) | (simp (disch := first | omega | (simp only [sZb, sZa, sZd] <;> omega) | fail) only [go_sem]; done) | fail) only [go_sem, dec_t, dec_f, w_u32, w_u64, w_u16, w_u8, w_i64, Int.reduceToNat, Int.reducePow, Nat.reducePow]
      exact ⟨trivial, Below.refl _ _⟩
    · simp (disch := first | omega | (simp only [sZb, sZa, sZd] <;> omega) | (simp (disch := first | omega | (simp only [sZb, sZa, sZd] <;> omega) | fail) only [go_sem]; done) | fail) only [go_sem, dec_t, dec_f, w_u32, w_u64, w_u16, w_u8, w_i64, Int.reduceToNat, Int.reducePow, Nat.reducePow]
      refine fits1_spec hq fun b w1 b1 => ?_
      cases b with
      | true => simp (disch := first | omega | (simp only [sZb, sZa, sZd] <;> omega) | (simp (disch := first | omega | (simp only [sZb, sZa, sZd] <;> omega) | fail) only [go_sem]; done) | fail) only [go_sem, dec_t, dec_f, w_u32, w_u64, w_u16, w_u8, w_i64, Int.reduceToNat, Int.reducePow, Nat.reducePow]; exact b1
      | false => simp (disch := first | omega | (simp only [sZb, sZa, sZd] <;> omega) | (simp (disch := first | omega | (simp only [sZb, sZa, sZd] <;> omega) | fail) only [go_sem]; done) | fail) only [go_sem, dec_t, dec_f, w_u32, w_u64, w_u16, w_u8, w_i64, Int.reduceToNat, Int.reducePow, Nat.reducePow]; exact ⟨trivial, b1⟩
  rintro t e w1 B1
  unfold J_laws_FnBytesAreBytes_10
  have z1 := B1.size
  have hd1 := BS_old hd B1 (Nat.le_refl _)
  have hq1 := hq.old B1
  refine jn_with (fun t w' => Below w.heap.size w w' ∧ data.length ≤ 4096 ∧ qs.length ≤ 60 ∧ okX onX OkX (fx0 data ro) qs ∧ (runX onX (fx0 data ro) qs).1.bytes.length ≤ 8192) ?_ ?_
  rotate_left
  · rw [C.laws_handleSpoken]
    refine handleSpoken_spec hd1 hq1 fun w2 b b2 hb => ?_
    have B2 := B1.trans (b2.mono z1)
    cases b with
    | true =>
      simp (disch := first | omega | (simp only [sZb, sZa, sZd] <;> omega) | (simp (disch := first | omega | (simp only [sZb, sZa, sZd] <;> omega) | fail) only [go_sem]; done) | fail) only [go_sem, dec_t, dec_f, w_u32, w_u64, w_u16, w_u8, w_i64, Int.reduceToNat, Int.reducePow, Nat.reducePow]
      exact ⟨B2, hb rfl⟩
    | false =>
      simp (disch := first | omega | (simp only [sZb, sZa, sZd] <;> omega) | (simp (disch := first | omega | (simp only [sZb, sZa, sZd] <;> omega) | fail) only [go_sem]; done) | fail) only [go_sem, dec_t, dec_f, w_u32, w_u64, w_u16, w_u8, w_i64, Int.reduceToNat, Int.reducePow, Nat.reducePow]
      exact ⟨trivial, B2⟩
  clear hd1 hq1
  rintro t e w2 ⟨B2, g1, g2, ok, l8⟩
  unfold J_laws_FnBytesAreBytes_9
  have z2 := B2.size
  obtain ⟨o, ho⟩ : ∃ o : UInt8, ∀ L : Value → Prop, pu P (oBin .or T.uint8 false true (.int .u8 z) (.int .u8 1)) L = L (byt o) := by
    refine ⟨UInt8.ofNat (z.toNat ||| (1 : Int).toNat), fun L => ?_⟩
    rw [oor_u8 L T.uint8 false true z 1 hz.1 hz.2 (by omega) (by omega)]
    have h8 : z.toNat ||| (1 : Int).toNat < 2 ^ 8 := Nat.or_lt_two_pow (by omega) (by omega)
    generalize z.toNat ||| (1 : Int).toNat = k at *
    have e : (UInt8.ofNat k).toNat = k := by
      rw [UInt8.toNat_ofNat']
      exact Nat.mod_eq_of_lt h8
    unfold byt
    rw [e]
  rw [ho]
  rw [oBuildSlice0 (n := 10) _ _ U.sl_impl_Step (by kernel_rfl)]
  obtain ⟨w3, e3⟩ : ∃ w3, w3 = w2.alloc (CB [] T.impl_Step) := ⟨_, rfl⟩
  have b3 : Below w2.heap.size w2 w3 := by rw [e3]; repeat (first | exact Below.refl _ _ | assumption | refine bel_setb ?_ (by first | exact Nat.le_refl _ | omega | (simp only [go_sem] <;> omega)) _ | refine Below.alloc ?_ (by first | exact Nat.le_refl _ | omega | (simp only [go_sem]; omega)) _ | refine Below.drew ?_)
  have r3 : bk w3 w2.heap.size = some (CB [] T.impl_Step) := by rw [e3]; exact bk_alloc_eq _ _ _ rfl
  have z3 : w3.heap.size = w2.heap.size + 1 := by rw [e3]; simp only [go_sem]
  have o3 : w3.ownsRow w2.heap.size T.impl_Step 10 (sl w2.heap.size 0 0 0) 0 ((List.zipWith stepC ((qs.take 0).map (recS o)) []).flatten) := own_lit2 r3 rfl (Nat.le_refl _) (Nat.zero_le _)
  rw [← e3]
  clear e3
  refine jn_with (fun t w' => ∃ sv vs', t = [sv] ∧ Below w2.heap.size w2 w' ∧ StepsAt w' sv (qs.map (recS o)) vs') ?_ ?_
  rotate_left
  · rw [etv, V.len_sl_impl_Step, ← etv]
    refine lp_intro (fun t w' => ∃ sv vs', ∃ i : Nat, t = [sv, .int .i64 i] ∧ i ≤ qs.length ∧ vs'.length = i ∧ Below w2.heap.size w2 w' ∧ w'.ownsRow w2.heap.size T.impl_Step 10 sv i ((List.zipWith stepC ((qs.take i).map (recS o)) vs').flatten) ∧ (∀ j (h1 : j < qs.length) (h2 : j < vs'.length), BS w' vs'[j] (recB o qs[j].data) ∧ ∀ k, vs'[j].ownBlock = some k → w2.heap.size ≤ k ∧ k < w'.heap.size) ∧ (∀ j (h : j < vs'.length) k, vs'[j].ownBlock = some k → sv.ownBlock ≠ some k)) (fun t _ => qs.length - (RowKit.intOf (gs t 1)).toNat) ⟨_, [], 0, rfl, Nat.zero_le _, rfl, b3, o3, (fun j _ h => absurd h (by simp)), fun j h => absurd h (by simp)⟩ ?_
    rintro t e w4 ⟨sv, vs', i, rfl, hi, hl, B4, o4, hv4, hn4⟩
    by_cases g : (i : Int) < qs.length
    · have hix : i < qs.length := by omega
      have hiv : i < vs.length := by rw [hq.1]; exact hix
      simp (disch := first | omega | (simp only [sZb, sZa, sZd] <;> omega) | (simp (disch := first | omega | (simp only [sZb, sZa, sZd] <;> omega) | fail) only [go_sem]; done) | fail) only [go_sem, dec_t, dec_f, w_u32, w_u64, w_u16, w_u8, w_i64, Int.reduceToNat, Int.reducePow, Nat.reducePow]
      refine jn_with (fun t w' => t = [] ∧ w' = w4) ?_ ⟨rfl, rfl⟩
      rintro t e w5 ⟨rfl, rfl⟩
      unfold J_laws_FnBytesAreBytes_8
      have B5 := B2.trans (B4.mono z2)
      have hq5 := hq.old B5
      obtain ⟨b, p, hrow, hbl, ix⟩ := hq5.idx hix hiv
      have hqi := hq5.2.1 i hix hiv
      have hqb := hq5.2.1 i hix hiv
      have hdl : qs[i].data.length ≤ 281474976710 := okX_all (Q := fun q => q.data.length ≤ 281474976710) (fun _ _ h => h.dat) qs _ ok _ (List.getElem_mem hix)
      have z4 := B4.size
      have et : (qs.take (i + 1)).map (recS o) = (qs.take i).map (recS o) ++ [recS o qs[i]] := by
        rw [List.take_succ_eq_append_getElem hix, List.map_append]
        rfl
      refine jn_with (fun t w' => ∃ sv' v', t = [sv'] ∧ Below w2.heap.size w2 w' ∧ w'.ownsRow w2.heap.size T.impl_Step 10 sv' (i + 1) ((List.zipWith stepC ((qs.take i).map (recS o)) vs').flatten ++ stepC (recS o qs[i]) v') ∧ (∀ j (h1 : j < qs.length) (h2 : j < vs'.length), BS w' vs'[j] (recB o qs[j].data)) ∧ (∀ k, sv'.ownBlock = some k → sv.ownBlock = some k ∨ w5.heap.size < k ∧ v'.ownBlock ≠ some k) ∧ BS w' v' (recB o qs[i].data) ∧ (∀ k, v'.ownBlock = some k → w5.heap.size ≤ k ∧ k < w'.heap.size) ∧ w5.heap.size ≤ w'.heap.size) ?_ ?_
      · rintro t e w6 ⟨sv', v', rfl, B6, o6, hv6, hs6, hb6, hl6, hlt⟩
        unfold J_laws_FnBytesAreBytes_6
        simp (disch := first | omega | (simp only [sZb, sZa, sZd] <;> omega) | (simp (disch := first | omega | (simp only [sZb, sZa, sZd] <;> omega) | fail) only [go_sem]; done) | fail) only [go_sem, dec_t, dec_f, w_u32, w_u64, w_u16, w_u8, w_i64, Int.reduceToNat, Int.reducePow, Nat.reducePow]
        refine ⟨⟨sv', vs' ++ [v'], i + 1, rfl, by omega, by simp [hl], B6, ?_, fun j h1 h2 => ?_, fun j h k hk' => ?_⟩, ?_⟩
        · rw [et, List.zipWith_append (by simp [hl]; omega), List.flatten_append]
          simpa using o6
        · by_cases hj : j < vs'.length
          · rw [List.getElem_append_left hj]
            exact ⟨hv6 j h1 hj, fun k hk' => by have := (hv4 j h1 hj).2 k hk'; omega⟩
          · have ej : j = vs'.length := by simp at h2; omega
            subst ej
            rw [List.getElem_append_right (by omega)]
            simp only [Nat.sub_self, List.getElem_cons_zero]
            subst hl
            exact ⟨hb6, fun k hk' => by have := hl6 k hk'; omega⟩
        · by_cases hj : j < vs'.length
          · rw [List.getElem_append_left hj] at hk'
            intro e
            rcases hs6 k e with e | ⟨e, _⟩
            · exact hn4 j hj k hk' e
            · have := ((hv4 j (by omega) hj).2 k hk').2; omega
          · have ej : j = vs'.length := by simp at h; omega
            subst ej
            rw [List.getElem_append_right (by omega)] at hk'
            simp only [Nat.sub_self, List.getElem_cons_zero] at hk'
            intro e
            rcases hs6 k e with e | ⟨_, e⟩
            · have := (own_lt o4 k e).2
              have := (hl6 k hk').1
              omega
            · exact e hk'
        · simp only [RowKit.intOf, gs1]
          omega
      rw [gs1, ix]
      generalize qs[i] = q at *
      generalize vs[i] = vq at *
      have one := BS_one' hqi
      simp (disch := first | omega | (simp only [sZb, sZa, sZd] <;> omega) | (simp (disch := first | omega | (simp only [sZb, sZa, sZd] <;> omega) | fail) only [go_sem, hrow, one]; done) | fail) only [go_sem, dec_t, dec_f, w_u32, w_u64, w_u16, w_u8, w_i64, Int.reduceToNat, Int.reducePow, Nat.reducePow, hrow, one]
      obtain ⟨wA, hwA⟩ : ∃ wA, wA = setb (w5.alloc (CB [.int .i64 0, S [], S [], .int .i64 0, .int .i64 0, .int .i64 0, .slice none 0 0, .int .i64 0, .int .i64 0, .int .i64 0] T.impl_Step)) w5.heap.size (CB (stepC q vq) T.impl_Step) := ⟨_, rfl⟩
      have BA : Below w5.heap.size w5 wA := by rw [hwA]; repeat (first | exact Below.refl _ _ | assumption | refine bel_setb ?_ (by first | exact Nat.le_refl _ | omega | (simp only [go_sem] <;> omega)) _ | refine Below.alloc ?_ (by first | exact Nat.le_refl _ | omega | (simp only [go_sem]; omega)) _ | refine Below.drew ?_)
      have zA : wA.heap.size = w5.heap.size + 1 := by rw [hwA]; simp only [go_sem]
      have rA : bk wA w5.heap.size = some (CB (stepC q vq) T.impl_Step) := by rw [hwA]; exact bk_setb_eq _ _ _ _ rfl (by simp only [go_sem]; omega)
      rw [← hwA]
      clear hwA
      have BA' := B5.trans (BA.mono (by omega))
      refine jn_with (fun t w' => w' = wA) ?_ ?_
      rotate_left
      · by_cases c21 : q.op = 21
        · simp (disch := first | omega | (simp only [sZb, sZa, sZd] <;> omega) | (simp (disch := first | omega | (simp only [sZb, sZa, sZd] <;> omega) | fail) only [go_sem, rA]; done) | fail) only [go_sem, dec_t, dec_f, w_u32, w_u64, w_u16, w_u8, w_i64, Int.reduceToNat, Int.reducePow, Nat.reducePow, rA]
          exact ⟨trivial, BA'⟩
        by_cases c22 : q.op = 22
        · simp (disch := first | omega | (simp only [sZb, sZa, sZd] <;> omega) | (simp (disch := first | omega | (simp only [sZb, sZa, sZd] <;> omega) | fail) only [go_sem, rA]; done) | fail) only [go_sem, dec_t, dec_f, w_u32, w_u64, w_u16, w_u8, w_i64, Int.reduceToNat, Int.reducePow, Nat.reducePow, rA]
          exact ⟨trivial, BA'⟩
        · simp (disch := first | omega | (simp only [sZb, sZa, sZd] <;> omega) | (simp (disch := first | omega | (simp only [sZb, sZa, sZd] <;> omega) | fail) only [go_sem, rA]; done) | fail) only [go_sem, dec_t, dec_f, w_u32, w_u64, w_u16, w_u8, w_i64, Int.reduceToNat, Int.reducePow, Nat.reducePow, rA]
      rintro t e w6 rfl
      unfold J_laws_FnBytesAreBytes_7
      simp (disch := first | omega | (simp only [sZb, sZa, sZd] <;> omega) | (simp (disch := first | omega | (simp only [sZb, sZa, sZd] <;> omega) | fail) only [go_sem, rA, one]; done) | fail) only [go_sem, dec_t, dec_f, w_u32, w_u64, w_u16, w_u8, w_i64, Int.reduceToNat, Int.reducePow, Nat.reducePow, rA, one]
      refine recoded_spec (BS_old hqb BA (Nat.le_refl _)) hdl fun v7 w7 o7 b7 => ?_
      have z7 := b7.size
      have lo7 := own_lt o7
      have r7 := (bel_bk b7 (by omega)).trans rA
      have l7 := bk_lt r7
      have bs7 : BS w7 v7 (recB o q.data) := BS_own (l := recB o q.data) (by rw [recB_len]; exact o7)
      have one7 := BS_one' bs7
      simp (disch := first | omega | (simp only [sZb, sZa, sZd] <;> omega) | (simp (disch := first | omega | (simp only [sZb, sZa, sZd] <;> omega) | fail) only [go_sem, r7, one7]; done) | fail) only [go_sem, dec_t, dec_f, w_u32, w_u64, w_u16, w_u8, w_i64, Int.reduceToNat, Int.reducePow, Nat.reducePow, r7, one7]
      obtain ⟨w8, e8⟩ : ∃ w8, w8 = setb w7 w5.heap.size (CB (stepC (recS o q) v7) T.impl_Step) := ⟨_, rfl⟩
      have b8 : Below w5.heap.size w7 w8 := by rw [e8]; exact bel_setb (Below.refl _ _) (Nat.le_refl _) _
      have z8 : w8.heap.size = w7.heap.size := by rw [e8]; exact sZb _ _ _
      have k8 : Kp w7 w8 (fun k => k = w5.heap.size) := by rw [e8]; exact Kp.setb _ _ _
      have e8' : w8 = setb w7 w5.heap.size (CB [.int .i64 q.op, S q.name, S q.other, .int .i64 q.flag, .int .i64 q.perm, .int .i64 q.h, v7, .int .i64 q.off, .int .i64 q.wh, .int .i64 q.n] T.impl_Step) := e8
      rw [← e8']
      clear e8 e8'
      have b58 : Below w5.heap.size w5 w8 := (BA.trans (b7.mono (by omega))).trans b8
      have bs8 : BS w8 v7 (recB o q.data) := by
        refine BS_kp bs7 k8 fun k hk' e => ?_
        have := (lo7 k hk').1
        omega
      refine step_put (q := recS o q) (v := v7) (own_old o4 b58 (Nat.le_refl _)) (by omega) (by omega) bs8 fun sv9 w9 o9 b9 hs9 k9 => ?_
      have z9 := k9.size
      have los := own_lt o4
      refine ⟨sv9, v7, rfl, (B4.trans (b58.mono (by omega))).trans b9, o9, fun j h1 h2 => ?_, fun k hk' => ?_, BS_kp bs8 k9 fun k hk' e => ?_, fun k hk' => ?_, by omega⟩
      · refine BS_kp (BS_old (hv4 j h1 h2).1 b58 (Nat.le_refl _)) k9 fun k hk' e => hn4 j h2 k hk' e
      · rcases hs9 k hk' with e | e
        · exact .inl e
        · refine .inr ⟨by omega, fun e2 => ?_⟩
          have := (lo7 k e2).2
          omega
      · have := (los k e).2
        have := (lo7 k hk').1
        omega
      · have := lo7 k hk'
        omega
    · have ei : i = qs.length := by omega
      subst ei
      simp (disch := first | omega | (simp only [sZb, sZa, sZd] <;> omega) | (simp (disch := first | omega | (simp only [sZb, sZa, sZd] <;> omega) | fail) only [go_sem]; done) | fail) only [go_sem, dec_t, dec_f, w_u32, w_u64, w_u16, w_u8, w_i64, Int.reduceToNat, Int.reducePow, Nat.reducePow]
      refine jn_with (fun _ _ => False) (fun _ _ _ h => h.elim) ⟨sv, vs', rfl, B4, ?_⟩
      rw [List.take_length] at o4
      exact own_steps o4 (by simp) hl fun j h1 h2 => by
        have h1' : j < qs.length := by simpa using h1
        rw [List.getElem_map]
        exact (hv4 j h1' h2).1
  rintro t e w4 ⟨sv, vs', rfl, B4, hq4⟩
  unfold J_laws_FnBytesAreBytes_5
  have z4 := B4.size
  have B4' := B2.trans (B4.mono z2)
  obtain ⟨rr1, rr2, rr3⟩ := run_rec o qs (fx0 data ro)
  rw [C.impl_HandleScript]
  refine handle_script (m := m) (BS_old hd B4' (Nat.le_refl _)) (by omega) (hs.next B4') (hq.old B4') (by omega) ok (by omega) fun w5 av lv cs b5 o5 A5 ol => ?_
  have z5 := b5.size
  have B5 := B4'.trans (b5.mono (by omega))
  simp (disch := first | omega | (simp only [sZb, sZa, sZd] <;> omega) | (simp (disch := first | omega | (simp only [sZb, sZa, sZd] <;> omega) | fail) only [go_sem]; done) | fail) only [go_sem, dec_t, dec_f, w_u32, w_u64, w_u16, w_u8, w_i64, Int.reduceToNat, Int.reducePow, Nat.reducePow]
  refine recoded_spec (BS_old hd B5 (Nat.le_refl _)) (by omega) fun rv w6 o6 b6 => ?_
  have z6 := b6.size
  have B6 := B5.trans (b6.mono (by omega))
  have hr6 : (recB o data).length = data.length := recB_len o data
  try simp (disch := first | omega | (simp only [sZb, sZa, sZd] <;> omega) | (simp (disch := first | omega | (simp only [sZb, sZa, sZd] <;> omega) | fail) only [go_sem]; done) | fail) only [go_sem, dec_t, dec_f, w_u32, w_u64, w_u16, w_u8, w_i64, Int.reduceToNat, Int.reducePow, Nat.reducePow]
  refine handle_script (m := m) (ro := ro) (BS_own (l := recB o data) (by rw [hr6]; exact o6)) (by omega) (hs.next B6) (hq4.old (b5.trans (b6.mono z5))) (by simp; omega) (rr3 ok) (by show (runX onX (recX o (fx0 data ro)) (qs.map (recS o))).1.bytes.length ≤ _; rw [rr1]; show (recB o (runX onX (fx0 data ro) qs).1.bytes).length ≤ _; rw [recB_len]; omega) fun w7 mv lv2 cs2 b7 o7 A7 ol2 => ?_
  have z7 := b7.size
  have B7 := B6.trans (b7.mono (by omega))
  have x7 : (runX onX (fx0 (recB o data) ro) (qs.map (recS o))).1 = recX o (runX onX (fx0 data ro) qs).1 := rr1
  have y7 : (runX onX (fx0 (recB o data) ro) (qs.map (recS o))).2 = (runX onX (fx0 data ro) qs).2.map (recA o) := rr2
  rw [x7] at ol2
  rw [y7] at A7
  rw [List.length_map] at o7
  have ol2' : w7.ownsRow w6.heap.size T.uint8 1 lv2 (recB o (runX onX (fx0 data ro) qs).1.bytes).length ((recB o (runX onX (fx0 data ro) qs).1.bytes).map byt) := ol2
  clear ol2 x7 y7
  have hp := run_plain qs (fx0 data ro)
  have hdt := run_data qs (fx0 data ro)
  have hrl := runX_len onX (fx0 data ro) qs
  generalize (runX onX (fx0 data ro) qs).2 = az at *
  generalize (runX onX (fx0 data ro) qs).1.bytes = fin at *
  have b57 : Below w5.heap.size w5 w7 := b6.trans (b7.mono z6)
  obtain ⟨aa, ac, rfl⟩ := own_slice o5
  obtain ⟨ma, mc, rfl⟩ := own_slice o7
  rw [etv]
  simp (disch := first | omega | (simp only [sZb, sZa, sZd] <;> omega) | (simp (disch := first | omega | (simp only [sZb, sZa, sZd] <;> omega) | fail) only [go_sem]; done) | fail) only [go_sem, dec_t, dec_f, w_u32, w_u64, w_u16, w_u8, w_i64, Int.reduceToNat, Int.reducePow, Nat.reducePow]
  refine jn_with (fun t w' => w' = w7) ?_ (by first | rfl | simp (disch := first | omega | (simp only [sZb, sZa, sZd] <;> omega) | (simp (disch := first | omega | (simp only [sZb, sZa, sZd] <;> omega) | fail) only [go_sem]; done) | fail) only [go_sem, dec_t, dec_f, w_u32, w_u64, w_u16, w_u8, w_i64, Int.reduceToNat, Int.reducePow, Nat.reducePow])
  rintro t e w8 rfl
  unfold J_laws_FnBytesAreBytes_4
  refine jn_with (fun t w' => Below w8.heap.size w8 w') ?_ ?_
  · rintro t e w9 b9
    unfold J_laws_FnBytesAreBytes_1
    have z9 := b9.size
    have hx2 := BS_old (BS_own ol2') b9 (Nat.le_refl _)
    have hx1 := BS_old (BS_own ol) (b57.trans (b9.mono (by omega))) (Nat.le_refl _)
    have bD : Below w9.heap.size w9 w9.drew := by repeat (first | exact Below.refl _ _ | assumption | refine bel_setb ?_ (by first | exact Nat.le_refl _ | omega | (simp only [go_sem] <;> omega)) _ | refine Below.alloc ?_ (by first | exact Nat.le_refl _ | omega | (simp only [go_sem]; omega)) _ | refine Below.drew ?_)
    rw [rdConvBS (w := w9.drew) U.string U.sl_uint8 U.uint8 hx2, C.laws_recoded]
    refine recoded_spec (w := w9.drew) (BS_old hx1 bD (Nat.le_refl _)) (by omega) fun v10 w10 o10 b10 => ?_
    have b910 := bD.trans b10
    have hx3 : BS w10 v10 (recB o fin) := BS_own (l := recB o fin) (by rw [recB_len]; exact o10)
    refine ⟨?_, ?_⟩
    · have hh : hold P (oConv T.sl_uint8 T.string lv2) (S (recB o fin)) w10 = (S (recB o fin) = S (recB o fin)) := hold_eq (run_v' (run_convBS0 (w := w10) U.string U.sl_uint8 U.uint8 (BS_old hx2 b910 (Nat.le_refl _))))
      rw [hh]
    · rw [rdConvBS U.string U.sl_uint8 U.uint8 hx3]
      have ns : ∀ l : List UInt8, decide (l = l) = true := fun l => decide_eq_true rfl
      simp (disch := first | omega | (simp only [sZb, sZa, sZd] <;> omega) | (simp (disch := first | omega | (simp only [sZb, sZa, sZd] <;> omega) | fail) only [go_sem, ns]; done) | fail) only [go_sem, dec_t, dec_f, w_u32, w_u64, w_u16, w_u8, w_i64, Int.reduceToNat, Int.reducePow, Nat.reducePow, ns]
      exact ⟨trivial, (B7.trans (b9.mono (by omega))).trans (b910.mono (by omega))⟩
  simp (disch := first | omega | (simp only [sZb, sZa, sZd] <;> omega) | (simp (disch := first | omega | (simp only [sZb, sZa, sZd] <;> omega) | fail) only [go_sem]; done) | fail) only [go_sem, dec_t, dec_f, w_u32, w_u64, w_u16, w_u8, w_i64, Int.reduceToNat, Int.reducePow, Nat.reducePow]
  refine lp_intro (fun t w' => Below w8.heap.size w8 w' ∧ ∃ i : Nat, t = [.int .i64 i] ∧ i ≤ qs.length) (fun t _ => qs.length - (RowKit.intOf (gs t 0)).toNat) ⟨Below.refl _ _, 0, rfl, Nat.zero_le _⟩ ?_
  rintro t e w9 ⟨b9, i, rfl, hi⟩
  by_cases g : (i : Int) < qs.length
  · have hix : i < qs.length := by omega
    simp (disch := first | omega | (simp only [sZb, sZa, sZd] <;> omega) | (simp (disch := first | omega | (simp only [sZb, sZa, sZd] <;> omega) | fail) only [go_sem]; done) | fail) only [go_sem, dec_t, dec_f, w_u32, w_u64, w_u16, w_u8, w_i64, Int.reduceToNat, Int.reducePow, Nat.reducePow]
    refine jn_with (fun t w' => t = [] ∧ w' = w9) ?_ ⟨rfl, rfl⟩
    rintro t e w10 ⟨rfl, rfl⟩
    unfold J_laws_FnBytesAreBytes_3
    have z9 := b9.size
    have b510 := b57.trans (b9.mono (by omega))
    have H1 := A5.kp (Kp.of_below b510 fun _ => False) fun _ _ _ _ h => h
    have H2 := A7.kp (Kp.of_below b9 fun _ => False) fun _ _ _ _ h => h
    have hl1 : i < cs.length := by rw [H1.1, hrl]; exact hix
    have hl2 : i < cs2.length := by rw [H2.1, List.length_map, hrl]; exact hix
    have hl3 : i < az.length := by rw [hrl]; exact hix
    obtain ⟨b, p, r1, x1⟩ := H1.idx (own_old o5 b510 (Nat.le_refl _)) hrl hix
    obtain ⟨b', p', r2, x2⟩ := H2.idx (own_old o7 b9 (Nat.le_refl _)) (by rw [List.length_map, hrl]) hix
    have q1 := H1.2 i hl1 hl3
    have q2 := H2.2 i hl2 (by rw [List.length_map]; exact hl3)
    rw [List.getElem_map] at q2
    have hpi := hp az[i] (List.getElem_mem _)
    have hdi := hdt az[i] (List.getElem_mem _)
    have r1 : rowOf (bk w10 b) p 6 = some cs[i] := r1
    have r2 : rowOf (bk w10 b') p' 6 = some cs2[i] := r2
    generalize az[i] = A at *
    generalize cs[i] = C at *
    generalize cs2[i] = C' at *
    refine jn_with (fun t w' => t = [] ∧ Below w8.heap.size w8 w') ?_ ?_
    · rintro t e w11 ⟨rfl, b11⟩
      unfold J_laws_FnBytesAreBytes_2
      simp (disch := first | omega | (simp only [sZb, sZa, sZd] <;> omega) | (simp (disch := first | omega | (simp only [sZb, sZa, sZd] <;> omega) | fail) only [go_sem]; done) | fail) only [go_sem, dec_t, dec_f, w_u32, w_u64, w_u16, w_u8, w_i64, Int.reduceToNat, Int.reducePow, Nat.reducePow]
      refine ⟨⟨b11, i + 1, rfl, by omega⟩, ?_⟩
      simp only [RowKit.intOf, gs0]
      omega
    obtain ⟨x, y, zz, ec, hx, hy, hzz, hown⟩ := q1
    obtain ⟨pa, pc, ex⟩ := BS_slice hx
    obtain ⟨pb, pd, ey⟩ := RowS_slice hy
    obtain ⟨pe, pf, ez⟩ := RowS_slice hzz
    subst ec
    rw [gs0, x1]
    have rr1 := r1
    rw [ex, ey, ez] at rr1
    simp (disch := first | omega | (simp only [sZb, sZa, sZd] <;> omega) | (simp (disch := first | omega | (simp only [sZb, sZa, sZd] <;> omega) | fail) only [go_sem, rr1]; done) | fail) only [go_sem, dec_t, dec_f, w_u32, w_u64, w_u16, w_u8, w_i64, Int.reduceToNat, Int.reducePow, Nat.reducePow, rr1]
    obtain ⟨w11, e11⟩ : ∃ w11, w11 = setb (w10.alloc (CB ansZ T.impl_Answer)) w10.heap.size (CB (answC A (.slice pa A.data.length pc) (.slice pb A.names.length pd) (.slice pe A.infos.length pf)) T.impl_Answer) := ⟨_, rfl⟩
    have b11 : Below w10.heap.size w10 w11 := by rw [e11]; repeat (first | exact Below.refl _ _ | assumption | refine bel_setb ?_ (by first | exact Nat.le_refl _ | omega | (simp only [go_sem] <;> omega)) _ | refine Below.alloc ?_ (by first | exact Nat.le_refl _ | omega | (simp only [go_sem]; omega)) _ | refine Below.drew ?_)
    have z11 : w11.heap.size = w10.heap.size + 1 := by rw [e11]; simp only [go_sem]
    have r11 : bk w11 w10.heap.size = some (CB (answC A (.slice pa A.data.length pc) (.slice pb A.names.length pd) (.slice pe A.infos.length pf)) T.impl_Answer) := by rw [e11]; exact bk_setb_eq _ _ _ _ rfl (by simp only [go_sem]; omega)
    have e11' : w11 = setb (w10.alloc (CB [.int .i64 0, .int .i64 0, .int .i64 0, .slice none 0 0, .slice none 0 0, .slice none 0 0] T.impl_Answer)) w10.heap.size (CB [.int .i64 A.e, .int .i64 A.n, .int .i64 A.off, .slice pa A.data.length pc, .slice pb A.names.length pd, .slice pe A.infos.length pf] T.impl_Answer) := e11
    rw [← e11']
    clear e11 e11'
    refine recoded_spec (BS_old (by rw [← ex]; exact hx) b11 (Nat.le_refl _)) (by omega) fun v12 w12 o12 b12 => ?_
    have z12 := b12.size
    have lo12 := own_lt o12
    have b1012 := b11.trans (b12.mono (by omega))
    have r12 := (bel_bk b12 (by omega)).trans r11
    have l12 := bk_lt r12
    have bs12 : BS w12 v12 (recB o A.data) := BS_own (l := recB o A.data) (by rw [recB_len]; exact o12)
    obtain ⟨ta2, tc2, ev12⟩ := own_slice o12
    have one12 : v12.oneCell' = true := by rw [ev12]; rfl
    have k13 := Kp.setb w12 w10.heap.size (CB (answC (recA o A) v12 y zz) T.impl_Answer)
    have b13 : Below w10.heap.size w12 (setb w12 w10.heap.size (CB (answC (recA o A) v12 y zz) T.impl_Answer)) := bel_setb (Below.refl _ _) (Nat.le_refl _) _
    have r13 : bk (setb w12 w10.heap.size (CB (answC (recA o A) v12 y zz) T.impl_Answer)) w10.heap.size = some (CB (answC (recA o A) v12 y zz) T.impl_Answer) := bk_setb_eq _ _ _ _ rfl l12
    have z13 : (setb w12 w10.heap.size (CB (answC (recA o A) v12 y zz) T.impl_Answer)).heap.size = w12.heap.size := sZb _ _ _
    rw [ey, ez] at k13 b13 r13 z13
    obtain ⟨w13, e13⟩ : ∃ w13, w13 = setb w12 w10.heap.size (CB (answC (recA o A) v12 (.slice pb A.names.length pd) (.slice pe A.infos.length pf)) T.impl_Answer) := ⟨_, rfl⟩
    rw [← e13] at k13 b13 r13 z13
    have b1013 : Below w10.heap.size w10 w13 := b1012.trans b13
    have r2' : rowOf (bk w13 b') p' 6 = some C' := by
      obtain ⟨c', t', fz, q, _⟩ := rowOf_inv r2
      have : b' < w10.heap.size := bk_lt q
      rw [bel_bk b1013 this]; exact r2
    have hc6 : C'.length = 6 := (ans_oneCells q2).1
    simp (disch := first | omega | (simp only [sZb, sZa, sZd] <;> omega) | (simp (disch := first | omega | (simp only [sZb, sZa, sZd] <;> omega) | fail) only [go_sem, r12, one12]; done) | fail) only [go_sem, dec_t, dec_f, w_u32, w_u64, w_u16, w_u8, w_i64, Int.reduceToNat, Int.reducePow, Nat.reducePow, r12, one12]
    have e13' : w13 = setb w12 w10.heap.size (CB [.int .i64 A.e, .int .i64 A.n, .int .i64 A.off, v12, .slice pb A.names.length pd, .slice pe A.infos.length pf] T.impl_Answer) := e13
    rw [← e13']
    clear e13 e13'
    simp (disch := first | omega | (simp only [sZb, sZa, sZd] <;> omega) | (simp (disch := first | omega | (simp only [sZb, sZa, sZd] <;> omega) | fail) only [go_sem, r13, x2, r2']; done) | fail) only [go_sem, dec_t, dec_f, w_u32, w_u64, w_u16, w_u8, w_i64, Int.reduceToNat, Int.reducePow, Nat.reducePow, r13, x2, r2']
    have bD : Below w13.heap.size w13 w13.drew := by repeat (first | exact Below.refl _ _ | assumption | refine bel_setb ?_ (by first | exact Nat.le_refl _ | omega | (simp only [go_sem] <;> omega)) _ | refine Below.alloc ?_ (by first | exact Nat.le_refl _ | omega | (simp only [go_sem]; omega)) _ | refine Below.drew ?_)
    have kD : Kp w10 w13.drew (fun _ => False) := Kp.of_below (b1013.trans (bD.mono (by omega))) _
    have a1 : AnsN w13.drew 0 (fun _ => False) (recA o A) (answC (recA o A) v12 (.slice pb A.names.length pd) (.slice pe A.infos.length pf)) := by
      refine ⟨_, _, _, rfl, BS_old (BS_kp bs12 k13 fun k hk e => ?_) bD (Nat.le_refl _), ?_, ?_, fun k hk => ⟨Nat.zero_le _, ?_, fun h => h⟩⟩
      · have := (lo12 k hk).1; omega
      · rw [← ey]; exact (hy.old b1013).old bD
      · rw [← ez]; exact (hzz.old b1013).old bD
      · show k < w13.heap.size
        rcases hk with h | h | h
        · have := (lo12 k h).2; omega
        · have := (hown k (.inr (.inl (by rw [ey]; exact h)))).2.1; omega
        · have := (hown k (.inr (.inr (by rw [ez]; exact h)))).2.1; omega
    refine same_eq (w := w13.drew) a1 (q2.kp kD fun _ _ _ _ h => h) (by have := hpi.1; show A.names.length ≤ _; omega) (by have := hpi.2; show A.infos.length ≤ _; omega) fun w14 b14 => ?_
    simp (disch := first | omega | (simp only [sZb, sZa, sZd] <;> omega) | (simp (disch := first | omega | (simp only [sZb, sZa, sZd] <;> omega) | fail) only [go_sem]; done) | fail) only [go_sem, dec_t, dec_f, w_u32, w_u64, w_u16, w_u8, w_i64, Int.reduceToNat, Int.reducePow, Nat.reducePow]
    exact ⟨trivial, b9.trans ((b1013.trans (bD.mono (by omega))).trans (b14.mono (by show w10.heap.size ≤ w13.heap.size; omega)) |>.mono (by omega))⟩
  · simp (disch := first | omega | (simp only [sZb, sZa, sZd] <;> omega) | (simp (disch := first | omega | (simp only [sZb, sZa, sZd] <;> omega) | fail) only [go_sem]; done) | fail) only [go_sem, dec_t, dec_f, w_u32, w_u64, w_u16, w_u8, w_i64, Int.reduceToNat, Int.reducePow, Nat.reducePow]
    exact jn_with (fun _ _ => False) (fun _ _ _ h => h.elim) b9
theorem FnBytesAreBytes_walk (v0 : Value) (l0 : List UInt8) (a1 : Bool) (v2 : Value) (qs : List SM.Stp) (a3 : Int) (w : World) (b0 : BS w v0 l0) (w0 : l0.length ≤ 140737488351232) (h : (∃ vs, StepsAt w v2 qs vs) ∧ (∀ q ∈ qs, FitS q) ∧ qs.length ≤ maxLen) (wa : (Lit.int .u8 a3).wf = true) (hL : laidMet P (senL.map senD) w) :
    Cl P Fn.laws_FnBytesAreBytes #[v0, .bool a1, v2, .int .u8 a3] w fun v w' => v = .bool true ∧ Below w.heap.size w w' := by
  obtain ⟨m, hs⟩ := sn_of hL
  obtain ⟨⟨vs, hq⟩, _⟩ := h
  simp only [Lit.wf, Bool.and_eq_true, decide_eq_true_eq] at wa
  exact FnBytesAreBytes_law b0 hq hs ⟨wa.1, by have := wa.2; simpa [IntKind.max, IntKind.bits, IntKind.signed] using this⟩
end
end Go.Proofs.YteblpejgenehfaaDoor.X
end
