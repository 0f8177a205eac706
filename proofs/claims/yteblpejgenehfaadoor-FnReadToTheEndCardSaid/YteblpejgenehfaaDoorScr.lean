/- A script on a handle. No condition. -/
import Derived.Test.YteblpejgenehfaaDoorOn
set_option linter.unusedVariables false
set_option linter.unusedSimpArgs false
set_option maxRecDepth 100000
namespace Go.Proofs.YteblpejgenehfaaDoor.X
open Go Go.X Go.Proofs Go.RowKit

/-- What a step answers, in plain data. -/
structure Ans where
  e : Int
  n : Int
  off : Int
  data : List UInt8
/-- Steps as they lie in memory. -/
def StepsAt (w : World) (v : Value) (qs : List Stp) : Prop :=
  (∀ q ∈ qs, BS w q.v q.data) ∧ ((qs = [] ∧ ∃ a cap, v = .slice a 0 cap) ∨ ∃ b o cap, v = sl b o qs.length cap ∧ b < w.heap.size ∧ ∀ i (hi : i < qs.length), rowOf (bk w b) (o + i * 10) 10 = some qs[i].cells)
theorem StepsAt.old {w w' : World} {v : Value} {qs : List Stp} (h : StepsAt w v qs) (hb : Below w.heap.size w w') : StepsAt w' v qs := by
  refine ⟨fun q hq => BS_old (h.1 q hq) hb (Nat.le_refl _), ?_⟩
  rcases h.2 with h | ⟨b, o, cap, h1, h2, h3⟩
  · exact .inl h
  · exact .inr ⟨b, o, cap, h1, Nat.lt_of_lt_of_le h2 hb.size, fun i hi => by rw [bel_bk hb h2]; exact h3 i hi⟩
theorem BS_one {w : World} {v : Value} {l : List UInt8} (h : BS w v l) : v.oneCell' = true := by
  obtain ⟨a, cap, rfl⟩ := BS_slice h
  rfl
/-- What one step does to a file. -/
def Does (q : Stp) (s s' : FS) (A : Ans) : Prop :=
  ∀ (w : World) (B f d : Nat) (v : Value) (m : Nat → Nat × Nat) (K : Value → World → Prop), FD w B f d v s → Sn w B m → BS w q.v q.data → (q.data = [] ∨ ∀ k, q.v.ownBlock = some k → k < B) →
    (∀ w' v' x, FD w' B f d v' s' → Kp w w' (Of f d v) → (v'.ownBlock = v.ownBlock ∨ ∀ k, v'.ownBlock = some k → w.heap.size ≤ k) → BS w' x A.data → (∀ k, x.ownBlock = some k → w.heap.size ≤ k ∧ k < w'.heap.size ∧ v'.ownBlock ≠ some k) → K (AG (ansL A.e A.n A.off x)) w') →
    Cl P Fn.impl_on #[pt f 0, AG q.cells] w K
inductive Runs : List Stp → FS → List Ans → FS → Prop
  | nil (s : FS) : Runs [] s [] s
  | cons {q : Stp} {s s1 s2 : FS} {A : Ans} {qs : List Stp} {As : List Ans} : Does q s s1 A → Runs qs s1 As s2 → Runs (q :: qs) s (A :: As) s2
theorem Runs.len {qs : List Stp} {s s2 : FS} {As : List Ans} (h : Runs qs s As s2) : As.length = qs.length := by
  induction h with
  | nil => rfl
  | cons _ _ ih => simp [ih]

theorem does_seek {q : Stp} {s : FS} (hop : q.op = 16) (hc : s.cl = false) (h1 : -4611686018427387904 ≤ q.off ∧ q.off ≤ 4611686018427387903) (h2 : -4611686018427387904 ≤ s.pos ∧ s.pos ≤ 4611686018427387903) (h3 : s.bytes.length ≤ 4611686018427387903) :
    Does q s { s with pos := seekTo s q.off q.wh } ⟨0, 0, seekTo s q.off q.wh, []⟩ := by
  intro w B f d v m K h hs hq hqb hk
  exact on_seek h hop (BS_one hq) hc h1 h2 h3 fun w' F K => hk w' v _ F K (.inl rfl) (.inl ⟨rfl, _, _, rfl⟩) fun k e => by cases e
theorem does_read {q : Stp} {s : FS} (hop : q.op = 12) (hc : s.cl = false) (h2 : 0 ≤ s.pos ∧ s.pos ≤ 4611686018427387903) (h3 : s.bytes.length ≤ 281474976710656) :
    Does q s { s with pos := s.pos + (rdF s (want q.n)).1.length } ⟨(rdF s (want q.n)).2, 0, 0, (rdF s (want q.n)).1⟩ := by
  intro w B f d v m K h hs hq hqb hk
  refine on_read h hs hop (BS_one hq) hc h2 h3 fun w' b hb hb2 F K bs => hk w' v _ F K (.inl rfl) bs fun k e => ?_
  have e2 : b = k := Option.some.inj e
  exact ⟨by omega, by omega, fun e3 => by have := (own_lt h.own k e3).2; omega⟩
theorem does_readAt {q : Stp} {s : FS} (hop : q.op = 13) (hc : s.cl = false) (h2 : 0 ≤ q.off ∧ q.off ≤ 4611686018427387903) (h3 : s.bytes.length ≤ 281474976710656) :
    Does q s s ⟨(rdF { s with pos := q.off } (want q.n)).2, 0, 0, (rdF { s with pos := q.off } (want q.n)).1⟩ := by
  intro w B f d v m K h hs hq hqb hk
  refine on_readAt h hs hop (BS_one hq) hc h2 h3 fun w' b hb hb2 F K bs => hk w' v _ F K (.inl rfl) bs fun k e => ?_
  have e2 : b = k := Option.some.inj e
  exact ⟨by omega, by omega, fun e3 => by have := (own_lt h.own k e3).2; omega⟩

/-- An answer's cells. -/
def AnsAt (w : World) (N : Nat → Prop) (c : List Value) (A : Ans) : Prop := ∃ x, c = ansL A.e A.n A.off x ∧ BS w x A.data ∧ ∀ k, x.ownBlock = some k → k < w.heap.size ∧ ¬ N k
theorem AnsAt.kept {w w' : World} {N N' S : Nat → Prop} {c : List Value} {A : Ans} (h : AnsAt w N c A) (k : Kp w w' S) (hS : ∀ x, S x → N x) (hN : ∀ x, x < w.heap.size → N' x → N x) : AnsAt w' N' c A := by
  obtain ⟨x, h1, h2, h3⟩ := h
  exact ⟨x, h1, BS_kp h2 k fun b hb hs => (h3 b hb).2 (hS b hs), fun b hb => ⟨Nat.lt_of_lt_of_le (h3 b hb).1 k.size, fun hn => (h3 b hb).2 (hN b (h3 b hb).1 hn)⟩⟩

theorem BS_lt {w : World} {v : Value} {l : List UInt8} (h : BS w v l) : l = [] ∨ ∀ k, v.ownBlock = some k → k < w.heap.size := by
  rcases h with h | ⟨b, o, cap, rfl, h2, h3, h4⟩
  · exact .inl h.1
  · right; intro k e; have e2 : b = k := Option.some.inj e; omega
theorem fold_len (cs : List (List Value)) (n : Nat) (h : ∀ c ∈ cs, c.length = n) : cs.flatten.length = cs.length * n := by
  induction cs with
  | nil => simp
  | cons c r ih =>
    rw [List.flatten_cons, List.length_append, ih fun x hx => h x (List.mem_cons_of_mem _ hx), h c (List.mem_cons_self ..), List.length_cons, Nat.succ_mul]
    omega

set_option maxHeartbeats 4000000 in
theorem script_spec {w : World} {K : Value → World → Prop} {m : Nat → Nat × Nat} {t0 tv : Value} {ro : Bool} {data : List UInt8} {qs : List Stp} {As : List Ans} {s' : FS} (hd : BS w t0 data) (hdl : data.length ≤ 140737488355328) (hs : Sn w w.heap.size m) (hq : StepsAt w tv qs) (hql : qs.length ≤ 1000000) (hr : Runs qs ⟨data, 0, false, ro⟩ As s') (hsl : s'.bytes.length ≤ 140737488355328)
    (hk : ∀ w' av lv cs, Below w.heap.size w w' → w'.ownsRow w.heap.size T.impl_Answer 6 av As.length (List.flatten cs) → cs.length = As.length → (∀ i (h1 : i < cs.length) (h2 : i < As.length), AnsAt w' (fun _ => False) cs[i] As[i]) → BS w' lv s'.bytes → K (tup [av, lv]) w') :
    Cl P Fn.impl_HandleScript #[t0, .bool ro, tv] w K := by
  apply S_impl_HandleScript
  unfold F_impl_HandleScript
  refine oCopyOf U.sl_uint8 (by kernel_rfl) hd (by omega) fun dv w1 own1 b1 => ?_
  simp (disch := first | omega | (simp only [size_setb, size_alloc', size_drew'] <;> omega) | (simp (disch := first | omega | (simp only [size_setb, size_alloc', size_drew'] <;> omega) | fail) only [go_sem]; done) | fail) only [go_sem, dec_t, dec_f, w_u32, w_u64, w_u16, w_u8, w_i64, Int.reduceToNat, Int.reducePow, Nat.reducePow]
  apply S_mem_DoorWith
  unfold F_mem_DoorWith
  simp (disch := first | omega | (simp only [size_setb, size_alloc', size_drew'] <;> omega) | (simp (disch := first | omega | (simp only [size_setb, size_alloc', size_drew'] <;> omega) | fail) only [go_sem]; done) | fail) only [go_sem, dec_t, dec_f, w_u32, w_u64, w_u16, w_u8, w_i64, Int.reduceToNat, Int.reducePow, Nat.reducePow]
  apply S_mem_CreateFile
  unfold F_mem_CreateFile
  obtain ⟨a, cap, rfl⟩ := own_slice own1
  simp (disch := first | omega | (simp only [size_setb, size_alloc', size_drew'] <;> omega) | (simp (disch := first | omega | (simp only [size_setb, size_alloc', size_drew'] <;> omega) | fail) only [go_sem]; done) | fail) only [go_sem, dec_t, dec_f, w_u32, w_u64, w_u16, w_u8, w_i64, Int.reduceToNat, Int.reducePow, Nat.reducePow]
  apply S_mem_NewFileHandle
  unfold F_mem_NewFileHandle
  simp (disch := first | omega | (simp only [size_setb, size_alloc', size_drew'] <;> omega) | (simp (disch := first | omega | (simp only [size_setb, size_alloc', size_drew'] <;> omega) | fail) only [go_sem]; done) | fail) only [go_sem, dec_t, dec_f, w_u32, w_u64, w_u16, w_u8, w_i64, Int.reduceToNat, Int.reducePow, Nat.reducePow]
  have z1 := b1.size
  refine jn_with (fun t w' => ∃ f, t = [pt f 0] ∧ FD w' w.heap.size f w1.heap.size (.slice a data.length cap) ⟨data, 0, false, ro⟩ ∧ Below w.heap.size w w') ?_ ?_
  · rintro t e w2 ⟨f, rfl, F2, B2⟩
    refine jn_with (fun t w' => ∃ av cs v, t = [av] ∧ FD w' w.heap.size f w1.heap.size v s' ∧ Below w.heap.size w w' ∧ w'.ownsRow w.heap.size T.impl_Answer 6 av As.length (List.flatten cs) ∧ cs.length = As.length ∧ ∀ i (h1 : i < cs.length) (h2 : i < As.length), AnsAt w' (fun _ => False) cs[i] As[i]) ?_ ?_
    · rintro t e w3 ⟨av, cs, v, rfl, F3, B3, o3, hl3, hA3⟩
      simp (disch := first | omega | (simp only [size_setb, size_alloc', size_drew'] <;> omega) | (simp (disch := first | omega | (simp only [size_setb, size_alloc', size_drew'] <;> omega) | fail) only [go_sem]; done) | fail) only [go_sem, dec_t, dec_f, w_u32, w_u64, w_u16, w_u8, w_i64, Int.reduceToNat, Int.reducePow, Nat.reducePow]
      apply S_mem_FileData_DoorBytes
      unfold F_mem_FileData_DoorBytes
      obtain ⟨nm, md, dir, mode, mt, uid, gid, hd3, hmd⟩ := F3.bd
      obtain ⟨a3, c3, rfl⟩ := own_slice F3.own
      simp (disch := first | omega | (simp only [size_setb, size_alloc', size_drew'] <;> omega) | (simp (disch := first | omega | (simp only [size_setb, size_alloc', size_drew'] <;> omega) | fail) only [go_sem, hd3]; done) | fail) only [go_sem, dec_t, dec_f, w_u32, w_u64, w_u16, w_u8, w_i64, Int.reduceToNat, Int.reducePow, Nat.reducePow, hd3]
      refine oCopyOf U.sl_uint8 (by kernel_rfl) (BS_own F3.own) hsl fun lv w4 o4 b4 => ?_
      refine hk w4 av lv cs (B3.trans (b4.mono B3.size)) (own_old o3 b4 (Nat.le_refl _)) hl3 (fun i h1 h2 => (hA3 i h1 h2).kept (N' := fun _ => False) (S := fun _ => False) ⟨b4.os, b4.tape, b4.output, b4.size, fun k hk _ => b4.block k hk⟩ (fun _ h => h) fun _ _ h => h) (BS_own o4)
    · have hlen := hr.len
      have hn : ∃ a cap, tv = .slice a qs.length cap := by
        rcases hq.2 with ⟨h, a, cap, e⟩ | ⟨b, o, cap, e, _⟩
        · exact ⟨a, cap, by rw [e, h]; rfl⟩
        · exact ⟨_, _, e⟩
      obtain ⟨ta, tc, rfl⟩ := hn
      simp (disch := first | omega | (simp only [size_setb, size_alloc', size_drew'] <;> omega) | (simp (disch := first | omega | (simp only [size_setb, size_alloc', size_drew'] <;> omega) | fail) only [go_sem]; done) | fail) only [go_sem, dec_t, dec_f, w_u32, w_u64, w_u16, w_u8, w_i64, Int.reduceToNat, Int.reducePow, Nat.reducePow]
      refine lp_intro (fun t w' => ∃ av cs v s, ∃ i : Nat, t = [av, .int .i64 i] ∧ i ≤ qs.length ∧ FD w' w.heap.size f w1.heap.size v s ∧ Below w.heap.size w w' ∧ w'.ownsRow w.heap.size T.impl_Answer 6 av i (List.flatten cs) ∧ cs.length = i ∧ (∀ j (h1 : j < cs.length) (h2 : j < As.length), AnsAt w' (fun k => Of f w1.heap.size v k ∨ av.ownBlock = some k) cs[j] As[j]) ∧ (∀ k, av.ownBlock = some k → ¬ Of f w1.heap.size v k) ∧ Runs (qs.drop i) s (As.drop i) s')
        (fun t _ => qs.length - (RowKit.intOf (gs t 1)).toNat) ⟨.slice none 0 0, [], _, _, 0, rfl, by omega, F2, B2, own_nil _ _ _ _, rfl, fun j h1 => absurd h1 (by simp), fun k e => (by cases e), by simpa using hr⟩ ?_
      rintro t e w3 ⟨av, cs, v, s, i, rfl, hi, F3, B3, o3, hcl, hA, hav, hR⟩
      by_cases g : (i : Int) < qs.length
      · have hix : i < qs.length := by omega
        have hia : i < As.length := by omega
        simp (disch := first | omega | (simp only [size_setb, size_alloc', size_drew'] <;> omega) | (simp (disch := first | omega | (simp only [size_setb, size_alloc', size_drew'] <;> omega) | fail) only [go_sem]; done) | fail) only [go_sem, dec_t, dec_f, w_u32, w_u64, w_u16, w_u8, w_i64, Int.reduceToNat, Int.reducePow, Nat.reducePow]
        refine jn_with (fun t w' => t = [] ∧ w' = w3) ?_ ⟨rfl, rfl⟩
        rintro t e w4 ⟨rfl, rfl⟩
        rw [List.drop_eq_getElem_cons hix, List.drop_eq_getElem_cons hia] at hR
        have hq4 := hq.old B3
        obtain ⟨b, o, cap4, eb, hb, hrow⟩ : ∃ b o cap, Value.slice ta qs.length tc = sl b o qs.length cap ∧ b < w4.heap.size ∧ ∀ i (hi : i < qs.length), rowOf (bk w4 b) (o + i * 10) 10 = some qs[i].cells := by
          rcases hq4.2 with ⟨h, _⟩ | h
          · rw [h] at hix; exact absurd hix (by simp)
          · exact h
        rw [eb]
        have hrw := hrow i hix
        have hqi := hq4.1 qs[i] (List.getElem_mem hix)
        have hqo := BS_lt (hq.1 qs[i] (List.getElem_mem hix))
        cases hR with
        | cons hD hRest =>
        rename_i s1
        generalize qs[i] = q at *
        generalize hAi : As[i] = A at *
        have one := BS_one hqi
        have ix : ∀ (L : Value → Prop), pu P (oIdxA T.sl_impl_Step (sl b o qs.length cap4) (.int .i64 i)) L = L (pt b (o + i * 10)) := fun L => by
          rw [oIdxA_sl (size := 10) L U.sl_impl_Step (by kernel_rfl) (by omega) (by omega)]
          rw [Int.toNat_natCast]
        simp (disch := first | omega | (simp only [size_setb, size_alloc', size_drew'] <;> omega) | (simp (disch := first | omega | (simp only [size_setb, size_alloc', size_drew'] <;> omega) | fail) only [go_sem, ix, hrw, one]; done) | fail) only [go_sem, dec_t, dec_f, w_u32, w_u64, w_u16, w_u8, w_i64, Int.reduceToNat, Int.reducePow, Nat.reducePow, ix, hrw, one]
        obtain ⟨wA, hwA⟩ : ∃ wA, wA = setb (w4.alloc (CB [.int .i64 0, S [], S [], .int .i64 0, .int .i64 0, .int .i64 0, .slice none 0 0, .int .i64 0, .int .i64 0, .int .i64 0] T.impl_Step)) w4.heap.size (CB q.cells T.impl_Step) := ⟨_, rfl⟩
        rw [← hwA]
        have BA : Below w4.heap.size w4 wA := by rw [hwA]; repeat (first | exact Below.refl _ _ | assumption | refine bel_setb ?_ (by first | exact Nat.le_refl _ | omega | (simp only [go_sem] <;> omega)) _ | refine Below.alloc ?_ (by first | exact Nat.le_refl _ | omega | (simp only [go_sem]; omega)) _ | refine Below.drew ?_)
        have zA : wA.heap.size = w4.heap.size + 1 := by rw [hwA]; simp only [go_sem]
        have F4 := F3.old BA
        have B4 := B3.trans (BA.mono B3.size)
        have lf := F3.lt
        have ow := own_lt F3.own
        have oav := own_lt o3
        refine hD wA w.heap.size f w1.heap.size v m _ F4 (hs.below B4) (BS_old hqi BA (Nat.le_refl _)) hqo fun w5 v5 x F5 K5 hv5 bx hx => ?_
        have z5 := K5.size
        have B5 : Below w.heap.size w w5 := B4.trans (F4.below K5)
        have hv5' : ∀ k, v5.ownBlock = some k → v.ownBlock = some k ∨ wA.heap.size ≤ k := fun k hk => by
          rcases hv5 with h | h
          · exact .inl (by rw [← h]; exact hk)
          · exact .inr (h k hk)
        rw [oBuildSliceN (size := 6) (z := AG (ansL 0 0 0 (.slice none 0 0))) _ _ U.sl_impl_Answer (by kernel_rfl) (by omega) (by omega) (l := ansL A.e A.n A.off x) rfl]
        have o5 : (w5.alloc (ansB A.e A.n A.off x)).ownsRow w.heap.size T.impl_Answer 6 av i (List.flatten cs) := own_old (own_kp (own_old o3 BA (Nat.le_refl _)) K5 hav) (C := w5.heap.size) (Below.alloc (Below.refl _ _) (Nat.le_refl _) _) (Nat.le_refl _)
        have z6 : (w5.alloc (ansB A.e A.n A.off x)).heap.size = w5.heap.size + 1 := by simp only [go_sem]
        have k56 : Kp w5 (w5.alloc (ansB A.e A.n A.off x)) (fun _ => False) := Kp.of_below (Below.alloc (Below.refl _ _) (Nat.le_refl _) _) _
        have hx1 : x.oneCell' = true := BS_one bx
        refine oAppend_own_at (size := 6) (bytes := 96) (z := AG (ansL 0 0 0 (.slice none 0 0))) (news := ansL A.e A.n A.off x) U.sl_impl_Answer (by kernel_rfl) rfl (by omega) o5 rfl (by rw [bk_alloc_eq _ _ _ rfl]; rfl) (fun u hu => ?_) (by simp only [maxLen]; omega) (by omega) (by have := F3.hf; omega) fun av6 w6 o6 g6 l6 => ?_
        · simp only [List.mem_cons, List.not_mem_nil, or_false] at hu
          rcases hu with rfl | rfl | rfl | rfl | rfl | rfl <;> first | rfl | exact hx1
        have K6 := Kp.of_grown g6
        have z7 := K6.size
        have hav6 : ∀ k, av6.ownBlock = some k → av.ownBlock = some k ∨ k = w5.heap.size + 1 := fun k hk => by
          rcases l6 with h | h
          · exact .inl (by rw [← h]; exact hk)
          · rw [hk] at h; injection h with h; exact .inr (by omega)
        have F5' : FD (w5.alloc (ansB A.e A.n A.off x)) w.heap.size f w1.heap.size v5 s1 := F5.old (Below.alloc (Below.refl _ _) (Nat.le_refl _) _)
        have lt5 := own_lt F5.own
        have avn : ∀ k, av.ownBlock = some k → ¬ Of f w1.heap.size v5 k := fun k hk => by
          have q1 := hav k hk
          rintro (e | e | e)
          · exact q1 (.inl e)
          · exact q1 (.inr (.inl e))
          · rcases hv5' k e with e | e
            · exact q1 (.inr (.inr e))
            · have := (oav k hk).2; omega
        have F6 : FD w6 w.heap.size f w1.heap.size v5 s1 := F5'.kept K6 fun k hk e => avn k e hk
        refine ⟨⟨av6, cs ++ [ansL A.e A.n A.off x], v5, s1, i + 1, rfl, by omega, F6, ?_, ?_, by simp [hcl], ?_, ?_, hRest⟩, ?_⟩
        · exact (B5.alloc (by omega) _).trans (K6.below (fun k hk e => by have := (oav k e).1; omega) (by have := F3.hf; omega))
        · rw [List.flatten_append]
          simpa using o6
        · intro j h1 h2
          have tr : ∀ y, y < w4.heap.size → (Of f w1.heap.size v5 y ∨ av6.ownBlock = some y) → (Of f w1.heap.size v y ∨ av.ownBlock = some y) := fun y hy h => by
            rcases h with (h | h | h) | h
            · exact .inl (.inl h)
            · exact .inl (.inr (.inl h))
            · rcases hv5' y h with h | h
              · exact .inl (.inr (.inr h))
              · omega
            · rcases hav6 y h with h | h
              · exact .inr h
              · omega
          by_cases hj : j < cs.length
          · rw [List.getElem_append_left hj]
            have q0 := hA j hj h2
            have q1 := q0.kept (N' := fun k => Of f w1.heap.size v k ∨ av.ownBlock = some k) (Kp.of_below BA (fun _ => False)) (fun _ h => h.elim) (fun _ _ h => h)
            have q2 := q1.kept (N' := fun k => Of f w1.heap.size v k ∨ av.ownBlock = some k) K5 (fun _ h => .inl h) (fun _ _ h => h)
            have q3 := q2.kept (N' := fun k => Of f w1.heap.size v k ∨ av.ownBlock = some k) k56 (fun _ h => h.elim) (fun _ _ h => h)
            have q4 := q3.kept (N' := fun k => Of f w1.heap.size v k ∨ av.ownBlock = some k) K6 (fun _ h => .inr h) (fun _ _ h => h)
            obtain ⟨y, e1, e2, e3⟩ := q4
            obtain ⟨y0, e10, e20, e30⟩ := q0
            have ey : y = y0 := by
              rw [e10] at e1
              simp only [ansL, List.cons.injEq, and_true, true_and] at e1
              exact e1.symm
            subst ey
            exact ⟨y, e1, e2, fun k hk => ⟨(e3 k hk).1, fun hn => (e3 k hk).2 (tr k (e30 k hk).1 hn)⟩⟩
          · have ej : j = i := by
              simp only [List.length_append, List.length_cons, List.length_nil] at h1
              omega
            subst ej
            have e0 : (cs ++ [ansL A.e A.n A.off x])[j] = ansL A.e A.n A.off x := by simp [← hcl]
            rw [e0, hAi]
            refine ⟨x, rfl, BS_kp (BS_kp bx k56 fun _ _ h => h) K6 fun k hk e => ?_, fun k hk => ⟨by have := (hx k hk).2.1; omega, ?_⟩⟩
            · have := (hx k hk).1; have := (oav k e).2; omega
            · have q1 := hx k hk
              rintro ((e | e | e) | e)
              · omega
              · omega
              · exact q1.2.2 e
              · rcases hav6 k e with h | h
                · have := (oav k h).2; omega
                · omega
        · intro k hk
          rcases hav6 k hk with h | h
          · exact avn k h
          · rintro (e | e | e)
            · omega
            · omega
            · have := (lt5 k e).2; omega
        · simp only [RowKit.intOf]
          omega
      · have e1 : i = qs.length := by omega
        subst e1
        simp (disch := first | omega | (simp only [size_setb, size_alloc', size_drew'] <;> omega) | (simp (disch := first | omega | (simp only [size_setb, size_alloc', size_drew'] <;> omega) | fail) only [go_sem]; done) | fail) only [go_sem, dec_t, dec_f, w_u32, w_u64, w_u16, w_u8, w_i64, Int.reduceToNat, Int.reducePow, Nat.reducePow]
        refine jn_with (fun _ _ => False) (fun _ _ _ h => h.elim) ?_
        rw [List.drop_length, show As.drop qs.length = [] by rw [← hlen, List.drop_length]] at hR
        cases hR
        exact ⟨av, cs, v, rfl, F3, B3, by rw [hlen]; exact o3, by rw [hlen]; exact hcl, fun j h1 h2 => (hA j h1 h2).kept (Kp.refl _ (fun _ => False)) (fun _ h => h.elim) fun _ _ h => h.elim⟩
  · cases ro with
    | true =>
      simp (disch := first | omega | (simp only [size_setb, size_alloc', size_drew'] <;> omega) | (simp (disch := first | omega | (simp only [size_setb, size_alloc', size_drew'] <;> omega) | fail) only [go_sem]; done) | fail) only [go_sem, dec_t, dec_f, w_u32, w_u64, w_u16, w_u8, w_i64, Int.reduceToNat, Int.reducePow, Nat.reducePow]
      apply S_mem_NewReadOnlyFileHandle
      unfold F_mem_NewReadOnlyFileHandle
      simp (disch := first | omega | (simp only [size_setb, size_alloc', size_drew'] <;> omega) | (simp (disch := first | omega | (simp only [size_setb, size_alloc', size_drew'] <;> omega) | fail) only [go_sem]; done) | fail) only [go_sem, dec_t, dec_f, w_u32, w_u64, w_u16, w_u8, w_i64, Int.reduceToNat, Int.reducePow, Nat.reducePow]
      refine ⟨_, rfl, ⟨by omega, by omega, by omega, ⟨0, by simp (disch := first | omega | (simp only [size_setb, size_alloc', size_drew'] <;> omega) | (simp (disch := first | omega | (simp only [size_setb, size_alloc', size_drew'] <;> omega) | fail) only [go_sem]; done) | fail) only [go_sem, dec_t, dec_f, w_u32, w_u64, w_u16, w_u8, w_i64, Int.reduceToNat, Int.reducePow, Nat.reducePow]⟩, ⟨[47, 102], .map none, false, 268435456, 0, 0, 0, by simp (disch := first | omega | (simp only [size_setb, size_alloc', size_drew'] <;> omega) | (simp (disch := first | omega | (simp only [size_setb, size_alloc', size_drew'] <;> omega) | fail) only [go_sem]; done) | fail) only [go_sem, dec_t, dec_f, w_u32, w_u64, w_u16, w_u8, w_i64, Int.reduceToNat, Int.reducePow, Nat.reducePow], rfl⟩, own_old own1 (C := w1.heap.size) (by repeat (first | exact Below.refl _ _ | assumption | refine bel_setb ?_ (by first | exact Nat.le_refl _ | omega | (simp only [go_sem] <;> omega)) _ | refine Below.alloc ?_ (by first | exact Nat.le_refl _ | omega | (simp only [go_sem]; omega)) _ | refine Below.drew ?_)) (Nat.le_refl _), fun e => by have := (own_lt own1 _ e).2; omega, fun e => by have := (own_lt own1 _ e).2; omega⟩, ?_⟩
      repeat (first | exact Below.refl _ _ | assumption | refine bel_setb ?_ (by first | exact Nat.le_refl _ | omega | (simp only [go_sem] <;> omega)) _ | refine Below.alloc ?_ (by first | exact Nat.le_refl _ | omega | (simp only [go_sem]; omega)) _ | refine Below.drew ?_)
    | false =>
      simp (disch := first | omega | (simp only [size_setb, size_alloc', size_drew'] <;> omega) | (simp (disch := first | omega | (simp only [size_setb, size_alloc', size_drew'] <;> omega) | fail) only [go_sem]; done) | fail) only [go_sem, dec_t, dec_f, w_u32, w_u64, w_u16, w_u8, w_i64, Int.reduceToNat, Int.reducePow, Nat.reducePow]
      refine ⟨_, rfl, ⟨by omega, by omega, by omega, ⟨0, by simp (disch := first | omega | (simp only [size_setb, size_alloc', size_drew'] <;> omega) | (simp (disch := first | omega | (simp only [size_setb, size_alloc', size_drew'] <;> omega) | fail) only [go_sem]; done) | fail) only [go_sem, dec_t, dec_f, w_u32, w_u64, w_u16, w_u8, w_i64, Int.reduceToNat, Int.reducePow, Nat.reducePow]⟩, ⟨[47, 102], .map none, false, 268435456, 0, 0, 0, by simp (disch := first | omega | (simp only [size_setb, size_alloc', size_drew'] <;> omega) | (simp (disch := first | omega | (simp only [size_setb, size_alloc', size_drew'] <;> omega) | fail) only [go_sem]; done) | fail) only [go_sem, dec_t, dec_f, w_u32, w_u64, w_u16, w_u8, w_i64, Int.reduceToNat, Int.reducePow, Nat.reducePow], rfl⟩, own_old own1 (C := w1.heap.size) (by repeat (first | exact Below.refl _ _ | assumption | refine bel_setb ?_ (by first | exact Nat.le_refl _ | omega | (simp only [go_sem] <;> omega)) _ | refine Below.alloc ?_ (by first | exact Nat.le_refl _ | omega | (simp only [go_sem]; omega)) _ | refine Below.drew ?_)) (Nat.le_refl _), fun e => by have := (own_lt own1 _ e).2; omega, fun e => by have := (own_lt own1 _ e).2; omega⟩, ?_⟩
      repeat (first | exact Below.refl _ _ | assumption | refine bel_setb ?_ (by first | exact Nat.le_refl _ | omega | (simp only [go_sem] <;> omega)) _ | refine Below.alloc ?_ (by first | exact Nat.le_refl _ | omega | (simp only [go_sem]; omega)) _ | refine Below.drew ?_)
end Go.Proofs.YteblpejgenehfaaDoor.X
