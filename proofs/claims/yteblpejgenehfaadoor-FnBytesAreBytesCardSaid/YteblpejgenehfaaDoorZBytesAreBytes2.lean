/- What the claim needs of the texts on it, laid together. No condition. -/
import Derived.Test.YteblpejgenehfaaDoorZBytesAreBytes1
set_option linter.unusedVariables false
set_option linter.unusedSimpArgs false
set_option maxRecDepth 100000
section
namespace Go.Proofs.YteblpejgenehfaaDoor.X
open Go Go.X Go.Proofs Go.RowKit
inductive Rl | no | mem | nms | ats | nds | hmp | hnd (k : Int)
  deriving DecidableEq
abbrev nodeC (n : SM.Node) (v : Value) : List Value := [.bool n.dir, .int .i64 n.mode, v, .int .i64 n.time, S n.name]
abbrev hndC (h : SM.Hnd) : List Value := [.int .i64 h.node, .int .i64 h.pos, .int .i64 h.listed, .bool h.cl, .bool h.ro]
def nodesC (ns : List SM.Node) (ds : List Value) : List Value := (List.zipWith nodeC ns ds).flatten
structure MemX (w : World) (B p : Nat) (m : SM.Mem) (F : Fp) (vn va vd : Value) (q : Nat) (ds : List Value) (hl : ML Int) (c : Nat) (hb : Int → Nat) (ρ : Nat → Rl) : Prop where
  own : ∀ b, F.own b ↔ ρ b ≠ .no
  sub : ∀ b, F.own b → F.use b
  lt : ∀ b, F.use b → b < w.heap.size
  ge : ∀ b, F.own b → B ≤ b
  rp : ρ p = .mem
  bm : bk w p = some (CB [vn, va, vd, .map (some q)] T.spec_Mem)
  on : w.ownsRow B T.string 1 vn m.names.length (m.names.map S)
  rn : ∀ b, vn.ownBlock = some b → ρ b = .nms
  oa : w.ownsRow B T.int 1 va m.ats.length (m.ats.map fun (n : Nat) => .int .i64 n)
  ra : ∀ b, va.ownBlock = some b → ρ b = .ats
  od : w.ownsRow B T.spec_MemNode 5 vd m.nodes.length (nodesC m.nodes ds)
  rd : ∀ b, vd.ownBlock = some b → ρ b = .nds
  dl : ds.length = m.nodes.length
  db : ∀ i (h1 : i < ds.length) (h2 : i < m.nodes.length), BS w ds[i] m.nodes[i].data ∧ ∀ b, ds[i].ownBlock = some b → F.use b ∧ ρ b = .no
  rq : ρ q = .hmp
  bq : bk w q = some (MO emI hl c)
  wf : MWF hl c
  hm : ∀ k, mget hl k = (SM.hget m.hs k).map fun _ => pt (hb k) 0
  bh : ∀ k h, SM.hget m.hs k = some h → ρ (hb k) = .hnd k ∧ bk w (hb k) = some (CB (hndC h) T.spec_MemHandle)
def MemS (w : World) (B p : Nat) (m : SM.Mem) (F : Fp) : Prop := ∃ vn va vd q ds hl c hb ρ, MemX w B p m F vn va vd q ds hl c hb ρ
section
variable {w w' : World} {B p : Nat} {m : SM.Mem} {F : Fp} {vn va vd : Value} {q : Nat} {ds : List Value} {hl : ML Int} {c : Nat} {hb : Int → Nat} {ρ : Nat → Rl}
theorem MemX.frame (h : MemX w B p m F vn va vd q ds hl c hb ρ) {G : Nat → Prop} (k : Kp w w' G) (hG : ∀ b, F.use b → ¬ G b) : MemX w' B p m F vn va vd q ds hl c hb ρ := by
  have ol : ∀ b, ρ b ≠ .no → b < w.heap.size ∧ ¬ G b := fun b hb => by
    have := h.sub b ((h.own b).2 hb)
    exact ⟨h.lt b this, hG b this⟩
  refine ⟨h.own, h.sub, fun b hb => Nat.lt_of_lt_of_le (h.lt b hb) k.size, h.ge, h.rp, ?_, own_kp h.on k fun b hb => ?_, h.rn, own_kp h.oa k fun b hb => ?_, h.ra, own_kp h.od k fun b hb => ?_, h.rd, h.dl, fun i h1 h2 => ?_, h.rq, ?_, h.wf, h.hm, fun x y hx => ?_⟩
  · obtain ⟨l1, l2⟩ := ol p (by rw [h.rp]; decide)
    rw [k.block p l1 l2]; exact h.bm
  · exact (ol b (by rw [h.rn b hb]; decide)).2
  · exact (ol b (by rw [h.ra b hb]; decide)).2
  · exact (ol b (by rw [h.rd b hb]; decide)).2
  · obtain ⟨d1, d2⟩ := h.db i h1 h2
    exact ⟨BS_kp d1 k fun b hb => hG b (d2 b hb).1, d2⟩
  · obtain ⟨l1, l2⟩ := ol q (by rw [h.rq]; decide)
    rw [k.block q l1 l2]; exact h.bq
  · obtain ⟨h1, h2⟩ := h.bh x y hx
    obtain ⟨l1, l2⟩ := ol (hb x) (by rw [h1]; exact fun e => by cases e)
    exact ⟨h1, by rw [k.block _ l1 l2]; exact h2⟩
theorem MemS.frame (h : MemS w B p m F) {G : Nat → Prop} (k : Kp w w' G) (hG : ∀ b, F.use b → ¬ G b) : MemS w' B p m F := by
  obtain ⟨vn, va, vd, q, ds, hl, c, hb, ρ, h⟩ := h
  exact ⟨vn, va, vd, q, ds, hl, c, hb, ρ, h.frame k hG⟩
theorem MemX.old (h : MemX w B p m F vn va vd q ds hl c hb ρ) (k : Below w.heap.size w w') : MemX w' B p m F vn va vd q ds hl c hb ρ :=
  h.frame (Kp.of_below k (fun b => w.heap.size ≤ b)) fun b hb => by have := h.lt b hb; omega
theorem MemS.old (h : MemS w B p m F) (k : Below w.heap.size w w') : MemS w' B p m F := by
  obtain ⟨vn, va, vd, q, ds, hl, c, hb, ρ, h⟩ := h
  exact ⟨vn, va, vd, q, ds, hl, c, hb, ρ, h.old k⟩
theorem MemS.lt (h : MemS w B p m F) : ∀ b, F.use b → b < w.heap.size := by
  obtain ⟨vn, va, vd, q, ds, hl, c, hb, ρ, h⟩ := h
  exact h.lt
theorem MemS.sub (h : MemS w B p m F) : ∀ b, F.own b → F.use b := by
  obtain ⟨vn, va, vd, q, ds, hl, c, hb, ρ, h⟩ := h
  exact h.sub
end
theorem own_strs {w : World} {B n i : Nat} {v : Value} {l : List Str} (h : w.ownsRow B T.string 1 v n (l.map S)) (hn : l.length = n) (hi : i < l.length) :
    ∃ g, v.ownBlock = some g ∧ g < w.heap.size ∧ (∀ (k : IntKind) (M : Value → Prop), pu P (oIdxA T.sl_string v (.int k i)) M = M (pt g i)) ∧ (∀ w', bk w' g = bk w g → ∀ (L : Value → World → Prop), st P (oLoad T.string (pt g i)) w' L = L (S l[i]) w') := by
  obtain ⟨g, cur, h1, h2, h3, h4, h5, h6⟩ := own_idx U.sl_string (by kernel_rfl) h (i := i) (by omega)
  refine ⟨g, h1, bk_lt h3, fun k M => by rw [h6, Nat.mul_one], fun w' hw' L => ?_⟩
  have e : cur[i]? = some (S l[i]) := by
    rw [take_get h5 (by omega)]
    simp [hi]
  have e2 : cellOf (bk w' g) i = some (S l[i]) := by rw [hw', h3, cellOf_CB]; exact e
  rw [M.ld_string _ _ _ _ (by rw [e2]; rfl), e2]
  rfl
theorem own_ints {w : World} {B n i : Nat} {v : Value} {l : List Nat} (h : w.ownsRow B T.int 1 v n (l.map fun (n : Nat) => .int .i64 n)) (hn : l.length = n) (hi : i < l.length) :
    ∃ g, v.ownBlock = some g ∧ g < w.heap.size ∧ (∀ (k : IntKind) (M : Value → Prop), pu P (oIdxA T.sl_int v (.int k i)) M = M (pt g i)) ∧ (∀ w', bk w' g = bk w g → ∀ (L : Value → World → Prop), st P (oLoad T.int (pt g i)) w' L = L (.int .i64 l[i]) w') := by
  obtain ⟨g, cur, h1, h2, h3, h4, h5, h6⟩ := own_idx U.sl_int (by kernel_rfl) h (i := i) (by omega)
  refine ⟨g, h1, bk_lt h3, fun k M => by rw [h6, Nat.mul_one], fun w' hw' L => ?_⟩
  have e : cur[i]? = some (.int .i64 l[i]) := by
    rw [take_get h5 (by omega)]
    simp [hi]
  have e2 : cellOf (bk w' g) i = some (.int .i64 l[i]) := by rw [hw', h3, cellOf_CB]; exact e
  rw [M.ld_int _ _ _ _ (by rw [e2]; rfl), e2]
  rfl
theorem place_spec {w : World} {K : Value → World → Prop} {B p : Nat} {m : SM.Mem} {F : Fp} {l : Str} (h : MemS w B p m F) (hN : m.names.length ≤ 1000000000) (hk : K (tup [.int .i64 (SM.place m.names l).1, .bool (SM.place m.names l).2]) w) : Cl P Fn.spec_Mem_place #[pt p 0, S l] w K := by
  obtain ⟨vn, va, vd, q, ds, hl, c, hb, ρ, h⟩ := h
  apply S_spec_Mem_place
  unfold F_spec_Mem_place
  have bm := h.bm
  obtain ⟨a, cap, ev⟩ := own_slice h.on
  refine jn_with (fun t w' => w' = w ∧ SM.place m.names l = (m.names.length, false)) ?_ ?_
  · rintro t e w1 ⟨rfl, e1⟩
    subst ev
    simp (disch := first | omega | (simp only [sZb, sZa, sZd] <;> omega) | (simp (disch := first | omega | (simp only [sZb, sZa, sZd] <;> omega) | fail) only [go_sem, bm]; done) | fail) only [go_sem, dec_t, dec_f, w_u32, w_u64, w_u16, w_u8, w_i64, Int.reduceToNat, Int.reducePow, Nat.reducePow, bm]
    rw [e1] at hk
    exact hk
  · subst ev
    simp (disch := first | omega | (simp only [sZb, sZa, sZd] <;> omega) | (simp (disch := first | omega | (simp only [sZb, sZa, sZd] <;> omega) | fail) only [go_sem, bm]; done) | fail) only [go_sem, dec_t, dec_f, w_u32, w_u64, w_u16, w_u8, w_i64, Int.reduceToNat, Int.reducePow, Nat.reducePow, bm]
    refine lp_intro (fun s w' => w' = w ∧ ∃ i : Nat, s = [.int .i64 i] ∧ i ≤ m.names.length ∧ SM.placeG (m.names.drop i) l i = SM.place m.names l) (fun s w' => (m.names.length - (intOf (gs s 0))).toNat) ?_ ?_
    · exact ⟨rfl, 0, rfl, Nat.zero_le _, rfl⟩
    · rintro s u w1 ⟨rfl, i, rfl, hi, hs⟩
      rw [gs0, oLss]
      refine jn_with (fun t w' => w' = w1 ∧ i < m.names.length) ?_ ?_
      · rintro t e w2 ⟨rfl, hi1⟩
        rw [List.drop_eq_getElem_cons hi1] at hs
        simp only [SM.placeG] at hs
        refine jn_with (fun t w' => w' = w2 ∧ Op.bytesLess m.names[i] l = true) ?_ ?_
        · rintro t e w3 ⟨rfl, hne⟩
          simp (disch := first | omega | (simp only [sZb, sZa, sZd] <;> omega) | (simp (disch := first | omega | (simp only [sZb, sZa, sZd] <;> omega) | fail) only [go_sem]; done) | fail) only [go_sem, dec_t, dec_f, w_u32, w_u64, w_u16, w_u8, w_i64, Int.reduceToNat, Int.reducePow, Nat.reducePow]
          rw [if_pos hne] at hs
          refine ⟨⟨trivial, i + 1, rfl, by omega, hs⟩, ?_⟩
          simp only [gs0, intOf]; omega
        · obtain ⟨g, g1, g2, g3, g4⟩ := own_strs h.on rfl hi1
          rw [g3, g4 w2 rfl]
          simp (disch := first | omega | (simp only [sZb, sZa, sZd] <;> omega) | (simp (disch := first | omega | (simp only [sZb, sZa, sZd] <;> omega) | fail) only [go_sem]; done) | fail) only [go_sem, dec_t, dec_f, w_u32, w_u64, w_u16, w_u8, w_i64, Int.reduceToNat, Int.reducePow, Nat.reducePow]
          by_cases hc : Op.bytesLess m.names[i] l = true
          · rw [hc]
            simp (disch := first | omega | (simp only [sZb, sZa, sZd] <;> omega) | (simp (disch := first | omega | (simp only [sZb, sZa, sZd] <;> omega) | fail) only [go_sem]; done) | fail) only [go_sem, dec_t, dec_f, w_u32, w_u64, w_u16, w_u8, w_i64, Int.reduceToNat, Int.reducePow, Nat.reducePow]
            exact ⟨trivial, trivial⟩
          · rw [if_neg hc] at hs
            have hc' : Op.bytesLess m.names[i] l = false := by simpa using hc
            rw [hc']
            simp (disch := first | omega | (simp only [sZb, sZa, sZd] <;> omega) | (simp (disch := first | omega | (simp only [sZb, sZa, sZd] <;> omega) | fail) only [go_sem]; done) | fail) only [go_sem, dec_t, dec_f, w_u32, w_u64, w_u16, w_u8, w_i64, Int.reduceToNat, Int.reducePow, Nat.reducePow]
            rw [← hs] at hk
            exact hk
      · by_cases hi1 : i < m.names.length
        · simp (disch := first | omega | (simp only [sZb, sZa, sZd] <;> omega) | (simp (disch := first | omega | (simp only [sZb, sZa, sZd] <;> omega) | fail) only [go_sem]; done) | fail) only [go_sem, dec_t, dec_f, w_u32, w_u64, w_u16, w_u8, w_i64, Int.reduceToNat, Int.reducePow, Nat.reducePow]
          exact ⟨trivial, hi1⟩
        · simp (disch := first | omega | (simp only [sZb, sZa, sZd] <;> omega) | (simp (disch := first | omega | (simp only [sZb, sZa, sZd] <;> omega) | fail) only [go_sem]; done) | fail) only [go_sem, dec_t, dec_f, w_u32, w_u64, w_u16, w_u8, w_i64, Int.reduceToNat, Int.reducePow, Nat.reducePow]
          have : i = m.names.length := by omega
          subst this
          refine ⟨trivial, ?_⟩
          rw [← hs, List.drop_length]
          rfl
theorem placeG_le : ∀ (l : List Str) (n : Str) (i : Nat), i ≤ (SM.placeG l n i).1 ∧ (SM.placeG l n i).1 ≤ i + l.length ∧ ((SM.placeG l n i).2 = true → (SM.placeG l n i).1 < i + l.length)
  | [], n, i => by simp [SM.placeG]
  | x :: l, n, i => by
    simp only [SM.placeG]
    split
    · obtain ⟨h1, h2, h3⟩ := placeG_le l n (i + 1)
      simp only [List.length_cons]
      exact ⟨by omega, by omega, fun h => by have := h3 h; omega⟩
    · simp
theorem place_le (l : List Str) (n : Str) : (SM.place l n).1 ≤ l.length ∧ ((SM.place l n).2 = true → (SM.place l n).1 < l.length) := by
  obtain ⟨h1, h2, h3⟩ := placeG_le l n 0
  unfold SM.place
  exact ⟨by omega, fun h => by have := h3 h; omega⟩
theorem find_spec {w : World} {K : Value → World → Prop} {B p : Nat} {m : SM.Mem} {F : Fp} {l : Str} (h : MemS w B p m F) (hN : m.names.length ≤ 1000000000) (hA : m.ats.length = m.names.length) (hk : K (tup [.int .i64 ((m.find l).getD 0 : Nat), .bool (m.find l).isSome]) w) : Cl P Fn.spec_Mem_Find #[pt p 0, S l] w K := by
  apply S_spec_Mem_Find
  unfold F_spec_Mem_Find
  rw [C.spec_Mem_place]
  refine place_spec h hN ?_
  obtain ⟨vn, va, vd, q, ds, hl, c, hb, ρ, h⟩ := h
  have bm := h.bm
  have hp := place_le m.names l
  unfold SM.Mem.find at hk
  rw [oExtract2_0, oExtract2_1]
  refine jn_with (fun t w' => w' = w ∧ (SM.place m.names l).2 = true) ?_ ?_
  · rintro t e w1 ⟨rfl, e1⟩
    rw [e1] at hk
    have hlt := hp.2 e1
    obtain ⟨g, g1, g2, g3, g4⟩ := own_ints h.oa rfl (i := (SM.place m.names l).1) (by omega)
    simp (disch := first | omega | (simp only [sZb, sZa, sZd] <;> omega) | (simp (disch := first | omega | (simp only [sZb, sZa, sZd] <;> omega) | fail) only [go_sem, bm, g3]; done) | fail) only [go_sem, dec_t, dec_f, w_u32, w_u64, w_u16, w_u8, w_i64, Int.reduceToNat, Int.reducePow, Nat.reducePow, bm, g3]
    rw [g4 w1 rfl]
    simpa [show (SM.place m.names l).1 < m.ats.length by omega] using hk
  · cases e1 : (SM.place m.names l).2 with
    | true =>
      simp (disch := first | omega | (simp only [sZb, sZa, sZd] <;> omega) | (simp (disch := first | omega | (simp only [sZb, sZa, sZd] <;> omega) | fail) only [go_sem]; done) | fail) only [go_sem, dec_t, dec_f, w_u32, w_u64, w_u16, w_u8, w_i64, Int.reduceToNat, Int.reducePow, Nat.reducePow]
      exact ⟨trivial, trivial⟩
    | false =>
      rw [e1] at hk
      simp (disch := first | omega | (simp only [sZb, sZa, sZd] <;> omega) | (simp (disch := first | omega | (simp only [sZb, sZa, sZd] <;> omega) | fail) only [go_sem]; done) | fail) only [go_sem, dec_t, dec_f, w_u32, w_u64, w_u16, w_u8, w_i64, Int.reduceToNat, Int.reducePow, Nat.reducePow]
      exact hk
end Go.Proofs.YteblpejgenehfaaDoor.X
end
section
namespace Go.Proofs.YteblpejgenehfaaDoor.X
open Go Go.X Go.Proofs Go.RowKit
section
variable {w w' : World} {B p : Nat} {m : SM.Mem} {F : Fp} {vn va vd : Value} {q : Nat} {ds : List Value} {hl : ML Int} {c : Nat} {hb : Int → Nat} {ρ : Nat → Rl}
theorem MemX.in_ (h : MemX w B p m F vn va vd q ds hl c hb ρ) {b : Nat} (hb : ρ b ≠ .no) : b < w.heap.size := h.lt b (h.sub b ((h.own b).2 hb))
structure Left (w' : World) (B p : Nat) (m : SM.Mem) (F : Fp) (vn va vd : Value) (q : Nat) (ds : List Value) (hl : ML Int) (c : Nat) (hb : Int → Nat) (ρ : Nat → Rl) (R : Rl) : Prop where
  lt : ∀ b, F.use b → b < w'.heap.size
  bm : R ≠ .mem → bk w' p = some (CB [vn, va, vd, .map (some q)] T.spec_Mem)
  on : R ≠ .nms → w'.ownsRow B T.string 1 vn m.names.length (m.names.map S)
  oa : R ≠ .ats → w'.ownsRow B T.int 1 va m.ats.length (m.ats.map fun (n : Nat) => .int .i64 n)
  od : R ≠ .nds → w'.ownsRow B T.spec_MemNode 5 vd m.nodes.length (nodesC m.nodes ds)
  db : ∀ i (h1 : i < ds.length) (h2 : i < m.nodes.length), BS w' ds[i] m.nodes[i].data ∧ ∀ b, ds[i].ownBlock = some b → F.use b ∧ ρ b = .no
  bq : R ≠ .hmp → bk w' q = some (MO emI hl c)
  bh : ∀ k h, SM.hget m.hs k = some h → R ≠ .hnd k → bk w' (hb k) = some (CB (hndC h) T.spec_MemHandle)
theorem MemX.only (h : MemX w B p m F vn va vd q ds hl c hb ρ) {R : Rl} {G : Nat → Prop} (k : Kp w w' G) (hG : ∀ b, b < w.heap.size → G b → ρ b = R) (hR : R ≠ .no) : Left w' B p m F vn va vd q ds hl c hb ρ R := by
  have ne : ∀ b, ρ b ≠ .no → R ≠ ρ b → b < w.heap.size ∧ ¬ G b := fun b h1 h2 => ⟨h.in_ h1, fun hg => h2 (hG b (h.in_ h1) hg).symm⟩
  refine ⟨fun b hb => Nat.lt_of_lt_of_le (h.lt b hb) k.size, fun e => ?_, fun e => own_kp h.on k fun b hb => ?_, fun e => own_kp h.oa k fun b hb => ?_, fun e => own_kp h.od k fun b hb => ?_, fun i h1 h2 => ?_, fun e => ?_, fun x y hx e => ?_⟩
  · obtain ⟨l1, l2⟩ := ne p (by rw [h.rp]; decide) (by rw [h.rp]; exact e)
    rw [k.block p l1 l2]; exact h.bm
  · exact (ne b (by rw [h.rn b hb]; decide) (by rw [h.rn b hb]; exact e)).2
  · exact (ne b (by rw [h.ra b hb]; decide) (by rw [h.ra b hb]; exact e)).2
  · exact (ne b (by rw [h.rd b hb]; decide) (by rw [h.rd b hb]; exact e)).2
  · obtain ⟨d1, d2⟩ := h.db i h1 h2
    exact ⟨BS_kp d1 k fun b hb hg => hR (by rw [← hG b (h.lt b (d2 b hb).1) hg]; exact (d2 b hb).2), d2⟩
  · obtain ⟨l1, l2⟩ := ne q (by rw [h.rq]; decide) (by rw [h.rq]; exact e)
    rw [k.block q l1 l2]; exact h.bq
  · obtain ⟨h1, h2⟩ := h.bh x y hx
    obtain ⟨l1, l2⟩ := ne (hb x) (by rw [h1]; exact fun e => by cases e) (by rw [h1]; exact e)
    rw [k.block _ l1 l2]; exact h2
theorem MemX.tr (h : MemX w B p m F vn va vd q ds hl c hb ρ) {R : Rl} {G : Nat → Prop} (k : Kp w w' G) (hG : ∀ b, b < w.heap.size → G b → ρ b = R) (hR : R ≠ .no) : Tr w w' F F :=
  ⟨Kp_sub k fun b hb hg => (h.own b).2 (by rw [hG b hb hg]; exact hR), Fp.step_refl _ _⟩
theorem MemX.setA (h : MemX w B p m F vn va vd q ds hl c hb ρ) {i x g : Nat} {cur : List Value} (hi : i < m.ats.length) (hg : va.ownBlock = some g) (hc : bk w g = some (CB cur T.int)) (ht : cur.take (m.ats.length * 1) = m.ats.map fun (n : Nat) => .int .i64 n) :
    MemX (setb w g (CB (cur.set i (.int .i64 x)) T.int)) B p { m with ats := m.ats.set i x } F vn va vd q ds hl c hb ρ ∧ Tr w (setb w g (CB (cur.set i (.int .i64 x)) T.int)) F F := by
  have rg := h.ra g hg
  have k := Kp.setb w g (CB (cur.set i (.int .i64 x)) T.int)
  have hG : ∀ b, b < w.heap.size → b = g → ρ b = .ats := fun b _ e => by rw [e]; exact rg
  have l := h.only k hG (by decide)
  refine ⟨⟨h.own, h.sub, l.lt, h.ge, h.rp, l.bm (by decide), l.on (by decide), h.rn, ?_, h.ra, l.od (by decide), h.rd, h.dl, l.db, h.rq, l.bq (by decide), h.wf, h.hm, fun a b hx => ⟨(h.bh a b hx).1, l.bh a b hx (fun e => by cases e)⟩⟩, h.tr k hG (by decide)⟩
  have o := own_set h.oa hg hc (by simp) _ (rfl : CB (cur.set i (.int .i64 x)) T.int = _)
  have e : (cur.set i (.int .i64 x)).take (m.ats.length * 1) = (m.ats.set i x).map fun (n : Nat) => .int .i64 n := by
    rw [List.take_set, ht, List.map_set]
  rw [e] at o
  simpa using o
theorem MemX.setN (h : MemX w B p m F vn va vd q ds hl c hb ρ) {w5 : World} {v' : Value} {names' : List Str} (k : Kp w w5 fun b => vn.ownBlock = some b) (o : w5.ownsRow B T.string 1 v' names'.length (names'.map S)) (a : v'.ownBlock = vn.ownBlock ∨ ∀ b, v'.ownBlock = some b → w.heap.size ≤ b) :
    ∃ F' ρ', MemX (setb w5 p (CB [v', va, vd, .map (some q)] T.spec_Mem)) B p { m with names := names' } F' v' va vd q ds hl c hb ρ' ∧ Tr w (setb w5 p (CB [v', va, vd, .map (some q)] T.spec_Mem)) F F' := by
  have hG : ∀ b, b < w.heap.size → vn.ownBlock = some b → ρ b = .nms := fun b _ e => h.rn b e
  have l := h.only k hG (by decide)
  have k2 := Kp.setb w5 p (CB [v', va, vd, .map (some q)] T.spec_Mem)
  have lp5 := Nat.lt_of_lt_of_le (h.in_ (b := p) (by rw [h.rp]; decide)) k.size
  have vl : ∀ b, v'.ownBlock = some b → b < w5.heap.size := fun b hb => (own_in o b hb).2
  have ge' : ∀ b, v'.ownBlock = some b → B ≤ b := fun b hb => (own_in o b hb).1
  have old : ∀ b, v'.ownBlock = some b → b < w.heap.size → ρ b = .nms := fun b e hb => by
    rcases a with a | a
    · exact h.rn b (by rw [← a]; exact e)
    · have := a b e; omega
  obtain ⟨ρ', hρ⟩ : ∃ ρ' : Nat → Rl, ρ' = fun b => if v'.ownBlock = some b then .nms else ρ b := ⟨_, rfl⟩
  have r1 : ∀ b, v'.ownBlock = some b → ρ' b = .nms := fun b e => by rw [hρ]; exact if_pos e
  have r2 : ∀ b, b < w.heap.size → ρ' b = ρ b := fun b hb => by
    rw [hρ]
    by_cases e : v'.ownBlock = some b
    · simp only [e, if_true]; exact (old b e hb).symm
    · simp only [e, if_false]
  have up : ∀ b, F.use b → b < w.heap.size := h.lt
  have keep : ∀ b {R : Rl}, ρ b = R → R ≠ .no → ρ' b = R := fun b R e hn => by rw [r2 b (h.in_ (by rw [e]; exact hn))]; exact e
  have ne : ∀ b, ρ b ≠ .no → ρ b ≠ .mem → b ≠ p := fun b _ h2 e => h2 (by rw [e]; exact h.rp)
  refine ⟨⟨fun b => ρ' b ≠ .no, fun b => F.use b ∨ v'.ownBlock = some b⟩, ρ', ⟨fun b => Iff.rfl, fun b hb => ?_, fun b hb => ?_, fun b hb => ?_, keep p h.rp (by decide), bk_setb_eq _ _ _ _ rfl lp5, own_kp o k2 fun b hb e => ?_, r1, own_kp (l.oa (by decide)) k2 fun b hb e => ?_, fun b hb => keep b (h.ra b hb) (by decide), own_kp (l.od (by decide)) k2 fun b hb e => ?_, fun b hb => keep b (h.rd b hb) (by decide), h.dl, fun i h1 h2 => ?_, keep q h.rq (by decide), ?_, h.wf, h.hm, fun x y hx => ⟨keep _ (h.bh x y hx).1 (fun e => by cases e), ?_⟩⟩, ?_⟩
  · by_cases e : v'.ownBlock = some b
    · exact .inr e
    · left
      refine h.sub b ((h.own b).2 fun e2 => hb ?_)
      rw [hρ]; simp only [e, if_false]; exact e2
  · show b < (setb w5 p _).heap.size
    rw [sZb]
    rcases hb with hb | hb
    · exact l.lt b hb
    · exact vl b hb
  · by_cases e : v'.ownBlock = some b
    · exact ge' b e
    · refine h.ge b ((h.own b).2 fun e2 => hb ?_)
      rw [hρ]; simp only [e, if_false]; exact e2
  · subst e
    have h1 := r1 _ hb
    rw [keep _ h.rp (by decide)] at h1
    cases h1
  · subst e
    have := h.ra _ hb
    rw [h.rp] at this; cases this
  · subst e
    have := h.rd _ hb
    rw [h.rp] at this; cases this
  · obtain ⟨d1, d2⟩ := l.db i h1 h2
    refine ⟨BS_kp d1 k2 fun b hb e => ?_, fun b hb => ⟨.inl (d2 b hb).1, ?_⟩⟩
    · subst e
      have := (d2 _ hb).2
      rw [h.rp] at this; cases this
    · rw [r2 b (up b (d2 b hb).1)]; exact (d2 b hb).2
  · rw [bk_setb_ne _ _ _ _ (ne q (by rw [h.rq]; decide) (by rw [h.rq]; decide))]
    exact l.bq (by decide)
  · have h1 := (h.bh x y hx).1
    rw [bk_setb_ne _ _ _ _ (ne _ (by rw [h1]; exact fun e => by cases e) (by rw [h1]; exact fun e => by cases e))]
    exact l.bh x y hx (fun e => by cases e)
  · refine ⟨(Kp_sub k fun b hb hg => (h.own b).2 (by rw [h.rn b hg]; decide)).trans k2 fun b hb e => (h.own b).2 (by rw [e, h.rp]; decide), fun b hb => ⟨fun x => ?_, fun x => ?_⟩⟩
    · have x' : ρ' b ≠ .no := x
      rw [r2 b hb] at x'
      exact (h.own b).2 x'
    · rcases x with x | x
      · exact x
      · exact h.sub b ((h.own b).2 (by rw [old b x hb]; decide))
theorem MemX.setAs (h : MemX w B p m F vn va vd q ds hl c hb ρ) {w5 : World} {v' : Value} {ats' : List Nat} (k : Kp w w5 fun b => va.ownBlock = some b) (o : w5.ownsRow B T.int 1 v' ats'.length (ats'.map fun (n : Nat) => .int .i64 n)) (a : v'.ownBlock = va.ownBlock ∨ ∀ b, v'.ownBlock = some b → w.heap.size ≤ b) :
    ∃ F' ρ', MemX (setb w5 p (CB [vn, v', vd, .map (some q)] T.spec_Mem)) B p { m with ats := ats' } F' vn v' vd q ds hl c hb ρ' ∧ Tr w (setb w5 p (CB [vn, v', vd, .map (some q)] T.spec_Mem)) F F' := by
  have hG : ∀ b, b < w.heap.size → va.ownBlock = some b → ρ b = .ats := fun b _ e => h.ra b e
  have l := h.only k hG (by decide)
  have k2 := Kp.setb w5 p (CB [vn, v', vd, .map (some q)] T.spec_Mem)
  have lp5 := Nat.lt_of_lt_of_le (h.in_ (b := p) (by rw [h.rp]; decide)) k.size
  have vl : ∀ b, v'.ownBlock = some b → b < w5.heap.size := fun b hb => (own_in o b hb).2
  have ge' : ∀ b, v'.ownBlock = some b → B ≤ b := fun b hb => (own_in o b hb).1
  have old : ∀ b, v'.ownBlock = some b → b < w.heap.size → ρ b = .ats := fun b e hb => by
    rcases a with a | a
    · exact h.ra b (by rw [← a]; exact e)
    · have := a b e; omega
  obtain ⟨ρ', hρ⟩ : ∃ ρ' : Nat → Rl, ρ' = fun b => if v'.ownBlock = some b then .ats else ρ b := ⟨_, rfl⟩
  have r1 : ∀ b, v'.ownBlock = some b → ρ' b = .ats := fun b e => by rw [hρ]; exact if_pos e
  have r2 : ∀ b, b < w.heap.size → ρ' b = ρ b := fun b hb => by
    rw [hρ]
    by_cases e : v'.ownBlock = some b
    · simp only [e, if_true]; exact (old b e hb).symm
    · simp only [e, if_false]
  have up : ∀ b, F.use b → b < w.heap.size := h.lt
  have keep : ∀ b {R : Rl}, ρ b = R → R ≠ .no → ρ' b = R := fun b R e hn => by rw [r2 b (h.in_ (by rw [e]; exact hn))]; exact e
  have ne : ∀ b, ρ b ≠ .no → ρ b ≠ .mem → b ≠ p := fun b _ h2 e => h2 (by rw [e]; exact h.rp)
  refine ⟨⟨fun b => ρ' b ≠ .no, fun b => F.use b ∨ v'.ownBlock = some b⟩, ρ', ⟨fun b => Iff.rfl, fun b hb => ?_, fun b hb => ?_, fun b hb => ?_, keep p h.rp (by decide), bk_setb_eq _ _ _ _ rfl lp5, own_kp (l.on (by decide)) k2 fun b hb e => ?_, fun b hb => keep b (h.rn b hb) (by decide), own_kp o k2 fun b hb e => ?_, r1, own_kp (l.od (by decide)) k2 fun b hb e => ?_, fun b hb => keep b (h.rd b hb) (by decide), h.dl, fun i h1 h2 => ?_, keep q h.rq (by decide), ?_, h.wf, h.hm, fun x y hx => ⟨keep _ (h.bh x y hx).1 (fun e => by cases e), ?_⟩⟩, ?_⟩
  · by_cases e : v'.ownBlock = some b
    · exact .inr e
    · left
      refine h.sub b ((h.own b).2 fun e2 => hb ?_)
      rw [hρ]; simp only [e, if_false]; exact e2
  · show b < (setb w5 p _).heap.size
    rw [sZb]
    rcases hb with hb | hb
    · exact l.lt b hb
    · exact vl b hb
  · by_cases e : v'.ownBlock = some b
    · exact ge' b e
    · refine h.ge b ((h.own b).2 fun e2 => hb ?_)
      rw [hρ]; simp only [e, if_false]; exact e2
  · subst e
    have := h.rn _ hb
    rw [h.rp] at this; cases this
  · subst e
    have h1 := r1 _ hb
    rw [keep _ h.rp (by decide)] at h1
    cases h1
  · subst e
    have := h.rd _ hb
    rw [h.rp] at this; cases this
  · obtain ⟨d1, d2⟩ := l.db i h1 h2
    refine ⟨BS_kp d1 k2 fun b hb e => ?_, fun b hb => ⟨.inl (d2 b hb).1, ?_⟩⟩
    · subst e
      have := (d2 _ hb).2
      rw [h.rp] at this; cases this
    · rw [r2 b (up b (d2 b hb).1)]; exact (d2 b hb).2
  · rw [bk_setb_ne _ _ _ _ (ne q (by rw [h.rq]; decide) (by rw [h.rq]; decide))]
    exact l.bq (by decide)
  · have h1 := (h.bh x y hx).1
    rw [bk_setb_ne _ _ _ _ (ne _ (by rw [h1]; exact fun e => by cases e) (by rw [h1]; exact fun e => by cases e))]
    exact l.bh x y hx (fun e => by cases e)
  · refine ⟨(Kp_sub k fun b hb hg => (h.own b).2 (by rw [h.ra b hg]; decide)).trans k2 fun b hb e => (h.own b).2 (by rw [e, h.rp]; decide), fun b hb => ⟨fun x => ?_, fun x => ?_⟩⟩
    · have x' : ρ' b ≠ .no := x
      rw [r2 b hb] at x'
      exact (h.own b).2 x'
    · rcases x with x | x
      · exact x
      · exact h.sub b ((h.own b).2 (by rw [old b x hb]; decide))
end
end Go.Proofs.YteblpejgenehfaaDoor.X
end
section
namespace Go.Proofs.YteblpejgenehfaaDoor.X
open Go Go.X Go.Proofs Go.RowKit
theorem oneC_S (l : List Str) : ∀ u ∈ l.map S, u.oneCell' = true := fun u hu => by obtain ⟨x, _, rfl⟩ := List.mem_map.1 hu; rfl
theorem oneC_I (l : List Nat) : ∀ u ∈ l.map (fun (n : Nat) => Value.int .i64 n), u.oneCell' = true := fun u hu => by obtain ⟨x, _, rfl⟩ := List.mem_map.1 hu; rfl
theorem infoS : (P.info? T.string).map (fun i => (i.zero, i.size, i.bytes)) = some (some (S []), 1, 16) := by kernel_rfl
theorem infoI : (P.info? T.int).map (fun i => (i.zero, i.size, i.bytes)) = some (some (.int .i64 0), 1, 8) := by kernel_rfl
theorem put_spec {w : World} {K : Value → World → Prop} {B p : Nat} {m : SM.Mem} {F : Fp} {l : Str} {x : Nat} (h : MemS w B p m F) (hN : m.names.length ≤ 999999999) (hA : m.ats.length = m.names.length)
    (hk : ∀ w' F', MemS w' B p (m.put l x) F' → Tr w w' F F' → K (tup []) w') : Cl P Fn.spec_Mem_put #[pt p 0, S l, .int .i64 x] w K := by
  apply S_spec_Mem_put
  unfold F_spec_Mem_put
  rw [C.spec_Mem_place]
  refine place_spec h (by omega) ?_
  obtain ⟨vn, va, vd, q, ds, hl, c, hb, ρ, h⟩ := h
  have bm := h.bm
  obtain ⟨hp1, hp2⟩ := place_le m.names l
  unfold SM.Mem.put at hk
  simp only at hk
  rw [oExtract2_0, oExtract2_1]
  generalize hpl : (SM.place m.names l).1 = i at *
  refine jn_with (fun t w' => w' = w ∧ (SM.place m.names l).2 = false) ?_ ?_
  · rintro t e w1 ⟨rfl, e1⟩
    simp only [e1, Bool.false_eq_true, if_false] at hk
    obtain ⟨vf, of_, bf, sf⟩ := own_front U.sl_string (by kernel_rfl) h.on hp1
    obtain ⟨vb, rb, bb, sb⟩ := own_back U.sl_string (by kernel_rfl) h.on hp1
    simp (disch := first | omega | (simp only [sZb, sZa, sZd] <;> omega) | (simp (disch := first | omega | (simp only [sZb, sZa, sZd] <;> omega) | fail) only [go_sem, bm, sf, sb]; done) | fail) only [go_sem, dec_t, dec_f, w_u32, w_u64, w_u16, w_u8, w_i64, Int.reduceToNat, Int.reducePow, Nat.reducePow, bm, sf, sb]
    rw [oBuildSlice1 (z := S []) _ _ U.sl_string (by kernel_rfl) rfl]
    have B3 : Below w1.heap.size w1 (w1.drew.alloc (CB [S l] T.string)) := by repeat (first | exact Below.refl _ _ | assumption | refine bel_setb ?_ (by first | exact Nat.le_refl _ | omega | (simp only [go_sem] <;> omega)) _ | refine Below.alloc ?_ (by first | exact Nat.le_refl _ | omega | (simp only [go_sem]; omega)) _ | refine Below.drew ?_)
    have o3 : (w1.drew.alloc (CB [S l] T.string)).ownsRow w1.heap.size T.string 1 (sl w1.heap.size 0 1 1) 1 [S l] := ⟨rfl, .inr ⟨w1.heap.size, 1, #[S l], rfl, Nat.le_refl _, heap_alloc_new w1.drew _, Nat.le_refl _, by simp [maxLen], rfl, rfl⟩⟩
    rw [show sl w1.drew.heap.size 0 1 1 = sl w1.heap.size 0 1 1 from rfl]
    generalize w1.drew.alloc (CB [S l] T.string) = w3 at *
    have h3 := h.old B3
    have bm3 := h3.bm
    simp (disch := first | omega | (simp only [sZb, sZa, sZd] <;> omega) | (simp (disch := first | omega | (simp only [sZb, sZa, sZd] <;> omega) | fail) only [go_sem, bm3]; done) | fail) only [go_sem, dec_t, dec_f, w_u32, w_u64, w_u16, w_u8, w_i64, Int.reduceToNat, Int.reducePow, Nat.reducePow, bm3]
    refine ⟨trivial, trivial, ?_⟩
    rw [Nat.mul_one] at rb
    have z3 := B3.size
    have dl : ((m.names.map S).drop i).length = (m.names.length - i) * 1 := by simp
    refine oAppendR (z := S []) (size := 1) (bytes := 16) U.sl_string infoS rfl (by omega) o3 (rb.old B3) dl (fun u hu => oneC_S _ u (List.mem_of_mem_drop hu)) (by simp only [maxLen]; omega) (by omega) (by omega) fun v4 w4 o4 g4 a4 => ?_
    have B4 : Below w1.heap.size w1 w4 := B3.trans (own_bel o3 g4 (by omega))
    have h4 := h.old B4
    have bm4 := h4.bm
    simp (disch := first | omega | (simp only [sZb, sZa, sZd] <;> omega) | (simp (disch := first | omega | (simp only [sZb, sZa, sZd] <;> omega) | fail) only [go_sem, bm4]; done) | fail) only [go_sem, dec_t, dec_f, w_u32, w_u64, w_u16, w_u8, w_i64, Int.reduceToNat, Int.reducePow, Nat.reducePow, bm4]
    refine ⟨trivial, ?_⟩
    rw [Nat.mul_one] at of_
    have z4 := B4.size
    have e4 : [S l] ++ (m.names.map S).drop i = (l :: m.names.drop i).map S := by simp
    rw [e4] at o4
    have r4 : RowS w4 v4 (1 + (m.names.length - i)) ((l :: m.names.drop i).map S) := by
      obtain ⟨b5, cap5, cur5, rfl, q1, q2, q3, q4, q5, q6⟩ := own_row o4 (by omega)
      refine .inl ⟨b5, 0, cap5, rfl, ?_⟩
      rw [q4]
      have hlen : ((l :: m.names.drop i).map S).length = 1 + (m.names.length - i) := by simp; omega
      simp only [rowOf, hlen]
      rw [if_pos (by simp only [List.size_toArray]; omega)]
      rw [Nat.mul_one] at q6
      simpa using q6
    refine oAppendR (z := S []) (size := 1) (bytes := 16) U.sl_string infoS rfl (by omega) (own_old of_ B4 (Nat.le_refl _)) r4 (by simp; omega) (oneC_S _) (by simp only [maxLen]; omega) (by omega) (by have := h.ge p ((h.own p).2 (by rw [h.rp]; decide)); have := h4.in_ (b := p) (by rw [h4.rp]; decide); omega) fun v5 w5 o5 g5 a5 => ?_
    have e5 : (m.names.map S).take i ++ (l :: m.names.drop i).map S = (m.names.take i ++ l :: m.names.drop i).map S := by simp
    rw [e5] at o5
    have K5 : Kp w4 w5 fun b => vn.ownBlock = some b := by
      have := Kp.of_grown g5
      rw [bf] at this
      exact this
    have lp : p < w1.heap.size := h.in_ (by rw [h.rp]; decide)
    have np : vn.ownBlock ≠ some p := fun e => by have := h.rn p e; rw [h.rp] at this; cases this
    have bm5 : bk w5 p = some (CB [vn, va, vd, .map (some q)] T.spec_Mem) := by rw [K5.block p (by omega) np]; exact bm4
    have one5 : v5.oneCell' = true := by obtain ⟨_, _, rfl⟩ := own_slice o5; rfl
    obtain ⟨F6, ρ6, h6, t6⟩ := h4.setN K5 (names' := m.names.take i ++ l :: m.names.drop i) (by
      have : (m.names.take i ++ l :: m.names.drop i).length = i + (1 + (m.names.length - i)) := by simp; omega
      rw [this]; exact o5) (by
      rcases a5 with a5 | a5
      · exact .inl (by rw [a5, bf])
      · exact .inr fun b hb => by rw [a5] at hb; have := Option.some.inj hb; omega)
    simp (disch := first | omega | (simp only [sZb, sZa, sZd] <;> omega) | (simp (disch := first | omega | (simp only [sZb, sZa, sZd] <;> omega) | fail) only [go_sem, bm5, one5]; done) | fail) only [go_sem, dec_t, dec_f, w_u32, w_u64, w_u16, w_u8, w_i64, Int.reduceToNat, Int.reducePow, Nat.reducePow, bm5, one5]
    have T6 := Tr.before B4 t6
    generalize setb w5 p (CB [v5, va, vd, .map (some q)] T.spec_Mem) = w6 at *
    clear g5 g4 o5 o4 o3 r4 K5 bm5 t6
    have bm6 := h6.bm
    obtain ⟨vf2, of2, bf2, sf2⟩ := own_front U.sl_int (by kernel_rfl) h6.oa (p := i) (by show i ≤ m.ats.length; omega)
    obtain ⟨vb2, rb2, bb2, sb2⟩ := own_back U.sl_int (by kernel_rfl) h6.oa (p := i) (by show i ≤ m.ats.length; omega)
    simp (disch := first | omega | (simp only [sZb, sZa, sZd] <;> omega) | (simp (disch := first | omega | (simp only [sZb, sZa, sZd] <;> omega) | fail) only [go_sem, bm6, sf2, sb2]; done) | fail) only [go_sem, dec_t, dec_f, w_u32, w_u64, w_u16, w_u8, w_i64, Int.reduceToNat, Int.reducePow, Nat.reducePow, bm6, sf2, sb2]
    rw [oBuildSlice1 (z := .int .i64 0) _ _ U.sl_int (by kernel_rfl) rfl]
    have B7 : Below w6.heap.size w6 (w6.drew.alloc (CB [.int .i64 x] T.int)) := by repeat (first | exact Below.refl _ _ | assumption | refine bel_setb ?_ (by first | exact Nat.le_refl _ | omega | (simp only [go_sem] <;> omega)) _ | refine Below.alloc ?_ (by first | exact Nat.le_refl _ | omega | (simp only [go_sem]; omega)) _ | refine Below.drew ?_)
    have o7 : (w6.drew.alloc (CB [.int .i64 x] T.int)).ownsRow w6.heap.size T.int 1 (sl w6.heap.size 0 1 1) 1 [.int .i64 x] := ⟨rfl, .inr ⟨w6.heap.size, 1, #[.int .i64 x], rfl, Nat.le_refl _, heap_alloc_new w6.drew _, Nat.le_refl _, by simp [maxLen], rfl, rfl⟩⟩
    rw [show sl w6.drew.heap.size 0 1 1 = sl w6.heap.size 0 1 1 from rfl]
    generalize w6.drew.alloc (CB [.int .i64 x] T.int) = w7 at *
    have h7 := h6.old B7
    have bm7 := h7.bm
    simp (disch := first | omega | (simp only [sZb, sZa, sZd] <;> omega) | (simp (disch := first | omega | (simp only [sZb, sZa, sZd] <;> omega) | fail) only [go_sem, bm7]; done) | fail) only [go_sem, dec_t, dec_f, w_u32, w_u64, w_u16, w_u8, w_i64, Int.reduceToNat, Int.reducePow, Nat.reducePow, bm7]
    refine ⟨trivial, trivial, ?_⟩
    rw [Nat.mul_one] at rb2
    have z7 := B7.size
    refine oAppendR (z := .int .i64 0) (size := 1) (bytes := 8) U.sl_int infoI rfl (by omega) o7 (rb2.old B7) (by simp) (fun u hu => oneC_I _ u (List.mem_of_mem_drop hu)) (by show 1 + (m.ats.length - i) ≤ maxLen; simp only [maxLen]; omega) (by show (1 + (m.ats.length - i)) * 8 ≤ _; omega) (by omega) fun v8 w8 o8 g8 a8 => ?_
    have B8 : Below w6.heap.size w6 w8 := B7.trans (own_bel o7 g8 (by omega))
    have h8 := h6.old B8
    have bm8 := h8.bm
    simp (disch := first | omega | (simp only [sZb, sZa, sZd] <;> omega) | (simp (disch := first | omega | (simp only [sZb, sZa, sZd] <;> omega) | fail) only [go_sem, bm8]; done) | fail) only [go_sem, dec_t, dec_f, w_u32, w_u64, w_u16, w_u8, w_i64, Int.reduceToNat, Int.reducePow, Nat.reducePow, bm8]
    refine ⟨trivial, ?_⟩
    rw [Nat.mul_one] at of2
    have z8 := B8.size
    have e8 : [Value.int .i64 (x : Int)] ++ (m.ats.map fun (n : Nat) => Value.int .i64 n).drop i = (x :: m.ats.drop i).map fun (n : Nat) => Value.int .i64 n := by simp
    have o8' : w8.ownsRow w6.heap.size T.int 1 v8 (1 + (m.ats.length - i)) ((x :: m.ats.drop i).map fun (n : Nat) => Value.int .i64 n) := by rw [← e8]; exact o8
    have r8 : RowS w8 v8 (1 + (m.ats.length - i)) ((x :: m.ats.drop i).map fun (n : Nat) => Value.int .i64 n) := by
      obtain ⟨b5, cap5, cur5, rfl, q1, q2, q3, q4, q5, q6⟩ := own_row o8' (by omega)
      refine .inl ⟨b5, 0, cap5, rfl, ?_⟩
      rw [q4]
      have hlen : ((x :: m.ats.drop i).map fun (n : Nat) => Value.int .i64 n).length = 1 + (m.ats.length - i) := by simp; omega
      simp only [rowOf, hlen]
      rw [if_pos (by simp only [List.size_toArray]; omega)]
      rw [Nat.mul_one] at q6
      simpa using q6
    refine oAppendR (z := .int .i64 0) (size := 1) (bytes := 8) U.sl_int infoI rfl (by omega) (own_old of2 B8 (Nat.le_refl _)) r8 (by simp; omega) (oneC_I _) (by simp only [maxLen]; omega) (by omega) (by have := h6.ge p ((h6.own p).2 (by rw [h6.rp]; decide)); have := h8.in_ (b := p) (by rw [h8.rp]; decide); omega) fun v9 w9 o9 g9 a9 => ?_
    have e9 : (m.ats.map fun (n : Nat) => Value.int .i64 n).take i ++ (x :: m.ats.drop i).map (fun (n : Nat) => Value.int .i64 n) = (m.ats.take i ++ x :: m.ats.drop i).map fun (n : Nat) => Value.int .i64 n := by simp
    have K9 : Kp w8 w9 fun b => va.ownBlock = some b := by
      have := Kp.of_grown g9
      rw [bf2] at this
      exact this
    have lp6 : p < w6.heap.size := h6.in_ (by rw [h6.rp]; decide)
    have np6 : va.ownBlock ≠ some p := fun e => by have := h6.ra p e; rw [h6.rp] at this; cases this
    have bm9 : bk w9 p = some (CB [v5, va, vd, .map (some q)] T.spec_Mem) := by rw [K9.block p (by omega) np6]; exact bm8
    have one9 : v9.oneCell' = true := by obtain ⟨_, _, rfl⟩ := own_slice o9; rfl
    obtain ⟨F10, ρ10, h10, t10⟩ := h8.setAs K9 (ats' := m.ats.take i ++ x :: m.ats.drop i) (by
      have : (m.ats.take i ++ x :: m.ats.drop i).length = i + (1 + (m.ats.length - i)) := by simp; omega
      rw [this, ← e9]; exact o9) (by
      rcases a9 with a9 | a9
      · exact .inl (by rw [a9, bf2])
      · exact .inr fun b hb => by rw [a9] at hb; have := Option.some.inj hb; omega)
    simp (disch := first | omega | (simp only [sZb, sZa, sZd] <;> omega) | (simp (disch := first | omega | (simp only [sZb, sZa, sZd] <;> omega) | fail) only [go_sem, bm9, one9]; done) | fail) only [go_sem, dec_t, dec_f, w_u32, w_u64, w_u16, w_u8, w_i64, Int.reduceToNat, Int.reducePow, Nat.reducePow, bm9, one9]
    exact hk _ _ ⟨_, _, _, _, _, _, _, _, _, h10⟩ (T6.trans (Tr.before B8 t10))
  · cases e1 : (SM.place m.names l).2 with
    | true =>
      have hlt := hp2 e1
      simp only [e1, if_true] at hk
      obtain ⟨g, cur, g1, g2, g3, g4, g5, g6⟩ := own_idx U.sl_int (by kernel_rfl) h.oa (i := i) (by omega)
      rw [Nat.mul_one] at g6
      have hcl : i < cur.length := by omega
      simp (disch := first | omega | (simp only [sZb, sZa, sZd] <;> omega) | (simp (disch := first | omega | (simp only [sZb, sZa, sZd] <;> omega) | fail) only [go_sem, bm, g6, g3, hcl]; done) | fail) only [go_sem, dec_t, dec_f, w_u32, w_u64, w_u16, w_u8, w_i64, Int.reduceToNat, Int.reducePow, Nat.reducePow, bm, g6, g3, hcl]
      obtain ⟨h2, t2⟩ := h.setA (x := x) (i := i) (by omega) g1 g3 g5
      exact hk _ _ ⟨_, _, _, _, _, _, _, _, _, h2⟩ t2
    | false =>
      simp (disch := first | omega | (simp only [sZb, sZa, sZd] <;> omega) | (simp (disch := first | omega | (simp only [sZb, sZa, sZd] <;> omega) | fail) only [go_sem]; done) | fail) only [go_sem, dec_t, dec_f, w_u32, w_u64, w_u16, w_u8, w_i64, Int.reduceToNat, Int.reducePow, Nat.reducePow]
      exact ⟨trivial, trivial⟩
end Go.Proofs.YteblpejgenehfaaDoor.X
end
section
namespace Go.Proofs.YteblpejgenehfaaDoor.X
open Go Go.X Go.Proofs Go.RowKit
theorem nodesC_len (ns : List SM.Node) (ds : List Value) (h : ds.length = ns.length) : (nodesC ns ds).length = ns.length * 5 := by
  unfold nodesC
  have : ∀ (ns : List SM.Node) (ds : List Value), ds.length = ns.length → (List.zipWith nodeC ns ds).flatten.length = ns.length * 5 := by
    intro ns
    induction ns with
    | nil => intro ds h; simp
    | cons n ns ih =>
      intro ds h
      cases ds with
      | nil => simp at h
      | cons d ds => simp at h; simp [ih ds h]; omega
  exact this ns ds h
theorem nodesC_snoc (ns : List SM.Node) (ds : List Value) (h : ds.length = ns.length) (n : SM.Node) (d : Value) : nodesC (ns ++ [n]) (ds ++ [d]) = nodesC ns ds ++ nodeC n d := by
  unfold nodesC
  rw [List.zipWith_append h.symm]
  simp
theorem nodesC_at (ns : List SM.Node) (ds : List Value) (h : ds.length = ns.length) {i : Nat} (hi : i < ns.length) : ((nodesC ns ds).drop (i * 5)).take 5 = nodeC ns[i] (ds[i]'(by omega)) := by
  unfold nodesC
  induction ns generalizing ds i with
  | nil => simp at hi
  | cons n ns ih =>
    cases ds with
    | nil => simp at h
    | cons d ds =>
      simp at h
      cases i with
      | zero => simp
      | succ i =>
        simp only [List.length_cons] at hi
        have := ih ds h (i := i) (by omega)
        simp only [List.zipWith_cons_cons, List.flatten_cons, List.getElem_cons_succ]
        rw [← this]
        congr 1
        rw [show (i + 1) * 5 = (nodeC n d).length + i * 5 by simp; omega, List.drop_append]
        simp
theorem nodesC_set (ns : List SM.Node) (ds : List Value) (h : ds.length = ns.length) {i : Nat} (hi : i < ns.length) (n : SM.Node) (d : Value) : nodesC (ns.set i n) (ds.set i d) = (nodesC ns ds).take (i * 5) ++ nodeC n d ++ (nodesC ns ds).drop (i * 5 + 5) := by
  unfold nodesC
  induction ns generalizing ds i with
  | nil => simp at hi
  | cons a ns ih =>
    cases ds with
    | nil => simp at h
    | cons e ds =>
      simp at h
      cases i with
      | zero => simp
      | succ i =>
        simp only [List.length_cons] at hi
        have := ih ds h (i := i) (by omega)
        simp only [List.set_cons_succ, List.zipWith_cons_cons, List.flatten_cons]
        rw [this, show (i + 1) * 5 = (nodeC a e).length + i * 5 by simp; omega, List.take_length_add_append, show (nodeC a e).length + i * 5 + 5 = (nodeC a e).length + (i * 5 + 5) by omega, List.drop_length_add_append]
        simp only [List.append_assoc]
end Go.Proofs.YteblpejgenehfaaDoor.X
end
section
namespace Go.Proofs.YteblpejgenehfaaDoor.X
open Go Go.X Go.Proofs Go.RowKit
section
variable {w w' : World} {B p : Nat} {m : SM.Mem} {F : Fp} {vn va vd : Value} {q : Nat} {ds : List Value} {hl : ML Int} {c : Nat} {hb : Int → Nat} {ρ : Nat → Rl}
theorem MemX.more (h : MemX w B p m F vn va vd q ds hl c hb ρ) {U : Nat → Prop} (hU : ∀ b, U b → b < w.heap.size) : MemX w B p m ⟨F.own, fun b => F.use b ∨ U b⟩ vn va vd q ds hl c hb ρ :=
  ⟨h.own, fun b hb => .inl (h.sub b hb), fun b hb => hb.elim (h.lt b) (hU b), h.ge, h.rp, h.bm, h.on, h.rn, h.oa, h.ra, h.od, h.rd, h.dl, fun i h1 h2 => ⟨(h.db i h1 h2).1, fun b hb => ⟨.inl ((h.db i h1 h2).2 b hb).1, ((h.db i h1 h2).2 b hb).2⟩⟩, h.rq, h.bq, h.wf, h.hm, h.bh⟩
theorem MemX.setD (h : MemX w B p m F vn va vd q ds hl c hb ρ) {w5 : World} {v' : Value} {nodes' : List SM.Node} {ds' : List Value} (k : Kp w w5 fun b => vd.ownBlock = some b) (o : w5.ownsRow B T.spec_MemNode 5 v' nodes'.length (nodesC nodes' ds')) (a : v'.ownBlock = vd.ownBlock ∨ ∀ b, v'.ownBlock = some b → w.heap.size ≤ b)
    (hd : ds'.length = nodes'.length) (hdb : ∀ i (h1 : i < ds'.length) (h2 : i < nodes'.length), BS w ds'[i] nodes'[i].data ∧ ∀ b, ds'[i].ownBlock = some b → F.use b ∧ ρ b = .no) :
    ∃ F' ρ', MemX (setb w5 p (CB [vn, va, v', .map (some q)] T.spec_Mem)) B p { m with nodes := nodes' } F' vn va v' q ds' hl c hb ρ' ∧ Tr w (setb w5 p (CB [vn, va, v', .map (some q)] T.spec_Mem)) F F' := by
  have hG : ∀ b, b < w.heap.size → vd.ownBlock = some b → ρ b = .nds := fun b _ e => h.rd b e
  have l := h.only k hG (by decide)
  have k2 := Kp.setb w5 p (CB [vn, va, v', .map (some q)] T.spec_Mem)
  have lp5 := Nat.lt_of_lt_of_le (h.in_ (b := p) (by rw [h.rp]; decide)) k.size
  have vl : ∀ b, v'.ownBlock = some b → b < w5.heap.size := fun b hb => (own_in o b hb).2
  have ge' : ∀ b, v'.ownBlock = some b → B ≤ b := fun b hb => (own_in o b hb).1
  have old : ∀ b, v'.ownBlock = some b → b < w.heap.size → ρ b = .nds := fun b e hb => by
    rcases a with a | a
    · exact h.rd b (by rw [← a]; exact e)
    · have := a b e; omega
  obtain ⟨ρ', hρ⟩ : ∃ ρ' : Nat → Rl, ρ' = fun b => if v'.ownBlock = some b then .nds else ρ b := ⟨_, rfl⟩
  have r1 : ∀ b, v'.ownBlock = some b → ρ' b = .nds := fun b e => by rw [hρ]; exact if_pos e
  have r2 : ∀ b, b < w.heap.size → ρ' b = ρ b := fun b hb => by
    rw [hρ]
    by_cases e : v'.ownBlock = some b
    · simp only [e, if_true]; exact (old b e hb).symm
    · simp only [e, if_false]
  have up : ∀ b, F.use b → b < w.heap.size := h.lt
  have keep : ∀ b {R : Rl}, ρ b = R → R ≠ .no → ρ' b = R := fun b R e hn => by rw [r2 b (h.in_ (by rw [e]; exact hn))]; exact e
  have ne : ∀ b, ρ b ≠ .no → ρ b ≠ .mem → b ≠ p := fun b _ h2 e => h2 (by rw [e]; exact h.rp)
  refine ⟨⟨fun b => ρ' b ≠ .no, fun b => F.use b ∨ v'.ownBlock = some b⟩, ρ', ⟨fun b => Iff.rfl, fun b hb => ?_, fun b hb => ?_, fun b hb => ?_, keep p h.rp (by decide), bk_setb_eq _ _ _ _ rfl lp5, own_kp (l.on (by decide)) k2 fun b hb e => ?_, fun b hb => keep b (h.rn b hb) (by decide), own_kp (l.oa (by decide)) k2 fun b hb e => ?_, fun b hb => keep b (h.ra b hb) (by decide), own_kp o k2 fun b hb e => ?_, r1, hd, fun i h1 h2 => ?_, keep q h.rq (by decide), ?_, h.wf, h.hm, fun x y hx => ⟨keep _ (h.bh x y hx).1 (fun e => by cases e), ?_⟩⟩, ?_⟩
  · by_cases e : v'.ownBlock = some b
    · exact .inr e
    · left
      refine h.sub b ((h.own b).2 fun e2 => hb ?_)
      rw [hρ]; simp only [e, if_false]; exact e2
  · show b < (setb w5 p _).heap.size
    rw [sZb]
    rcases hb with hb | hb
    · exact l.lt b hb
    · exact vl b hb
  · by_cases e : v'.ownBlock = some b
    · exact ge' b e
    · refine h.ge b ((h.own b).2 fun e2 => hb ?_)
      rw [hρ]; simp only [e, if_false]; exact e2
  · subst e
    have := h.rn _ hb
    rw [h.rp] at this; cases this
  · subst e
    have := h.ra _ hb
    rw [h.rp] at this; cases this
  · subst e
    have h1 := r1 _ hb
    rw [keep _ h.rp (by decide)] at h1
    cases h1
  · obtain ⟨d1, d2⟩ := hdb i h1 h2
    have d3 : BS w5 ds'[i] nodes'[i].data := BS_kp d1 k fun b hb e => by
      have := (d2 b hb).2
      rw [h.rd b e] at this; cases this
    refine ⟨BS_kp d3 k2 fun b hb e => ?_, fun b hb => ⟨.inl (d2 b hb).1, ?_⟩⟩
    · subst e
      have := (d2 _ hb).2
      rw [h.rp] at this; cases this
    · rw [r2 b (up b (d2 b hb).1)]; exact (d2 b hb).2
  · rw [bk_setb_ne _ _ _ _ (ne q (by rw [h.rq]; decide) (by rw [h.rq]; decide))]
    exact l.bq (by decide)
  · have h1 := (h.bh x y hx).1
    rw [bk_setb_ne _ _ _ _ (ne _ (by rw [h1]; exact fun e => by cases e) (by rw [h1]; exact fun e => by cases e))]
    exact l.bh x y hx (fun e => by cases e)
  · refine ⟨(Kp_sub k fun b hb hg => (h.own b).2 (by rw [h.rd b hg]; decide)).trans k2 fun b hb e => (h.own b).2 (by rw [e, h.rp]; decide), fun b hb => ⟨fun x => ?_, fun x => ?_⟩⟩
    · have x' : ρ' b ≠ .no := x
      rw [r2 b hb] at x'
      exact (h.own b).2 x'
    · rcases x with x | x
      · exact x
      · exact h.sub b ((h.own b).2 (by rw [old b x hb]; decide))
theorem MemX.turnD (h : MemX w B p m F vn va vd q ds hl c hb ρ) {g : Nat} {cur cur' : List Value} {nodes' : List SM.Node} {ds' : List Value} (hg : vd.ownBlock = some g) (hc : bk w g = some (CB cur T.spec_MemNode)) (hcl : cur'.length = cur.length) (hn : nodes'.length = m.nodes.length) (ht : cur'.take (m.nodes.length * 5) = nodesC nodes' ds')
    (hd : ds'.length = nodes'.length) (hdb : ∀ i (h1 : i < ds'.length) (h2 : i < nodes'.length), BS w ds'[i] nodes'[i].data ∧ ∀ b, ds'[i].ownBlock = some b → F.use b ∧ ρ b = .no) :
    MemX (setb w g (CB cur' T.spec_MemNode)) B p { m with nodes := nodes' } F vn va vd q ds' hl c hb ρ ∧ Tr w (setb w g (CB cur' T.spec_MemNode)) F F := by
  have rg := h.rd g hg
  have k := Kp.setb w g (CB cur' T.spec_MemNode)
  have hG : ∀ b, b < w.heap.size → b = g → ρ b = .nds := fun b _ e => by rw [e]; exact rg
  have l := h.only k hG (by decide)
  refine ⟨⟨h.own, h.sub, l.lt, h.ge, h.rp, l.bm (by decide), l.on (by decide), h.rn, l.oa (by decide), h.ra, ?_, h.rd, hd, fun i h1 h2 => ?_, h.rq, l.bq (by decide), h.wf, h.hm, fun a b hx => ⟨(h.bh a b hx).1, l.bh a b hx (fun e => by cases e)⟩⟩, h.tr k hG (by decide)⟩
  · have o := own_set h.od hg hc hcl _ (rfl : CB cur' T.spec_MemNode = _)
    rw [ht] at o
    show World.ownsRow _ _ _ _ _ nodes'.length _
    rw [hn]; exact o
  · obtain ⟨d1, d2⟩ := hdb i h1 h2
    exact ⟨BS_kp d1 k fun b hb e => (by have := (d2 b hb).2; rw [e, rg] at this; cases this), d2⟩
end
theorem infoN : (P.info? T.spec_MemNode).map (fun i => (i.zero, i.size, i.bytes)) = some (some (AG (nodeC ⟨false, 0, [], 0, []⟩ (.slice none 0 0))), 5, 64) := by kernel_rfl
theorem infoN2 : (P.info? T.spec_MemNode).map (fun i => (i.zero, i.size)) = some (some (AG (nodeC ⟨false, 0, [], 0, []⟩ (.slice none 0 0))), 5) := by kernel_rfl
theorem BS_one' {w : World} {v : Value} {l : List UInt8} (h : BS w v l) : v.oneCell' = true := by
  obtain ⟨a, c, rfl⟩ := BS_slice h
  rfl
theorem add_spec {w : World} {K : Value → World → Prop} {B p : Nat} {m : SM.Mem} {F : Fp} {l : Str} {n : SM.Node} {dv : Value} (h : MemS w B p m F) (hN : m.names.length ≤ 999999999) (hD : m.nodes.length ≤ 999999999) (hA : m.ats.length = m.names.length)
    (hdv : BS w dv n.data) (hdu : ∀ b, dv.ownBlock = some b → F.use b ∧ ¬ F.own b)
    (hk : ∀ w' F', MemS w' B p (m.add l n) F' → Tr w w' F F' → K (.int .i64 (m.nodes.length : Nat)) w') : Cl P Fn.spec_Mem_add #[pt p 0, S l, AG (nodeC n dv)] w K := by
  obtain ⟨vn, va, vd, q, ds, hl, c, hb, ρ, h⟩ := h
  apply S_spec_Mem_add
  unfold F_spec_Mem_add
  have hdo := BS_one' hdv
  rw [oBox_agg]
  have B1 : Below w.heap.size w (setb (w.alloc (CB (nodeC n dv) T.spec_MemNode)) w.heap.size (CB (nodeC { n with name := l } dv) T.spec_MemNode)) := by repeat (first | exact Below.refl _ _ | assumption | refine bel_setb ?_ (by first | exact Nat.le_refl _ | omega | (simp only [go_sem] <;> omega)) _ | refine Below.alloc ?_ (by first | exact Nat.le_refl _ | omega | (simp only [go_sem]; omega)) _ | refine Below.drew ?_)
  have bb : bk (setb (w.alloc (CB (nodeC n dv) T.spec_MemNode)) w.heap.size (CB (nodeC { n with name := l } dv) T.spec_MemNode)) w.heap.size = some (CB (nodeC { n with name := l } dv) T.spec_MemNode) := bk_setb_eq _ _ _ _ rfl (by simp only [go_sem]; omega)
  simp (disch := first | omega | (simp only [sZb, sZa, sZd] <;> omega) | (simp (disch := first | omega | (simp only [sZb, sZa, sZd] <;> omega) | fail) only [go_sem]; done) | fail) only [go_sem, dec_t, dec_f, w_u32, w_u64, w_u16, w_u8, w_i64, Int.reduceToNat, Int.reducePow, Nat.reducePow]
  generalize setb (w.alloc (CB (nodeC n dv) T.spec_MemNode)) w.heap.size (CB (nodeC { n with name := l } dv) T.spec_MemNode) = w2 at *
  have h2 := h.old B1
  have bm2 := h2.bm
  simp (disch := first | omega | (simp only [sZb, sZa, sZd] <;> omega) | (simp (disch := first | omega | (simp only [sZb, sZa, sZd] <;> omega) | fail) only [go_sem, bm2, bb]; done) | fail) only [go_sem, dec_t, dec_f, w_u32, w_u64, w_u16, w_u8, w_i64, Int.reduceToNat, Int.reducePow, Nat.reducePow, bm2, bb]
  rw [oBuildSliceN (size := 5) _ _ U.sl_spec_MemNode infoN2 (by omega) (by omega) rfl]
  have z1 := B1.size
  have lw2 : w.heap.size < w2.heap.size := bk_lt bb
  have B3 : Below w2.heap.size w2 (w2.drew.alloc (CB (nodeC { n with name := l } dv) T.spec_MemNode)) := by repeat (first | exact Below.refl _ _ | assumption | refine bel_setb ?_ (by first | exact Nat.le_refl _ | omega | (simp only [go_sem] <;> omega)) _ | refine Below.alloc ?_ (by first | exact Nat.le_refl _ | omega | (simp only [go_sem]; omega)) _ | refine Below.drew ?_)
  have r3 : rowOf (bk (w2.drew.alloc (CB (nodeC { n with name := l } dv) T.spec_MemNode)) w2.heap.size) 0 5 = some (nodeC { n with name := l } dv) := by
    rw [bk_alloc_eq _ _ _ (by rfl)]; rfl
  rw [show sl w2.drew.heap.size 0 1 1 = sl w2.heap.size 0 1 1 from rfl]
  generalize w2.drew.alloc (CB (nodeC { n with name := l } dv) T.spec_MemNode) = w3 at *
  have h3 := h2.old B3
  have bm3 := h3.bm
  have z3 := B3.size
  simp (disch := first | omega | (simp only [sZb, sZa, sZd] <;> omega) | (simp (disch := first | omega | (simp only [sZb, sZa, sZd] <;> omega) | fail) only [go_sem, bm3]; done) | fail) only [go_sem, dec_t, dec_f, w_u32, w_u64, w_u16, w_u8, w_i64, Int.reduceToNat, Int.reducePow, Nat.reducePow, bm3]
  refine ⟨trivial, ?_⟩
  have lp : p < w.heap.size := h.in_ (by rw [h.rp]; decide)
  have gp : B ≤ p := h.ge p ((h.own p).2 (by rw [h.rp]; decide))
  refine oAppendR (size := 5) (bytes := 64) (news := nodeC { n with name := l } dv) U.sl_spec_MemNode infoN rfl (by omega) h3.od (.inl ⟨_, _, _, rfl, r3⟩) rfl (fun u hu => by
    simp at hu
    rcases hu with rfl | rfl | rfl | rfl | rfl <;> first | exact hdo | rfl) (by simp only [maxLen]; omega) (by omega) (by omega) fun v5 w5 o5 g5 a5 => ?_
  rw [← nodesC_snoc _ _ h.dl] at o5
  have K5 : Kp w3 w5 fun b => vd.ownBlock = some b := Kp.of_grown g5
  have np : vd.ownBlock ≠ some p := fun e => by have := h.rd p e; rw [h.rp] at this; cases this
  have bm5 : bk w5 p = some (CB [vn, va, vd, .map (some q)] T.spec_Mem) := by rw [K5.block p (by omega) np]; exact bm3
  have one5 : v5.oneCell' = true := by obtain ⟨_, _, rfl⟩ := own_slice o5; rfl
  have B13 : Below w.heap.size w w3 := B1.trans (B3.mono (by omega))
  obtain ⟨F6, ρ6, h6, t6⟩ := h3.setD K5 (nodes' := m.nodes ++ [{ n with name := l }]) (ds' := ds ++ [dv]) (by
    have : (m.nodes ++ [{ n with name := l }]).length = m.nodes.length + 1 := by simp
    rw [this]; exact o5) (by
    rcases a5 with a5 | a5
    · exact .inl a5
    · exact .inr fun b hb => by rw [a5] at hb; have := Option.some.inj hb; omega) (by simp [h.dl]) (fun i h1 h2 => by
    have hdl := h.dl
    by_cases hi : i < ds.length
    · have hi2 : i < m.nodes.length := by omega
      rw [List.getElem_append_left hi, List.getElem_append_left hi2]
      obtain ⟨d1, d2⟩ := h3.db i hi hi2
      exact ⟨d1, d2⟩
    · have e1 : i = ds.length := by simp at h1; omega
      subst e1
      have e2 : (m.nodes ++ [{ n with name := l }])[ds.length] = { n with name := l } := by simp [hdl]
      rw [e2]
      have e3 : (ds ++ [dv])[ds.length] = dv := by simp
      rw [e3]
      refine ⟨BS_old hdv B13 (Nat.le_refl _), fun b hb => ⟨(hdu b hb).1, ?_⟩⟩
      have := (hdu b hb).2
      rw [h.own] at this
      exact Decidable.not_not.1 this)
  obtain ⟨av5, cap5, rfl⟩ := own_slice o5
  simp (disch := first | omega | (simp only [sZb, sZa, sZd] <;> omega) | (simp (disch := first | omega | (simp only [sZb, sZa, sZd] <;> omega) | fail) only [go_sem, bm5, one5]; done) | fail) only [go_sem, dec_t, dec_f, w_u32, w_u64, w_u16, w_u8, w_i64, Int.reduceToNat, Int.reducePow, Nat.reducePow, bm5, one5]
  have T6 := Tr.before B13 t6
  generalize setb w5 p (CB [vn, va, .slice av5 (m.nodes.length + 1) cap5, .map (some q)] T.spec_Mem) = w6 at *
  have bm6 := h6.bm
  simp (disch := first | omega | (simp only [sZb, sZa, sZd] <;> omega) | (simp (disch := first | omega | (simp only [sZb, sZa, sZd] <;> omega) | fail) only [go_sem, bm6]; done) | fail) only [go_sem, dec_t, dec_f, w_u32, w_u64, w_u16, w_u8, w_i64, Int.reduceToNat, Int.reducePow, Nat.reducePow, bm6]
  have e6 : (((m.nodes.length + 1 : Nat) : Int) - 1) = (m.nodes.length : Nat) := by omega
  rw [e6]
  refine put_spec ⟨_, _, _, _, _, _, _, _, _, h6⟩ hN hA fun w7 F7 h7 t7 => ?_
  have T7 := T6.trans t7
  have h7' := h7
  obtain ⟨vn7, va7, vd7, q7, ds7, hl7, c7, hb7, ρ7, h7x⟩ := h7
  have bm7 := h7x.bm
  have ln7 : ((SM.Mem.put { m with nodes := m.nodes ++ [{ n with name := l }] } l m.nodes.length).nodes).length = m.nodes.length + 1 := by
    unfold SM.Mem.put
    simp only
    split <;> simp
  obtain ⟨av7, cap7, rfl⟩ := own_slice h7x.od
  rw [ln7] at bm7
  simp (disch := first | omega | (simp only [sZb, sZa, sZd] <;> omega) | (simp (disch := first | omega | (simp only [sZb, sZa, sZd] <;> omega) | fail) only [go_sem, bm7]; done) | fail) only [go_sem, dec_t, dec_f, w_u32, w_u64, w_u16, w_u8, w_i64, Int.reduceToNat, Int.reducePow, Nat.reducePow, bm7]
  rw [e6]
  exact hk _ _ h7' T7
end Go.Proofs.YteblpejgenehfaaDoor.X
end
section
namespace Go.Proofs.YteblpejgenehfaaDoor.X
open Go Go.X Go.Proofs Go.RowKit Go.Lib
theorem put_str {v : Value} {n B : Nat} {xs : List Value} {l : List UInt8} {w : World} {K : Value → World → Prop} (hv : w.ownsRow B T.string 1 v n xs) (hn : n ≤ 1000000000) (hB : B ≤ w.heap.size)
    (h : ∀ b c w', w'.ownsRow B T.string 1 (sl b 0 (n + 1) c) (n + 1) (xs ++ [S l]) → Below B w w' → K (sl b 0 (n + 1) c) w') :
    st P (oBuildSlice T.sl_string 1 #[(0, S l)]) w fun t31 w4 => st P (oBuiltin .append #[T.sl_string, T.sl_string] T.sl_string #[false, false] #[v, t31]) w4 K := by
  rw [oBuildSlice1 (z := S []) _ _ U.sl_string (by kernel_rfl) rfl]
  have hb : Below w.heap.size w (w.alloc (CB [S l] T.string)) := (Below.refl _ _).alloc (Nat.le_refl _) _
  refine oAppend_own (size := 1) (bytes := 16) (z := S []) (news := [S l]) _ _ U.sl_string (by kernel_rfl) rfl (by omega) (own_old hv hb (Nat.le_refl _)) rfl ?_ (fun u hu => by simp only [List.mem_singleton] at hu; subst hu; rfl) (by simp only [maxLen]; omega) (by omega) (by simp only [go_sem]; omega) fun v' w' g1 g2 => ?_
  · rw [bk_alloc_eq _ _ _ rfl]
    rfl
  · obtain ⟨b, cap, cur, rfl, _⟩ := own_row g1 (by omega)
    exact h _ _ _ g1 ((hb.mono hB).trans g2)
theorem memName_spec {l : List UInt8} {w : World} {K : Value → World → Prop} (hl : l.length ≤ 400) (h : ∀ w', Below w.heap.size w w' → K (S (norm l)) w') : Cl P Fn.spec_MemName #[S l] w K := by
  apply S_spec_MemName
  unfold F_spec_MemName
  have hro : ∀ (L : Value → World → Prop), L (.bool (l.head? == some 47)) w.drew →
      (gd (.bool (decide ((l.length : Int) > 0))) true w.drew (fun K1 => K1 (S l) w.drew) fun t16 w1 =>
        gd (.bool (decide ((l.length : Int) > 0))) true w1 (fun K2 => pu P (oIdx T.string t16 (.int .i64 0)) fun v => K2 v w1) fun t17 w2 =>
        gd (.bool (decide ((l.length : Int) > 0))) true w2 (fun K3 => pu P (oBin .eql T.uint8 false true t17 (.int .u8 47)) fun v => K3 v w2) fun t18 w3 =>
        pu P (oPick (.bool (decide ((l.length : Int) > 0))) t18 (.bool false)) fun t19 => L t19 w3) := by
    intro L hL
    cases l with
    | nil =>
      have g : ¬ ((([] : List UInt8).length : Int) > 0) := by simp
      simp (disch := first | omega | (simp only [sZb, sZa, sZd] <;> omega) | (simp (disch := first | omega | (simp only [sZb, sZa, sZd] <;> omega) | fail) only [go_sem]; done) | fail) only [go_sem, dec_t, dec_f, w_u32, w_u64, w_u16, w_u8, w_i64, Int.reduceToNat, Int.reducePow, Nat.reducePow]
      exact hL
    | cons c r =>
      have g : (((c :: r).length : Int) > 0) := by simp only [List.length_cons]; omega
      have ix : ∀ (L : Value → Prop), pu P (oIdx T.string (S (c :: r)) (.int .i64 0)) L = L (.int .u8 c.toNat) := fun L => oIdxS L T.string (c :: r) .i64 0 U.string (by omega) g
      simp (disch := first | omega | (simp only [sZb, sZa, sZd] <;> omega) | (simp (disch := first | omega | (simp only [sZb, sZa, sZd] <;> omega) | fail) only [go_sem, ix]; done) | fail) only [go_sem, dec_t, dec_f, w_u32, w_u64, w_u16, w_u8, w_i64, Int.reduceToNat, Int.reducePow, Nat.reducePow, ix]
      have e : decide ((c.toNat : Int) = 47) = ((c :: r).head? == some 47) := by
        by_cases q : c = 47
        · subst q; rfl
        · have q2 : ¬ (c.toNat : Int) = 47 := fun x => q (UInt8.toNat_inj.1 (by rw [show (47 : UInt8).toNat = 47 from rfl]; omega))
          simp [q, q2]
      rw [e]
      exact hL
  rw [V.len_string]
  rw [oGtr]
  refine hro _ ?_
  generalize hroo : (l.head? == some 47) = ro
  rw [oBuildSlice0 (n := 1) _ _ U.sl_string (by kernel_rfl)]
  refine jn_with (fun t w' => ∃ b cap st, t = [sl b 0 st.length cap] ∧ w'.ownsRow w.heap.size T.string 1 (sl b 0 st.length cap) st.length (st.reverse.map S) ∧ Below w.heap.size w w' ∧ st = outOf l ∧ st.length ≤ 1000) ?_ ?_
  · rintro t e w1 ⟨b, cap, st, rfl, hv, B1, hst, hle⟩
    have hlen : ∀ x ∈ st.reverse, x.length ≤ 400 := fun x hx => by
      have := (out_mem l x (by rw [← hst]; exact List.mem_reverse.1 hx)).1
      omega
    have hnl := norm_eq l
    rw [hroo, ← hst] at hnl
    have hrl : st.reverse.length = st.length := List.length_reverse
    generalize st.reverse = xs at hlen hnl hrl hv
    refine jn_with (fun t w' => t = [S (jf ro xs)] ∧ Below w.heap.size w w') ?_ ?_
    · rintro t e w2 ⟨rfl, B2⟩
      refine jn_with (fun t w' => t = [] ∧ w' = w2 ∧ norm l = jf ro xs) ?_ ?_
      · rintro t e w3 ⟨rfl, rfl, hn⟩
        have := h _ B2
        rw [hn] at this
        exact this
      · have hk := h _ B2
        rw [hnl] at hk
        by_cases c1 : jf ro xs = []
        · rw [if_pos (.inl c1)] at hk
          simp (disch := first | omega | (simp only [sZb, sZa, sZd] <;> omega) | (simp (disch := first | omega | (simp only [sZb, sZa, sZd] <;> omega) | fail) only [go_sem, c1, decide_true]; done) | fail) only [go_sem, dec_t, dec_f, w_u32, w_u64, w_u16, w_u8, w_i64, Int.reduceToNat, Int.reducePow, Nat.reducePow, c1, decide_true]
          exact hk
        by_cases c2 : jf ro xs = [46, 46]
        · rw [if_pos (.inr c2)] at hk
          have n1 : decide (([46, 46] : List UInt8) = []) = false := rfl
          simp (disch := first | omega | (simp only [sZb, sZa, sZd] <;> omega) | (simp (disch := first | omega | (simp only [sZb, sZa, sZd] <;> omega) | fail) only [go_sem, c2, n1, decide_true]; done) | fail) only [go_sem, dec_t, dec_f, w_u32, w_u64, w_u16, w_u8, w_i64, Int.reduceToNat, Int.reducePow, Nat.reducePow, c2, n1, decide_true]
          exact hk
        · have e1 : norm l = jf ro xs := by rw [hnl, if_neg (by simp [c1, c2])]
          simp (disch := first | omega | (simp only [sZb, sZa, sZd] <;> omega) | (simp (disch := first | omega | (simp only [sZb, sZa, sZd] <;> omega) | fail) only [go_sem, c1, c2, decide_false]; done) | fail) only [go_sem, dec_t, dec_f, w_u32, w_u64, w_u16, w_u8, w_i64, Int.reduceToNat, Int.reducePow, Nat.reducePow, c1, c2, decide_false]
          exact ⟨trivial, trivial, e1⟩
    · simp (disch := first | omega | (simp only [sZb, sZa, sZd] <;> omega) | (simp (disch := first | omega | (simp only [sZb, sZa, sZd] <;> omega) | fail) only [go_sem]; done) | fail) only [go_sem, dec_t, dec_f, w_u32, w_u64, w_u16, w_u8, w_i64, Int.reduceToNat, Int.reducePow, Nat.reducePow]
      refine lp_intro (fun t w' => w' = w1 ∧ ∃ i : Nat, t = [S (jf ro (xs.take i)), .int .i64 i] ∧ i ≤ xs.length ∧ (jf ro (xs.take i)).length ≤ i * 401) (fun t _ => xs.length - (RowKit.intOf (gs t 1)).toNat) ⟨rfl, 0, ?_, by omega, ?_⟩ ?_
      · cases ro <;> rfl
      · cases ro <;> simp [jf, List.intercalate]
      rintro t e w2 ⟨rfl, i, rfl, hi, hjl⟩
      by_cases g : (i : Int) < st.length
      · have hix : i < xs.length := by omega
        simp (disch := first | omega | (simp only [sZb, sZa, sZd] <;> omega) | (simp (disch := first | omega | (simp only [sZb, sZa, sZd] <;> omega) | fail) only [go_sem]; done) | fail) only [go_sem, dec_t, dec_f, w_u32, w_u64, w_u16, w_u8, w_i64, Int.reduceToNat, Int.reducePow, Nat.reducePow]
        refine jn_with (fun t w' => t = [] ∧ w' = w2) ?_ ⟨rfl, rfl⟩
        rintro t e w3 ⟨rfl, rfl⟩
        have hxl := hlen xs[i] (List.getElem_mem hix)
        have hsn := jf_snoc ro (xs.take i) xs[i]
        rw [← take_snoc hix] at hsn
        have hlen2 : (jf ro (xs.take (i + 1))).length ≤ (i + 1) * 401 := by
          rw [hsn]
          split <;> simp only [List.length_append, List.length_cons, List.length_nil] <;> omega
        refine jn_with (fun t w' => w' = w3 ∧ t = [S (jf ro (xs.take (i + 1)))]) ?_ ?_
        · rintro t e w4 ⟨rfl, rfl⟩
          simp (disch := first | omega | (simp only [sZb, sZa, sZd] <;> omega) | (simp (disch := first | omega | (simp only [sZb, sZa, sZd] <;> omega) | fail) only [go_sem]; done) | fail) only [go_sem, dec_t, dec_f, w_u32, w_u64, w_u16, w_u8, w_i64, Int.reduceToNat, Int.reducePow, Nat.reducePow]
          refine ⟨⟨trivial, i + 1, rfl, by omega, hlen2⟩, ?_⟩
          simp only [RowKit.intOf]
          omega
        · have ix : ∀ (L : Value → Prop), pu P (oIdxA T.sl_string (sl b 0 st.length cap) (.int .i64 i)) L = L (pt b i) := fun L => by
            rw [oIdxA_sl (size := 1) L U.sl_string (by kernel_rfl) (by omega) (by omega)]
            rw [show 0 + (i : Int).toNat * 1 = i by omega]
          have cell : cellOf (bk w3 b) i = some (S xs[i]) := by
            obtain ⟨b', cap', cur, e1, q1, q2, q3, q4, q5, q6⟩ := own_row hv (by omega)
            injection e1 with e1 e2 e3
            injection e1 with e1
            injection e1 with e1
            subst e1 e3
            rw [q4, cellOf_CB]
            have h7 : (cur.take (st.length * 1))[i]? = some (S xs[i]) := by rw [q6]; simp [hix]
            rwa [List.getElem?_take_of_lt (by omega)] at h7
          simp (disch := first | omega | (simp only [sZb, sZa, sZd] <;> omega) | (simp (disch := first | omega | (simp only [sZb, sZa, sZd] <;> omega) | fail) only [go_sem, ix, cell]; done) | fail) only [go_sem, dec_t, dec_f, w_u32, w_u64, w_u16, w_u8, w_i64, Int.reduceToNat, Int.reducePow, Nat.reducePow, ix, cell]
          have i0 : (xs.take i ≠ []) ↔ 0 < i := by
            rw [Ne, List.take_eq_nil_iff, not_or]
            refine ⟨fun h => by omega, fun h => ⟨by omega, fun h2 => by rw [h2] at hix; simp at hix⟩⟩
          refine jn_with (fun t w' => w' = w3 ∧ t = [S (if List.take i xs ≠ [] ∨ ro = true then jf ro (List.take i xs) ++ [47] else jf ro (List.take i xs))]) ?_ ?_
          · rintro t e w4 ⟨rfl, rfl⟩
            have hq : (if List.take i xs ≠ [] ∨ ro = true then jf ro (List.take i xs) ++ [47] else jf ro (List.take i xs)).length ≤ i * 401 + 1 := by
              split
              · simp only [List.length_append, List.length_cons, List.length_nil]; omega
              · omega
            rw [gs0, oAddS _ T.string _ _ _ _ (by omega), ← hsn]
            exact ⟨rfl, rfl⟩
          · by_cases q : (0 : Int) < i
            · have hc : List.take i xs ≠ [] ∨ ro = true := .inl (i0.2 (by omega))
              rw [if_pos hc]
              simp (disch := first | omega | (simp only [sZb, sZa, sZd] <;> omega) | (simp (disch := first | omega | (simp only [sZb, sZa, sZd] <;> omega) | fail) only [go_sem]; done) | fail) only [go_sem, dec_t, dec_f, w_u32, w_u64, w_u16, w_u8, w_i64, Int.reduceToNat, Int.reducePow, Nat.reducePow]
              rw [oAddS _ T.string _ _ _ _ (by simp only [List.length_cons, List.length_nil]; omega)]
              exact ⟨trivial, rfl⟩
            · cases ro with
              | true =>
                rw [if_pos (.inr rfl)]
                simp (disch := first | omega | (simp only [sZb, sZa, sZd] <;> omega) | (simp (disch := first | omega | (simp only [sZb, sZa, sZd] <;> omega) | fail) only [go_sem]; done) | fail) only [go_sem, dec_t, dec_f, w_u32, w_u64, w_u16, w_u8, w_i64, Int.reduceToNat, Int.reducePow, Nat.reducePow]
                rw [oAddS _ T.string _ _ _ _ (by simp only [List.length_cons, List.length_nil]; omega)]
                exact ⟨trivial, rfl⟩
              | false =>
                have hc : ¬ (List.take i xs ≠ [] ∨ false = true) := by rw [i0]; simp; omega
                rw [if_neg hc]
                simp (disch := first | omega | (simp only [sZb, sZa, sZd] <;> omega) | (simp (disch := first | omega | (simp only [sZb, sZa, sZd] <;> omega) | fail) only [go_sem]; done) | fail) only [go_sem, dec_t, dec_f, w_u32, w_u64, w_u16, w_u8, w_i64, Int.reduceToNat, Int.reducePow, Nat.reducePow]
                exact ⟨trivial, trivial⟩
      · have e1 : i = xs.length := by omega
        subst e1
        simp (disch := first | omega | (simp only [sZb, sZa, sZd] <;> omega) | (simp (disch := first | omega | (simp only [sZb, sZa, sZd] <;> omega) | fail) only [go_sem]; done) | fail) only [go_sem, dec_t, dec_f, w_u32, w_u64, w_u16, w_u8, w_i64, Int.reduceToNat, Int.reducePow, Nat.reducePow]
        refine jn_with (fun _ _ => False) (fun _ _ _ h => h.elim) ?_
        rw [List.take_length]
        exact ⟨rfl, B1⟩
  · refine lp_intro (fun t w' => ∃ b cap st, ∃ i : Nat, t = [sl b 0 st.length cap, .int .i64 i] ∧ w'.ownsRow w.heap.size T.string 1 (sl b 0 st.length cap) st.length (st.reverse.map S) ∧ Below w.heap.size w w' ∧ st.length ≤ i ∧ i ≤ l.length + 1 ∧ (ro = true → ∀ x ∈ st, x ≠ [46, 46]) ∧ (rest l i).foldl (Pa.cleanStep ro) st = outOf l)
      (fun t _ => l.length + 2 - (RowKit.intOf (gs t 1)).toNat) ⟨w.heap.size, 0, [], 0, rfl, ?_, ((Below.refl _ _).drew).alloc (Nat.le_refl _) _, by simp, by omega, (fun _ x hx => by cases hx), ?_⟩ ?_
    · refine ⟨rfl, .inr ⟨_, _, #[], rfl, Nat.le_refl _, bk_alloc_eq w.drew _ _ rfl, by simp, by simp [maxLen], by simp, by simp⟩⟩
    · rw [rest, if_pos (by omega), List.drop_zero, outOf, hroo]
    rintro t e w1 ⟨b, cap, st, i, rfl, hv, B1, hsi, hi, hdd, hst⟩
    by_cases g : (i : Int) < l.length
    · simp (disch := first | omega | (simp only [sZb, sZa, sZd] <;> omega) | (simp (disch := first | omega | (simp only [sZb, sZa, sZd] <;> omega) | fail) only [go_sem]; done) | fail) only [go_sem, dec_t, dec_f, w_u32, w_u64, w_u16, w_u8, w_i64, Int.reduceToNat, Int.reducePow, Nat.reducePow]
      refine jn_with (fun t w' => t = [] ∧ w' = w1) ?_ ⟨rfl, rfl⟩
      rintro t e w2 ⟨rfl, rfl⟩
      refine jn_with (fun t w' => w' = w2 ∧ ∃ j : Nat, t = [.int .i64 j] ∧ i ≤ j ∧ j ≤ l.length ∧ (∀ k (hk : k < l.length), i ≤ k → k < j → l[k] ≠ 47) ∧ (j = l.length ∨ ∃ h : j < l.length, l[j] = 47)) ?_ ?_
      · rintro t e w3 ⟨rfl, j, rfl, hij, hjl, hno, hend⟩
        have hstep := rest_step hij hjl hno hend
        have hmove : ∀ (st' : List (List UInt8)), st' = Pa.cleanStep ro st ((l.drop i).take (j - i)) → (rest l (j + 1)).foldl (Pa.cleanStep ro) st' = outOf l := fun st' h' => by
          rw [← hst, hstep, List.foldl_cons, h']
        refine jn_with (fun t w' => ∃ b cap st', t = [sl b 0 st'.length cap] ∧ w'.ownsRow w.heap.size T.string 1 (sl b 0 st'.length cap) st'.length (st'.reverse.map S) ∧ Below w.heap.size w w' ∧ st'.length ≤ st.length + 1 ∧ (ro = true → ∀ x ∈ st', x ≠ [46, 46]) ∧ st' = Pa.cleanStep ro st ((l.drop i).take (j - i))) ?_ ?_
        · rintro t e w4 ⟨b', cap', st', rfl, hv', B4, hle', hdd', hst'⟩
          simp (disch := first | omega | (simp only [sZb, sZa, sZd] <;> omega) | (simp (disch := first | omega | (simp only [sZb, sZa, sZd] <;> omega) | fail) only [go_sem]; done) | fail) only [go_sem, dec_t, dec_f, w_u32, w_u64, w_u16, w_u8, w_i64, Int.reduceToNat, Int.reducePow, Nat.reducePow]
          refine ⟨⟨b', cap', st', j + 1, rfl, hv', B4, by omega, by omega, hdd', hmove st' hst'⟩, ?_⟩
          simp only [RowKit.intOf]
          omega
        · have sx : ∀ (L : Value → Prop), pu P (oSlice T.string (S l) (some (.int .i64 i)) (some (.int .i64 j)) none) L = L (S ((l.drop i).take (j - i))) := fun L => by
            rw [oSliceS L T.string l .i64 .i64 i j U.string (by omega) (by omega) (by omega)]
            rw [show (i : Int).toNat = i by omega, show (j : Int).toNat = j by omega]
          rw [gs0, sx]
          generalize ((l.drop i).take (j - i)) = el at *
          by_cases c1 : el = []
          · simp (disch := first | omega | (simp only [sZb, sZa, sZd] <;> omega) | (simp (disch := first | omega | (simp only [sZb, sZa, sZd] <;> omega) | fail) only [go_sem, c1, decide_true]; done) | fail) only [go_sem, dec_t, dec_f, w_u32, w_u64, w_u16, w_u8, w_i64, Int.reduceToNat, Int.reducePow, Nat.reducePow, c1, decide_true]
            exact ⟨b, cap, st, rfl, hv, B1, by omega, hdd, by simp [Pa.cleanStep, c1]⟩
          by_cases c2 : el = [46]
          · have e1 : decide (([46] : List UInt8) = []) = false := rfl
            simp (disch := first | omega | (simp only [sZb, sZa, sZd] <;> omega) | (simp (disch := first | omega | (simp only [sZb, sZa, sZd] <;> omega) | fail) only [go_sem, c2, e1, decide_true]; done) | fail) only [go_sem, dec_t, dec_f, w_u32, w_u64, w_u16, w_u8, w_i64, Int.reduceToNat, Int.reducePow, Nat.reducePow, c2, e1, decide_true]
            exact ⟨b, cap, st, rfl, hv, B1, by omega, hdd, by simp [Pa.cleanStep, c2]⟩
          by_cases c3 : el = [46, 46]
          · have n1 : decide (([46, 46] : List UInt8) = []) = false := rfl
            have n2 : decide (([46, 46] : List UInt8) = [46]) = false := rfl
            have n3 : (([46, 46] : List UInt8) ≠ [46, 46]) = False := by simp
            subst c3
            have push : ∀ (w4 : World), w4 = w3 → (ro = false) → Pa.cleanStep ro st [46, 46] = [46, 46] :: st → X.st P (oBuildSlice T.sl_string 1 #[(0, S [46, 46])]) w4 fun t53 w22 => X.st P (oBuiltin .append #[T.sl_string, T.sl_string] T.sl_string #[false, false] #[sl b 0 st.length cap, t53]) w22 fun t54 w23 =>
                ∃ b cap st', [t54] = [sl b 0 st'.length cap] ∧ w23.ownsRow w.heap.size T.string 1 (sl b 0 st'.length cap) st'.length (List.map S st'.reverse) ∧ Below w.heap.size w w23 ∧ st'.length ≤ st.length + 1 ∧ (ro = true → ∀ (x : List UInt8), x ∈ st' → x ≠ [46, 46]) ∧ st' = Pa.cleanStep ro st [46, 46] := by
              rintro w4 rfl hr hc
              refine put_str hv (by omega) B1.size fun b' c' w' g1 g2 => ?_
              refine ⟨b', c', [46, 46] :: st, rfl, by simpa using g1, B1.trans g2, by simp, ?_, hc.symm⟩
              intro h; rw [hr] at h; cases h
            cases st with
            | nil =>
              have z : ¬ ((0 : Int) < (([] : List (List UInt8)).length : Int)) := by simp
              cases ro with
              | true =>
                simp (disch := first | omega | (simp only [sZb, sZa, sZd] <;> omega) | (simp (disch := first | omega | (simp only [sZb, sZa, sZd] <;> omega) | fail) only [go_sem, n1, n2, n3, decide_false]; done) | fail) only [go_sem, dec_t, dec_f, w_u32, w_u64, w_u16, w_u8, w_i64, Int.reduceToNat, Int.reducePow, Nat.reducePow, n1, n2, n3, decide_false]
                exact ⟨b, cap, [], rfl, hv, B1, by omega, fun _ => hdd rfl, rfl⟩
              | false =>
                simp (disch := first | omega | (simp only [sZb, sZa, sZd] <;> omega) | (simp (disch := first | omega | (simp only [sZb, sZa, sZd] <;> omega) | fail) only [go_sem, n1, n2, n3, decide_false]; done) | fail) only [go_sem, dec_t, dec_f, w_u32, w_u64, w_u16, w_u8, w_i64, Int.reduceToNat, Int.reducePow, Nat.reducePow, n1, n2, n3, decide_false]
                exact push _ rfl rfl rfl
            | cons x r =>
              have z : ((0 : Int) < ((x :: r).length : Int)) := by simp only [List.length_cons]; omega
              obtain ⟨b', cap', cur, e1, q1, q2, q3, q4, q5, q6⟩ := own_row hv (by simp)
              injection e1 with e1 e2 e3
              injection e1 with e1
              injection e1 with e1
              subst e1 e3
              have ix : ∀ (L : Value → Prop), pu P (oIdxA T.sl_string (sl b 0 (x :: r).length cap) (.int .i64 (((x :: r).length : Int) - 1))) L = L (pt b r.length) := fun L => by
                rw [oIdxA_sl (size := 1) L U.sl_string (by kernel_rfl) (by omega) (by omega)]
                rw [show 0 + (((x :: r).length : Int) - 1).toNat * 1 = r.length by simp only [List.length_cons]; omega]
              have cell : cellOf (bk w3 b) r.length = some (S x) := by
                rw [q4, cellOf_CB]
                have h7 : (cur.take ((x :: r).length * 1))[r.length]? = some (S x) := by rw [q6]; simp
                rwa [List.getElem?_take_of_lt (by simp)] at h7
              by_cases c4 : x = [46, 46]
              · have hr : ro = false := by
                  cases ro with
                  | false => rfl
                  | true => exact absurd c4 (hdd rfl x (by simp))
                subst hr
                have n4 : (x ≠ [46, 46]) = False := by simp [c4]
                simp (disch := first | omega | (simp only [sZb, sZa, sZd] <;> omega) | (simp (disch := first | omega | (simp only [sZb, sZa, sZd] <;> omega) | fail) only [go_sem, n1, n2, n3, n4, decide_false, ix, cell]; done) | fail) only [go_sem, dec_t, dec_f, w_u32, w_u64, w_u16, w_u8, w_i64, Int.reduceToNat, Int.reducePow, Nat.reducePow, n1, n2, n3, n4, decide_false, ix, cell]
                exact push _ rfl rfl (by simp [Pa.cleanStep, c4])
              · have n4 : (x ≠ [46, 46]) = True := by simp [c4]
                simp (disch := first | omega | (simp only [sZb, sZa, sZd] <;> omega) | (simp (disch := first | omega | (simp only [sZb, sZa, sZd] <;> omega) | fail) only [go_sem, n1, n2, n3, n4, decide_false, decide_true, ix, cell]; done) | fail) only [go_sem, dec_t, dec_f, w_u32, w_u64, w_u16, w_u8, w_i64, Int.reduceToNat, Int.reducePow, Nat.reducePow, n1, n2, n3, n4, decide_false, decide_true, ix, cell]
                rw [oSlice_hi (size := 1) _ U.sl_string (by kernel_rfl) (by omega) (by omega)]
                rw [show (((x :: r).length : Int) - 1).toNat = r.length by simp only [List.length_cons]; omega]
                have hv2 := own_take hv (show r.length ≤ (x :: r).length by simp)
                refine ⟨b, cap, r, rfl, by simpa using hv2, B1, by simp only [List.length_cons]; omega, fun h y hy => hdd h y (List.mem_cons_of_mem _ hy), by simp [Pa.cleanStep, c4]⟩
          · simp (disch := first | omega | (simp only [sZb, sZa, sZd] <;> omega) | (simp (disch := first | omega | (simp only [sZb, sZa, sZd] <;> omega) | fail) only [go_sem, c1, c2, c3, decide_false]; done) | fail) only [go_sem, dec_t, dec_f, w_u32, w_u64, w_u16, w_u8, w_i64, Int.reduceToNat, Int.reducePow, Nat.reducePow, c1, c2, c3, decide_false]
            refine put_str hv (by omega) B1.size fun b' c' w' g1 g2 => ?_
            refine ⟨b', c', el :: st, rfl, by simpa using g1, B1.trans g2, by simp, ?_, by simp [Pa.cleanStep, c1, c2, c3]⟩
            intro h x hx
            rcases List.mem_cons.1 hx with rfl | hx
            · exact c3
            · exact hdd h x hx
      · refine lp_intro (fun t w' => w' = w2 ∧ ∃ j : Nat, t = [.int .i64 j] ∧ i ≤ j ∧ j ≤ l.length ∧ (∀ k (hk : k < l.length), i ≤ k → k < j → l[k] ≠ 47)) (fun t _ => l.length - (RowKit.intOf (gs t 0)).toNat) ⟨rfl, i, rfl, by omega, by omega, fun k _ h1 h2 => by omega⟩ ?_
        rintro t e w3 ⟨rfl, j, rfl, hij, hjl, hno⟩
        by_cases q : (j : Int) < l.length
        · have hj : j < l.length := by omega
          have ix : ∀ (L : Value → Prop), pu P (oIdx T.string (S l) (.int .i64 j)) L = L (.int .u8 l[j].toNat) := fun L => by
            rw [oIdxS L T.string l .i64 j U.string (by omega) q]
            rw [show (j : Int).toNat = j by omega]
            simp [List.getD, hj]
          by_cases q2 : l[j] = 47
          · have q3 : ¬ ((l[j].toNat : Int) ≠ 47) := by rw [q2]; decide
            refine jn_with (fun _ _ => False) (fun _ _ _ h => h.elim) ?_
            simp (disch := first | omega | (simp only [sZb, sZa, sZd] <;> omega) | (simp (disch := first | omega | (simp only [sZb, sZa, sZd] <;> omega) | fail) only [go_sem, ix]; done) | fail) only [go_sem, dec_t, dec_f, w_u32, w_u64, w_u16, w_u8, w_i64, Int.reduceToNat, Int.reducePow, Nat.reducePow, ix]
            exact ⟨trivial, j, rfl, hij, hjl, hno, .inr ⟨hj, q2⟩⟩
          · have q3 : (l[j].toNat : Int) ≠ 47 := fun x => q2 (UInt8.toNat_inj.1 (by rw [show (47 : UInt8).toNat = 47 from rfl]; omega))
            refine jn_with (fun t w' => t = [] ∧ w' = w3) ?_ ?_
            · rintro t e w4 ⟨rfl, rfl⟩
              simp (disch := first | omega | (simp only [sZb, sZa, sZd] <;> omega) | (simp (disch := first | omega | (simp only [sZb, sZa, sZd] <;> omega) | fail) only [go_sem]; done) | fail) only [go_sem, dec_t, dec_f, w_u32, w_u64, w_u16, w_u8, w_i64, Int.reduceToNat, Int.reducePow, Nat.reducePow]
              refine ⟨⟨trivial, j + 1, rfl, by omega, by omega, ?_⟩, ?_⟩
              · intro k hk h1 h2
                by_cases ek : k = j
                · subst ek; exact q2
                · exact hno k hk h1 (by omega)
              · simp only [RowKit.intOf]
                omega
            · simp (disch := first | omega | (simp only [sZb, sZa, sZd] <;> omega) | (simp (disch := first | omega | (simp only [sZb, sZa, sZd] <;> omega) | fail) only [go_sem, ix]; done) | fail) only [go_sem, dec_t, dec_f, w_u32, w_u64, w_u16, w_u8, w_i64, Int.reduceToNat, Int.reducePow, Nat.reducePow, ix]
              exact ⟨trivial, trivial⟩
        · refine jn_with (fun _ _ => False) (fun _ _ _ h => h.elim) ?_
          simp (disch := first | omega | (simp only [sZb, sZa, sZd] <;> omega) | (simp (disch := first | omega | (simp only [sZb, sZa, sZd] <;> omega) | fail) only [go_sem]; done) | fail) only [go_sem, dec_t, dec_f, w_u32, w_u64, w_u16, w_u8, w_i64, Int.reduceToNat, Int.reducePow, Nat.reducePow]
          exact ⟨trivial, j, rfl, hij, hjl, hno, .inl (by omega)⟩
    · simp (disch := first | omega | (simp only [sZb, sZa, sZd] <;> omega) | (simp (disch := first | omega | (simp only [sZb, sZa, sZd] <;> omega) | fail) only [go_sem]; done) | fail) only [go_sem, dec_t, dec_f, w_u32, w_u64, w_u16, w_u8, w_i64, Int.reduceToNat, Int.reducePow, Nat.reducePow]
      refine jn_with (fun _ _ => False) (fun _ _ _ h => h.elim) ?_
      refine ⟨b, cap, st, rfl, hv, B1, ?_, by omega⟩
      rw [← hst]
      unfold rest
      by_cases q : i ≤ l.length
      · rw [if_pos q, List.drop_eq_nil_of_le (by omega)]
        simp [Pa.els, Pa.cleanStep]
      · rw [if_neg q]; rfl
end Go.Proofs.YteblpejgenehfaaDoor.X
end
section
namespace Go.Proofs.YteblpejgenehfaaDoor.X
open Go Go.X Go.Proofs Go.RowKit
theorem BS_nil (w : World) : BS w (.slice none 0 0) [] := .inl ⟨rfl, _, _, rfl⟩
theorem parentsF_spec {B p : Nat} {m : SM.Mem} {perm : Int} (hr : (m.find [47]).isSome = true) (hA : m.ats.length = m.names.length) : ∀ (f : Nat) (l : Str) {w : World} {K : Value → World → Prop} {F : Fp}, l.length + 1 < f → f ≤ 1000 → m.names.length ≤ 999990000 → m.nodes.length ≤ 999990000 → MemS w B p m F →
    (∀ w' F', MemS w' B p (m.parentsF l perm f) F' → Tr w w' F F' → K (tup []) w') → Cl P Fn.spec_Mem_parents #[pt p 0, S l, .int .i64 perm] w K := by
  intro f
  induction f with
  | zero => intro l w K F hf; omega
  | succ f ih =>
    intro l w K F hf hf2 hN hD h hk
    apply S_spec_Mem_parents
    unfold F_spec_Mem_parents
    rw [C.spec_MemParent]
    refine parent_spec (by omega) ?_
    rw [C.spec_Mem_Find]
    refine find_spec h (by omega) hA ?_
    simp only [SM.Mem.parentsF] at hk
    rw [oExtract2_0, oExtract2_1]
    cases hfd : m.find (SM.parent l) with
    | some x =>
      rw [hfd] at hk
      simp (disch := first | omega | (simp only [sZb, sZa, sZd] <;> omega) | (simp (disch := first | omega | (simp only [sZb, sZa, sZd] <;> omega) | fail) only [go_sem, Option.isSome_some]; done) | fail) only [go_sem, dec_t, dec_f, w_u32, w_u64, w_u16, w_u8, w_i64, Int.reduceToNat, Int.reducePow, Nat.reducePow, Option.isSome_some]
      exact hk _ _ h (Tr.refl _ _)
    | none =>
      rw [hfd] at hk
      simp only at hk
      have hp : SM.parent l ≠ [47] := fun e => by rw [e] at hfd; rw [hfd] at hr; cases hr
      have hlt := (SM.parent_lt l).resolve_right hp
      simp (disch := first | omega | (simp only [sZb, sZa, sZd] <;> omega) | (simp (disch := first | omega | (simp only [sZb, sZa, sZd] <;> omega) | fail) only [go_sem, Option.isSome_none]; done) | fail) only [go_sem, dec_t, dec_f, w_u32, w_u64, w_u16, w_u8, w_i64, Int.reduceToNat, Int.reducePow, Nat.reducePow, Option.isSome_none]
      refine ih (SM.parent l) (by omega) (by omega) hN hD h fun w1 F1 h1 t1 => ?_
      obtain ⟨l1, l2, l3⟩ := SM.parentsF_lens m perm f (SM.parent l)
      refine add_spec (n := ⟨true, orI 2147483648 perm, [], 0, []⟩) (dv := .slice none 0 0) h1 (by omega) (by omega) (l3 hA) (BS_nil _) (fun b hb => by cases hb) fun w2 F2 h2 t2 => ?_
      exact hk _ _ h2 (t1.trans t2)
theorem parents_spec {w : World} {K : Value → World → Prop} {B p : Nat} {m : SM.Mem} {F : Fp} {l : Str} {perm : Int} (h : MemS w B p m F) (hr : (m.find [47]).isSome = true) (hA : m.ats.length = m.names.length) (hl : l.length ≤ 900) (hN : m.names.length ≤ 999990000) (hD : m.nodes.length ≤ 999990000)
    (hk : ∀ w' F', MemS w' B p (m.parents l perm) F' → Tr w w' F F' → K (tup []) w') : Cl P Fn.spec_Mem_parents #[pt p 0, S l, .int .i64 perm] w K :=
  parentsF_spec hr hA (l.length + 2) l (by omega) (by omega) hN hD h hk
theorem children_spec {w : World} {K : Value → World → Prop} {B p : Nat} {m : SM.Mem} {F : Fp} {d : Str} (h : MemS w B p m F) (hN : m.names.length ≤ 999999999) (hL : ∀ x ∈ m.names, x.length ≤ 140737488355328)
    (hk : ∀ w' v, w'.ownsRow w.heap.size T.string 1 v (m.children d).length ((m.children d).map S) → Below w.heap.size w w' → K v w') : Cl P Fn.spec_Mem_Children #[pt p 0, S d] w K := by
  apply S_spec_Mem_Children
  unfold F_spec_Mem_Children
  rw [oBuildSlice0 (n := 1) _ _ U.sl_string (by kernel_rfl)]
  have B1 : Below w.heap.size w (w.alloc (CB [] T.string)) := by repeat (first | exact Below.refl _ _ | assumption | refine bel_setb ?_ (by first | exact Nat.le_refl _ | omega | (simp only [go_sem] <;> omega)) _ | refine Below.alloc ?_ (by first | exact Nat.le_refl _ | omega | (simp only [go_sem]; omega)) _ | refine Below.drew ?_)
  have o1 : (w.alloc (CB [] T.string)).ownsRow w.heap.size T.string 1 (sl w.heap.size 0 0 0) 0 [] := ⟨rfl, .inr ⟨w.heap.size, 0, #[], rfl, Nat.le_refl _, heap_alloc_new w _, Nat.le_refl _, by simp [maxLen], rfl, rfl⟩⟩
  generalize w.alloc (CB [] T.string) = w1 at *
  obtain ⟨vn, va, vd, q, ds, hl, c, hb, ρ, h⟩ := h
  have h1 := h.old B1
  have bm1 := h1.bm
  have z1 := B1.size
  refine jn_with (fun t w' => ∃ v, t = [v] ∧ w'.ownsRow w.heap.size T.string 1 v (m.children d).length ((m.children d).map S) ∧ Below w.heap.size w w') ?_ ?_
  · rintro t e w2 ⟨v, rfl, o2, B2⟩
    exact hk _ _ o2 B2
  · obtain ⟨a, cap, ev⟩ := own_slice h1.on
    subst ev
    simp (disch := first | omega | (simp only [sZb, sZa, sZd] <;> omega) | (simp (disch := first | omega | (simp only [sZb, sZa, sZd] <;> omega) | fail) only [go_sem, bm1]; done) | fail) only [go_sem, dec_t, dec_f, w_u32, w_u64, w_u16, w_u8, w_i64, Int.reduceToNat, Int.reducePow, Nat.reducePow, bm1]
    refine lp_intro (fun s w' => ∃ v, ∃ i : Nat, s = [v, .int .i64 i] ∧ i ≤ m.names.length ∧ w'.ownsRow w.heap.size T.string 1 v (SM.Mem.children { m with names := m.names.take i } d).length ((SM.Mem.children { m with names := m.names.take i } d).map S) ∧ Below w.heap.size w w') (fun s w' => (m.names.length - (intOf (gs s 1))).toNat) ?_ ?_
    · exact ⟨_, 0, rfl, Nat.zero_le _, o1, B1⟩
    · rintro s u w2 ⟨v, i, rfl, hi, o2, B2⟩
      rw [gs1, oLss]
      refine jn_with (fun t w' => w' = w2 ∧ i < m.names.length) ?_ ?_
      · rintro t e w3 ⟨rfl, hi1⟩
        have h3 := h.old B2
        obtain ⟨g, g1, g2, g3, g4⟩ := own_strs h1.on rfl hi1
        obtain ⟨g', g1', g2', g3', g4'⟩ := own_strs h3.on rfl hi1
        have lx := hL m.names[i] (List.getElem_mem hi1)
        have ect : SM.Mem.children { m with names := m.names.take (i + 1) } d = SM.Mem.children { m with names := m.names.take i } d ++ (if m.names[i] ≠ [47] ∧ SM.parent m.names[i] = d then [m.names[i]] else []) := by
          unfold SM.Mem.children
          simp only [List.take_succ_eq_append_getElem hi1, List.filter_append]
          congr 1
          by_cases c1 : m.names[i] = [47]
          · simp [c1]
          · by_cases c2 : SM.parent m.names[i] = d <;> simp [c1, c2]
        have clen : (SM.Mem.children { m with names := m.names.take i } d).length ≤ i := by
          unfold SM.Mem.children
          refine Nat.le_trans (List.length_filter_le _ _) ?_
          simp only [List.length_take]
          omega
        refine jn_with (fun t w' => ∃ v, t = [v] ∧ w'.ownsRow w.heap.size T.string 1 v (SM.Mem.children { m with names := m.names.take (i + 1) } d).length ((SM.Mem.children { m with names := m.names.take (i + 1) } d).map S) ∧ Below w.heap.size w w') ?_ ?_
        · rintro t e w4 ⟨v4, rfl, o4, B4⟩
          simp (disch := first | omega | (simp only [sZb, sZa, sZd] <;> omega) | (simp (disch := first | omega | (simp only [sZb, sZa, sZd] <;> omega) | fail) only [go_sem]; done) | fail) only [go_sem, dec_t, dec_f, w_u32, w_u64, w_u16, w_u8, w_i64, Int.reduceToNat, Int.reducePow, Nat.reducePow]
          refine ⟨⟨v4, i + 1, rfl, by omega, o4, B4⟩, ?_⟩
          simp only [gs1, intOf]; omega
        · rw [g3, show pt g i = pt g' i by rw [Option.some.inj (g1.symm.trans g1')], g4' w3 rfl]
          have fin : ¬ (m.names[i] ≠ [47] ∧ SM.parent m.names[i] = d) → w3.ownsRow w.heap.size T.string 1 v (SM.Mem.children { m with names := m.names.take (i + 1) } d).length ((SM.Mem.children { m with names := m.names.take (i + 1) } d).map S) := fun hn => by
            rw [ect, if_neg hn, List.append_nil]; exact o2
          by_cases c1 : m.names[i] = [47]
          · simp (disch := first | omega | (simp only [sZb, sZa, sZd] <;> omega) | (simp (disch := first | omega | (simp only [sZb, sZa, sZd] <;> omega) | fail) only [go_sem, c1, decide_true, decide_false, ne_eq, not_true_eq_false]; done) | fail) only [go_sem, dec_t, dec_f, w_u32, w_u64, w_u16, w_u8, w_i64, Int.reduceToNat, Int.reducePow, Nat.reducePow, c1, decide_true, decide_false, ne_eq, not_true_eq_false]
            exact ⟨_, rfl, fin fun x => x.1 c1, B2⟩
          · simp (disch := first | omega | (simp only [sZb, sZa, sZd] <;> omega) | (simp (disch := first | omega | (simp only [sZb, sZa, sZd] <;> omega) | fail) only [go_sem, c1, decide_true, not_false_eq_true, ne_eq]; done) | fail) only [go_sem, dec_t, dec_f, w_u32, w_u64, w_u16, w_u8, w_i64, Int.reduceToNat, Int.reducePow, Nat.reducePow, c1, decide_true, not_false_eq_true, ne_eq]
            refine parent_spec lx ?_
            by_cases c2 : SM.parent m.names[i] = d
            · simp (disch := first | omega | (simp only [sZb, sZa, sZd] <;> omega) | (simp (disch := first | omega | (simp only [sZb, sZa, sZd] <;> omega) | fail) only [go_sem, c2, decide_true]; done) | fail) only [go_sem, dec_t, dec_f, w_u32, w_u64, w_u16, w_u8, w_i64, Int.reduceToNat, Int.reducePow, Nat.reducePow, c2, decide_true]
              refine put_str o2 (by omega) B2.size fun b c w5 o5 B5 => ?_
              refine ⟨_, rfl, ?_, B2.trans B5⟩
              rw [ect, if_pos ⟨c1, c2⟩]
              simpa using o5
            · simp (disch := first | omega | (simp only [sZb, sZa, sZd] <;> omega) | (simp (disch := first | omega | (simp only [sZb, sZa, sZd] <;> omega) | fail) only [go_sem, c2, decide_false]; done) | fail) only [go_sem, dec_t, dec_f, w_u32, w_u64, w_u16, w_u8, w_i64, Int.reduceToNat, Int.reducePow, Nat.reducePow, c2, decide_false]
              exact ⟨_, rfl, fin fun x => c2 x.2, B2⟩
      · by_cases hi1 : i < m.names.length
        · simp (disch := first | omega | (simp only [sZb, sZa, sZd] <;> omega) | (simp (disch := first | omega | (simp only [sZb, sZa, sZd] <;> omega) | fail) only [go_sem]; done) | fail) only [go_sem, dec_t, dec_f, w_u32, w_u64, w_u16, w_u8, w_i64, Int.reduceToNat, Int.reducePow, Nat.reducePow]
          exact ⟨trivial, hi1⟩
        · simp (disch := first | omega | (simp only [sZb, sZa, sZd] <;> omega) | (simp (disch := first | omega | (simp only [sZb, sZa, sZd] <;> omega) | fail) only [go_sem]; done) | fail) only [go_sem, dec_t, dec_f, w_u32, w_u64, w_u16, w_u8, w_i64, Int.reduceToNat, Int.reducePow, Nat.reducePow]
          have : i = m.names.length := by omega
          subst this
          rw [List.take_length] at o2
          exact ⟨v, rfl, o2, B2⟩
end Go.Proofs.YteblpejgenehfaaDoor.X
end
section
namespace Go.Proofs.YteblpejgenehfaaDoor.X
open Go Go.X Go.Proofs Go.RowKit
structure NodeAt (w : World) (vd : Value) (m : SM.Mem) (i : Nat) (d : Value) (g : Nat) (cur : List Value) : Prop where
  ob : vd.ownBlock = some g
  bg : bk w g = some (CB cur T.spec_MemNode)
  len : i * 5 + 5 ≤ cur.length
  ix : ∀ (k : IntKind) (M : Value → Prop), pu P (oIdxA T.sl_spec_MemNode vd (.int k i)) M = M (pt g (i * 5))
  row : (cur.drop (i * 5)).take 5 = nodeC (m.node i) d
  c0 : cur[i * 5]? = some (.bool (m.node i).dir)
  c1 : cur[i * 5 + 1]? = some (.int .i64 (m.node i).mode)
  c2 : cur[i * 5 + 2]? = some d
  c3 : cur[i * 5 + 3]? = some (.int .i64 (m.node i).time)
  c4 : cur[i * 5 + 4]? = some (S (m.node i).name)
theorem node_get {m : SM.Mem} {i : Nat} (h : i < m.nodes.length) : m.node i = m.nodes[i] := by
  unfold SM.Mem.node
  simp [h]
section
variable {w w' : World} {B p : Nat} {m : SM.Mem} {F : Fp} {vn va vd : Value} {q : Nat} {ds : List Value} {hl : ML Int} {c : Nat} {hb : Int → Nat} {ρ : Nat → Rl}
theorem MemX.node (h : MemX w B p m F vn va vd q ds hl c hb ρ) {i : Nat} (hi : i < m.nodes.length) : ∃ g cur, NodeAt w vd m i (ds[i]'(by rw [h.dl]; exact hi)) g cur ∧ m.nodes.length * 5 ≤ cur.length ∧ cur.take (m.nodes.length * 5) = nodesC m.nodes ds := by
  obtain ⟨g, cur, h1, h2, h3, h4, h5, h6⟩ := own_idx U.sl_spec_MemNode (by kernel_rfl) h.od hi
  have hl5 : i * 5 + 5 ≤ m.nodes.length * 5 := by omega
  have row : (cur.drop (i * 5)).take 5 = nodeC (m.node i) (ds[i]'(by rw [h.dl]; exact hi)) := by
    rw [node_get hi, ← nodesC_at m.nodes ds h.dl hi, ← h5, List.drop_take, List.take_take, Nat.min_eq_left (by omega)]
  have gt : ∀ j, j < 5 → cur[i * 5 + j]? = (nodeC (m.node i) (ds[i]'(by rw [h.dl]; exact hi)))[j]? := fun j hj => by
    rw [← row, List.getElem?_take_of_lt hj, List.getElem?_drop]
  exact ⟨g, cur, ⟨h1, h3, by omega, h6, row, gt 0 (by omega), gt 1 (by omega), gt 2 (by omega), gt 3 (by omega), gt 4 (by omega)⟩, h4, h5⟩
theorem MemX.data (h : MemX w B p m F vn va vd q ds hl c hb ρ) {i : Nat} (hi : i < m.nodes.length) : BS w (ds[i]'(by rw [h.dl]; exact hi)) (m.node i).data ∧ ∀ b, (ds[i]'(by rw [h.dl]; exact hi)).ownBlock = some b → F.use b ∧ ρ b = .no := by
  have := h.db i (by rw [h.dl]; exact hi) hi
  rw [node_get hi]; exact this
end
theorem find_lt {m : SM.Mem} (hA : m.ats.length = m.names.length) (hL : ∀ a ∈ m.ats, a < m.nodes.length) {l : Str} {x : Nat} (h : m.find l = some x) : x < m.nodes.length := by
  unfold SM.Mem.find at h
  by_cases e : (SM.place m.names l).2 = true
  · rw [if_pos e] at h
    injection h with h
    have := (place_le m.names l).2 e
    rw [← h]
    have hlt : (SM.place m.names l).1 < m.ats.length := by omega
    simp only [List.getD_eq_getElem?_getD, List.getElem?_eq_getElem hlt, Option.getD_some]
    exact hL _ (List.getElem_mem hlt)
  · rw [if_neg e] at h; cases h
theorem isDir_spec {w : World} {K : Value → World → Prop} {B p : Nat} {m : SM.Mem} {F : Fp} {l : Str} (h : MemS w B p m F) (hN : m.names.length ≤ 999999999) (hA : m.ats.length = m.names.length) (hL : ∀ a ∈ m.ats, a < m.nodes.length)
    (hk : K (.bool (m.isDir l)) w) : Cl P Fn.spec_Mem_isDir #[pt p 0, S l] w K := by
  apply S_spec_Mem_isDir
  unfold F_spec_Mem_isDir
  rw [C.spec_Mem_Find]
  refine find_spec h (by omega) hA ?_
  obtain ⟨vn, va, vd, q, ds, hl, c, hb, ρ, h⟩ := h
  have bm := h.bm
  unfold SM.Mem.isDir at hk
  rw [oExtract2_0, oExtract2_1]
  cases hf : m.find l with
  | none =>
    rw [hf] at hk
    simp (disch := first | omega | (simp only [sZb, sZa, sZd] <;> omega) | (simp (disch := first | omega | (simp only [sZb, sZa, sZd] <;> omega) | fail) only [go_sem, Option.isSome_none]; done) | fail) only [go_sem, dec_t, dec_f, w_u32, w_u64, w_u16, w_u8, w_i64, Int.reduceToNat, Int.reducePow, Nat.reducePow, Option.isSome_none]
    exact hk
  | some x =>
    rw [hf] at hk
    simp only at hk
    obtain ⟨g, cur, na, _, _⟩ := h.node (find_lt hA hL hf)
    have ix := na.ix .i64
    have bg := na.bg
    have c0 := na.c0
    simp (disch := first | omega | (simp only [sZb, sZa, sZd] <;> omega) | (simp (disch := first | omega | (simp only [sZb, sZa, sZd] <;> omega) | fail) only [go_sem, Option.isSome_some, Option.getD_some, bm, ix, bg, c0]; done) | fail) only [go_sem, dec_t, dec_f, w_u32, w_u64, w_u16, w_u8, w_i64, Int.reduceToNat, Int.reducePow, Nat.reducePow, Option.isSome_some, Option.getD_some, bm, ix, bg, c0]
    exact hk
theorem clearF_more (m : SM.Mem) : ∀ (f g : Nat) (l : Str), l.length + 1 < f → l.length + 1 < g → m.clearF l f = m.clearF l g
  | 0, _, _, h, _ => by omega
  | _, 0, _, _, h => by omega
  | f + 1, g + 1, l, h1, h2 => by
    simp only [SM.Mem.clearF]
    by_cases hl : l = [47]
    · rw [if_pos hl, if_pos hl]
    · rw [if_neg hl, if_neg hl]
      have rec_ : m.clearF (SM.parent l) f = m.clearF (SM.parent l) g := by
        rcases SM.parent_lt l with h | h
        · exact clearF_more m f g _ (by omega) (by omega)
        · rw [h]
          cases f with
          | zero => omega
          | succ f => cases g with
            | zero => omega
            | succ g => simp [SM.Mem.clearF]
      rw [rec_]
theorem clear_step (m : SM.Mem) (l : Str) (hl : l ≠ [47]) : m.clear l = (match m.find (SM.parent l) with | some x => if (m.node x).dir = false then false else m.clear (SM.parent l) | none => m.clear (SM.parent l)) := by
  have e : m.clearF (SM.parent l) (l.length + 1) = m.clear (SM.parent l) := by
    unfold SM.Mem.clear
    rcases SM.parent_lt l with h | h
    · exact clearF_more m _ _ _ (by omega) (by omega)
    · rw [h]
      simp [SM.Mem.clearF]
  rw [← e]
  unfold SM.Mem.clear
  simp only [SM.Mem.clearF, if_neg hl]
  rfl
theorem clear_spec {w : World} {K : Value → World → Prop} {B p : Nat} {m : SM.Mem} {F : Fp} {l : Str} (h : MemS w B p m F) (hN : m.names.length ≤ 999999999) (hA : m.ats.length = m.names.length) (hL : ∀ a ∈ m.ats, a < m.nodes.length) (hl : l.length ≤ 1000000000)
    (hk : K (.bool (m.clear l)) w) : Cl P Fn.spec_Mem_clear #[pt p 0, S l] w K := by
  apply S_spec_Mem_clear
  unfold F_spec_Mem_clear
  have h0 := h
  obtain ⟨vn, va, vd, q, ds, hl, c, hb, ρ, h⟩ := h
  have bm := h.bm
  refine jn_with (fun t w' => w' = w ∧ m.clear l = true) ?_ ?_
  · rintro t e w1 ⟨rfl, e1⟩
    rw [e1] at hk
    exact hk
  · refine lp_intro (fun s w' => w' = w ∧ ∃ x : Str, s = [S x] ∧ x.length ≤ 1000000000 ∧ m.clear x = m.clear l) (fun s w' => match gs s 0 with | .string b => if b.data.toList = [47] then 0 else b.data.toList.length + 2 | _ => 0) ⟨rfl, l, rfl, by assumption, rfl⟩ ?_
    rintro s u w1 ⟨rfl, x, rfl, hx, he⟩
    refine jn_with (fun t w' => w' = w1 ∧ x ≠ [47]) ?_ ?_
    · rintro t e w2 ⟨rfl, hne⟩
      rw [gs0, C.spec_MemParent]
      refine parent_spec (by omega) ?_
      rw [C.spec_Mem_Find]
      refine find_spec h0 (by omega) hA ?_
      rw [oExtract2_0, oExtract2_1]
      have hs := clear_step m x hne
      have meas : ∀ y : Str, (y.length < x.length ∨ y = [47]) → (match gs [S y] 0 with | .string b => if b.data.toList = [47] then 0 else b.data.toList.length + 2 | _ => 0) < (match S x with | .string b => if b.data.toList = [47] then 0 else b.data.toList.length + 2 | _ => 0) := fun y hy => by
        simp only [gs0, S]
        rw [if_neg hne]
        split
        · omega
        · rename_i h2
          have := hy.resolve_right h2
          simp; omega
      have pl := SM.parent_lt x
      have pl2 := SM.parent_len x
      have pl3 : (SM.parent x).length ≤ 1000000000 := by
        rcases pl with h | h
        · omega
        · rw [h]; simp
      cases hf : m.find (SM.parent x) with
      | none =>
        rw [hf] at hs
        simp (disch := first | omega | (simp only [sZb, sZa, sZd] <;> omega) | (simp (disch := first | omega | (simp only [sZb, sZa, sZd] <;> omega) | fail) only [go_sem, Option.isSome_none]; done) | fail) only [go_sem, dec_t, dec_f, w_u32, w_u64, w_u16, w_u8, w_i64, Int.reduceToNat, Int.reducePow, Nat.reducePow, Option.isSome_none]
        exact ⟨⟨trivial, _, rfl, pl3, by rw [← he, hs]⟩, meas _ pl⟩
      | some n =>
        rw [hf] at hs
        simp only at hs
        obtain ⟨g, cur, na, _, _⟩ := h.node (find_lt hA hL hf)
        have ix := na.ix .i64
        have bg := na.bg
        have c0 := na.c0
        cases hd : (m.node n).dir with
        | false =>
          rw [hd] at c0 hs
          simp (disch := first | omega | (simp only [sZb, sZa, sZd] <;> omega) | (simp (disch := first | omega | (simp only [sZb, sZa, sZd] <;> omega) | fail) only [go_sem, Option.isSome_some, Option.getD_some, bm, ix, bg, c0]; done) | fail) only [go_sem, dec_t, dec_f, w_u32, w_u64, w_u16, w_u8, w_i64, Int.reduceToNat, Int.reducePow, Nat.reducePow, Option.isSome_some, Option.getD_some, bm, ix, bg, c0]
          rw [← he, hs] at hk
          exact hk
        | true =>
          rw [hd] at c0 hs
          simp (disch := first | omega | (simp only [sZb, sZa, sZd] <;> omega) | (simp (disch := first | omega | (simp only [sZb, sZa, sZd] <;> omega) | fail) only [go_sem, Option.isSome_some, Option.getD_some, bm, ix, bg, c0]; done) | fail) only [go_sem, dec_t, dec_f, w_u32, w_u64, w_u16, w_u8, w_i64, Int.reduceToNat, Int.reducePow, Nat.reducePow, Option.isSome_some, Option.getD_some, bm, ix, bg, c0]
          exact ⟨⟨trivial, _, rfl, pl3, by rw [← he, hs]; rfl⟩, meas _ pl⟩
    · by_cases hc : x = [47]
      · simp (disch := first | omega | (simp only [sZb, sZa, sZd] <;> omega) | (simp (disch := first | omega | (simp only [sZb, sZa, sZd] <;> omega) | fail) only [go_sem, hc, ne_eq, not_true_eq_false, decide_false]; done) | fail) only [go_sem, dec_t, dec_f, w_u32, w_u64, w_u16, w_u8, w_i64, Int.reduceToNat, Int.reducePow, Nat.reducePow, hc, ne_eq, not_true_eq_false, decide_false]
        refine ⟨trivial, ?_⟩
        rw [← he, hc]; rfl
      · simp (disch := first | omega | (simp only [sZb, sZa, sZd] <;> omega) | (simp (disch := first | omega | (simp only [sZb, sZa, sZd] <;> omega) | fail) only [go_sem, hc, ne_eq, not_false_eq_true, decide_true]; done) | fail) only [go_sem, dec_t, dec_f, w_u32, w_u64, w_u16, w_u8, w_i64, Int.reduceToNat, Int.reducePow, Nat.reducePow, hc, ne_eq, not_false_eq_true, decide_true]
        exact ⟨trivial, trivial⟩
theorem named_spec {w : World} {K : Value → World → Prop} {l : Str} (hl : l.length ≤ 140737488355328) (hk : ∀ w', Below w.heap.size w w' → K (.bool (SM.namedS l)) w') : Cl P Fn.spec_named #[S l] w K := by
  apply S_spec_named
  unfold F_spec_named
  unfold SM.namedS at hk
  refine jn_with (fun t w' => w' = w ∧ l.length ≤ 400) ?_ ?_
  · rintro t e w1 ⟨rfl, h4⟩
    rw [C.spec_MemName]
    refine memName_spec h4 fun w2 B2 => ?_
    have q := hk w2 B2
    simp only [h4, decide_true, Bool.true_and] at q
    have hn := norm_len l
    by_cases c1 : 2 < (norm l).length
    · have c1' : (2 : Int) < (norm l).length := by omega
      simp (disch := first | omega | (simp only [sZb, sZa, sZd] <;> omega) | (simp (disch := first | omega | (simp only [sZb, sZa, sZd] <;> omega) | fail) only [go_sem, c1', decide_true]; done) | fail) only [go_sem, dec_t, dec_f, w_u32, w_u64, w_u16, w_u8, w_i64, Int.reduceToNat, Int.reducePow, Nat.reducePow, c1', decide_true]
      rw [oSliceS_hi _ _ _ _ _ U.string (by omega) (by omega)]
      simp (disch := first | omega | (simp only [sZb, sZa, sZd] <;> omega) | (simp (disch := first | omega | (simp only [sZb, sZa, sZd] <;> omega) | fail) only [go_sem]; done) | fail) only [go_sem, dec_t, dec_f, w_u32, w_u64, w_u16, w_u8, w_i64, Int.reduceToNat, Int.reducePow, Nat.reducePow]
      simpa [c1] using q
    · have c1' : ¬ (2 : Int) < (norm l).length := by omega
      simp (disch := first | omega | (simp only [sZb, sZa, sZd] <;> omega) | (simp (disch := first | omega | (simp only [sZb, sZa, sZd] <;> omega) | fail) only [go_sem, c1', decide_false]; done) | fail) only [go_sem, dec_t, dec_f, w_u32, w_u64, w_u16, w_u8, w_i64, Int.reduceToNat, Int.reducePow, Nat.reducePow, c1', decide_false]
      simpa [c1] using q
  · by_cases h4 : l.length ≤ 400
    · simp (disch := first | omega | (simp only [sZb, sZa, sZd] <;> omega) | (simp (disch := first | omega | (simp only [sZb, sZa, sZd] <;> omega) | fail) only [go_sem]; done) | fail) only [go_sem, dec_t, dec_f, w_u32, w_u64, w_u16, w_u8, w_i64, Int.reduceToNat, Int.reducePow, Nat.reducePow]
      exact ⟨trivial, h4⟩
    · have q := hk w (Below.refl _ _)
      simp (disch := first | omega | (simp only [sZb, sZa, sZd] <;> omega) | (simp (disch := first | omega | (simp only [sZb, sZa, sZd] <;> omega) | fail) only [go_sem]; done) | fail) only [go_sem, dec_t, dec_f, w_u32, w_u64, w_u16, w_u8, w_i64, Int.reduceToNat, Int.reducePow, Nat.reducePow]
      simpa [h4] using q
end Go.Proofs.YteblpejgenehfaaDoor.X
end
section
namespace Go.Proofs.YteblpejgenehfaaDoor.X
open Go Go.X Go.Proofs Go.RowKit
theorem infoB : (P.info? T.uint8).map (fun i => (i.zero, i.size, i.bytes)) = some (some (.int .u8 0), 1, 1) := by kernel_rfl
theorem BS_part {w : World} {v : Value} {l : List UInt8} (h : BS w v l) {p q : Nat} (hp : p ≤ q) (hq : q ≤ l.length) :
    ∃ v', BS w v' ((l.drop p).take (q - p)) ∧ (∀ b, v'.ownBlock = some b → v.ownBlock = some b) ∧ ∀ (k j : IntKind) (L : Value → Prop), pu P (oSlice T.sl_uint8 v (some (.int k p)) (some (.int j q)) none) L = L v' := by
  rcases h with ⟨rfl, a, cap, rfl⟩ | ⟨b, o, cap, rfl, h3, h4, h5⟩
  · have hq0 : q = 0 := by simpa using hq
    have hp0 : p = 0 := by omega
    subst hq0 hp0
    refine ⟨.slice a 0 cap, .inl ⟨rfl, _, _, rfl⟩, fun b hb => hb, fun k j L => ?_⟩
    exact oSlice_00 (size := 1) U.sl_uint8 (by kernel_rfl)
  · refine ⟨sl b (if cap = p then o else o + p * 1) (q - p) (cap - p), ?_, fun b hb => hb, fun k j L => ?_⟩
    · have el : ((l.drop p).take (q - p)).length = q - p := by simp; omega
      by_cases e : q - p = 0
      · refine .inl ⟨by rw [List.eq_nil_iff_length_eq_zero, el, e], some ⟨b, if cap = p then o else o + p * 1, none⟩, cap - p, by rw [e]⟩
      · refine .inr ⟨b, _, _, by rw [el], by rw [el]; omega, ?_, h5⟩
        rw [if_neg (by omega), Nat.mul_one]
        unfold rowB at h4 ⊢
        obtain ⟨c', t', fz, e1, e2, e3⟩ := rowOf_inv h4
        rw [e1]
        have e5 : ((l.drop p).take (q - p)).length = q - p := el
        simp only [rowOf, e5]
        rw [if_pos (by omega)]
        congr 1
        rw [List.map_take, List.map_drop, ← e3]
        apply List.ext_getElem?
        intro i
        by_cases hi : i < q - p
        · rw [List.getElem?_take_of_lt hi, List.getElem?_take_of_lt hi, List.getElem?_drop, List.getElem?_drop, List.getElem?_take_of_lt (by omega), List.getElem?_drop]
          congr 1; omega
        · rw [List.getElem?_eq_none (by simp; omega), List.getElem?_eq_none (by simp; omega)]
    · rw [oSlice_sl (size := 1) L U.sl_uint8 (by kernel_rfl) (by omega) (by omega) (by omega)]
      simp
theorem oCopyNo {P : Program} {w : World} {L : Value → World → Prop} {tB tE : TypeId} {cs : Array Bool} {ty : TypeId} (h2 : P.underlying tB = some (.slice tE)) (hs : (P.info? tE).map (·.size) = some 1) {n m cap : Nat} {a a' : Option Addr} :
    st P (oBuiltin .copy #[tB, tB] ty cs #[.slice a' n m, .slice a 0 cap]) w L = L (.int .i64 0) w := by
  refine st_eq_value (run_v' ?_)
  cases hie : P.info? tE with
  | none => rw [hie] at hs; cases hs
  | some ie =>
  cases a <;> cases a' <;> simp [Builtin.copy_, run_underlying h2, sizeOf, typeInfo, hie, Builtin.lenOf, Builtin.firstCells, loadCells, loadCellsFrom, storeCells, goInt]
theorem copy_lit {w : World} {K : Value → World → Prop} {v : Value} {l : List UInt8} {cs : Array Bool} {ty : TypeId} (hv : BS w v l) (hl : l.length ≤ 140737488355328)
    (h : ∀ v' w', w'.ownsRow w.heap.size T.uint8 1 v' l.length (l.map byt) → Below w.heap.size w w' → K v' w') :
    st P (oBuiltin .append #[T.sl_uint8, T.sl_uint8] ty cs #[sl w.heap.size 0 0 0, v]) (w.alloc (CB [] T.uint8)) K := by
  have B1 : Below w.heap.size w (w.alloc (CB [] T.uint8)) := by repeat (first | exact Below.refl _ _ | assumption | refine bel_setb ?_ (by first | exact Nat.le_refl _ | omega | (simp only [go_sem] <;> omega)) _ | refine Below.alloc ?_ (by first | exact Nat.le_refl _ | omega | (simp only [go_sem]; omega)) _ | refine Below.drew ?_)
  have o1 : (w.alloc (CB [] T.uint8)).ownsRow w.heap.size T.uint8 1 (sl w.heap.size 0 0 0) 0 [] := ⟨rfl, .inr ⟨w.heap.size, 0, #[], rfl, Nat.le_refl _, heap_alloc_new w _, Nat.le_refl _, by simp [maxLen], rfl, rfl⟩⟩
  refine oAppendBS U.sl_uint8 infoB o1 (BS_old hv B1 (Nat.le_refl _)) (by omega) (by simp only [go_sem]; omega) fun v' w' o g a => ?_
  exact h _ _ (by simpa using o) (B1.trans (own_bel o1 g (by simp only [go_sem]; omega)))
theorem readFrom_spec {w : World} {K : Value → World → Prop} {v : Value} {l : Str} {pos n : Int} (hv : BS w v l) (hl : l.length ≤ 140737488355328) (h1 : -4611686018427387904 ≤ pos ∧ pos ≤ 4611686018427387904) (h2 : n ≤ 281474976710656)
    (hk : ∀ w' v', BS w' v' (SM.readFrom l pos n).1 → (∀ b, v'.ownBlock = some b → w.heap.size ≤ b ∧ b < w'.heap.size) → Below w.heap.size w w' → K (tup [v', .int .i64 (SM.readFrom l pos n).2]) w') : Cl P Fn.spec_readFrom #[v, .int .i64 pos, .int .i64 n] w K := by
  apply S_spec_readFrom
  unfold F_spec_readFrom
  unfold SM.readFrom at hk
  obtain ⟨a, cap, ev⟩ := BS_slice hv
  have nil : ∀ e, (∀ w' v', BS w' v' [] → (∀ b, v'.ownBlock = some b → w.heap.size ≤ b ∧ b < w'.heap.size) → Below w.heap.size w w' → K (tup [v', .int .i64 e]) w') → K (tup [.slice none 0 0, .int .i64 e]) w := fun e h => h w _ (BS_nil w) (fun b hb => by cases hb) (Below.refl _ _)
  rw [oMaxI]
  refine jn_with (fun t w' => w' = w ∧ 0 ≤ pos ∧ ¬ (0 < max n 0 ∧ pos = l.length) ∧ pos ≤ l.length) ?_ ?_
  · rintro t e w1 ⟨rfl, g0, g1, g2⟩
    rw [if_neg (by omega), if_neg g1, if_neg (by omega)] at hk
    rw [oBuildSlice0 (n := 1) _ _ U.sl_uint8 (by kernel_rfl)]
    obtain ⟨p, rfl⟩ := Int.eq_ofNat_of_zero_le g0
    obtain ⟨k, hkk⟩ := Int.eq_ofNat_of_zero_le (show 0 ≤ max n 0 by omega)
    rw [hkk] at hk ⊢
    obtain ⟨v2, b2, u2, s2⟩ := BS_part hv (p := p) (q := min l.length (p + k)) (by omega) (by omega)
    have em : (min (l.length : Int) ((p : Int) + k)) = ((min l.length (p + k) : Nat) : Int) := by omega
    subst ev
    simp (disch := first | omega | (simp only [sZb, sZa, sZd] <;> omega) | (simp (disch := first | omega | (simp only [sZb, sZa, sZd] <;> omega) | fail) only [go_sem, em, s2]; done) | fail) only [go_sem, dec_t, dec_f, w_u32, w_u64, w_u16, w_u8, w_i64, Int.reduceToNat, Int.reducePow, Nat.reducePow, em, s2]
    have e3 : (l.drop p).take (min l.length (p + k) - p) = (l.drop p).take k := by
      by_cases hc : p + k ≤ l.length
      · rw [Nat.min_eq_right hc]; congr 1; omega
      · rw [Nat.min_eq_left (by omega), List.take_of_length_le (by simp), List.take_of_length_le (by simp; omega)]
    rw [e3] at b2
    refine copy_lit b2 (by simp; omega) fun v3 w3 o3 B3 => ?_
    simp only [Int.toNat_natCast] at hk
    exact hk w3 v3 (BS_own o3) (own_in o3) B3
  · subst ev
    by_cases c1 : pos < 0
    · rw [if_pos c1] at hk
      simp (disch := first | omega | (simp only [sZb, sZa, sZd] <;> omega) | (simp (disch := first | omega | (simp only [sZb, sZa, sZd] <;> omega) | fail) only [go_sem]; done) | fail) only [go_sem, dec_t, dec_f, w_u32, w_u64, w_u16, w_u8, w_i64, Int.reduceToNat, Int.reducePow, Nat.reducePow]
      exact nil _ hk
    · rw [if_neg c1] at hk
      by_cases c2 : 0 < max n 0
      · by_cases c3 : pos = l.length
        · rw [if_pos ⟨c2, c3⟩] at hk
          have c3' : pos = (l.length : Int) := c3
          simp (disch := first | omega | (simp only [sZb, sZa, sZd] <;> omega) | (simp (disch := first | omega | (simp only [sZb, sZa, sZd] <;> omega) | fail) only [go_sem]; done) | fail) only [go_sem, dec_t, dec_f, w_u32, w_u64, w_u16, w_u8, w_i64, Int.reduceToNat, Int.reducePow, Nat.reducePow]
          exact nil _ hk
        · rw [if_neg (fun x => c3 x.2)] at hk
          by_cases c4 : (l.length : Int) < pos
          · rw [if_pos c4] at hk
            simp (disch := first | omega | (simp only [sZb, sZa, sZd] <;> omega) | (simp (disch := first | omega | (simp only [sZb, sZa, sZd] <;> omega) | fail) only [go_sem]; done) | fail) only [go_sem, dec_t, dec_f, w_u32, w_u64, w_u16, w_u8, w_i64, Int.reduceToNat, Int.reducePow, Nat.reducePow]
            exact nil _ hk
          · simp (disch := first | omega | (simp only [sZb, sZa, sZd] <;> omega) | (simp (disch := first | omega | (simp only [sZb, sZa, sZd] <;> omega) | fail) only [go_sem]; done) | fail) only [go_sem, dec_t, dec_f, w_u32, w_u64, w_u16, w_u8, w_i64, Int.reduceToNat, Int.reducePow, Nat.reducePow]
            exact ⟨trivial, by omega, fun x => c3 x.2, by omega⟩
      · rw [if_neg (fun x => c2 x.1)] at hk
        by_cases c4 : (l.length : Int) < pos
        · rw [if_pos c4] at hk
          simp (disch := first | omega | (simp only [sZb, sZa, sZd] <;> omega) | (simp (disch := first | omega | (simp only [sZb, sZa, sZd] <;> omega) | fail) only [go_sem]; done) | fail) only [go_sem, dec_t, dec_f, w_u32, w_u64, w_u16, w_u8, w_i64, Int.reduceToNat, Int.reducePow, Nat.reducePow]
          exact nil _ hk
        · simp (disch := first | omega | (simp only [sZb, sZa, sZd] <;> omega) | (simp (disch := first | omega | (simp only [sZb, sZa, sZd] <;> omega) | fail) only [go_sem]; done) | fail) only [go_sem, dec_t, dec_f, w_u32, w_u64, w_u16, w_u8, w_i64, Int.reduceToNat, Int.reducePow, Nat.reducePow]
          exact ⟨trivial, by omega, fun x => c2 x.1, by omega⟩
theorem grown_len (l : Str) (n : Int) : (SM.grown l n).length = max l.length n.toNat := by
  unfold SM.grown
  simp; omega
theorem grown_spec {w : World} {K : Value → World → Prop} {v : Value} {l : Str} {n : Int} (hv : BS w v l) (hl : l.length ≤ 1099511627776) (hn : n ≤ 1099511627776)
    (hk : ∀ w' v', w'.ownsRow w.heap.size T.uint8 1 v' (SM.grown l n).length ((SM.grown l n).map byt) → Below w.heap.size w w' → K v' w') : Cl P Fn.spec_grown #[v, .int .i64 n] w K := by
  apply S_spec_grown
  unfold F_spec_grown
  rw [oBuildSlice0 (n := 1) _ _ U.sl_uint8 (by kernel_rfl)]
  refine copy_lit hv (by omega) fun v1 w1 o1 B1 => ?_
  have hg : SM.grown l l.length = l := by simp [SM.grown]
  refine jn_with (fun t w' => ∃ v, t = [v] ∧ w'.ownsRow w.heap.size T.uint8 1 v (SM.grown l n).length ((SM.grown l n).map byt) ∧ Below w.heap.size w w') ?_ ?_
  · rintro t e w2 ⟨v2, rfl, o2, B2⟩
    exact hk w2 v2 o2 B2
  · refine lp_intro (fun s w' => ∃ v, ∃ k : Nat, s = [v] ∧ l.length ≤ k ∧ (k = l.length ∨ (k : Int) ≤ n) ∧ w'.ownsRow w.heap.size T.uint8 1 v k ((SM.grown l k).map byt) ∧ Below w.heap.size w w') (fun s w' => match gs s 0 with | .slice _ k _ => (n - k).toNat | _ => 0) ?_ ?_
    · exact ⟨v1, l.length, rfl, Nat.le_refl _, .inl rfl, by rw [hg]; exact o1, B1⟩
    · rintro s u w2 ⟨v2, k, rfl, k1, k2, o2, B2⟩
      obtain ⟨a, cap, rfl⟩ := own_slice o2
      refine jn_with (fun t w' => w' = w2 ∧ (k : Int) < n) ?_ ?_
      · rintro t e w3 ⟨rfl, hlt⟩
        rw [oBuildSlice1 (z := .int .u8 0) _ _ U.sl_uint8 (by kernel_rfl) rfl]
        have B3 : Below w3.heap.size w3 (w3.alloc (CB [.int .u8 0] T.uint8)) := by repeat (first | exact Below.refl _ _ | assumption | refine bel_setb ?_ (by first | exact Nat.le_refl _ | omega | (simp only [go_sem] <;> omega)) _ | refine Below.alloc ?_ (by first | exact Nat.le_refl _ | omega | (simp only [go_sem]; omega)) _ | refine Below.drew ?_)
        have r3 : rowOf (bk (w3.alloc (CB [.int .u8 0] T.uint8)) w3.heap.size) 0 1 = some [.int .u8 0] := by rw [bk_alloc_eq _ _ _ rfl]; rfl
        rw [gs0]
        refine oAppendR (z := .int .u8 0) (size := 1) (bytes := 1) (news := [.int .u8 0]) U.sl_uint8 infoB rfl (by omega) (own_old o2 B3 (Nat.le_refl _)) (.inl ⟨_, _, _, rfl, r3⟩) rfl (fun u hu => by simp at hu; subst hu; rfl) (by simp only [maxLen]; omega) (by omega) (by have := B2.size; simp only [go_sem]; omega) fun v4 w4 o4 g4 a4 => ?_
        have e4 : (SM.grown l k).map byt ++ [.int .u8 0] = (SM.grown l ((k + 1 : Nat) : Int)).map byt := by
          unfold SM.grown
          simp only [Int.toNat_natCast, List.map_append, List.append_assoc]
          rw [show k + 1 - l.length = (k - l.length) + 1 by omega, List.replicate_succ']
          simp [byt]
        rw [e4] at o4
        refine ⟨⟨v4, k + 1, rfl, by omega, .inr (by omega), o4, B2.trans ((B3.mono B2.size).trans (own_bel (own_old o2 B3 (Nat.le_refl _)) g4 (by have := B2.size; simp only [go_sem]; omega)))⟩, ?_⟩
        obtain ⟨a4, cap4, rfl⟩ := own_slice o4
        simp only [gs0]
        omega
      · by_cases hlt : (k : Int) < n
        · simp (disch := first | omega | (simp only [sZb, sZa, sZd] <;> omega) | (simp (disch := first | omega | (simp only [sZb, sZa, sZd] <;> omega) | fail) only [go_sem]; done) | fail) only [go_sem, dec_t, dec_f, w_u32, w_u64, w_u16, w_u8, w_i64, Int.reduceToNat, Int.reducePow, Nat.reducePow]
          exact ⟨trivial, hlt⟩
        · simp (disch := first | omega | (simp only [sZb, sZa, sZd] <;> omega) | (simp (disch := first | omega | (simp only [sZb, sZa, sZd] <;> omega) | fail) only [go_sem]; done) | fail) only [go_sem, dec_t, dec_f, w_u32, w_u64, w_u16, w_u8, w_i64, Int.reduceToNat, Int.reducePow, Nat.reducePow]
          refine ⟨_, rfl, ?_, B2⟩
          have e : SM.grown l n = SM.grown l k := by
            unfold SM.grown
            congr 2
            omega
          rw [e, grown_len]
          have : max l.length (k : Int).toNat = k := by omega
          rw [this]
          exact o2
theorem over_spec {w : World} {K : Value → World → Prop} {v x : Value} {l b : Str} {pos : Int} (hv : BS w v l) (hx : BS w x b) (hl : l.length ≤ 1099511627776) (h0 : 0 ≤ pos) (hn : pos + b.length ≤ 1099511627776)
    (hk : ∀ w' v', w'.ownsRow w.heap.size T.uint8 1 v' (SM.over l pos b).length ((SM.over l pos b).map byt) → Below w.heap.size w w' → K v' w') : Cl P Fn.spec_overwritten #[v, .int .i64 pos, x] w K := by
  apply S_spec_overwritten
  unfold F_spec_overwritten
  obtain ⟨a, cap, rfl⟩ := BS_slice hx
  simp (disch := first | omega | (simp only [sZb, sZa, sZd] <;> omega) | (simp (disch := first | omega | (simp only [sZb, sZa, sZd] <;> omega) | fail) only [go_sem]; done) | fail) only [go_sem, dec_t, dec_f, w_u32, w_u64, w_u16, w_u8, w_i64, Int.reduceToNat, Int.reducePow, Nat.reducePow]
  refine grown_spec hv hl (by omega) fun w1 v1 o1 B1 => ?_
  obtain ⟨p, rfl⟩ := Int.eq_ofNat_of_zero_le h0
  have gl := grown_len l ((p : Int) + b.length)
  obtain ⟨xb, rb, ob, sb⟩ := own_back U.sl_uint8 (by kernel_rfl) o1 (p := p) (by omega)
  simp (disch := first | omega | (simp only [sZb, sZa, sZd] <;> omega) | (simp (disch := first | omega | (simp only [sZb, sZa, sZd] <;> omega) | fail) only [go_sem, sb]; done) | fail) only [go_sem, dec_t, dec_f, w_u32, w_u64, w_u16, w_u8, w_i64, Int.reduceToNat, Int.reducePow, Nat.reducePow, sb]
  have hx1 := BS_old hx B1 (Nat.le_refl _)
  have eo : SM.over l p b = (SM.grown l ((p : Int) + b.length)).take p ++ b ++ (SM.grown l ((p : Int) + b.length)).drop (p + b.length) := by simp [SM.over]
  have el : (SM.over l p b).length = (SM.grown l ((p : Int) + b.length)).length := by rw [eo]; simp; omega
  generalize hgg : SM.grown l ((p : Int) + b.length) = G at *
  by_cases hb : b.length = 0
  · have hb' : b = [] := List.length_eq_zero_iff.1 hb
    subst hb'
    have eo2 : SM.over l p [] = G := by rw [eo]; simp
    obtain ⟨ax, capx, ex⟩ : ∃ a c, xb = .slice a (G.length - p) c := by
      rcases rb with ⟨b, o, c, rfl, _⟩ | ⟨h1, _, a, c, rfl⟩
      · exact ⟨_, _, rfl⟩
      · exact ⟨_, _, by rw [h1]⟩
    have cp : ∀ (L : Value → World → Prop), st P (oBuiltin .copy #[T.sl_uint8, T.sl_uint8] T.int #[false, false] #[xb, .slice a ([] : Str).length cap]) w1 L = L (.int .i64 0) w1 := fun L => by
      rw [ex]
      exact oCopyNo U.sl_uint8 (by kernel_rfl)
    simp (disch := first | omega | (simp only [sZb, sZa, sZd] <;> omega) | (simp (disch := first | omega | (simp only [sZb, sZa, sZd] <;> omega) | fail) only [go_sem, cp]; done) | fail) only [go_sem, dec_t, dec_f, w_u32, w_u64, w_u16, w_u8, w_i64, Int.reduceToNat, Int.reducePow, Nat.reducePow, cp]
    rw [eo2] at hk
    exact hk w1 v1 o1 B1
  · rcases hx1 with ⟨e, _⟩ | ⟨bx, ox, cx, ex, e1, e2, e3⟩
    · exact absurd (by rw [e]; rfl) hb
    obtain ⟨g, cap1, cur, rfl, q1, q2, q3, q4, q5, q6⟩ := own_row o1 (by omega)
    rw [Nat.mul_one] at q5 q6
    have ex' : ∃ cc, xb = sl g p (G.length - p) cc := by
      have := sb .i64 (fun y => y = xb)
      rw [oSlice_lo (size := 1) _ U.sl_uint8 (by kernel_rfl) (by omega) (by omega) q1, Int.toNat_natCast] at this
      have h2 := this.symm.mp rfl
      refine ⟨cap1 - p, ?_⟩
      rw [← h2, if_neg (by omega)]
      simp
    obtain ⟨cc, rfl⟩ := ex'
    rw [ex, oCopy _ _ U.sl_uint8 (by kernel_rfl) q4 rfl (by omega) (by omega) e2]
    have lg : g < w1.heap.size := q3
    have B2 : Below w.heap.size w1 (setb w1 g (CB (cur.take p ++ b.map byt ++ cur.drop (p + b.length)) T.uint8)) := bel_setb (Below.refl _ _) q2 _
    refine hk _ (sl g 0 G.length cap1) ?_ (B1.trans B2)
    have hcap : cap1 ≤ maxLen := by
      rcases o1.2 with ⟨h, _⟩ | ⟨g', c', u', h, _, _, _, h6, _⟩
      · cases h
      · injection h with _ _ h; omega
    refine ⟨by simp, .inr ⟨g, cap1, _, by rw [el], q2, bk_setb_eq _ _ _ _ rfl lg, by omega, hcap, ?_, ?_⟩⟩
    · simp; omega
    · rw [Nat.mul_one, el, eo]
      have hpl : p + b.length ≤ G.length := by omega
      apply List.ext_getElem?
      intro i
      by_cases hi : i < G.length
      · rw [List.getElem?_take_of_lt hi]
        have hcg : ∀ j, j < G.length → cur[j]? = (G.map byt)[j]? := fun j hj => take_get q6 hj
        simp only [List.map_append, List.map_take, List.map_drop]
        rw [List.getElem?_append, List.getElem?_append]
        rw [List.getElem?_append, List.getElem?_append]
        simp only [List.length_take, List.length_map, List.length_append]
        by_cases h1 : i < p
        · rw [if_pos (by omega), if_pos (by omega), if_pos (by omega), if_pos (by omega), List.getElem?_take_of_lt h1, List.getElem?_take_of_lt h1, hcg i hi]
        · by_cases h2 : i < p + b.length
          · rw [if_pos (by omega), if_neg (by omega), if_pos (by omega), if_neg (by omega)]
            congr 1; omega
          · rw [if_neg (by omega), if_neg (by omega), List.getElem?_drop, List.getElem?_drop]
            rw [show p + b.length + (i - (min p cur.length + b.length)) = i by omega, show p + b.length + (i - (min p G.length + b.length)) = i by omega, hcg i hi]
      · rw [List.getElem?_eq_none (by simp; omega), List.getElem?_eq_none (by simp; omega)]
end Go.Proofs.YteblpejgenehfaaDoor.X
end
section
namespace Go.Proofs.YteblpejgenehfaaDoor.X
open Go Go.X Go.Proofs Go.RowKit
abbrev infoC (i : SM.Info) : List Value := [S i.name, .int .i64 i.size, .int .i64 i.mode, .bool i.dir, .int .i64 i.time]
abbrev stepC (s : SM.Stp) (v : Value) : List Value := [.int .i64 s.op, S s.name, S s.other, .int .i64 s.flag, .int .i64 s.perm, .int .i64 s.h, v, .int .i64 s.off, .int .i64 s.wh, .int .i64 s.n]
abbrev answC (a : SM.Ans) (x y z : Value) : List Value := [.int .i64 a.e, .int .i64 a.n, .int .i64 a.off, x, y, z]
abbrev ansZ : List Value := answC SM.Ans.z (.slice none 0 0) (.slice none 0 0) (.slice none 0 0)
def infosC (l : List SM.Info) : List Value := (l.map infoC).flatten
def AnsV (w : World) (lo : Nat) (a : SM.Ans) (c : List Value) : Prop := ∃ x y z, c = answC a x y z ∧ BS w x a.data ∧ RowS w y a.names.length (a.names.map S) ∧ RowS w z a.infos.length (infosC a.infos) ∧ ∀ b, (x.ownBlock = some b ∨ y.ownBlock = some b ∨ z.ownBlock = some b) → lo ≤ b ∧ b < w.heap.size
theorem RowS_nil (w : World) : RowS w (.slice none 0 0) 0 [] := .inr ⟨rfl, rfl, _, _, rfl⟩
theorem AnsV.plain (w : World) (lo : Nat) {a : SM.Ans} (h1 : a.data = []) (h2 : a.names = []) (h3 : a.infos = []) : AnsV w lo a (answC a (.slice none 0 0) (.slice none 0 0) (.slice none 0 0)) :=
  ⟨_, _, _, rfl, by rw [h1]; exact BS_nil w, by rw [h2]; exact RowS_nil w, by rw [h3]; exact RowS_nil w, fun b hb => by rcases hb with h | h | h <;> cases h⟩
theorem AnsV.data {w : World} {lo : Nat} {a : SM.Ans} {x : Value} (hx : BS w x a.data) (hl : ∀ b, x.ownBlock = some b → lo ≤ b ∧ b < w.heap.size) (h2 : a.names = []) (h3 : a.infos = []) : AnsV w lo a (answC a x (.slice none 0 0) (.slice none 0 0)) :=
  ⟨_, _, _, rfl, hx, by rw [h2]; exact RowS_nil w, by rw [h3]; exact RowS_nil w, fun b hb => by rcases hb with h | h | h; exact hl b h; cases h; cases h⟩
theorem AnsV.less {w : World} {lo lo' : Nat} {a : SM.Ans} {c : List Value} (h : AnsV w lo a c) (hl : lo' ≤ lo) : AnsV w lo' a c := by
  obtain ⟨x, y, z, e, h1, h2, h3, h4⟩ := h
  exact ⟨x, y, z, e, h1, h2, h3, fun b hb => ⟨by have := (h4 b hb).1; omega, (h4 b hb).2⟩⟩
def AnsN (w : World) (lo : Nat) (U : Nat → Prop) (a : SM.Ans) (c : List Value) : Prop := ∃ x y z, c = answC a x y z ∧ BS w x a.data ∧ RowS w y a.names.length (a.names.map S) ∧ RowS w z a.infos.length (infosC a.infos) ∧ ∀ b, (x.ownBlock = some b ∨ y.ownBlock = some b ∨ z.ownBlock = some b) → lo ≤ b ∧ b < w.heap.size ∧ ¬ U b
theorem AnsV.n {w : World} {lo : Nat} {U : Nat → Prop} {a : SM.Ans} {c : List Value} (h : AnsV w lo a c) (hU : ∀ b, U b → b < lo) : AnsN w lo U a c := by
  obtain ⟨x, y, z, e, h1, h2, h3, h4⟩ := h
  exact ⟨x, y, z, e, h1, h2, h3, fun b hb => ⟨(h4 b hb).1, (h4 b hb).2, fun u => by have := hU b u; have := (h4 b hb).1; omega⟩⟩
theorem AnsN.v {w : World} {lo : Nat} {U : Nat → Prop} {a : SM.Ans} {c : List Value} (h : AnsN w lo U a c) : AnsV w lo a c := by
  obtain ⟨x, y, z, e, h1, h2, h3, h4⟩ := h
  exact ⟨x, y, z, e, h1, h2, h3, fun b hb => ⟨(h4 b hb).1, (h4 b hb).2.1⟩⟩
theorem AnsN.plain (w : World) (lo : Nat) (U : Nat → Prop) {a : SM.Ans} (h1 : a.data = []) (h2 : a.names = []) (h3 : a.infos = []) : AnsN w lo U a (answC a (.slice none 0 0) (.slice none 0 0) (.slice none 0 0)) :=
  ⟨_, _, _, rfl, by rw [h1]; exact BS_nil w, by rw [h2]; exact RowS_nil w, by rw [h3]; exact RowS_nil w, fun b hb => by rcases hb with h | h | h <;> cases h⟩
theorem AnsN.kp {w w' : World} {lo : Nat} {U : Nat → Prop} {a : SM.Ans} {c : List Value} {S : Nat → Prop} (h : AnsN w lo U a c) (k : Kp w w' S) (hS : ∀ b, lo ≤ b → b < w.heap.size → ¬ U b → ¬ S b) : AnsN w' lo U a c := by
  obtain ⟨x, y, z, e, h1, h2, h3, h4⟩ := h
  have g : ∀ b, (x.ownBlock = some b ∨ y.ownBlock = some b ∨ z.ownBlock = some b) → ¬ S b := fun b hb => hS b (h4 b hb).1 (h4 b hb).2.1 (h4 b hb).2.2
  exact ⟨x, y, z, e, BS_kp h1 k fun b hb => g b (.inl hb), h2.kp k fun b hb => g b (.inr (.inl hb)), h3.kp k fun b hb => g b (.inr (.inr hb)), fun b hb => ⟨(h4 b hb).1, Nat.lt_of_lt_of_le (h4 b hb).2.1 k.size, (h4 b hb).2.2⟩⟩
theorem AnsN.old {w w' : World} {lo : Nat} {U : Nat → Prop} {a : SM.Ans} {c : List Value} (h : AnsN w lo U a c) (k : Below w.heap.size w w') : AnsN w' lo U a c :=
  h.kp (Kp.of_below k fun b => w.heap.size ≤ b) fun b _ hb _ => by omega
theorem AnsN.less {w : World} {lo lo' : Nat} {U : Nat → Prop} {a : SM.Ans} {c : List Value} (h : AnsN w lo U a c) (hl : lo' ≤ lo) : AnsN w lo' U a c := by
  obtain ⟨x, y, z, e, h1, h2, h3, h4⟩ := h
  exact ⟨x, y, z, e, h1, h2, h3, fun b hb => ⟨by have := (h4 b hb).1; omega, (h4 b hb).2⟩⟩
theorem AnsN.to {w : World} {lo : Nat} {U V : Nat → Prop} {a : SM.Ans} {c : List Value} (h : AnsN w lo U a c) (hV : ∀ b, lo ≤ b → b < w.heap.size → ¬ U b → ¬ V b) : AnsN w lo V a c := by
  obtain ⟨x, y, z, e, h1, h2, h3, h4⟩ := h
  exact ⟨x, y, z, e, h1, h2, h3, fun b hb => ⟨(h4 b hb).1, (h4 b hb).2.1, hV b (h4 b hb).1 (h4 b hb).2.1 (h4 b hb).2.2⟩⟩
section
variable {w w' : World} {B p : Nat} {m : SM.Mem} {F : Fp} {vn va vd : Value} {q : Nat} {ds : List Value} {hl : ML Int} {c : Nat} {hb : Int → Nat} {ρ : Nat → Rl}
theorem MemX.setHnd (h : MemX w B p m F vn va vd q ds hl c hb ρ) {k : Int} {hd hd' : SM.Hnd} (hh : SM.hget m.hs k = some hd) :
    MemX (setb w (hb k) (CB (hndC hd') T.spec_MemHandle)) B p (m.setH k hd') F vn va vd q ds hl c hb ρ ∧ Tr w (setb w (hb k) (CB (hndC hd') T.spec_MemHandle)) F F := by
  obtain ⟨r1, b1⟩ := h.bh k hd hh
  have kp := Kp.setb w (hb k) (CB (hndC hd') T.spec_MemHandle)
  have hG : ∀ b, b < w.heap.size → b = hb k → ρ b = .hnd k := fun b _ e => by rw [e]; exact r1
  have l := h.only kp hG (fun e => by cases e)
  refine ⟨⟨h.own, h.sub, l.lt, h.ge, h.rp, l.bm (fun e => by cases e), l.on (fun e => by cases e), h.rn, l.oa (fun e => by cases e), h.ra, l.od (fun e => by cases e), h.rd, h.dl, l.db, h.rq, l.bq (fun e => by cases e), h.wf, fun j => ?_, fun j y hy => ?_⟩, h.tr kp hG (fun e => by cases e)⟩
  · rw [h.hm j]
    show _ = (SM.hget (SM.hput m.hs k hd') j).map _
    rw [SM.hget_hput]
    by_cases e : j = k
    · rw [if_pos e, e, hh]; rfl
    · rw [if_neg e]
  · have hy' : SM.hget (SM.hput m.hs k hd') j = some y := hy
    rw [SM.hget_hput] at hy'
    by_cases e : j = k
    · rw [if_pos e] at hy'
      injection hy' with hy'
      subst hy' e
      exact ⟨r1, bk_setb_eq _ _ _ _ rfl (bk_lt b1)⟩
    · rw [if_neg e] at hy'
      exact ⟨(h.bh j y hy').1, l.bh j y hy' (fun e2 => by injection e2 with e2; exact e e2.symm)⟩
theorem MemX.store (h : MemX w B p m F vn va vd q ds hl c hb ρ) {i j g : Nat} {x d d' : Value} {n' : SM.Node} {cur : List Value} (hi : i < m.nodes.length) (na : NodeAt w vd m i d g cur) (hd0 : d = ds[i]'(by rw [h.dl]; exact hi)) (hcl : m.nodes.length * 5 ≤ cur.length) (ht : cur.take (m.nodes.length * 5) = nodesC m.nodes ds) (hj : j < 5) (e : (nodeC (m.node i) d).set j x = nodeC n' d')
    (hd : BS w d' n'.data ∧ ∀ b, d'.ownBlock = some b → F.use b ∧ ρ b = .no) :
    MemX (setb w g (CB (cur.set (i * 5 + j) x) T.spec_MemNode)) B p (m.setNode i n') F vn va vd q (ds.set i d') hl c hb ρ ∧ NodeAt (setb w g (CB (cur.set (i * 5 + j) x) T.spec_MemNode)) vd (m.setNode i n') i d' g (cur.set (i * 5 + j) x) ∧ Tr w (setb w g (CB (cur.set (i * 5 + j) x) T.spec_MemNode)) F F ∧
      (m.setNode i n').nodes.length * 5 ≤ (cur.set (i * 5 + j) x).length ∧ (cur.set (i * 5 + j) x).take ((m.setNode i n').nodes.length * 5) = nodesC (m.setNode i n').nodes (ds.set i d') := by
  have hl5 : i * 5 + 5 ≤ m.nodes.length * 5 := by omega
  have ln := nodesC_len m.nodes ds h.dl
  have ht' : (cur.set (i * 5 + j) x).take (m.nodes.length * 5) = nodesC (m.nodes.set i n') (ds.set i d') := by
    rw [List.take_set, ht, nodesC_set m.nodes ds h.dl hi, ← e]
    have e5 := nodesC_at m.nodes ds h.dl hi
    rw [← node_get hi, ← hd0] at e5
    rw [← e5]
    have l5 : ((nodesC m.nodes ds).drop (i * 5)).length = m.nodes.length * 5 - i * 5 := by rw [List.length_drop, ln]
    apply List.ext_getElem?
    intro a
    by_cases ha : a = i * 5 + j
    · subst ha
      rw [List.getElem?_set_self (by omega), List.append_assoc, List.getElem?_append_right (by simp; omega), List.getElem?_append_left (by simp; omega)]
      rw [show i * 5 + j - ((nodesC m.nodes ds).take (i * 5)).length = j by simp; omega, List.getElem?_set_self (by simp; omega)]
    · rw [List.getElem?_set_ne (fun q => ha q.symm), List.append_assoc]
      by_cases h1 : a < i * 5
      · rw [List.getElem?_append_left (by simp; omega), List.getElem?_take_of_lt h1]
      · rw [List.getElem?_append_right (by simp; omega)]
        have la : ((nodesC m.nodes ds).take (i * 5)).length = i * 5 := by simp; omega
        rw [la]
        by_cases h2 : a < i * 5 + 5
        · rw [List.getElem?_append_left (by simp; omega), List.getElem?_set_ne (by omega), List.getElem?_take_of_lt (by omega), List.getElem?_drop]
          congr 1; omega
        · rw [List.getElem?_append_right (by simp; omega), List.getElem?_drop]
          congr 1
          simp; omega
  have hdl : (ds.set i d').length = (m.nodes.set i n').length := by simp [h.dl]
  obtain ⟨r1, r2⟩ := h.turnD (nodes' := m.nodes.set i n') (ds' := ds.set i d') na.ob na.bg (by simp) (by simp) ht' hdl (fun a h1 h2 => by
    by_cases ea : i = a
    · subst ea
      simp only [List.getElem_set_self]
      exact hd
    · rw [List.getElem_set_ne ea, List.getElem_set_ne ea]
      exact h.db a (by simpa using h1) (by simpa using h2))
  refine ⟨r1, ?_, r2, by simp [SM.Mem.setNode]; omega, by simpa [SM.Mem.setNode] using ht'⟩
  have hi' : i < (m.setNode i n').nodes.length := by simpa [SM.Mem.setNode] using hi
  obtain ⟨g2, cur2, na2, _, _⟩ := r1.node hi'
  have eg : g2 = g := Option.some.inj (na2.ob.symm.trans na.ob)
  subst eg
  have ec : cur2 = cur.set (i * 5 + j) x := by
    have := na2.bg
    rw [bk_setb_eq _ _ _ _ rfl (bk_lt na.bg)] at this
    injection this with this
    injection this with this
    simpa using this.symm
  subst ec
  have ed : (ds.set i d')[i]'(by rw [r1.dl]; exact hi') = d' := by simp
  rw [ed] at na2
  exact na2
end
end Go.Proofs.YteblpejgenehfaaDoor.X
end
section
namespace Go.Proofs.YteblpejgenehfaaDoor.X
open Go Go.X Go.Proofs Go.RowKit
theorem start_w (w : World) (s : SM.Stp) (v : Value) : ∃ W : World, (w.alloc (CB (stepC s v) T.impl_Step)).alloc (CB ansZ T.impl_Answer) = W ∧ Below w.heap.size w W ∧ W.heap.size = w.heap.size + 2 ∧ bk W w.heap.size = some (CB (stepC s v) T.impl_Step) ∧ bk W (w.heap.size + 1) = some (CB ansZ T.impl_Answer) := by
  refine ⟨_, rfl, by repeat (first | exact Below.refl _ _ | assumption | refine bel_setb ?_ (by first | exact Nat.le_refl _ | omega | (simp only [go_sem] <;> omega)) _ | refine Below.alloc ?_ (by first | exact Nat.le_refl _ | omega | (simp only [go_sem]; omega)) _ | refine Below.drew ?_), by simp only [go_sem], ?_, ?_⟩
  · rw [bk_alloc_ne _ _ _ (by simp only [go_sem]; omega), bk_alloc_eq _ _ _ rfl]
  · rw [bk_alloc_eq _ _ _ (by simp only [go_sem])]
theorem fin_ans {w w3 : World} {B p : Nat} {m' : SM.Mem} {F F3 : Fp} (h3 : MemS w3 B p m' F3) (t3 : Tr w w3 F F3) {A : Nat} (hA : w.heap.size ≤ A) (hu : ¬ F3.use A) {a : SM.Ans} {c : List Value} (hc : AnsN w3 (A + 1) F3.use a c) (o : Obj) :
    MemS (setb w3 A o) B p m' F3 ∧ Tr w (setb w3 A o) F F3 ∧ AnsN (setb w3 A o) w.heap.size F3.use a c := by
  have k := Kp.setb w3 A o
  refine ⟨h3.frame k fun b hb e => hu (by rw [← e]; exact hb), ⟨t3.kp.trans k fun x hx e => by omega, t3.st⟩, (hc.kp k fun b hb _ _ e => by omega).less (by omega)⟩
section
variable {w : World} {K : Value → World → Prop} {B p : Nat} {m : SM.Mem} {F : Fp} {vn va vd : Value} {q : Nat} {ds : List Value} {hl : ML Int} {c : Nat} {hb : Int → Nat} {ρ : Nat → Rl} {k : Int} {hd : SM.Hnd} {s : SM.Stp} {v : Value}
theorem MemX.toS (h : MemX w B p m F vn va vd q ds hl c hb ρ) : MemS w B p m F := ⟨_, _, _, _, _, _, _, _, _, h⟩
theorem MemX.hne (h : MemX w B p m F vn va vd q ds hl c hb ρ) (hh : SM.hget m.hs k = some hd) {b : Nat} (hw : w.heap.size ≤ b) : hb k ≠ b := fun e => by
  have := h.in_ (b := hb k) (by rw [(h.bh k hd hh).1]; exact fun e => by cases e)
  omega
abbrev FileK (w : World) (B p : Nat) (F : Fp) (r : SM.Mem × SM.Ans) (K : Value → World → Prop) : Prop := ∀ w' F' c, MemS w' B p r.1 F' → Tr w w' F F' → AnsN w' w.heap.size F'.use r.2 c → K (AG c) w'
structure Fc (w W : World) (B p : Nat) (m : SM.Mem) (F : Fp) (vn va vd : Value) (q : Nat) (ds : List Value) (hl : ML Int) (c : Nat) (hb : Int → Nat) (ρ : Nat → Rl) (s : SM.Stp) (v : Value) : Prop where
  h : MemX W B p m F vn va vd q ds hl c hb ρ
  lt : ∀ b, F.use b → b < w.heap.size
  t : Tr w W F F
  S : bk W w.heap.size = some (CB (stepC s v) T.impl_Step)
  A : bk W (w.heap.size + 1) = some (CB ansZ T.impl_Answer)
theorem Fc.drew {W : World} (f : Fc w W B p m F vn va vd q ds hl c hb ρ s v) : Fc w W.drew B p m F vn va vd q ds hl c hb ρ s v :=
  ⟨f.h.old (by repeat (first | exact Below.refl _ _ | assumption | refine bel_setb ?_ (by first | exact Nat.le_refl _ | omega | (simp only [go_sem] <;> omega)) _ | refine Below.alloc ?_ (by first | exact Nat.le_refl _ | omega | (simp only [go_sem]; omega)) _ | refine Below.drew ?_)), f.lt, f.t.after (by repeat (first | exact Below.refl _ _ | assumption | refine bel_setb ?_ (by first | exact Nat.le_refl _ | omega | (simp only [go_sem] <;> omega)) _ | refine Below.alloc ?_ (by first | exact Nat.le_refl _ | omega | (simp only [go_sem]; omega)) _ | refine Below.drew ?_)), f.S, f.A⟩
theorem Fc.tr {W : World} (f : Fc w W B p m F vn va vd q ds hl c hb ρ s v) : Tr w W F F := f.t
theorem Fc.hne {W : World} (f : Fc w W B p m F vn va vd q ds hl c hb ρ s v) (hh : SM.hget m.hs k = some hd) {b : Nat} (hw : w.heap.size ≤ b) : hb k ≠ b := fun e => by
  have := f.lt (hb k) (f.h.sub _ ((f.h.own _).2 (by rw [(f.h.bh k hd hh).1]; exact fun e => by cases e)))
  omega
theorem Fc.nA {W : World} (f : Fc w W B p m F vn va vd q ds hl c hb ρ s v) : ¬ F.use (w.heap.size + 1) := fun e => by have := f.lt _ e; omega
theorem J26_spec {W : World} (f : Fc w W B p m F vn va vd q ds hl c hb ρ s v) (hh : SM.hget m.hs k = some hd) (hn : hd.node < m.nodes.length) {g : Nat} {cur : List Value} (na : NodeAt W vd m hd.node (ds[hd.node]'(by rw [f.h.dl]; exact hn)) g cur)
    (hk : FileK w B p F (if hd.ro = true then m.setH k { hd with cl := true } else (m.setH k { hd with cl := true }).setNode hd.node { m.node hd.node with time := 0 }, SM.Ans.z) K) : J_spec_Mem_file_26 (pt (hb k) 0) W (pt (w.heap.size + 1) 0) K (pt g (hd.node * 5)) := by
  unfold J_spec_Mem_file_26
  obtain ⟨m', em⟩ : ∃ m', (if hd.ro = true then m.setH k { hd with cl := true } else (m.setH k { hd with cl := true }).setNode hd.node { m.node hd.node with time := 0 }) = m' := ⟨_, rfl⟩
  rw [em] at hk
  have em1 : hd.ro = true → m.setH k { hd with cl := true } = m' := fun h => by rw [← em, if_pos h]
  have em2 : ¬ hd.ro = true → (m.setH k { hd with cl := true }).setNode hd.node { m.node hd.node with time := 0 } = m' := fun h => by rw [← em, if_neg h]
  clear em
  have bh := (f.h.bh k hd hh).2
  have lh := bk_lt bh
  have np1 : hb k ≠ w.heap.size + 1 := f.hne hh (by omega)
  obtain ⟨h2, t2⟩ := f.h.setHnd (hd' := { hd with cl := true }) hh
  simp (disch := first | omega | (simp only [sZb, sZa, sZd] <;> omega) | (simp (disch := first | omega | (simp only [sZb, sZa, sZd] <;> omega) | fail) only [go_sem, bh]; done) | fail) only [go_sem, dec_t, dec_f, w_u32, w_u64, w_u16, w_u8, w_i64, Int.reduceToNat, Int.reducePow, Nat.reducePow, bh]
  have T2 := f.tr.trans t2
  have bA2 : bk (setb W (hb k) (CB (hndC { hd with cl := true }) T.spec_MemHandle)) (w.heap.size + 1) = some (CB ansZ T.impl_Answer) := by rw [bk_setb_ne _ _ _ _ (Ne.symm np1)]; exact f.A
  have B2 : bk (setb W (hb k) (CB (hndC { hd with cl := true }) T.spec_MemHandle)) (hb k) = some (CB (hndC { hd with cl := true }) T.spec_MemHandle) := bk_setb_eq _ _ _ _ rfl lh
  generalize setb W (hb k) (CB (hndC { hd with cl := true }) T.spec_MemHandle) = W2 at *
  refine jn_with (fun t w' => MemS w' B p m' F ∧ Tr w w' F F ∧ bk w' (w.heap.size + 1) = some (CB ansZ T.impl_Answer)) ?_ ?_
  · rintro t e w3 ⟨h3, t3, b3⟩
    unfold J_spec_Mem_file_25
    obtain ⟨e1, e2, e3⟩ := fin_ans h3 t3 (A := w.heap.size + 1) (by omega) f.nA (AnsN.plain w3 _ _ (a := SM.Ans.z) rfl rfl rfl) (CB ansZ T.impl_Answer)
    have l3 := bk_lt b3
    simp (disch := first | omega | (simp only [sZb, sZa, sZd] <;> omega) | (simp (disch := first | omega | (simp only [sZb, sZa, sZd] <;> omega) | fail) only [go_sem, b3]; done) | fail) only [go_sem, dec_t, dec_f, w_u32, w_u64, w_u16, w_u8, w_i64, Int.reduceToNat, Int.reducePow, Nat.reducePow, b3]
    exact hk _ _ _ e1 e2 e3
  · by_cases hro : hd.ro = true
    · simp (disch := first | omega | (simp only [sZb, sZa, sZd] <;> omega) | (simp (disch := first | omega | (simp only [sZb, sZa, sZd] <;> omega) | fail) only [go_sem, B2, hro]; done) | fail) only [go_sem, dec_t, dec_f, w_u32, w_u64, w_u16, w_u8, w_i64, Int.reduceToNat, Int.reducePow, Nat.reducePow, B2, hro]
      rw [← em1 hro]
      exact ⟨h2.toS, T2, bA2⟩
    · have hro' : hd.ro = false := by simpa using hro
      have hn2 : hd.node < (m.setH k { hd with cl := true }).nodes.length := hn
      obtain ⟨g2, cur2, n2, n3, n4⟩ := h2.node hn2
      have eg : g2 = g := Option.some.inj (n2.ob.symm.trans na.ob)
      subst eg
      have bg2 : bk W2 g2 = some (CB cur2 T.spec_MemNode) := n2.bg
      have len2 := n2.len
      obtain ⟨h4, n5, t4, _, _⟩ := h2.store (j := 3) (x := .int .i64 0) (n' := { m.node hd.node with time := 0 }) hn2 n2 rfl n3 n4 (by omega) rfl (h2.data hn2)
      have lg := bk_lt bg2
      simp (disch := first | omega | (simp only [sZb, sZa, sZd] <;> omega) | (simp (disch := first | omega | (simp only [sZb, sZa, sZd] <;> omega) | fail) only [go_sem, B2, hro', bg2]; done) | fail) only [go_sem, dec_t, dec_f, w_u32, w_u64, w_u16, w_u8, w_i64, Int.reduceToNat, Int.reducePow, Nat.reducePow, B2, hro', bg2]
      rw [← em2 hro]
      refine ⟨h4.toS, T2.trans t4, ?_⟩
      have : g2 ≠ w.heap.size + 1 := fun e => by have := f.lt g2 (f.h.sub _ ((f.h.own _).2 (by rw [f.h.rd _ na.ob]; decide))); omega
      show bk (setb W2 g2 _) _ = _
      rw [bk_setb_ne _ _ _ _ (Ne.symm this)]
      exact bA2
end
end Go.Proofs.YteblpejgenehfaaDoor.X
end
section
namespace Go.Proofs.YteblpejgenehfaaDoor.X
open Go Go.X Go.Proofs Go.RowKit
set_option maxHeartbeats 4000000 in
theorem info_spec {w : World} {K : Value → World → Prop} {B p : Nat} {m : SM.Mem} {F : Fp} {x : Nat} (h : MemS w B p m F) (hx : x < m.nodes.length) (hnl : (m.node x).name.length ≤ 140737488355328)
    (hk : ∀ w', Below w.heap.size w w' → K (AG (infoC (m.info x))) w') : Cl P Fn.spec_Mem_info #[pt p 0, .int .i64 x] w K := by
  obtain ⟨vn, va, vd, q, ds, hl, c, hb, ρ, h⟩ := h
  apply S_spec_Mem_info
  unfold F_spec_Mem_info
  rw [M.al_impl_Info]
  obtain ⟨W1, e1⟩ : ∃ W1, W1 = w.alloc (CB (infoC ⟨[], 0, 0, false, 0⟩) T.impl_Info) := ⟨_, rfl⟩
  have B1 : Below w.heap.size w W1 := by rw [e1]; repeat (first | exact Below.refl _ _ | assumption | refine bel_setb ?_ (by first | exact Nat.le_refl _ | omega | (simp only [go_sem] <;> omega)) _ | refine Below.alloc ?_ (by first | exact Nat.le_refl _ | omega | (simp only [go_sem]; omega)) _ | refine Below.drew ?_)
  have b1 : bk W1 w.heap.size = some (CB (infoC ⟨[], 0, 0, false, 0⟩) T.impl_Info) := by rw [e1]; exact bk_alloc_eq _ _ _ rfl
  have z1 : W1.heap.size = w.heap.size + 1 := by rw [e1]; simp only [go_sem]
  rw [← e1]
  clear e1
  have h1 := h.old B1
  have bm := h1.bm
  obtain ⟨g, cur, na, na1, na2⟩ := h1.node hx
  obtain ⟨dat, _⟩ := h1.data hx
  have ix := na.ix .i64
  have bg := na.bg
  have len := na.len
  have row := na.row
  obtain ⟨da, dc, ed⟩ := BS_slice dat
  rw [ed] at row
  simp (disch := first | omega | (simp only [sZb, sZa, sZd] <;> omega) | (simp (disch := first | omega | (simp only [sZb, sZa, sZd] <;> omega) | fail) only [go_sem, bm, ix, bg, row]; done) | fail) only [go_sem, dec_t, dec_f, w_u32, w_u64, w_u16, w_u8, w_i64, Int.reduceToNat, Int.reducePow, Nat.reducePow, bm, ix, bg, row]
  have b2 : bk ((W1.alloc (CB (nodeC ⟨false, 0, [], 0, []⟩ (.slice none 0 0)) T.spec_MemNode))) (w.heap.size + 1) = some (CB (nodeC ⟨false, 0, [], 0, []⟩ (.slice none 0 0)) T.spec_MemNode) := bk_alloc_eq _ _ _ z1.symm
  obtain ⟨W2, e2⟩ : ∃ W2, W2 = setb (W1.alloc (CB (nodeC ⟨false, 0, [], 0, []⟩ (.slice none 0 0)) T.spec_MemNode)) W1.heap.size (CB (nodeC (m.node x) (.slice da (m.node x).data.length dc)) T.spec_MemNode) := ⟨_, rfl⟩
  have B2 : Below w.heap.size w W2 := by rw [e2]; exact B1.trans (by repeat (first | exact Below.refl _ _ | assumption | refine bel_setb ?_ (by first | exact Nat.le_refl _ | omega | (simp only [go_sem] <;> omega)) _ | refine Below.alloc ?_ (by first | exact Nat.le_refl _ | omega | (simp only [go_sem]; omega)) _ | refine Below.drew ?_))
  have b2 : bk W2 W1.heap.size = some (CB (nodeC (m.node x) (.slice da (m.node x).data.length dc)) T.spec_MemNode) := by rw [e2]; exact bk_setb_eq _ _ _ _ rfl (by simp only [go_sem]; omega)
  have b1' : bk W2 w.heap.size = some (CB (infoC ⟨[], 0, 0, false, 0⟩) T.impl_Info) := by
    rw [e2, bk_setb_ne _ _ _ _ (by omega), bk_alloc_ne _ _ _ (by omega)]; exact b1
  have z2 : W2.heap.size = w.heap.size + 2 := by rw [e2]; simp only [go_sem]; omega
  rw [z1] at b2
  rw [← e2]
  clear e2 bg row ix bm
  rw [z1]
  have ei : SM.Mem.info m x = ⟨SM.base (m.node x).name, if (m.node x).dir then 42 else (m.node x).data.length, (m.node x).mode, (m.node x).dir, (m.node x).time⟩ := rfl
  have fin : ∀ (w3 : World) (A : Nat), Below w.heap.size w w3 → w.heap.size ≤ A → A ≠ w.heap.size → bk w3 A = some (CB (infoC (m.info x)) T.impl_Info) → bk w3 w.heap.size = some (CB (infoC ⟨[], 0, 0, false, 0⟩) T.impl_Info) →
      st P (oLoad T.impl_Info (pt A 0)) w3 fun t30 w10 => st P (oStore T.impl_Info (pt w.heap.size 0) t30) w10 fun _ w11 => rsl P T.impl_Info (pt w.heap.size 0) w11 fun r1 => K (tup [r1]) w11 := by
    intro w3 A B3 hA hA2 bA b0
    have l0 := bk_lt b0
    simp (disch := first | omega | (simp only [sZb, sZa, sZd] <;> omega) | (simp (disch := first | omega | (simp only [sZb, sZa, sZd] <;> omega) | fail) only [go_sem, bA, b0]; done) | fail) only [go_sem, dec_t, dec_f, w_u32, w_u64, w_u16, w_u8, w_i64, Int.reduceToNat, Int.reducePow, Nat.reducePow, bA, b0]
    exact hk _ (bel_setb B3 (Nat.le_refl _) _)
  constructor
  · refine base_spec hnl ?_
    simp (disch := first | omega | (simp only [sZb, sZa, sZd] <;> omega) | (simp (disch := first | omega | (simp only [sZb, sZa, sZd] <;> omega) | fail) only [go_sem, b2]; done) | fail) only [go_sem, dec_t, dec_f, w_u32, w_u64, w_u16, w_u8, w_i64, Int.reduceToNat, Int.reducePow, Nat.reducePow, b2]
    refine ⟨trivial, trivial, trivial, trivial, ?_⟩
    have B3 : Below w.heap.size w (W2.drew.alloc (CB (infoC ⟨[], 0, 0, false, 0⟩) T.impl_Info)) := B2.trans (by repeat (first | exact Below.refl _ _ | assumption | refine bel_setb ?_ (by first | exact Nat.le_refl _ | omega | (simp only [go_sem] <;> omega)) _ | refine Below.alloc ?_ (by first | exact Nat.le_refl _ | omega | (simp only [go_sem]; omega)) _ | refine Below.drew ?_))
    have bA : bk (W2.drew.alloc (CB (infoC ⟨[], 0, 0, false, 0⟩) T.impl_Info)) (w.heap.size + 2) = some (CB (infoC ⟨[], 0, 0, false, 0⟩) T.impl_Info) := bk_alloc_eq _ _ _ z2.symm
    have bB : bk (W2.drew.alloc (CB (infoC ⟨[], 0, 0, false, 0⟩) T.impl_Info)) (w.heap.size + 1) = some (CB (nodeC (m.node x) (.slice da (m.node x).data.length dc)) T.spec_MemNode) := by rw [bk_alloc_ne _ _ _ (by show _ ≠ W2.heap.size; omega)]; exact b2
    have b0 : bk (W2.drew.alloc (CB (infoC ⟨[], 0, 0, false, 0⟩) T.impl_Info)) w.heap.size = some (CB (infoC ⟨[], 0, 0, false, 0⟩) T.impl_Info) := by rw [bk_alloc_ne _ _ _ (by show _ ≠ W2.heap.size; omega)]; exact b1'
    have lA := bk_lt bA
    simp (disch := first | omega | (simp only [sZb, sZa, sZd] <;> omega) | (simp (disch := first | omega | (simp only [sZb, sZa, sZd] <;> omega) | fail) only [go_sem, bB, z2]; done) | fail) only [go_sem, dec_t, dec_f, w_u32, w_u64, w_u16, w_u8, w_i64, Int.reduceToNat, Int.reducePow, Nat.reducePow, bB, z2]
    refine ⟨trivial, trivial, trivial, trivial, ?_⟩
    refine jn_with (fun t w' => Below w.heap.size w w' ∧ bk w' (w.heap.size + 2) = some (CB (infoC (m.info x)) T.impl_Info) ∧ bk w' w.heap.size = some (CB (infoC ⟨[], 0, 0, false, 0⟩) T.impl_Info)) ?_ ?_
    · rintro t e w4 ⟨q1, q2, q3⟩
      unfold J_spec_Mem_info_1
      exact fin w4 _ q1 (by omega) (by omega) q2 q3
    · by_cases hd : (m.node x).dir = true
      · simp (disch := first | omega | (simp only [sZb, sZa, sZd] <;> omega) | (simp (disch := first | omega | (simp only [sZb, sZa, sZd] <;> omega) | fail) only [go_sem, hd]; done) | fail) only [go_sem, dec_t, dec_f, w_u32, w_u64, w_u16, w_u8, w_i64, Int.reduceToNat, Int.reducePow, Nat.reducePow, hd]
        refine ⟨bel_setb (bel_setb B3 (by omega) _) (by omega) _, ?_, ?_⟩
        · rw [ei, hd]; rfl
        · exact b1'
      · have hd' : (m.node x).dir = false := by simpa using hd
        simp (disch := first | omega | (simp only [sZb, sZa, sZd] <;> omega) | (simp (disch := first | omega | (simp only [sZb, sZa, sZd] <;> omega) | fail) only [go_sem, hd']; done) | fail) only [go_sem, dec_t, dec_f, w_u32, w_u64, w_u16, w_u8, w_i64, Int.reduceToNat, Int.reducePow, Nat.reducePow, hd']
        refine ⟨bel_setb B3 (by omega) _, ?_, ?_⟩
        · rw [ei, hd']; rfl
        · exact b1'
  · have B3 : Below w.heap.size w (W2.drew.alloc (CB (infoC ⟨[], 0, 0, false, 0⟩) T.impl_Info)) := B2.trans (by repeat (first | exact Below.refl _ _ | assumption | refine bel_setb ?_ (by first | exact Nat.le_refl _ | omega | (simp only [go_sem] <;> omega)) _ | refine Below.alloc ?_ (by first | exact Nat.le_refl _ | omega | (simp only [go_sem]; omega)) _ | refine Below.drew ?_))
    have bA : bk (W2.drew.alloc (CB (infoC ⟨[], 0, 0, false, 0⟩) T.impl_Info)) (w.heap.size + 2) = some (CB (infoC ⟨[], 0, 0, false, 0⟩) T.impl_Info) := bk_alloc_eq _ _ _ z2.symm
    have bB : bk (W2.drew.alloc (CB (infoC ⟨[], 0, 0, false, 0⟩) T.impl_Info)) (w.heap.size + 1) = some (CB (nodeC (m.node x) (.slice da (m.node x).data.length dc)) T.spec_MemNode) := by rw [bk_alloc_ne _ _ _ (by show _ ≠ W2.heap.size; omega)]; exact b2
    have b0 : bk (W2.drew.alloc (CB (infoC ⟨[], 0, 0, false, 0⟩) T.impl_Info)) w.heap.size = some (CB (infoC ⟨[], 0, 0, false, 0⟩) T.impl_Info) := by rw [bk_alloc_ne _ _ _ (by show _ ≠ W2.heap.size; omega)]; exact b1'
    have lA := bk_lt bA
    refine ⟨trivial, trivial, trivial, trivial, trivial, ?_⟩
    refine base_spec hnl ?_
    simp (disch := first | omega | (simp only [sZb, sZa, sZd] <;> omega) | (simp (disch := first | omega | (simp only [sZb, sZa, sZd] <;> omega) | fail) only [go_sem, b2]; done) | fail) only [go_sem, dec_t, dec_f, w_u32, w_u64, w_u16, w_u8, w_i64, Int.reduceToNat, Int.reducePow, Nat.reducePow, b2]
    refine ⟨trivial, trivial, trivial, trivial, ?_⟩
    refine jn_with (fun t w' => Below w.heap.size w w' ∧ bk w' (w.heap.size + 2) = some (CB (infoC (m.info x)) T.impl_Info) ∧ bk w' w.heap.size = some (CB (infoC ⟨[], 0, 0, false, 0⟩) T.impl_Info)) ?_ ?_
    · rintro t e w4 ⟨q1, q2, q3⟩
      unfold J_spec_Mem_info_1
      exact fin w4 _ q1 (by omega) (by omega) q2 q3
    · by_cases hd : (m.node x).dir = true
      · simp (disch := first | omega | (simp only [sZb, sZa, sZd] <;> omega) | (simp (disch := first | omega | (simp only [sZb, sZa, sZd] <;> omega) | fail) only [go_sem, hd]; done) | fail) only [go_sem, dec_t, dec_f, w_u32, w_u64, w_u16, w_u8, w_i64, Int.reduceToNat, Int.reducePow, Nat.reducePow, hd]
        refine ⟨bel_setb (bel_setb B3 (by omega) _) (by omega) _, ?_, ?_⟩
        · rw [ei, hd]; rfl
        · exact b1'
      · have hd' : (m.node x).dir = false := by simpa using hd
        simp (disch := first | omega | (simp only [sZb, sZa, sZd] <;> omega) | (simp (disch := first | omega | (simp only [sZb, sZa, sZd] <;> omega) | fail) only [go_sem, hd']; done) | fail) only [go_sem, dec_t, dec_f, w_u32, w_u64, w_u16, w_u8, w_i64, Int.reduceToNat, Int.reducePow, Nat.reducePow, hd']
        refine ⟨bel_setb B3 (by omega) _, ?_, ?_⟩
        · rw [ei, hd']; rfl
        · exact b1'
end Go.Proofs.YteblpejgenehfaaDoor.X
end
section
namespace Go.Proofs.YteblpejgenehfaaDoor.X
open Go Go.X Go.Proofs Go.RowKit
structure FB (m : SM.Mem) (hd : SM.Hnd) (s : SM.Stp) : Prop where
  node : hd.node < m.nodes.length
  data : (m.node hd.node).data.length ≤ 1099511627776
  name : (m.node hd.node).name.length ≤ 140737488355328
  pos : -2305843009213693952 ≤ hd.pos ∧ hd.pos ≤ 2305843009213693952
  off : s.op < 18 → -2305843009213693952 ≤ s.off ∧ s.off ≤ 2305843009213693952
  n : s.op < 18 → s.n ≤ 281474976710656
  len : s.data.length ≤ 1073741824
  lst : -1099511627776 ≤ hd.listed ∧ hd.listed ≤ 1099511627776
section
variable {w W : World} {K : Value → World → Prop} {B p : Nat} {m : SM.Mem} {F : Fp} {vn va vd : Value} {q : Nat} {ds : List Value} {hl : ML Int} {c : Nat} {hb : Int → Nat} {ρ : Nat → Rl} {k : Int} {hd : SM.Hnd} {s : SM.Stp} {v : Value}
theorem J27_spec (f : Fc w W B p m F vn va vd q ds hl c hb ρ s v) (hh : SM.hget m.hs k = some hd) (fb : FB m hd s)
    (hk : FileK w B p F (m, { SM.Ans.z with infos := [m.info hd.node] }) K) : J_spec_Mem_file_27 (pt (hb k) 0) W (pt p 0) (pt (w.heap.size + 1) 0) K := by
  unfold J_spec_Mem_file_27
  have bh := (f.h.bh k hd hh).2
  simp (disch := first | omega | (simp only [sZb, sZa, sZd] <;> omega) | (simp (disch := first | omega | (simp only [sZb, sZa, sZd] <;> omega) | fail) only [go_sem, bh]; done) | fail) only [go_sem, dec_t, dec_f, w_u32, w_u64, w_u16, w_u8, w_i64, Int.reduceToNat, Int.reducePow, Nat.reducePow, bh]
  refine info_spec f.h.toS fb.node fb.name fun w1 B1 => ?_
  rw [oBuildSliceN (z := AG (infoC ⟨[], 0, 0, false, 0⟩)) (size := 5) _ _ U.sl_impl_Info (by kernel_rfl) (by omega) (by omega) rfl]
  obtain ⟨W2, e2⟩ : ∃ W2, W2 = w1.alloc (CB (infoC (m.info hd.node)) T.impl_Info) := ⟨_, rfl⟩
  have zW := f.t.kp.size
  have z1 := B1.size
  have lA : w.heap.size + 1 < W.heap.size := bk_lt f.A
  have B2 : Below W.heap.size W W2 := by rw [e2]; exact B1.trans (by repeat (first | exact Below.refl _ _ | assumption | refine bel_setb ?_ (by first | exact Nat.le_refl _ | omega | (simp only [go_sem] <;> omega)) _ | refine Below.alloc ?_ (by first | exact Nat.le_refl _ | omega | (simp only [go_sem]; omega)) _ | refine Below.drew ?_))
  have b2 : bk W2 w1.heap.size = some (CB (infoC (m.info hd.node)) T.impl_Info) := by rw [e2]; exact bk_alloc_eq _ _ _ rfl
  have bA : bk W2 (w.heap.size + 1) = some (CB ansZ T.impl_Answer) := by rw [bel_bk B2 lA]; exact f.A
  rw [← e2]
  clear e2
  have l2 := bk_lt b2
  have lA2 := bk_lt bA
  simp (disch := first | omega | (simp only [sZb, sZa, sZd] <;> omega) | (simp (disch := first | omega | (simp only [sZb, sZa, sZd] <;> omega) | fail) only [go_sem, bA]; done) | fail) only [go_sem, dec_t, dec_f, w_u32, w_u64, w_u16, w_u8, w_i64, Int.reduceToNat, Int.reducePow, Nat.reducePow, bA]
  have hans : AnsV W2 (w.heap.size + 1 + 1) { SM.Ans.z with infos := [m.info hd.node] } (answC { SM.Ans.z with infos := [m.info hd.node] } (.slice none 0 0) (.slice none 0 0) (sl w1.heap.size 0 1 1)) :=
    ⟨_, _, _, rfl, BS_nil _, RowS_nil _, .inl ⟨_, _, _, rfl, by rw [b2]; rfl⟩, fun b hb => by
      rcases hb with h | h | h
      · cases h
      · cases h
      · have h9 : w1.heap.size = b := Option.some.inj h
        exact ⟨by omega, by omega⟩⟩
  obtain ⟨e1, e2, e3⟩ := fin_ans (f.h.old B2).toS (f.tr.after B2) (A := w.heap.size + 1) (by omega) f.nA (hans.n fun b hb => by have := f.lt b hb; omega) (CB (answC { SM.Ans.z with infos := [m.info hd.node] } (.slice none 0 0) (.slice none 0 0) (sl w1.heap.size 0 1 1)) T.impl_Answer)
  exact hk _ _ _ e1 e2 e3
theorem J28_spec (f : Fc w W B p m F vn va vd q ds hl c hb ρ s v) (hh : SM.hget m.hs k = some hd) {g : Nat} {cur : List Value} {d : Value} (na : NodeAt W vd m hd.node d g cur)
    (hk : FileK w B p F (m, { SM.Ans.z with names := [(m.node hd.node).name] }) K) : J_spec_Mem_file_28 (pt g (hd.node * 5)) W (pt (w.heap.size + 1) 0) K := by
  unfold J_spec_Mem_file_28
  have bg := na.bg
  have c4 := na.c4
  simp (disch := first | omega | (simp only [sZb, sZa, sZd] <;> omega) | (simp (disch := first | omega | (simp only [sZb, sZa, sZd] <;> omega) | fail) only [go_sem, bg, c4]; done) | fail) only [go_sem, dec_t, dec_f, w_u32, w_u64, w_u16, w_u8, w_i64, Int.reduceToNat, Int.reducePow, Nat.reducePow, bg, c4]
  rw [oBuildSlice1 (z := S []) _ _ U.sl_string (by kernel_rfl) rfl]
  obtain ⟨W2, e2⟩ : ∃ W2, W2 = W.alloc (CB [S (m.node hd.node).name] T.string) := ⟨_, rfl⟩
  have zW := f.t.kp.size
  have lA : w.heap.size + 1 < W.heap.size := bk_lt f.A
  have B2 : Below W.heap.size W W2 := by rw [e2]; repeat (first | exact Below.refl _ _ | assumption | refine bel_setb ?_ (by first | exact Nat.le_refl _ | omega | (simp only [go_sem] <;> omega)) _ | refine Below.alloc ?_ (by first | exact Nat.le_refl _ | omega | (simp only [go_sem]; omega)) _ | refine Below.drew ?_)
  have b2 : bk W2 W.heap.size = some (CB [S (m.node hd.node).name] T.string) := by rw [e2]; exact bk_alloc_eq _ _ _ rfl
  have bA : bk W2 (w.heap.size + 1) = some (CB ansZ T.impl_Answer) := by rw [bel_bk B2 lA]; exact f.A
  rw [← e2]
  clear e2
  have l2 := bk_lt b2
  have lA2 := bk_lt bA
  simp (disch := first | omega | (simp only [sZb, sZa, sZd] <;> omega) | (simp (disch := first | omega | (simp only [sZb, sZa, sZd] <;> omega) | fail) only [go_sem, bA]; done) | fail) only [go_sem, dec_t, dec_f, w_u32, w_u64, w_u16, w_u8, w_i64, Int.reduceToNat, Int.reducePow, Nat.reducePow, bA]
  have hans : AnsV W2 (w.heap.size + 1 + 1) { SM.Ans.z with names := [(m.node hd.node).name] } (answC { SM.Ans.z with names := [(m.node hd.node).name] } (.slice none 0 0) (sl W.heap.size 0 1 1) (.slice none 0 0)) :=
    ⟨_, _, _, rfl, BS_nil _, .inl ⟨_, _, _, rfl, by rw [b2]; rfl⟩, RowS_nil _, fun b hb => by
      rcases hb with h | h | h
      · cases h
      · have h9 : W.heap.size = b := Option.some.inj h
        exact ⟨by omega, by omega⟩
      · cases h⟩
  obtain ⟨e1, e2, e3⟩ := fin_ans (f.h.old B2).toS (f.tr.after B2) (A := w.heap.size + 1) (by omega) f.nA (hans.n fun b hb => by have := f.lt b hb; omega) (CB (answC { SM.Ans.z with names := [(m.node hd.node).name] } (.slice none 0 0) (sl W.heap.size 0 1 1) (.slice none 0 0)) T.impl_Answer)
  exact hk _ _ _ e1 e2 e3
theorem fin_err (f : Fc w W B p m F vn va vd q ds hl c hb ρ s v) {m' : SM.Mem} {w3 : World} (h3 : MemS w3 B p m' F) (t3 : Tr w w3 F F) {e : Int} {o : Obj} (hk : FileK w B p F (m', SM.Ans.err e) K) :
    K (AG (answC (SM.Ans.err e) (.slice none 0 0) (.slice none 0 0) (.slice none 0 0))) (setb w3 (w.heap.size + 1) o) := by
  obtain ⟨e1, e2, e3⟩ := fin_ans h3 t3 (A := w.heap.size + 1) (by omega) f.nA (AnsN.plain w3 _ _ (a := SM.Ans.err e) rfl rfl rfl) o
  exact hk _ _ _ e1 e2 e3
theorem J13_spec (f : Fc w W B p m F vn va vd q ds hl c hb ρ s v) (hh : SM.hget m.hs k = some hd) (fb : FB m hd s) (hop : s.op < 18) {g : Nat} {cur : List Value} (na : NodeAt W vd m hd.node (ds[hd.node]'(by rw [f.h.dl]; exact fb.node)) g cur)
    (hk : FileK w B p F (m.setH k { hd with pos := hd.pos + (SM.readFrom (m.node hd.node).data hd.pos s.n).1.length }, ⟨(SM.readFrom (m.node hd.node).data hd.pos s.n).2, 0, 0, (SM.readFrom (m.node hd.node).data hd.pos s.n).1, [], []⟩) K) :
    J_spec_Mem_file_13 (pt g (hd.node * 5)) W (pt (hb k) 0) (pt w.heap.size 0) (pt (w.heap.size + 1) 0) K := by
  unfold J_spec_Mem_file_13
  have bh := (f.h.bh k hd hh).2
  have bg := na.bg
  have c2 := na.c2
  have bS := f.S
  obtain ⟨dat, dat2⟩ := f.h.data fb.node
  have hp := fb.pos
  simp (disch := first | omega | (simp only [sZb, sZa, sZd] <;> omega) | (simp (disch := first | omega | (simp only [sZb, sZa, sZd] <;> omega) | fail) only [go_sem, bg, c2, bh, bS]; done) | fail) only [go_sem, dec_t, dec_f, w_u32, w_u64, w_u16, w_u8, w_i64, Int.reduceToNat, Int.reducePow, Nat.reducePow, bg, c2, bh, bS]
  have D1 : Below W.heap.size W W.drew := by repeat (first | exact Below.refl _ _ | assumption | refine bel_setb ?_ (by first | exact Nat.le_refl _ | omega | (simp only [go_sem] <;> omega)) _ | refine Below.alloc ?_ (by first | exact Nat.le_refl _ | omega | (simp only [go_sem]; omega)) _ | refine Below.drew ?_)
  have fdl := fb.data
  refine readFrom_spec (BS_old dat D1 (Nat.le_refl _)) (by omega) ⟨by omega, by omega⟩ (fb.n hop) fun w2 v2 b2 f2 B2 => ?_
  have B02 : Below W.heap.size W w2 := D1.trans B2
  have h2 := f.h.old B02
  have bh2 := (h2.bh k hd hh).2
  have lh2 := bk_lt bh2
  obtain ⟨a2, c2', e2⟩ := BS_slice b2
  have rl : (SM.readFrom (m.node hd.node).data hd.pos s.n).1.length ≤ 1099511627776 := by
    unfold SM.readFrom
    split
    · simp
    · split
      · simp
      · split
        · simp
        · simp; omega
  have lA : w.heap.size + 1 < W.heap.size := bk_lt f.A
  have zW := f.t.kp.size
  have bA2 : bk w2 (w.heap.size + 1) = some (CB ansZ T.impl_Answer) := by rw [bel_bk B02 lA]; exact f.A
  generalize hr : SM.readFrom (m.node hd.node).data hd.pos s.n = r at *
  subst e2
  simp (disch := first | omega | (simp only [sZb, sZa, sZd] <;> omega) | (simp (disch := first | omega | (simp only [sZb, sZa, sZd] <;> omega) | fail) only [go_sem, bh2]; done) | fail) only [go_sem, dec_t, dec_f, w_u32, w_u64, w_u16, w_u8, w_i64, Int.reduceToNat, Int.reducePow, Nat.reducePow, bh2]
  obtain ⟨h3, t3⟩ := h2.setHnd (hd' := { hd with pos := hd.pos + r.1.length }) hh
  have nA := f.hne hh (b := w.heap.size + 1) (by omega)
  have bA3 : bk (setb w2 (hb k) (CB (hndC { hd with pos := hd.pos + r.1.length }) T.spec_MemHandle)) (w.heap.size + 1) = some (CB ansZ T.impl_Answer) := by rw [bk_setb_ne _ _ _ _ (Ne.symm nA)]; exact bA2
  have kk := Kp.setb w2 (hb k) (CB (hndC { hd with pos := hd.pos + r.1.length }) T.spec_MemHandle)
  have lhk : hb k < w.heap.size := f.lt (hb k) (f.h.sub _ ((f.h.own _).2 (by rw [(f.h.bh k hd hh).1]; exact fun e => by cases e)))
  have b3 := BS_kp b2 kk fun b hb2 e => by have h9 := (f2 b hb2).1; have h8 : W.drew.heap.size = W.heap.size := rfl; omega
  have z2 := B02.size
  have T3 := (f.tr.after B02).trans t3
  generalize setb w2 (hb k) (CB (hndC { hd with pos := hd.pos + r.1.length }) T.spec_MemHandle) = w3 at *
  have lA3 := bk_lt bA3
  simp (disch := first | omega | (simp only [sZb, sZa, sZd] <;> omega) | (simp (disch := first | omega | (simp only [sZb, sZa, sZd] <;> omega) | fail) only [go_sem, bA3]; done) | fail) only [go_sem, dec_t, dec_f, w_u32, w_u64, w_u16, w_u8, w_i64, Int.reduceToNat, Int.reducePow, Nat.reducePow, bA3]
  obtain ⟨e1, e2, e3⟩ := fin_ans h3.toS T3 (A := w.heap.size + 1) (by omega) f.nA (AnsV.n (AnsV.data (a := ⟨r.2, 0, 0, r.1, [], []⟩) (lo := w.heap.size + 1 + 1) b3 (fun b hb2 => ⟨by have h9 := (f2 b hb2).1; have h8 : W.drew.heap.size = W.heap.size := rfl; omega, Nat.lt_of_lt_of_le (f2 b hb2).2 kk.size⟩) rfl rfl) fun b hb => by have := f.lt b hb; omega) (CB (answC ⟨r.2, 0, 0, r.1, [], []⟩ (.slice a2 r.1.length c2') (.slice none 0 0) (.slice none 0 0)) T.impl_Answer)
  exact hk _ _ _ e1 e2 e3
end
end Go.Proofs.YteblpejgenehfaaDoor.X
end
section
namespace Go.Proofs.YteblpejgenehfaaDoor.X
open Go Go.X Go.Proofs Go.RowKit
section
variable {w W : World} {K : Value → World → Prop} {B p : Nat} {m : SM.Mem} {F : Fp} {vn va vd : Value} {q : Nat} {ds : List Value} {hl : ML Int} {c : Nat} {hb : Int → Nat} {ρ : Nat → Rl} {k : Int} {hd : SM.Hnd} {s : SM.Stp} {v : Value}
theorem Fc.lA (f : Fc w W B p m F vn va vd q ds hl c hb ρ s v) : w.heap.size + 1 < W.heap.size := bk_lt f.A
theorem Fc.setH (f : Fc w W B p m F vn va vd q ds hl c hb ρ s v) (hh : SM.hget m.hs k = some hd) (hd' : SM.Hnd) :
    Fc w (setb W (hb k) (CB (hndC hd') T.spec_MemHandle)) B p (m.setH k hd') F vn va vd q ds hl c hb ρ s v := by
  obtain ⟨h2, t2⟩ := f.h.setHnd (hd' := hd') hh
  refine ⟨h2, f.lt, f.tr.trans t2, ?_, ?_⟩
  · rw [bk_setb_ne _ _ _ _ (Ne.symm (f.hne hh (Nat.le_refl _)))]; exact f.S
  · rw [bk_setb_ne _ _ _ _ (Ne.symm (f.hne hh (by omega)))]; exact f.A
theorem Fc.below {W' : World} (f : Fc w W B p m F vn va vd q ds hl c hb ρ s v) (b : Below W.heap.size W W') : Fc w W' B p m F vn va vd q ds hl c hb ρ s v := by
  have := f.lA
  exact ⟨f.h.old b, f.lt, f.t.after b, by rw [bel_bk b (by omega)]; exact f.S, by rw [bel_bk b (by omega)]; exact f.A⟩
theorem SM.hget_setH (m : SM.Mem) (k : Int) (h : SM.Hnd) : SM.hget (m.setH k h).hs k = some h := by
  show SM.hget (SM.hput m.hs k h) k = _
  rw [SM.hget_hput, if_pos rfl]
theorem J14_spec (f : Fc w W B p m F vn va vd q ds hl c hb ρ s v) (hh : SM.hget m.hs k = some hd) (fb : FB m hd s) (hop : s.op < 18) {g : Nat} {cur : List Value} (na : NodeAt W vd m hd.node (ds[hd.node]'(by rw [f.h.dl]; exact fb.node)) g cur)
    (hk : FileK w B p F (m, ⟨(SM.readFrom (m.node hd.node).data s.off s.n).2, 0, 0, (SM.readFrom (m.node hd.node).data s.off s.n).1, [], []⟩) K) :
    J_spec_Mem_file_14 (pt g (hd.node * 5)) W (pt w.heap.size 0) (pt (w.heap.size + 1) 0) K := by
  unfold J_spec_Mem_file_14
  have bg := na.bg
  have c2 := na.c2
  have bS := f.S
  obtain ⟨dat, dat2⟩ := f.h.data fb.node
  have hp := fb.off hop
  simp (disch := first | omega | (simp only [sZb, sZa, sZd] <;> omega) | (simp (disch := first | omega | (simp only [sZb, sZa, sZd] <;> omega) | fail) only [go_sem, bg, c2, bS]; done) | fail) only [go_sem, dec_t, dec_f, w_u32, w_u64, w_u16, w_u8, w_i64, Int.reduceToNat, Int.reducePow, Nat.reducePow, bg, c2, bS]
  have fdl := fb.data
  have f1 := f.drew
  refine readFrom_spec (BS_old dat (by repeat (first | exact Below.refl _ _ | assumption | refine bel_setb ?_ (by first | exact Nat.le_refl _ | omega | (simp only [go_sem] <;> omega)) _ | refine Below.alloc ?_ (by first | exact Nat.le_refl _ | omega | (simp only [go_sem]; omega)) _ | refine Below.drew ?_) : Below W.heap.size W W.drew) (Nat.le_refl _)) (by omega) ⟨by omega, by omega⟩ (fb.n hop) fun w2 v2 b2 g2 B2 => ?_
  have f2 := f1.below B2
  have lA := f1.lA
  obtain ⟨a2, c2', e2⟩ := BS_slice b2
  have bA2 := f2.A
  have lA2 := bk_lt bA2
  generalize hr : SM.readFrom (m.node hd.node).data s.off s.n = r at *
  subst e2
  simp (disch := first | omega | (simp only [sZb, sZa, sZd] <;> omega) | (simp (disch := first | omega | (simp only [sZb, sZa, sZd] <;> omega) | fail) only [go_sem, bA2]; done) | fail) only [go_sem, dec_t, dec_f, w_u32, w_u64, w_u16, w_u8, w_i64, Int.reduceToNat, Int.reducePow, Nat.reducePow, bA2]
  obtain ⟨e1, e2, e3⟩ := fin_ans f2.h.toS f2.tr (A := w.heap.size + 1) (by omega) f.nA (AnsV.n (AnsV.data (a := ⟨r.2, 0, 0, r.1, [], []⟩) (lo := w.heap.size + 1 + 1) b2 (fun b hb2 => ⟨by have h9 := (g2 b hb2).1; omega, (g2 b hb2).2⟩) rfl rfl) fun b hb => by have := f.lt b hb; omega) (CB (answC ⟨r.2, 0, 0, r.1, [], []⟩ (.slice a2 r.1.length c2') (.slice none 0 0) (.slice none 0 0)) T.impl_Answer)
  exact hk _ _ _ e1 e2 e3
def seekS (m : SM.Mem) (hd : SM.Hnd) (s : SM.Stp) : Int := if s.wh = 0 then s.off else if s.wh = 1 then hd.pos + s.off else if s.wh = 2 then (m.node hd.node).data.length + s.off else hd.pos
theorem J20_spec (f : Fc w W B p m F vn va vd q ds hl c hb ρ s v) (hh : SM.hget m.hs k = some hd) (fb : FB m hd s) (hop : s.op < 18) {g : Nat} {cur : List Value} (na : NodeAt W vd m hd.node (ds[hd.node]'(by rw [f.h.dl]; exact fb.node)) g cur)
    (hk : FileK w B p F (m.setH k { hd with pos := seekS m hd s }, ⟨0, 0, seekS m hd s, [], [], []⟩) K) :
    J_spec_Mem_file_20 (pt (hb k) 0) (pt (w.heap.size + 1) 0) K (pt w.heap.size 0) W (pt g (hd.node * 5)) := by
  unfold J_spec_Mem_file_20
  have bh := (f.h.bh k hd hh).2
  have lh := bk_lt bh
  have bg := na.bg
  have c2 := na.c2
  have bS := f.S
  obtain ⟨dat, dat2⟩ := f.h.data fb.node
  obtain ⟨a2, c2', ed⟩ := BS_slice dat
  rw [ed] at c2
  have hp := fb.pos
  have ho := fb.off hop
  have fdl := fb.data
  obtain ⟨P0, eP⟩ : ∃ P0, seekS m hd s = P0 := ⟨_, rfl⟩
  rw [eP] at hk
  refine jn_with (fun t w' => Fc w w' B p (m.setH k { hd with pos := P0 }) F vn va vd q ds hl c hb ρ s v) ?_ ?_
  · rintro t e w3 f3
    unfold J_spec_Mem_file_15
    have bh3 := (f3.h.bh k _ (SM.hget_setH m k _)).2
    have bA3 := f3.A
    have lA3 := bk_lt bA3
    simp (disch := first | omega | (simp only [sZb, sZa, sZd] <;> omega) | (simp (disch := first | omega | (simp only [sZb, sZa, sZd] <;> omega) | fail) only [go_sem, bh3, bA3]; done) | fail) only [go_sem, dec_t, dec_f, w_u32, w_u64, w_u16, w_u8, w_i64, Int.reduceToNat, Int.reducePow, Nat.reducePow, bh3, bA3]
    obtain ⟨e1, e2, e3⟩ := fin_ans f3.h.toS f3.tr (A := w.heap.size + 1) (by omega) f.nA (AnsN.plain w3 (w.heap.size + 1 + 1) _ (a := ⟨0, 0, P0, [], [], []⟩) rfl rfl rfl) (CB (answC ⟨0, 0, P0, [], [], []⟩ (.slice none 0 0) (.slice none 0 0) (.slice none 0 0)) T.impl_Answer)
    exact hk _ _ _ e1 e2 e3
  · have fin := f.setH hh { hd with pos := P0 }
    unfold seekS at eP
    by_cases c0 : s.wh = 0
    · rw [if_pos c0] at eP
      subst eP
      simp (disch := first | omega | (simp only [sZb, sZa, sZd] <;> omega) | (simp (disch := first | omega | (simp only [sZb, sZa, sZd] <;> omega) | fail) only [go_sem, bS, bh]; done) | fail) only [go_sem, dec_t, dec_f, w_u32, w_u64, w_u16, w_u8, w_i64, Int.reduceToNat, Int.reducePow, Nat.reducePow, bS, bh]
      exact fin
    · rw [if_neg c0] at eP
      by_cases c1 : s.wh = 1
      · rw [if_pos c1] at eP
        subst eP
        simp (disch := first | omega | (simp only [sZb, sZa, sZd] <;> omega) | (simp (disch := first | omega | (simp only [sZb, sZa, sZd] <;> omega) | fail) only [go_sem, bS]; done) | fail) only [go_sem, dec_t, dec_f, w_u32, w_u64, w_u16, w_u8, w_i64, Int.reduceToNat, Int.reducePow, Nat.reducePow, bS]
        unfold J_spec_Mem_file_19
        simp (disch := first | omega | (simp only [sZb, sZa, sZd] <;> omega) | (simp (disch := first | omega | (simp only [sZb, sZa, sZd] <;> omega) | fail) only [go_sem]; done) | fail) only [go_sem, dec_t, dec_f, w_u32, w_u64, w_u16, w_u8, w_i64, Int.reduceToNat, Int.reducePow, Nat.reducePow]
        unfold J_spec_Mem_file_16
        simp (disch := first | omega | (simp only [sZb, sZa, sZd] <;> omega) | (simp (disch := first | omega | (simp only [sZb, sZa, sZd] <;> omega) | fail) only [go_sem, bS, bh]; done) | fail) only [go_sem, dec_t, dec_f, w_u32, w_u64, w_u16, w_u8, w_i64, Int.reduceToNat, Int.reducePow, Nat.reducePow, bS, bh]
        exact fin.drew
      · rw [if_neg c1] at eP
        simp (disch := first | omega | (simp only [sZb, sZa, sZd] <;> omega) | (simp (disch := first | omega | (simp only [sZb, sZa, sZd] <;> omega) | fail) only [go_sem, bS]; done) | fail) only [go_sem, dec_t, dec_f, w_u32, w_u64, w_u16, w_u8, w_i64, Int.reduceToNat, Int.reducePow, Nat.reducePow, bS]
        unfold J_spec_Mem_file_19
        simp (disch := first | omega | (simp only [sZb, sZa, sZd] <;> omega) | (simp (disch := first | omega | (simp only [sZb, sZa, sZd] <;> omega) | fail) only [go_sem]; done) | fail) only [go_sem, dec_t, dec_f, w_u32, w_u64, w_u16, w_u8, w_i64, Int.reduceToNat, Int.reducePow, Nat.reducePow]
        unfold J_spec_Mem_file_18
        by_cases c2' : s.wh = 2
        · rw [if_pos c2'] at eP
          subst eP
          simp (disch := first | omega | (simp only [sZb, sZa, sZd] <;> omega) | (simp (disch := first | omega | (simp only [sZb, sZa, sZd] <;> omega) | fail) only [go_sem]; done) | fail) only [go_sem, dec_t, dec_f, w_u32, w_u64, w_u16, w_u8, w_i64, Int.reduceToNat, Int.reducePow, Nat.reducePow]
          unfold J_spec_Mem_file_17
          simp (disch := first | omega | (simp only [sZb, sZa, sZd] <;> omega) | (simp (disch := first | omega | (simp only [sZb, sZa, sZd] <;> omega) | fail) only [go_sem, bS, bg, c2, bh]; done) | fail) only [go_sem, dec_t, dec_f, w_u32, w_u64, w_u16, w_u8, w_i64, Int.reduceToNat, Int.reducePow, Nat.reducePow, bS, bg, c2, bh]
          exact fin.drew
        · rw [if_neg c2'] at eP
          subst eP
          simp (disch := first | omega | (simp only [sZb, sZa, sZd] <;> omega) | (simp (disch := first | omega | (simp only [sZb, sZa, sZd] <;> omega) | fail) only [go_sem]; done) | fail) only [go_sem, dec_t, dec_f, w_u32, w_u64, w_u16, w_u8, w_i64, Int.reduceToNat, Int.reducePow, Nat.reducePow]
          have e : setb W (hb k) (CB (hndC hd) T.spec_MemHandle) = W := setb_same bh
          rw [e] at fin
          exact fin
theorem J11_spec (f : Fc w W B p m F vn va vd q ds hl c hb ρ s v) (hh : SM.hget m.hs k = some hd)
    (hk : FileK w B p F (if s.op = 15 then m.setH k { hd with pos := s.off } else m, SM.Ans.err 6) K) :
    J_spec_Mem_file_11 (pt (w.heap.size + 1) 0) K (pt w.heap.size 0) W (pt (hb k) 0) := by
  unfold J_spec_Mem_file_11
  have bh := (f.h.bh k hd hh).2
  have lh := bk_lt bh
  have bS := f.S
  obtain ⟨m', em⟩ : ∃ m', (if s.op = 15 then m.setH k { hd with pos := s.off } else m) = m' := ⟨_, rfl⟩
  rw [em] at hk
  refine jn_with (fun t w' => Fc w w' B p m' F vn va vd q ds hl c hb ρ s v) ?_ ?_
  · rintro t e w3 f3
    unfold J_spec_Mem_file_10
    have bA3 := f3.A
    have lA3 := bk_lt bA3
    simp (disch := first | omega | (simp only [sZb, sZa, sZd] <;> omega) | (simp (disch := first | omega | (simp only [sZb, sZa, sZd] <;> omega) | fail) only [go_sem, bA3]; done) | fail) only [go_sem, dec_t, dec_f, w_u32, w_u64, w_u16, w_u8, w_i64, Int.reduceToNat, Int.reducePow, Nat.reducePow, bA3]
    exact fin_err f3 f3.h.toS f3.tr hk
  · by_cases c0 : s.op = 15
    · rw [if_pos c0] at em
      simp (disch := first | omega | (simp only [sZb, sZa, sZd] <;> omega) | (simp (disch := first | omega | (simp only [sZb, sZa, sZd] <;> omega) | fail) only [go_sem, bS, bh]; done) | fail) only [go_sem, dec_t, dec_f, w_u32, w_u64, w_u16, w_u8, w_i64, Int.reduceToNat, Int.reducePow, Nat.reducePow, bS, bh]
      rw [← em]
      exact f.setH hh { hd with pos := s.off }
    · rw [if_neg c0] at em
      simp (disch := first | omega | (simp only [sZb, sZa, sZd] <;> omega) | (simp (disch := first | omega | (simp only [sZb, sZa, sZd] <;> omega) | fail) only [go_sem, bS]; done) | fail) only [go_sem, dec_t, dec_f, w_u32, w_u64, w_u16, w_u8, w_i64, Int.reduceToNat, Int.reducePow, Nat.reducePow, bS]
      rw [← em]
      exact f
end
end Go.Proofs.YteblpejgenehfaaDoor.X
end
section
namespace Go.Proofs.YteblpejgenehfaaDoor.X
open Go Go.X Go.Proofs Go.RowKit
theorem BS_hi {w : World} {v : Value} {l : List UInt8} (h : BS w v l) {q : Nat} (hq : q ≤ l.length) :
    ∃ v', BS w v' (l.take q) ∧ (∀ b, v'.ownBlock = some b → v.ownBlock = some b) ∧ ∀ (j : IntKind) (L : Value → Prop), pu P (oSlice T.sl_uint8 v none (some (.int j q)) none) L = L v' := by
  rcases h with ⟨rfl, a, cap, rfl⟩ | ⟨b, o, cap, rfl, h3, h4, h5⟩
  · have hq0 : q = 0 := by simpa using hq
    subst hq0
    refine ⟨.slice a 0 cap, .inl ⟨rfl, _, _, rfl⟩, fun b hb => hb, fun j L => ?_⟩
    cases a with
    | none =>
      exact pu_v' (by
        simp only [Instr.sliceAt, Instr.slice, Instr.sliceBounds]
        simp [rp_bind, rp_map, rp_underlying U.sl_uint8, rp_sliceBound j 0 cap _ (by omega) (by omega), rp_size (show (P.info? T.uint8).map (·.size) = some 1 by kernel_rfl)])
    | some ad =>
      exact pu_v' (by
        simp only [Instr.sliceAt, Instr.slice, Instr.sliceBounds]
        simp [rp_bind, rp_map, rp_underlying U.sl_uint8, rp_sliceBound j 0 cap _ (by omega) (by omega), rp_size (show (P.info? T.uint8).map (·.size) = some 1 by kernel_rfl)]
        intro h
        simp [Addr.add])
  · refine ⟨sl b o q cap, ?_, fun b hb => hb, fun j L => ?_⟩
    · by_cases e : q = 0
      · subst e
        exact .inl ⟨by simp, some ⟨b, o, none⟩, cap, rfl⟩
      · have el : (l.take q).length = q := by simp; omega
        refine .inr ⟨b, o, cap, by rw [el], by rw [el]; omega, ?_, h5⟩
        unfold rowB at h4 ⊢
        obtain ⟨c', t', fz, e1, e2, e3⟩ := rowOf_inv h4
        rw [e1]
        simp only [rowOf, el]
        rw [if_pos (by omega)]
        congr 1
        rw [List.map_take, ← e3, List.take_take, Nat.min_eq_left hq]
    · rw [oSlice_hi (size := 1) L U.sl_uint8 (by kernel_rfl) (by omega) (by omega), Int.toNat_natCast]
section
variable {w W : World} {K : Value → World → Prop} {B p : Nat} {m : SM.Mem} {F : Fp} {vn va vd : Value} {q : Nat} {ds : List Value} {hl : ML Int} {c : Nat} {hb : Int → Nat} {ρ : Nat → Rl} {k : Int} {hd : SM.Hnd} {s : SM.Stp} {v : Value}
theorem Fc.setData {w2 : World} {i g : Nat} {cur : List Value} {l : Str} {v2 : Value} (f : Fc w W B p m F vn va vd q ds hl c hb ρ s v) (hi : i < m.nodes.length) (na : NodeAt W vd m i (ds[i]'(by rw [f.h.dl]; exact hi)) g cur)
    (b2 : Below W.heap.size W w2) (o2 : w2.ownsRow W.heap.size T.uint8 1 v2 l.length (l.map byt)) :
    ∃ F', MemX (setb (setb w2 g (CB (cur.set (i * 5 + 2) v2) T.spec_MemNode)) g (CB ((cur.set (i * 5 + 2) v2).set (i * 5 + 3) (.int .i64 0)) T.spec_MemNode)) B p (m.setNode i { m.node i with data := l, time := 0 }) F' vn va vd q ((ds.set i v2).set i v2) hl c hb ρ ∧
      Tr w (setb (setb w2 g (CB (cur.set (i * 5 + 2) v2) T.spec_MemNode)) g (CB ((cur.set (i * 5 + 2) v2).set (i * 5 + 3) (.int .i64 0)) T.spec_MemNode)) F F' ∧
      bk (setb (setb w2 g (CB (cur.set (i * 5 + 2) v2) T.spec_MemNode)) g (CB ((cur.set (i * 5 + 2) v2).set (i * 5 + 3) (.int .i64 0)) T.spec_MemNode)) w.heap.size = some (CB (stepC s v) T.impl_Step) ∧
      bk (setb (setb w2 g (CB (cur.set (i * 5 + 2) v2) T.spec_MemNode)) g (CB ((cur.set (i * 5 + 2) v2).set (i * 5 + 3) (.int .i64 0)) T.spec_MemNode)) (w.heap.size + 1) = some (CB ansZ T.impl_Answer) ∧ ¬ F'.use (w.heap.size + 1) := by
  have f2 := f.below b2
  have lA := f.lA
  have fr : ∀ b, v2.ownBlock = some b → W.heap.size ≤ b ∧ b < w2.heap.size := own_in o2
  have hm := f2.h.more (U := fun b => v2.ownBlock = some b) fun b hb => (fr b hb).2
  obtain ⟨g2, cur2, n2, n3, n4⟩ := hm.node hi
  have eg : g2 = g := Option.some.inj (n2.ob.symm.trans na.ob)
  subst eg
  have lg : g2 < W.heap.size := bk_lt na.bg
  have ec : cur2 = cur := by
    have e1 := n2.bg
    rw [bel_bk b2 lg, na.bg] at e1
    injection e1 with e1
    injection e1 with e1
    simpa using e1.symm
  subst ec
  have hnr : ∀ b, v2.ownBlock = some b → ρ b = .no := fun b hb => by
    have h1 := (fr b hb).1
    refine Decidable.byContradiction fun hn => ?_
    have := f.h.in_ hn
    omega
  obtain ⟨h3, n5, t3, q1, q2⟩ := hm.store (j := 2) (x := v2) (n' := { m.node i with data := l }) (d' := v2) hi n2 rfl n3 n4 (by omega) rfl ⟨BS_own o2, fun b hb => ⟨.inr hb, hnr b hb⟩⟩
  have hi3 : i < (m.setNode i { m.node i with data := l }).nodes.length := by simpa [SM.Mem.setNode] using hi
  have en : (m.setNode i { m.node i with data := l }).node i = { m.node i with data := l } := by
    rw [node_get hi3]; simp [SM.Mem.setNode]
  have ed : ((ds.set i v2)[i]'(by rw [h3.dl]; exact hi3)) = v2 := by simp
  obtain ⟨h4, n6, t4, q3, q4⟩ := h3.store (j := 3) (x := .int .i64 0) (n' := { m.node i with data := l, time := 0 }) (d' := v2) hi3 n5 ed.symm q1 q2 (by omega) (by rw [en]; rfl) (by
    have := h3.data hi3
    rw [en, ed] at this
    exact this)
  have em : (m.setNode i { m.node i with data := l }).setNode i { m.node i with data := l, time := 0 } = m.setNode i { m.node i with data := l, time := 0 } := by
    unfold SM.Mem.setNode
    simp
  rw [em] at h4
  have T2 : Tr w w2 F ⟨F.own, fun b => F.use b ∨ v2.ownBlock = some b⟩ := ⟨f2.t.kp, fun b hb => ⟨fun x => x, fun x => x.elim id fun e => by have := (fr b e).1; omega⟩⟩
  have ng : ∀ b, w.heap.size ≤ b → b ≠ g2 := fun b hb e => by
    have := f.lt g2 (f.h.sub _ ((f.h.own _).2 (by rw [f.h.rd _ na.ob]; decide)))
    omega
  refine ⟨_, h4, (T2.trans t3).trans t4, ?_, ?_, fun e => e.elim f.nA fun e => by have := (fr _ e).1; omega⟩
  · rw [bk_setb_ne _ _ _ _ (ng _ (Nat.le_refl _)), bk_setb_ne _ _ _ _ (ng _ (Nat.le_refl _))]; exact f2.S
  · rw [bk_setb_ne _ _ _ _ (ng _ (by omega)), bk_setb_ne _ _ _ _ (ng _ (by omega))]; exact f2.A
theorem J2_spec (f : Fc w W B p m F vn va vd q ds hl c hb ρ s v) (fb : FB m hd s) (h0 : 0 ≤ s.off) (h1 : s.off ≤ 1099511627776) {g : Nat} {cur : List Value} (na : NodeAt W vd m hd.node (ds[hd.node]'(by rw [f.h.dl]; exact fb.node)) g cur)
    (hk : FileK w B p F (m.setNode hd.node { m.node hd.node with data := SM.grown ((m.node hd.node).data.take (min ((m.node hd.node).data.length : Int) s.off).toNat) s.off, time := 0 }, SM.Ans.z) K) :
    J_spec_Mem_file_2 (pt g (hd.node * 5)) W (pt w.heap.size 0) (pt (w.heap.size + 1) 0) K := by
  unfold J_spec_Mem_file_2
  have bg := na.bg
  have c2 := na.c2
  have bS := f.S
  have f1 := f.drew
  obtain ⟨dat, dat2⟩ := f1.h.data fb.node
  obtain ⟨da, dc, ed⟩ := BS_slice dat
  have fdl := fb.data
  obtain ⟨x, hx⟩ := Int.eq_ofNat_of_zero_le (show 0 ≤ min ((m.node hd.node).data.length : Int) s.off by omega)
  have hxl : x ≤ (m.node hd.node).data.length := by omega
  obtain ⟨vh, bh', uh, sh⟩ := BS_hi dat hxl
  rw [ed] at sh c2
  rw [hx] at hk
  rw [Int.toNat_natCast] at hk
  simp (disch := first | omega | (simp only [sZb, sZa, sZd] <;> omega) | (simp (disch := first | omega | (simp only [sZb, sZa, sZd] <;> omega) | fail) only [go_sem, bg, c2, bS, hx, sh]; done) | fail) only [go_sem, dec_t, dec_f, w_u32, w_u64, w_u16, w_u8, w_i64, Int.reduceToNat, Int.reducePow, Nat.reducePow, bg, c2, bS, hx, sh]
  refine grown_spec bh' (by simp; omega) h1 fun w2 v2 o2 B2 => ?_
  have f2 := f1.below B2
  have bg2 : bk w2 g = some (CB cur T.spec_MemNode) := by rw [bel_bk B2 (show g < W.drew.heap.size from bk_lt bg)]; exact bg
  have lg2 := bk_lt bg2
  have one2 : v2.oneCell' = true := by obtain ⟨_, _, rfl⟩ := own_slice o2; rfl
  have na1 : NodeAt W.drew vd m hd.node (ds[hd.node]'(by rw [f1.h.dl]; exact fb.node)) g cur := ⟨na.ob, na.bg, na.len, na.ix, na.row, na.c0, na.c1, na.c2, na.c3, na.c4⟩
  obtain ⟨F', h3, t3, s3, a3, nA⟩ := f1.setData fb.node na1 B2 o2
  have len := na.len
  have hl3 : hd.node * 5 + 3 < (cur.set (hd.node * 5 + 2) v2).length := by rw [List.length_set]; omega
  simp (disch := first | omega | (simp only [sZb, sZa, sZd] <;> omega) | (simp (disch := first | omega | (simp only [sZb, sZa, sZd] <;> omega) | fail) only [go_sem, bg2, one2]; done) | fail) only [go_sem, dec_t, dec_f, w_u32, w_u64, w_u16, w_u8, w_i64, Int.reduceToNat, Int.reducePow, Nat.reducePow, bg2, one2]
  generalize setb (setb w2 g (CB (cur.set (hd.node * 5 + 2) v2) T.spec_MemNode)) g (CB ((cur.set (hd.node * 5 + 2) v2).set (hd.node * 5 + 3) (.int .i64 0)) T.spec_MemNode) = w3 at *
  have lA3 := bk_lt a3
  simp (disch := first | omega | (simp only [sZb, sZa, sZd] <;> omega) | (simp (disch := first | omega | (simp only [sZb, sZa, sZd] <;> omega) | fail) only [go_sem, a3]; done) | fail) only [go_sem, dec_t, dec_f, w_u32, w_u64, w_u16, w_u8, w_i64, Int.reduceToNat, Int.reducePow, Nat.reducePow, a3]
  obtain ⟨e1, e2, e3⟩ := fin_ans h3.toS t3 (A := w.heap.size + 1) (by omega) nA (AnsN.plain w3 (w.heap.size + 1 + 1) _ (a := SM.Ans.z) rfl rfl rfl) (CB ansZ T.impl_Answer)
  exact hk _ _ _ e1 e2 e3
theorem J1_spec {w3 : World} {m' : SM.Mem} {F' : Fp} (h3 : MemS w3 B p m' F') (t3 : Tr w w3 F F') (s3 : bk w3 w.heap.size = some (CB (stepC s v) T.impl_Step)) (a3 : bk w3 (w.heap.size + 1) = some (CB ansZ T.impl_Answer)) (nA : ¬ F'.use (w.heap.size + 1)) (hv : ∃ a c, v = .slice a s.data.length c)
    (hk : FileK w B p F (m', ⟨0, s.data.length, 0, [], [], []⟩) K) (t : List Value) (u : Env) : J_spec_Mem_file_1 (pt w.heap.size 0) (pt (w.heap.size + 1) 0) K t u w3 := by
  unfold J_spec_Mem_file_1
  obtain ⟨a, c, rfl⟩ := hv
  have lA3 := bk_lt a3
  simp (disch := first | omega | (simp only [sZb, sZa, sZd] <;> omega) | (simp (disch := first | omega | (simp only [sZb, sZa, sZd] <;> omega) | fail) only [go_sem, s3, a3]; done) | fail) only [go_sem, dec_t, dec_f, w_u32, w_u64, w_u16, w_u8, w_i64, Int.reduceToNat, Int.reducePow, Nat.reducePow, s3, a3]
  obtain ⟨e1, e2, e3⟩ := fin_ans h3 t3 (A := w.heap.size + 1) (by omega) nA (AnsN.plain w3 (w.heap.size + 1 + 1) _ (a := ⟨0, s.data.length, 0, [], [], []⟩) rfl rfl rfl) (CB (answC ⟨0, s.data.length, 0, [], [], []⟩ (.slice none 0 0) (.slice none 0 0) (.slice none 0 0)) T.impl_Answer)
  exact hk _ _ _ e1 e2 e3
theorem J34_mid (f : Fc w W B p m F vn va vd q ds hl c hb ρ s v) {m' : SM.Mem} {w3 : World} {F' : Fp} {ds' : List Value} {P0 : Int} (hh : SM.hget m.hs k = some hd) (em : SM.hget m'.hs k = some hd) (h3 : MemX w3 B p m' F' vn va vd q ds' hl c hb ρ) (t3 : Tr w w3 F F') (s3 : bk w3 w.heap.size = some (CB (stepC s v) T.impl_Step)) (a3 : bk w3 (w.heap.size + 1) = some (CB ansZ T.impl_Answer)) :
    MemS (setb w3 (hb k) (CB (hndC { hd with pos := P0 }) T.spec_MemHandle)) B p (m'.setH k { hd with pos := P0 }) F' ∧ Tr w (setb w3 (hb k) (CB (hndC { hd with pos := P0 }) T.spec_MemHandle)) F F' ∧ bk (setb w3 (hb k) (CB (hndC { hd with pos := P0 }) T.spec_MemHandle)) w.heap.size = some (CB (stepC s v) T.impl_Step) ∧ bk (setb w3 (hb k) (CB (hndC { hd with pos := P0 }) T.spec_MemHandle)) (w.heap.size + 1) = some (CB ansZ T.impl_Answer) := by
  obtain ⟨h4, t4⟩ := h3.setHnd (hd' := { hd with pos := P0 }) em
  refine ⟨h4.toS, t3.trans t4, ?_, ?_⟩
  · rw [bk_setb_ne _ _ _ _ (Ne.symm (f.hne hh (Nat.le_refl _)))]; exact s3
  · rw [bk_setb_ne _ _ _ _ (Ne.symm (f.hne hh (by omega)))]; exact a3
theorem J3_spec (f : Fc w W B p m F vn va vd q ds hl c hb ρ s v) (hh : SM.hget m.hs k = some hd) (fb : FB m hd s) (hv : BS W v s.data) (h0 : 0 ≤ hd.pos) (h1 : hd.pos ≤ 1048576) {g : Nat} {cur : List Value} (na : NodeAt W vd m hd.node (ds[hd.node]'(by rw [f.h.dl]; exact fb.node)) g cur)
    {kk : List Value → World → Prop} (hk : ∀ w3 F', MemS w3 B p ((m.setNode hd.node { m.node hd.node with data := SM.over (m.node hd.node).data hd.pos s.data, time := 0 }).setH k { hd with pos := hd.pos + s.data.length }) F' → Tr w w3 F F' → bk w3 w.heap.size = some (CB (stepC s v) T.impl_Step) → bk w3 (w.heap.size + 1) = some (CB ansZ T.impl_Answer) → ¬ F'.use (w.heap.size + 1) → kk [] w3) :
    J_spec_Mem_file_3 (pt g (hd.node * 5)) W (pt (hb k) 0) (pt w.heap.size 0) kk := by
  unfold J_spec_Mem_file_3
  have bg := na.bg
  have c2 := na.c2
  have bS := f.S
  have f1 := f.drew
  have bh := (f.h.bh k hd hh).2
  obtain ⟨dat, dat2⟩ := f1.h.data fb.node
  have fdl := fb.data
  have fln := fb.len
  simp (disch := first | omega | (simp only [sZb, sZa, sZd] <;> omega) | (simp (disch := first | omega | (simp only [sZb, sZa, sZd] <;> omega) | fail) only [go_sem, bg, c2, bS, bh]; done) | fail) only [go_sem, dec_t, dec_f, w_u32, w_u64, w_u16, w_u8, w_i64, Int.reduceToNat, Int.reducePow, Nat.reducePow, bg, c2, bS, bh]
  refine over_spec dat (BS_old hv (by repeat (first | exact Below.refl _ _ | assumption | refine bel_setb ?_ (by first | exact Nat.le_refl _ | omega | (simp only [go_sem] <;> omega)) _ | refine Below.alloc ?_ (by first | exact Nat.le_refl _ | omega | (simp only [go_sem]; omega)) _ | refine Below.drew ?_) : Below W.heap.size W W.drew) (Nat.le_refl _)) fdl h0 (by omega) fun w2 v2 o2 B2 => ?_
  have f2 := f1.below B2
  have bg2 : bk w2 g = some (CB cur T.spec_MemNode) := by rw [bel_bk B2 (show g < W.drew.heap.size from bk_lt bg)]; exact bg
  have lg2 := bk_lt bg2
  have one2 : v2.oneCell' = true := by obtain ⟨_, _, rfl⟩ := own_slice o2; rfl
  have na1 : NodeAt W.drew vd m hd.node (ds[hd.node]'(by rw [f1.h.dl]; exact fb.node)) g cur := ⟨na.ob, na.bg, na.len, na.ix, na.row, na.c0, na.c1, na.c2, na.c3, na.c4⟩
  obtain ⟨F', h3, t3, s3, a3, nA⟩ := f1.setData fb.node na1 B2 o2
  have len := na.len
  have hl3 : hd.node * 5 + 3 < (cur.set (hd.node * 5 + 2) v2).length := by rw [List.length_set]; omega
  simp (disch := first | omega | (simp only [sZb, sZa, sZd] <;> omega) | (simp (disch := first | omega | (simp only [sZb, sZa, sZd] <;> omega) | fail) only [go_sem, bg2, one2]; done) | fail) only [go_sem, dec_t, dec_f, w_u32, w_u64, w_u16, w_u8, w_i64, Int.reduceToNat, Int.reducePow, Nat.reducePow, bg2, one2]
  generalize setb (setb w2 g (CB (cur.set (hd.node * 5 + 2) v2) T.spec_MemNode)) g (CB ((cur.set (hd.node * 5 + 2) v2).set (hd.node * 5 + 3) (.int .i64 0)) T.spec_MemNode) = w3 at *
  have bh3 := (h3.bh k hd hh).2
  have lh3 := bk_lt bh3
  obtain ⟨av, cv, ev⟩ := BS_slice hv
  rw [ev] at s3
  simp (disch := first | omega | (simp only [sZb, sZa, sZd] <;> omega) | (simp (disch := first | omega | (simp only [sZb, sZa, sZd] <;> omega) | fail) only [go_sem, bh3, s3]; done) | fail) only [go_sem, dec_t, dec_f, w_u32, w_u64, w_u16, w_u8, w_i64, Int.reduceToNat, Int.reducePow, Nat.reducePow, bh3, s3]
  have h3d := h3.old (by repeat (first | exact Below.refl _ _ | assumption | refine bel_setb ?_ (by first | exact Nat.le_refl _ | omega | (simp only [go_sem] <;> omega)) _ | refine Below.alloc ?_ (by first | exact Nat.le_refl _ | omega | (simp only [go_sem]; omega)) _ | refine Below.drew ?_) : Below w3.heap.size w3 w3.drew)
  rw [← ev] at s3
  obtain ⟨r1, r2, r3, r4⟩ := J34_mid (P0 := hd.pos + s.data.length) f hh (show SM.hget (m.setNode hd.node _).hs k = some hd from hh) h3d (t3.after (by repeat (first | exact Below.refl _ _ | assumption | refine bel_setb ?_ (by first | exact Nat.le_refl _ | omega | (simp only [go_sem] <;> omega)) _ | refine Below.alloc ?_ (by first | exact Nat.le_refl _ | omega | (simp only [go_sem]; omega)) _ | refine Below.drew ?_))) s3 a3
  exact hk _ _ r1 r2 r3 r4 nA
theorem J4_spec (f : Fc w W B p m F vn va vd q ds hl c hb ρ s v) (hh : SM.hget m.hs k = some hd) (fb : FB m hd s) (hv : BS W v s.data) (h0 : 0 ≤ s.off) (h1 : s.off ≤ 1048576) {g : Nat} {cur : List Value} (na : NodeAt W vd m hd.node (ds[hd.node]'(by rw [f.h.dl]; exact fb.node)) g cur)
    {kk : List Value → World → Prop} (hk : ∀ w3 F', MemS w3 B p ((m.setNode hd.node { m.node hd.node with data := SM.over (m.node hd.node).data s.off s.data, time := 0 }).setH k { hd with pos := s.off + s.data.length }) F' → Tr w w3 F F' → bk w3 w.heap.size = some (CB (stepC s v) T.impl_Step) → bk w3 (w.heap.size + 1) = some (CB ansZ T.impl_Answer) → ¬ F'.use (w.heap.size + 1) → kk [] w3) :
    J_spec_Mem_file_4 (pt g (hd.node * 5)) W (pt w.heap.size 0) (pt (hb k) 0) kk := by
  unfold J_spec_Mem_file_4
  have bg := na.bg
  have c2 := na.c2
  have bS := f.S
  have f1 := f.drew
  have bh := (f.h.bh k hd hh).2
  obtain ⟨dat, dat2⟩ := f1.h.data fb.node
  have fdl := fb.data
  have fln := fb.len
  simp (disch := first | omega | (simp only [sZb, sZa, sZd] <;> omega) | (simp (disch := first | omega | (simp only [sZb, sZa, sZd] <;> omega) | fail) only [go_sem, bg, c2, bS, bh]; done) | fail) only [go_sem, dec_t, dec_f, w_u32, w_u64, w_u16, w_u8, w_i64, Int.reduceToNat, Int.reducePow, Nat.reducePow, bg, c2, bS, bh]
  refine over_spec dat (BS_old hv (by repeat (first | exact Below.refl _ _ | assumption | refine bel_setb ?_ (by first | exact Nat.le_refl _ | omega | (simp only [go_sem] <;> omega)) _ | refine Below.alloc ?_ (by first | exact Nat.le_refl _ | omega | (simp only [go_sem]; omega)) _ | refine Below.drew ?_) : Below W.heap.size W W.drew) (Nat.le_refl _)) fdl h0 (by omega) fun w2 v2 o2 B2 => ?_
  have f2 := f1.below B2
  have bg2 : bk w2 g = some (CB cur T.spec_MemNode) := by rw [bel_bk B2 (show g < W.drew.heap.size from bk_lt bg)]; exact bg
  have lg2 := bk_lt bg2
  have one2 : v2.oneCell' = true := by obtain ⟨_, _, rfl⟩ := own_slice o2; rfl
  have na1 : NodeAt W.drew vd m hd.node (ds[hd.node]'(by rw [f1.h.dl]; exact fb.node)) g cur := ⟨na.ob, na.bg, na.len, na.ix, na.row, na.c0, na.c1, na.c2, na.c3, na.c4⟩
  obtain ⟨F', h3, t3, s3, a3, nA⟩ := f1.setData fb.node na1 B2 o2
  have len := na.len
  have hl3 : hd.node * 5 + 3 < (cur.set (hd.node * 5 + 2) v2).length := by rw [List.length_set]; omega
  simp (disch := first | omega | (simp only [sZb, sZa, sZd] <;> omega) | (simp (disch := first | omega | (simp only [sZb, sZa, sZd] <;> omega) | fail) only [go_sem, bg2, one2]; done) | fail) only [go_sem, dec_t, dec_f, w_u32, w_u64, w_u16, w_u8, w_i64, Int.reduceToNat, Int.reducePow, Nat.reducePow, bg2, one2]
  generalize setb (setb w2 g (CB (cur.set (hd.node * 5 + 2) v2) T.spec_MemNode)) g (CB ((cur.set (hd.node * 5 + 2) v2).set (hd.node * 5 + 3) (.int .i64 0)) T.spec_MemNode) = w3 at *
  have bh3 := (h3.bh k hd hh).2
  have lh3 := bk_lt bh3
  obtain ⟨av, cv, ev⟩ := BS_slice hv
  rw [ev] at s3
  simp (disch := first | omega | (simp only [sZb, sZa, sZd] <;> omega) | (simp (disch := first | omega | (simp only [sZb, sZa, sZd] <;> omega) | fail) only [go_sem, bh3, s3]; done) | fail) only [go_sem, dec_t, dec_f, w_u32, w_u64, w_u16, w_u8, w_i64, Int.reduceToNat, Int.reducePow, Nat.reducePow, bh3, s3]
  rw [← ev] at s3
  obtain ⟨r1, r2, r3, r4⟩ := J34_mid (P0 := s.off + s.data.length) f hh (show SM.hget (m.setNode hd.node _).hs k = some hd from hh) h3 t3 s3 a3
  exact hk _ _ r1 r2 r3 r4 nA
end
end Go.Proofs.YteblpejgenehfaaDoor.X
end
section
namespace Go.Proofs.YteblpejgenehfaaDoor.X
open Go Go.X Go.Proofs Go.RowKit
structure MB (m : SM.Mem) : Prop where
  nn : m.names.length ≤ 999990000
  dn : m.nodes.length ≤ 999990000
  la : m.ats.length = m.names.length
  lt : ∀ a ∈ m.ats, a < m.nodes.length
  nl : ∀ x ∈ m.names, x.length ≤ 1000000000
  dl : ∀ n ∈ m.nodes, n.name.length ≤ 1000000000
theorem MB.node {m : SM.Mem} (h : MB m) {i : Nat} (hi : i < m.nodes.length) : (m.node i).name.length ≤ 1000000000 := by
  rw [node_get hi]; exact h.dl _ (List.getElem_mem hi)
theorem MB.find {m : SM.Mem} (h : MB m) (h0 : 0 < m.nodes.length) (l : Str) : (m.find l).getD 0 < m.nodes.length := by
  cases hf : m.find l with
  | none => exact h0
  | some x => exact find_lt h.la h.lt hf
theorem infosC_snoc (l : List SM.Info) (i : SM.Info) : infosC (l ++ [i]) = infosC l ++ infoC i := by simp [infosC]
theorem oneC_infos (l : List SM.Info) : ∀ u ∈ infosC l, u.oneCell' = true := fun u hu => by
  obtain ⟨c, hc, hu⟩ := List.mem_flatten.1 hu
  obtain ⟨i, _, rfl⟩ := List.mem_map.1 hc
  simp at hu
  rcases hu with rfl | rfl | rfl | rfl | rfl <;> rfl
theorem RowS_own {w : World} {B n size : Nat} {e : TypeId} {v : Value} {xs : List Value} (h : w.ownsRow B e size v n xs) : RowS w v n xs := by
  by_cases h0 : n = 0
  · subst h0
    obtain ⟨a, cap, rfl⟩ := own_slice h
    exact .inr ⟨rfl, by have := h.1; simpa using this, a, cap, rfl⟩
  · obtain ⟨b, cap, cur, rfl, h1, h2, h3, h4, h5, h6⟩ := own_row h h0
    refine .inl ⟨b, 0, cap, rfl, ?_⟩
    have := h.1
    rw [h4, this]
    simp only [rowOf]
    have h7 : n * size ≤ cap * size := Nat.mul_le_mul_right _ h1
    rw [if_pos (by simp only [List.size_toArray]; omega)]
    simpa using h6
theorem zInfo : (P.info? T.impl_Info).map (fun i => (i.zero, i.size, i.bytes)) = some (some (AG (infoC ⟨[], 0, 0, false, 0⟩)), 5, 48) := by kernel_rfl
section
variable {w W : World} {K : Value → World → Prop} {B p : Nat} {m : SM.Mem} {F : Fp} {vn va vd : Value} {q : Nat} {ds : List Value} {hl : ML Int} {c : Nat} {hb : Int → Nat} {ρ : Nat → Rl} {k : Int} {hd : SM.Hnd} {s : SM.Stp} {v : Value}
theorem list6_spec (f : Fc w W B p m F vn va vd q ds hl c hb ρ s v) (hh : SM.hget m.hs k = some hd) (fb : FB m hd s) (mb : MB m) {x : Value} {l2 : List Str} {e : Int} (hx : VS S W x l2) (hxb : ∀ b, x.ownBlock = some b → w.heap.size + 1 < b) (hll : l2.length ≤ 999990000) (hln : ∀ y ∈ l2, y.length ≤ 1000000000) (u : Env)
    (hk : FileK w B p F (m.setH k { hd with listed := hd.listed + l2.length }, if s.op = 20 then ⟨e, 0, 0, [], l2.map SM.base, []⟩ else ⟨e, 0, 0, [], [], l2.map fun x => m.info ((m.find x).getD 0)⟩) K) :
    J_spec_Mem_list_6 (pt (hb k) 0) (pt (w.heap.size + 1) 0) K (pt p 0) (pt w.heap.size 0) [x, .int .i64 e] u W := by
  unfold J_spec_Mem_list_6
  have bh := (f.h.bh k hd hh).2
  have lh := bk_lt bh
  obtain ⟨ax, cx, ex⟩ := hx.slice
  have hls := fb.lst
  have f3 := f.setH hh { hd with listed := hd.listed + l2.length }
  have kk := Kp.setb W (hb k) (CB (hndC { hd with listed := hd.listed + l2.length }) T.spec_MemHandle)
  have hx3 := hx.kp kk fun b hb2 e => by
    have := hxb b hb2
    have := f.lt (hb k) (f.h.sub _ ((f.h.own _).2 (by rw [(f.h.bh k hd hh).1]; exact fun e => by cases e)))
    omega
  rw [gs0]
  rw [ex]
  simp (disch := first | omega | (simp only [sZb, sZa, sZd] <;> omega) | (simp (disch := first | omega | (simp only [sZb, sZa, sZd] <;> omega) | fail) only [go_sem, bh]; done) | fail) only [go_sem, dec_t, dec_f, w_u32, w_u64, w_u16, w_u8, w_i64, Int.reduceToNat, Int.reducePow, Nat.reducePow, bh]
  rw [← ex]
  have z3 : (setb W (hb k) (CB (hndC { hd with listed := hd.listed + l2.length }) T.spec_MemHandle)).heap.size = W.heap.size := sZb _ _ _
  generalize setb W (hb k) (CB (hndC { hd with listed := hd.listed + l2.length }) T.spec_MemHandle) = W3 at *
  obtain ⟨W4, e4⟩ : ∃ W4, W4 = setb (W3.alloc (CB ansZ T.impl_Answer)) W3.heap.size (CB (answC (SM.Ans.err e) (.slice none 0 0) (.slice none 0 0) (.slice none 0 0)) T.impl_Answer) := ⟨_, rfl⟩
  have B4 : Below W3.heap.size W3 W4 := by rw [e4]; repeat (first | exact Below.refl _ _ | assumption | refine bel_setb ?_ (by first | exact Nat.le_refl _ | omega | (simp only [go_sem] <;> omega)) _ | refine Below.alloc ?_ (by first | exact Nat.le_refl _ | omega | (simp only [go_sem]; omega)) _ | refine Below.drew ?_)
  have bT : bk W4 W3.heap.size = some (CB (answC (SM.Ans.err e) (.slice none 0 0) (.slice none 0 0) (.slice none 0 0)) T.impl_Answer) := by rw [e4]; exact bk_setb_eq _ _ _ _ rfl (by simp only [go_sem]; omega)
  rw [← z3]
  rw [← e4]
  clear e4
  have f4 := f3.below B4
  have hx4 := hx3.old B4
  have l3A := f3.lA
  obtain ⟨R, eR⟩ : ∃ R : SM.Ans, (if s.op = 20 then (⟨e, 0, 0, [], l2.map SM.base, []⟩ : SM.Ans) else ⟨e, 0, 0, [], [], l2.map fun x => m.info ((m.find x).getD 0)⟩) = R := ⟨_, rfl⟩
  rw [eR] at hk
  have hD : ({ m with hs := SM.hput m.hs k { hd with listed := hd.listed + l2.length } } : SM.Mem).nodes = m.nodes := rfl
  -- what has been gathered
  obtain ⟨Q, eQ⟩ : ∃ Q : Nat → World → Prop, Q = fun i w' => Below W3.heap.size W3 w' ∧ ∃ y z, bk w' W3.heap.size = some (CB [.int .i64 e, .int .i64 0, .int .i64 0, .slice none 0 0, y, z] T.impl_Answer) ∧
      (s.op = 20 → w'.ownsRow (W3.heap.size + 1) T.string 1 y i (((l2.take i).map SM.base).map S) ∧ z = .slice none 0 0) ∧
      (s.op ≠ 20 → w'.ownsRow (W3.heap.size + 1) T.impl_Info 5 z i (infosC ((l2.take i).map fun x => m.info ((m.find x).getD 0))) ∧ y = .slice none 0 0) := ⟨_, rfl⟩
  refine jn_with (fun t w' => Q l2.length w') ?_ ?_
  · rintro t e5 w5 h5
    rw [eQ] at h5
    obtain ⟨B5, y, z, b5, o20, oi⟩ := h5
    unfold J_spec_Mem_list_1
    have f5 := f3.below B5
    have bA5 := f5.A
    have lA5 := bk_lt bA5
    rw [List.take_length] at o20 oi
    have oy : y.oneCell' = true ∧ z.oneCell' = true := by
      by_cases h20 : s.op = 20
      · obtain ⟨o, rfl⟩ := o20 h20
        obtain ⟨_, _, rfl⟩ := own_slice o
        exact ⟨rfl, rfl⟩
      · obtain ⟨o, rfl⟩ := oi h20
        obtain ⟨_, _, rfl⟩ := own_slice o
        exact ⟨rfl, rfl⟩
    have oy1 := oy.1
    have oz1 := oy.2
    simp (disch := first | omega | (simp only [sZb, sZa, sZd] <;> omega) | (simp (disch := first | omega | (simp only [sZb, sZa, sZd] <;> omega) | fail) only [go_sem, b5, bA5, oy1, oz1]; done) | fail) only [go_sem, dec_t, dec_f, w_u32, w_u64, w_u16, w_u8, w_i64, Int.reduceToNat, Int.reducePow, Nat.reducePow, b5, bA5, oy1, oz1]
    have hans : AnsV w5 (w.heap.size + 1 + 1) R (answC R (.slice none 0 0) y z) := by
      rw [← eR]
      by_cases h20 : s.op = 20
      · rw [if_pos h20]
        obtain ⟨o, rfl⟩ := o20 h20
        refine ⟨_, _, _, rfl, BS_nil _, ?_, RowS_nil _, fun b hb2 => ?_⟩
        · show RowS w5 y (l2.map SM.base).length _
          rw [List.length_map]; exact RowS_own o
        · rcases hb2 with h | h | h
          · cases h
          · have := own_in o b h; exact ⟨by omega, this.2⟩
          · cases h
      · rw [if_neg h20]
        obtain ⟨o, rfl⟩ := oi h20
        refine ⟨_, _, _, rfl, BS_nil _, RowS_nil _, ?_, fun b hb2 => ?_⟩
        · show RowS w5 z (l2.map fun x => m.info ((m.find x).getD 0)).length _
          rw [List.length_map]; exact RowS_own o
        · rcases hb2 with h | h | h
          · cases h
          · cases h
          · have := own_in o b h; exact ⟨by omega, this.2⟩
    have hR : R.e = e ∧ R.n = 0 ∧ R.off = 0 := by rw [← eR]; split <;> exact ⟨rfl, rfl, rfl⟩
    obtain ⟨e1, e2, e3⟩ := fin_ans f5.h.toS f5.tr (A := w.heap.size + 1) (by omega) f.nA (hans.n fun b hb => by have := f.lt b hb; omega) (CB (answC R (.slice none 0 0) y z) T.impl_Answer)
    have := hk _ _ _ e1 e2 e3
    simp only [answC, hR] at this
    exact this
  · rw [ex]
    simp (disch := first | omega | (simp only [sZb, sZa, sZd] <;> omega) | (simp (disch := first | omega | (simp only [sZb, sZa, sZd] <;> omega) | fail) only [go_sem]; done) | fail) only [go_sem, dec_t, dec_f, w_u32, w_u64, w_u16, w_u8, w_i64, Int.reduceToNat, Int.reducePow, Nat.reducePow]
    rw [← ex]
    refine lp_intro (fun t w' => ∃ i : Nat, t = [.int .i64 i] ∧ i ≤ l2.length ∧ Q i w') (fun t w' => (l2.length - (intOf (gs t 0))).toNat) ⟨0, rfl, Nat.zero_le _, ?_⟩ ?_
    · rw [eQ]
      refine ⟨B4, _, _, bT, fun _ => ⟨own_nil _ _ _ _, rfl⟩, fun _ => ⟨own_nil _ _ _ _, rfl⟩⟩
    · rintro t u5 w5 ⟨i, rfl, hi, h5⟩
      rw [gs0, oLss]
      refine jn_with (fun t w' => w' = w5 ∧ i < l2.length) ?_ ?_
      · rintro t e5 w6 ⟨rfl, hi1⟩
        unfold J_spec_Mem_list_5
        have h5' := h5
        rw [eQ] at h5'
        obtain ⟨B5, y, z, b5, o20, oi⟩ := h5'
        have f5 := f3.below B5
        have bS5 := f5.S
        have hx5 := hx3.old B5
        have lT := bk_lt b5
        have z5 := B5.size
        obtain ⟨bx, ox, x1, x2, x3, x4⟩ := hx5.idx U.sl_string (by kernel_rfl) hi1
        have lx := hln l2[i] (List.getElem_mem hi1)
        refine jn_with (fun t w' => Q (i + 1) w') ?_ ?_
        · rintro t e7 w7 h7
          unfold J_laws_FnBytesAreBytes_2
          simp (disch := first | omega | (simp only [sZb, sZa, sZd] <;> omega) | (simp (disch := first | omega | (simp only [sZb, sZa, sZd] <;> omega) | fail) only [go_sem]; done) | fail) only [go_sem, dec_t, dec_f, w_u32, w_u64, w_u16, w_u8, w_i64, Int.reduceToNat, Int.reducePow, Nat.reducePow]
          refine ⟨⟨i + 1, rfl, by omega, h7⟩, ?_⟩
          simp only [gs0, intOf]; omega
        · rw [gs0, gs0, x4]
          have lds : ∀ (L : Value → World → Prop), st P (oLoad T.string (pt bx ox)) w6 L = L (S l2[i]) w6 := fun L => by
            rw [M.ld_string _ _ _ _ (by rw [x3]; rfl), x3]; rfl
          rw [lds, C.spec_Mem_Find]
          refine find_spec f5.h.toS (by have := mb.nn; show m.names.length ≤ _; omega) mb.la ?_
          by_cases h20 : s.op = 20
          · simp (disch := first | omega | (simp only [sZb, sZa, sZd] <;> omega) | (simp (disch := first | omega | (simp only [sZb, sZa, sZd] <;> omega) | fail) only [go_sem, bS5]; done) | fail) only [go_sem, dec_t, dec_f, w_u32, w_u64, w_u16, w_u8, w_i64, Int.reduceToNat, Int.reducePow, Nat.reducePow, bS5]
            unfold J_spec_Mem_list_3
            obtain ⟨oy, rfl⟩ := o20 h20
            simp (disch := first | omega | (simp only [sZb, sZa, sZd] <;> omega) | (simp (disch := first | omega | (simp only [sZb, sZa, sZd] <;> omega) | fail) only [go_sem, b5]; done) | fail) only [go_sem, dec_t, dec_f, w_u32, w_u64, w_u16, w_u8, w_i64, Int.reduceToNat, Int.reducePow, Nat.reducePow, b5]
            refine base_spec (by omega) ?_
            simp (disch := first | omega | (simp only [sZb, sZa, sZd] <;> omega) | (simp (disch := first | omega | (simp only [sZb, sZa, sZd] <;> omega) | fail) only [go_sem, b5]; done) | fail) only [go_sem, dec_t, dec_f, w_u32, w_u64, w_u16, w_u8, w_i64, Int.reduceToNat, Int.reducePow, Nat.reducePow, b5]
            refine ⟨trivial, ?_⟩
            rw [oBuildSlice1 (z := S []) _ _ U.sl_string (by kernel_rfl) rfl]
            have B7 : Below w6.heap.size w6 (w6.drew.alloc (CB [S (SM.base l2[i])] T.string)) := by repeat (first | exact Below.refl _ _ | assumption | refine bel_setb ?_ (by first | exact Nat.le_refl _ | omega | (simp only [go_sem] <;> omega)) _ | refine Below.alloc ?_ (by first | exact Nat.le_refl _ | omega | (simp only [go_sem]; omega)) _ | refine Below.drew ?_)
            have r7 : rowOf (bk (w6.drew.alloc (CB [S (SM.base l2[i])] T.string)) w6.heap.size) 0 1 = some [S (SM.base l2[i])] := by
              show rowOf (bk (w6.drew.alloc (CB [S (SM.base l2[i])] T.string)) w6.drew.heap.size) 0 1 = _
              rw [bk_alloc_eq _ _ _ rfl]; rfl
            rw [show sl w6.drew.heap.size 0 1 1 = sl w6.heap.size 0 1 1 from rfl]
            generalize w6.drew.alloc (CB [S (SM.base l2[i])] T.string) = w7 at *
            have b57 : bk w7 W3.heap.size = _ := (bel_bk B7 lT).trans b5
            have z7 := B7.size
            simp (disch := first | omega | (simp only [sZb, sZa, sZd] <;> omega) | (simp (disch := first | omega | (simp only [sZb, sZa, sZd] <;> omega) | fail) only [go_sem, b57]; done) | fail) only [go_sem, dec_t, dec_f, w_u32, w_u64, w_u16, w_u8, w_i64, Int.reduceToNat, Int.reducePow, Nat.reducePow, b57]
            refine ⟨trivial, ?_⟩
            refine oAppendR (z := S []) (size := 1) (bytes := 16) (news := [S (SM.base l2[i])]) U.sl_string infoS rfl (by omega) (own_old oy B7 (Nat.le_refl _)) (.inl ⟨_, _, _, rfl, r7⟩) rfl (fun u hu => by simp at hu; subst hu; rfl) (by simp only [maxLen]; omega) (by omega) (by omega) fun y8 w8 o8 g8 a8 => ?_
            have K8 := Kp.of_grown g8
            have nT : y.ownBlock ≠ some W3.heap.size := fun e => by have := (own_in oy _ e).1; omega
            have b58 : bk w8 W3.heap.size = _ := (K8.block _ (by omega) nT).trans b57
            have l8 := bk_lt b58
            have one8 : y8.oneCell' = true := by obtain ⟨_, _, rfl⟩ := own_slice o8; rfl
            simp (disch := first | omega | (simp only [sZb, sZa, sZd] <;> omega) | (simp (disch := first | omega | (simp only [sZb, sZa, sZd] <;> omega) | fail) only [go_sem, b58, one8]; done) | fail) only [go_sem, dec_t, dec_f, w_u32, w_u64, w_u16, w_u8, w_i64, Int.reduceToNat, Int.reducePow, Nat.reducePow, b58, one8]
            rw [eQ]
            have B8 : Below W3.heap.size W3 w8 := B5.trans ((B7.mono z5).trans (K8.below (fun b hb2 e => by have := (own_in oy b e).1; omega) (by omega)))
            have kT := Kp.setb w8 W3.heap.size (CB [.int .i64 e, .int .i64 0, .int .i64 0, .slice none 0 0, y8, .slice none 0 0] T.impl_Answer)
            refine ⟨bel_setb B8 (Nat.le_refl _) _, y8, _, bk_setb_eq _ _ _ _ rfl l8, fun _ => ⟨?_, rfl⟩, fun h => absurd h20 h⟩
            have o9 := own_kp o8 kT fun b hb2 e => by have := (own_in o8 b hb2).1; omega
            rw [List.take_succ_eq_append_getElem hi1, List.map_append, List.map_append]
            exact o9
          · simp (disch := first | omega | (simp only [sZb, sZa, sZd] <;> omega) | (simp (disch := first | omega | (simp only [sZb, sZa, sZd] <;> omega) | fail) only [go_sem, bS5]; done) | fail) only [go_sem, dec_t, dec_f, w_u32, w_u64, w_u16, w_u8, w_i64, Int.reduceToNat, Int.reducePow, Nat.reducePow, bS5]
            unfold J_spec_Mem_list_4
            obtain ⟨oz, rfl⟩ := oi h20
            have h0 : 0 < m.nodes.length := by have := fb.node; omega
            have hfl := mb.find h0 l2[i]
            simp (disch := first | omega | (simp only [sZb, sZa, sZd] <;> omega) | (simp (disch := first | omega | (simp only [sZb, sZa, sZd] <;> omega) | fail) only [go_sem, b5]; done) | fail) only [go_sem, dec_t, dec_f, w_u32, w_u64, w_u16, w_u8, w_i64, Int.reduceToNat, Int.reducePow, Nat.reducePow, b5]
            refine info_spec (m := m.setH k { hd with listed := hd.listed + l2.length }) (f5.drew.h.toS) hfl (by have := mb.node hfl; exact Nat.le_trans this (by omega)) fun w7 B7' => ?_
            have B7 : Below w6.heap.size w6 w7 := (by repeat (first | exact Below.refl _ _ | assumption | refine bel_setb ?_ (by first | exact Nat.le_refl _ | omega | (simp only [go_sem] <;> omega)) _ | refine Below.alloc ?_ (by first | exact Nat.le_refl _ | omega | (simp only [go_sem]; omega)) _ | refine Below.drew ?_) : Below w6.heap.size w6 w6.drew).trans B7'
            have b57 : bk w7 W3.heap.size = _ := (bel_bk B7 lT).trans b5
            have z7 := B7.size
            simp (disch := first | omega | (simp only [sZb, sZa, sZd] <;> omega) | (simp (disch := first | omega | (simp only [sZb, sZa, sZd] <;> omega) | fail) only [go_sem, b57]; done) | fail) only [go_sem, dec_t, dec_f, w_u32, w_u64, w_u16, w_u8, w_i64, Int.reduceToNat, Int.reducePow, Nat.reducePow, b57]
            refine ⟨trivial, ?_⟩
            have ei : SM.Mem.info (m.setH k { hd with listed := hd.listed + l2.length }) (((m.setH k { hd with listed := hd.listed + l2.length }).find l2[i]).getD 0) = m.info ((m.find l2[i]).getD 0) := rfl
            rw [oBuildSliceN (z := AG (infoC ⟨[], 0, 0, false, 0⟩)) (size := 5) _ _ U.sl_impl_Info (by kernel_rfl) (by omega) (by omega) rfl]
            have B8 : Below w7.heap.size w7 (w7.alloc (CB (infoC (m.info ((m.find l2[i]).getD 0))) T.impl_Info)) := by repeat (first | exact Below.refl _ _ | assumption | refine bel_setb ?_ (by first | exact Nat.le_refl _ | omega | (simp only [go_sem] <;> omega)) _ | refine Below.alloc ?_ (by first | exact Nat.le_refl _ | omega | (simp only [go_sem]; omega)) _ | refine Below.drew ?_)
            have r8 : rowOf (bk (w7.alloc (CB (infoC (m.info ((m.find l2[i]).getD 0))) T.impl_Info)) w7.heap.size) 0 5 = some (infoC (m.info ((m.find l2[i]).getD 0))) := by rw [bk_alloc_eq _ _ _ rfl]; rfl
            rw [ei]
            generalize w7.alloc (CB (infoC (m.info ((m.find l2[i]).getD 0))) T.impl_Info) = w8 at *
            have b58 : bk w8 W3.heap.size = _ := (bel_bk B8 (by omega)).trans b57
            have z8 := B8.size
            simp (disch := first | omega | (simp only [sZb, sZa, sZd] <;> omega) | (simp (disch := first | omega | (simp only [sZb, sZa, sZd] <;> omega) | fail) only [go_sem, b58]; done) | fail) only [go_sem, dec_t, dec_f, w_u32, w_u64, w_u16, w_u8, w_i64, Int.reduceToNat, Int.reducePow, Nat.reducePow, b58]
            refine ⟨trivial, ?_⟩
            refine oAppendR (size := 5) (bytes := 48) (news := infoC (m.info ((m.find l2[i]).getD 0))) U.sl_impl_Info zInfo rfl (by omega) (own_old (own_old oz B7 (Nat.le_refl _)) B8 (Nat.le_refl _)) (.inl ⟨_, _, _, rfl, r8⟩) rfl (fun u hu => oneC_infos [m.info ((m.find l2[i]).getD 0)] u (by simpa [infosC] using hu)) (by simp only [maxLen]; omega) (by omega) (by omega) fun z9 w9 o9 g9 a9 => ?_
            have K9 := Kp.of_grown g9
            have nT : z.ownBlock ≠ some W3.heap.size := fun e => by have := (own_in oz _ e).1; omega
            have b59 : bk w9 W3.heap.size = _ := (K9.block _ (by omega) nT).trans b58
            have l9 := bk_lt b59
            have one9 : z9.oneCell' = true := by obtain ⟨_, _, rfl⟩ := own_slice o9; rfl
            simp (disch := first | omega | (simp only [sZb, sZa, sZd] <;> omega) | (simp (disch := first | omega | (simp only [sZb, sZa, sZd] <;> omega) | fail) only [go_sem, b59, one9]; done) | fail) only [go_sem, dec_t, dec_f, w_u32, w_u64, w_u16, w_u8, w_i64, Int.reduceToNat, Int.reducePow, Nat.reducePow, b59, one9]
            rw [eQ]
            have B9 : Below W3.heap.size W3 w9 := B5.trans ((B7.mono z5).trans ((B8.mono (by omega)).trans (K9.below (fun b hb2 e => by have := (own_in oz b e).1; omega) (by omega))))
            have kT := Kp.setb w9 W3.heap.size (CB [.int .i64 e, .int .i64 0, .int .i64 0, .slice none 0 0, .slice none 0 0, z9] T.impl_Answer)
            refine ⟨bel_setb B9 (Nat.le_refl _) _, _, z9, bk_setb_eq _ _ _ _ rfl l9, fun h => absurd h h20, fun _ => ⟨?_, rfl⟩⟩
            have o10 := own_kp o9 kT fun b hb2 e => by have := (own_in o9 b hb2).1; omega
            rw [List.take_succ_eq_append_getElem hi1, List.map_append, List.map_singleton, infosC_snoc]
            exact o10
      · by_cases hi1 : i < l2.length
        · simp (disch := first | omega | (simp only [sZb, sZa, sZd] <;> omega) | (simp (disch := first | omega | (simp only [sZb, sZa, sZd] <;> omega) | fail) only [go_sem]; done) | fail) only [go_sem, dec_t, dec_f, w_u32, w_u64, w_u16, w_u8, w_i64, Int.reduceToNat, Int.reducePow, Nat.reducePow]
          exact ⟨trivial, hi1⟩
        · simp (disch := first | omega | (simp only [sZb, sZa, sZd] <;> omega) | (simp (disch := first | omega | (simp only [sZb, sZa, sZd] <;> omega) | fail) only [go_sem]; done) | fail) only [go_sem, dec_t, dec_f, w_u32, w_u64, w_u16, w_u8, w_i64, Int.reduceToNat, Int.reducePow, Nat.reducePow]
          have : i = l2.length := by omega
          subst this
          exact h5
end
end Go.Proofs.YteblpejgenehfaaDoor.X
end
section
namespace Go.Proofs.YteblpejgenehfaaDoor.X
open Go Go.X Go.Proofs Go.RowKit
section
variable {w W : World} {K : Value → World → Prop} {B p : Nat} {m : SM.Mem} {F : Fp} {vn va vd : Value} {q : Nat} {ds : List Value} {hl : ML Int} {c : Nat} {hb : Int → Nat} {ρ : Nat → Rl} {k : Int} {hd : SM.Hnd} {s : SM.Stp} {v : Value}
theorem children_bounds {m : SM.Mem} (mb : MB m) (d : Str) : (m.children d).length ≤ 999990000 ∧ ∀ x ∈ m.children d, x.length ≤ 1000000000 := by
  unfold SM.Mem.children
  exact ⟨Nat.le_trans (List.length_filter_le _ _) mb.nn, fun x hx => mb.nl x (List.mem_filter.1 hx).1⟩
set_option maxHeartbeats 1000000 in
theorem list_spec (h : MemX w B p m F vn va vd q ds hl c hb ρ) (hv : v.oneCell' = true) (hh : SM.hget m.hs k = some hd) (fb : FB m hd s) (h0 : 0 ≤ hd.listed) (mb : MB m) (hk : FileK w B p F (m.listS k hd s) K) : Cl P Fn.spec_Mem_list #[pt p 0, pt (hb k) 0, AG (stepC s v)] w K := by
  apply S_spec_Mem_list
  unfold F_spec_Mem_list
  obtain ⟨W, eW, BW, zW, bS, bA⟩ := start_w w s v
  rw [oBox_agg, M.al_impl_Answer, eW]
  have f : Fc w W B p m F vn va vd q ds hl c hb ρ s v := ⟨h.old BW, h.lt, Tr.of_below BW F, bS, bA⟩
  have hn := fb.node
  have bm := f.h.bm
  have bh := (f.h.bh k hd hh).2
  obtain ⟨g, cur, na, na1, na2⟩ := f.h.node hn
  have ix := na.ix .i64
  have bg := na.bg
  have len := na.len
  have row := na.row
  obtain ⟨dat, _⟩ := f.h.data hn
  obtain ⟨da, dc, ed⟩ := BS_slice dat
  rw [ed] at row
  have lp := bk_lt bm
  have lh := bk_lt bh
  have lg := bk_lt bg
  simp (disch := first | omega | (simp only [sZb, sZa, sZd] <;> omega) | (simp (disch := first | omega | (simp only [sZb, sZa, sZd] <;> omega) | fail) only [go_sem, bm, bh, ix, bg, row]; done) | fail) only [go_sem, dec_t, dec_f, w_u32, w_u64, w_u16, w_u8, w_i64, Int.reduceToNat, Int.reducePow, Nat.reducePow, bm, bh, ix, bg, row]
  refine ⟨trivial, trivial, trivial, ?_⟩
  obtain ⟨W2, e2⟩ : ∃ W2, W2 = setb (W.alloc (CB (nodeC ⟨false, 0, [], 0, []⟩ (.slice none 0 0)) T.spec_MemNode)).drew W.heap.size (CB (nodeC (m.node hd.node) (.slice da (m.node hd.node).data.length dc)) T.spec_MemNode) := ⟨_, rfl⟩
  have B2 : Below W.heap.size W W2 := by rw [e2]; repeat (first | exact Below.refl _ _ | assumption | refine bel_setb ?_ (by first | exact Nat.le_refl _ | omega | (simp only [go_sem] <;> omega)) _ | refine Below.alloc ?_ (by first | exact Nat.le_refl _ | omega | (simp only [go_sem]; omega)) _ | refine Below.drew ?_)
  have bN : bk W2 W.heap.size = some (CB (nodeC (m.node hd.node) (.slice da (m.node hd.node).data.length dc)) T.spec_MemNode) := by rw [e2]; exact bk_setb_eq _ _ _ _ rfl (by simp only [go_sem]; omega)
  rw [← e2]
  clear e2
  have f2 := f.below B2
  have bA2 := f2.A
  have lA2 := bk_lt bA2
  unfold SM.Mem.listS at hk
  simp only at hk
  by_cases hdir : (m.node hd.node).dir = true
  · rw [if_neg (by simp [hdir])] at hk
    refine jn_with (fun t w' => w' = W2) ?_ ?_
    · rintro t e w3 rfl
      unfold J_spec_Mem_list_9
      simp (disch := first | omega | (simp only [sZb, sZa, sZd] <;> omega) | (simp (disch := first | omega | (simp only [sZb, sZa, sZd] <;> omega) | fail) only [go_sem, bN]; done) | fail) only [go_sem, dec_t, dec_f, w_u32, w_u64, w_u16, w_u8, w_i64, Int.reduceToNat, Int.reducePow, Nat.reducePow, bN]
      refine children_spec f2.h.toS (by have := mb.nn; omega) (fun x hx => Nat.le_trans (mb.nl x hx) (by omega)) fun w4 v4 o4 B4 => ?_
      have f4 := f2.below B4
      have bh4 := (f4.h.bh k hd hh).2
      have bS4 := f4.S
      obtain ⟨cb1, cb2⟩ := children_bounds mb (m.node hd.node).name
      generalize m.children (m.node hd.node).name = l0 at *
      have hv4 : VS S w4 v4 l0 := VS.own o4
      have b4 : ∀ b, v4.ownBlock = some b → w.heap.size + 1 < b := fun b hb2 => by have := (own_in o4 b hb2).1; have := f2.lA; omega
      obtain ⟨a4, c4, e4⟩ := own_slice o4
      obtain ⟨x, hx⟩ := Int.eq_ofNat_of_zero_le (show 0 ≤ min hd.listed (l0.length : Int) by omega)
      rw [hx] at hk
      rw [Int.toNat_natCast] at hk
      obtain ⟨v5, hv5, u5, s5⟩ := hv4.lo U.sl_string (by kernel_rfl) (p := x) (by omega)
      subst e4
      simp (disch := first | omega | (simp only [sZb, sZa, sZd] <;> omega) | (simp (disch := first | omega | (simp only [sZb, sZa, sZd] <;> omega) | fail) only [go_sem, bh4, hx, s5]; done) | fail) only [go_sem, dec_t, dec_f, w_u32, w_u64, w_u16, w_u8, w_i64, Int.reduceToNat, Int.reducePow, Nat.reducePow, bh4, hx, s5]
      have l1len : (l0.drop x).length ≤ 999990000 := by simp; omega
      have l1m : ∀ y ∈ l0.drop x, y.length ≤ 1000000000 := fun y hy => cb2 y (List.mem_of_mem_drop hy)
      generalize l0.drop x = l1 at *
      obtain ⟨a5, c5, e5⟩ := hv5.slice
      refine jn_with (fun t w' => w' = w4 ∧ ∃ v6, t = [v6, .int .i64 (if 0 < s.n ∧ l1 = [] then 4 else 0)] ∧ VS S w4 v6 (if 0 < s.n then l1.take (min s.n l1.length).toNat else l1) ∧ ∀ b, v6.ownBlock = some b → w.heap.size + 1 < b) ?_ ?_
      · rintro t e w6 ⟨rfl, v6, rfl, hv6, u6⟩
        refine list6_spec f4 hh fb mb hv6 u6 ?_ ?_ e hk
        · split
          · simp; omega
          · exact l1len
        · intro y hy
          split at hy
          · exact l1m y (List.mem_of_mem_take hy)
          · exact l1m y hy
      · by_cases hsn : 0 < s.n
        · simp only [if_pos hsn, hsn, true_and]
          simp (disch := first | omega | (simp only [sZb, sZa, sZd] <;> omega) | (simp (disch := first | omega | (simp only [sZb, sZa, sZd] <;> omega) | fail) only [go_sem, bS4]; done) | fail) only [go_sem, dec_t, dec_f, w_u32, w_u64, w_u16, w_u8, w_i64, Int.reduceToNat, Int.reducePow, Nat.reducePow, bS4]
          unfold J_spec_Mem_list_8
          refine jn_with (fun t w' => w' = w4 ∧ t = [.int .i64 (if l1 = [] then 4 else 0)]) ?_ ?_
          · rintro t e w6 ⟨rfl, rfl⟩
            unfold J_spec_Mem_list_7
            obtain ⟨y, hy⟩ := Int.eq_ofNat_of_zero_le (show 0 ≤ min s.n (l1.length : Int) by omega)
            obtain ⟨v7, hv7, u7, s7⟩ := hv5.hi U.sl_string (by kernel_rfl) (q := y) (by omega)
            subst e5
            simp (disch := first | omega | (simp only [sZb, sZa, sZd] <;> omega) | (simp (disch := first | omega | (simp only [sZb, sZa, sZd] <;> omega) | fail) only [go_sem, bS4, hy, s7]; done) | fail) only [go_sem, dec_t, dec_f, w_u32, w_u64, w_u16, w_u8, w_i64, Int.reduceToNat, Int.reducePow, Nat.reducePow, bS4, hy, s7]
            exact ⟨trivial, v7, rfl, by simpa using hv7, fun b hb2 => b4 b (u5 b (u7 b hb2))⟩
          · subst e5
            by_cases hl0 : l1 = []
            · have : (l1.length : Int) = 0 := by rw [hl0]; rfl
              simp (disch := first | omega | (simp only [sZb, sZa, sZd] <;> omega) | (simp (disch := first | omega | (simp only [sZb, sZa, sZd] <;> omega) | fail) only [go_sem, this, hl0, decide_true]; done) | fail) only [go_sem, dec_t, dec_f, w_u32, w_u64, w_u16, w_u8, w_i64, Int.reduceToNat, Int.reducePow, Nat.reducePow, this, hl0, decide_true]
              exact ⟨trivial, rfl⟩
            · have h9 : l1.length ≠ 0 := fun e => hl0 (List.length_eq_zero_iff.1 e)
              have : ¬ (l1.length : Int) = 0 := by omega
              simp (disch := first | omega | (simp only [sZb, sZa, sZd] <;> omega) | (simp (disch := first | omega | (simp only [sZb, sZa, sZd] <;> omega) | fail) only [go_sem, hl0]; done) | fail) only [go_sem, dec_t, dec_f, w_u32, w_u64, w_u16, w_u8, w_i64, Int.reduceToNat, Int.reducePow, Nat.reducePow, hl0]
              exact ⟨trivial, by simp⟩
        · simp only [if_neg hsn, hsn, false_and, if_false]
          simp (disch := first | omega | (simp only [sZb, sZa, sZd] <;> omega) | (simp (disch := first | omega | (simp only [sZb, sZa, sZd] <;> omega) | fail) only [go_sem, bS4]; done) | fail) only [go_sem, dec_t, dec_f, w_u32, w_u64, w_u16, w_u8, w_i64, Int.reduceToNat, Int.reducePow, Nat.reducePow, bS4]
          exact ⟨trivial, v5, rfl, hv5, fun b hb2 => b4 b (u5 b hb2)⟩
    · simp (disch := first | omega | (simp only [sZb, sZa, sZd] <;> omega) | (simp (disch := first | omega | (simp only [sZb, sZa, sZd] <;> omega) | fail) only [go_sem, bN, hdir]; done) | fail) only [go_sem, dec_t, dec_f, w_u32, w_u64, w_u16, w_u8, w_i64, Int.reduceToNat, Int.reducePow, Nat.reducePow, bN, hdir]
  · have hdir' : (m.node hd.node).dir = false := by simpa using hdir
    rw [if_pos hdir'] at hk
    refine jn_with (fun _ _ => False) (fun _ _ _ h => h.elim) ?_
    simp (disch := first | omega | (simp only [sZb, sZa, sZd] <;> omega) | (simp (disch := first | omega | (simp only [sZb, sZa, sZd] <;> omega) | fail) only [go_sem, bN, hdir', bA2]; done) | fail) only [go_sem, dec_t, dec_f, w_u32, w_u64, w_u16, w_u8, w_i64, Int.reduceToNat, Int.reducePow, Nat.reducePow, bN, hdir', bA2]
    exact fin_err f2 f2.h.toS f2.tr hk
end
end Go.Proofs.YteblpejgenehfaaDoor.X
end
section
namespace Go.Proofs.YteblpejgenehfaaDoor.X
open Go Go.X Go.Proofs Go.RowKit
section
variable {w W : World} {K : Value → World → Prop} {B p : Nat} {m : SM.Mem} {F : Fp} {vn va vd : Value} {q : Nat} {ds : List Value} {hl : ML Int} {c : Nat} {hb : Int → Nat} {ρ : Nat → Rl} {k : Int} {hd : SM.Hnd} {s : SM.Stp} {v : Value}
set_option maxHeartbeats 8000000 in
theorem J9_spec (f : Fc w W B p m F vn va vd q ds hl c hb ρ s v) (hh : SM.hget m.hs k = some hd) (fb : FB m hd s) (hv : BS W v s.data) (hop : s.op = 14 ∨ s.op = 15 ∨ s.op = 17) {g : Nat} {cur : List Value} (na : NodeAt W vd m hd.node (ds[hd.node]'(by rw [f.h.dl]; exact fb.node)) g cur) (t : List Value) (u : Env)
    (hk : FileK w B p F (if s.op = 17 ∧ s.off < 0 then (m, SM.Ans.err 7)
      else if s.op = 14 ∧ (hd.pos < 0 ∨ 1048576 < hd.pos) ∨ s.op ≠ 14 ∧ (s.off < 0 ∨ 1048576 < s.off) then (m, SM.Ans.err 13)
      else if s.op = 17 then (m.setNode hd.node { m.node hd.node with data := SM.grown ((m.node hd.node).data.take (min ((m.node hd.node).data.length : Int) s.off).toNat) s.off, time := 0 }, SM.Ans.z)
      else if s.op = 14 then
        ((m.setNode hd.node { m.node hd.node with data := SM.over (m.node hd.node).data hd.pos s.data, time := 0 }).setH k { hd with pos := hd.pos + s.data.length }, ⟨0, s.data.length, 0, [], [], []⟩)
      else ((m.setNode hd.node { m.node hd.node with data := SM.over (m.node hd.node).data s.off s.data, time := 0 }).setH k { hd with pos := s.off + s.data.length }, ⟨0, s.data.length, 0, [], [], []⟩)) K) :
    J_spec_Mem_file_9 (pt w.heap.size 0) (pt (w.heap.size + 1) 0) K (pt g (hd.node * 5)) (pt (hb k) 0) t u W := by
  unfold J_spec_Mem_file_9
  have bS := f.S
  have bA := f.A
  have lA := f.lA
  have bh := (f.h.bh k hd hh).2
  by_cases c7 : s.op = 17 ∧ s.off < 0
  · rw [if_pos c7] at hk
    obtain ⟨c7a, c7b⟩ := c7
    refine jn_with (fun _ _ => False) (fun _ _ _ h => h.elim) ?_
    simp (disch := first | omega | (simp only [sZb, sZa, sZd] <;> omega) | (simp (disch := first | omega | (simp only [sZb, sZa, sZd] <;> omega) | fail) only [go_sem, bS, bA]; done) | fail) only [go_sem, dec_t, dec_f, w_u32, w_u64, w_u16, w_u8, w_i64, Int.reduceToNat, Int.reducePow, Nat.reducePow, bS, bA]
    exact fin_err f f.h.toS f.tr hk
  · rw [if_neg c7] at hk
    refine jn_with (fun t w' => w' = W) ?_ ?_
    · rintro t e w1 rfl
      unfold J_spec_Mem_file_8
      by_cases c13 : s.op = 14 ∧ (hd.pos < 0 ∨ 1048576 < hd.pos) ∨ s.op ≠ 14 ∧ (s.off < 0 ∨ 1048576 < s.off)
      · rw [if_pos c13] at hk
        refine jn_with (fun _ _ => False) (fun _ _ _ h => h.elim) ?_
        rcases c13 with ⟨c1, c2 | c2⟩ | ⟨c1, c2 | c2⟩
        · simp (disch := first | omega | (simp only [sZb, sZa, sZd] <;> omega) | (simp (disch := first | omega | (simp only [sZb, sZa, sZd] <;> omega) | fail) only [go_sem, bS, bA, bh]; done) | fail) only [go_sem, dec_t, dec_f, w_u32, w_u64, w_u16, w_u8, w_i64, Int.reduceToNat, Int.reducePow, Nat.reducePow, bS, bA, bh]
          exact fin_err f f.h.toS f.tr hk
        · simp (disch := first | omega | (simp only [sZb, sZa, sZd] <;> omega) | (simp (disch := first | omega | (simp only [sZb, sZa, sZd] <;> omega) | fail) only [go_sem, bS, bA, bh]; done) | fail) only [go_sem, dec_t, dec_f, w_u32, w_u64, w_u16, w_u8, w_i64, Int.reduceToNat, Int.reducePow, Nat.reducePow, bS, bA, bh]
          exact fin_err f f.h.toS f.tr hk
        · simp (disch := first | omega | (simp only [sZb, sZa, sZd] <;> omega) | (simp (disch := first | omega | (simp only [sZb, sZa, sZd] <;> omega) | fail) only [go_sem, bS, bA, bh]; done) | fail) only [go_sem, dec_t, dec_f, w_u32, w_u64, w_u16, w_u8, w_i64, Int.reduceToNat, Int.reducePow, Nat.reducePow, bS, bA, bh]
          exact fin_err f f.h.toS f.tr hk
        · simp (disch := first | omega | (simp only [sZb, sZa, sZd] <;> omega) | (simp (disch := first | omega | (simp only [sZb, sZa, sZd] <;> omega) | fail) only [go_sem, bS, bA, bh]; done) | fail) only [go_sem, dec_t, dec_f, w_u32, w_u64, w_u16, w_u8, w_i64, Int.reduceToNat, Int.reducePow, Nat.reducePow, bS, bA, bh]
          exact fin_err f f.h.toS f.tr hk
      · rw [if_neg c13] at hk
        refine jn_with (fun t w' => w' = w1) ?_ ?_
        · rintro t e w2 rfl
          unfold J_spec_Mem_file_7
          by_cases c17 : s.op = 17
          · rw [if_pos c17] at hk
            refine jn_with (fun _ _ => False) (fun _ _ _ h => h.elim) ?_
            simp (disch := first | omega | (simp only [sZb, sZa, sZd] <;> omega) | (simp (disch := first | omega | (simp only [sZb, sZa, sZd] <;> omega) | fail) only [go_sem, bS]; done) | fail) only [go_sem, dec_t, dec_f, w_u32, w_u64, w_u16, w_u8, w_i64, Int.reduceToNat, Int.reducePow, Nat.reducePow, bS]
            exact J2_spec f fb (by omega) (by omega) na hk
          · rw [if_neg c17] at hk
            refine jn_with (fun t w' => ∃ m' F', MemS w' B p m' F' ∧ Tr w w' F F' ∧ bk w' w.heap.size = some (CB (stepC s v) T.impl_Step) ∧ bk w' (w.heap.size + 1) = some (CB ansZ T.impl_Answer) ∧ ¬ F'.use (w.heap.size + 1) ∧ FileK w B p F (m', ⟨0, s.data.length, 0, [], [], []⟩) K) ?_ ?_
            · rintro t e w3 ⟨m', F', h3, t3, s3, a3, nA, hk'⟩
              exact J1_spec h3 t3 s3 a3 nA (BS_slice hv) hk' t e
            · by_cases c14 : s.op = 14
              · rw [if_pos c14] at hk
                simp (disch := first | omega | (simp only [sZb, sZa, sZd] <;> omega) | (simp (disch := first | omega | (simp only [sZb, sZa, sZd] <;> omega) | fail) only [go_sem, bS]; done) | fail) only [go_sem, dec_t, dec_f, w_u32, w_u64, w_u16, w_u8, w_i64, Int.reduceToNat, Int.reducePow, Nat.reducePow, bS]
                unfold J_spec_Mem_file_6
                simp (disch := first | omega | (simp only [sZb, sZa, sZd] <;> omega) | (simp (disch := first | omega | (simp only [sZb, sZa, sZd] <;> omega) | fail) only [go_sem]; done) | fail) only [go_sem, dec_t, dec_f, w_u32, w_u64, w_u16, w_u8, w_i64, Int.reduceToNat, Int.reducePow, Nat.reducePow]
                refine J3_spec f hh fb hv (by omega) (by omega) na fun w3 F' h3 t3 s3 a3 nA => ?_
                exact ⟨_, F', h3, t3, s3, a3, nA, hk⟩
              · rw [if_neg c14] at hk
                have c15 : s.op = 15 := by omega
                simp (disch := first | omega | (simp only [sZb, sZa, sZd] <;> omega) | (simp (disch := first | omega | (simp only [sZb, sZa, sZd] <;> omega) | fail) only [go_sem, bS]; done) | fail) only [go_sem, dec_t, dec_f, w_u32, w_u64, w_u16, w_u8, w_i64, Int.reduceToNat, Int.reducePow, Nat.reducePow, bS]
                unfold J_spec_Mem_file_6
                simp (disch := first | omega | (simp only [sZb, sZa, sZd] <;> omega) | (simp (disch := first | omega | (simp only [sZb, sZa, sZd] <;> omega) | fail) only [go_sem]; done) | fail) only [go_sem, dec_t, dec_f, w_u32, w_u64, w_u16, w_u8, w_i64, Int.reduceToNat, Int.reducePow, Nat.reducePow]
                unfold J_spec_Mem_file_5
                simp (disch := first | omega | (simp only [sZb, sZa, sZd] <;> omega) | (simp (disch := first | omega | (simp only [sZb, sZa, sZd] <;> omega) | fail) only [go_sem]; done) | fail) only [go_sem, dec_t, dec_f, w_u32, w_u64, w_u16, w_u8, w_i64, Int.reduceToNat, Int.reducePow, Nat.reducePow]
                refine J4_spec f hh fb hv (by omega) (by omega) na fun w3 F' h3 t3 s3 a3 nA => ?_
                exact ⟨_, F', h3, t3, s3, a3, nA, hk⟩
        · by_cases c1 : s.op = 14
          · simp (disch := first | omega | (simp only [sZb, sZa, sZd] <;> omega) | (simp (disch := first | omega | (simp only [sZb, sZa, sZd] <;> omega) | fail) only [go_sem, bS, bh]; done) | fail) only [go_sem, dec_t, dec_f, w_u32, w_u64, w_u16, w_u8, w_i64, Int.reduceToNat, Int.reducePow, Nat.reducePow, bS, bh]
          · simp (disch := first | omega | (simp only [sZb, sZa, sZd] <;> omega) | (simp (disch := first | omega | (simp only [sZb, sZa, sZd] <;> omega) | fail) only [go_sem, bS, bh]; done) | fail) only [go_sem, dec_t, dec_f, w_u32, w_u64, w_u16, w_u8, w_i64, Int.reduceToNat, Int.reducePow, Nat.reducePow, bS, bh]
    · by_cases c1 : s.op = 17
      · simp (disch := first | omega | (simp only [sZb, sZa, sZd] <;> omega) | (simp (disch := first | omega | (simp only [sZb, sZa, sZd] <;> omega) | fail) only [go_sem, bS]; done) | fail) only [go_sem, dec_t, dec_f, w_u32, w_u64, w_u16, w_u8, w_i64, Int.reduceToNat, Int.reducePow, Nat.reducePow, bS]
      · simp (disch := first | omega | (simp only [sZb, sZa, sZd] <;> omega) | (simp (disch := first | omega | (simp only [sZb, sZa, sZd] <;> omega) | fail) only [go_sem, bS]; done) | fail) only [go_sem, dec_t, dec_f, w_u32, w_u64, w_u16, w_u8, w_i64, Int.reduceToNat, Int.reducePow, Nat.reducePow, bS]
theorem J24_spec (f : Fc w W B p m F vn va vd q ds hl c hb ρ s v) (hh : SM.hget m.hs k = some hd) (fb : FB m hd s) (hv : BS W v s.data) (hop : s.op = 12 ∨ s.op = 13 ∨ s.op = 16 ∨ s.op = 14 ∨ s.op = 15 ∨ s.op = 17) {g : Nat} {cur : List Value} (na : NodeAt W vd m hd.node (ds[hd.node]'(by rw [f.h.dl]; exact fb.node)) g cur) (t : List Value) (u : Env)
    (hk : FileK w B p F (m.fileS k hd s) K) : J_spec_Mem_file_24 (pt w.heap.size 0) (pt (w.heap.size + 1) 0) K (pt g (hd.node * 5)) (pt (hb k) 0) t u W := by
  unfold SM.Mem.fileS at hk
  simp only at hk
  rw [if_neg (by omega), if_neg (by omega), if_neg (by omega), if_neg (by omega), if_neg (by omega)] at hk
  unfold J_spec_Mem_file_24
  have bS := f.S
  have bA := f.A
  have lA := f.lA
  have bh := (f.h.bh k hd hh).2
  by_cases hcl : hd.cl = true
  · rw [if_pos hcl] at hk
    refine jn_with (fun _ _ => False) (fun _ _ _ h => h.elim) ?_
    simp (disch := first | omega | (simp only [sZb, sZa, sZd] <;> omega) | (simp (disch := first | omega | (simp only [sZb, sZa, sZd] <;> omega) | fail) only [go_sem, bh, hcl, bA]; done) | fail) only [go_sem, dec_t, dec_f, w_u32, w_u64, w_u16, w_u8, w_i64, Int.reduceToNat, Int.reducePow, Nat.reducePow, bh, hcl, bA]
    exact fin_err f f.h.toS f.tr hk
  · rw [if_neg hcl] at hk
    have hcl' : hd.cl = false := by simpa using hcl
    refine jn_with (fun t w' => w' = W) ?_ ?_
    · rintro t e w1 rfl
      unfold J_spec_Mem_file_23
      by_cases c12 : s.op = 12
      · rw [if_pos c12] at hk
        refine jn_with (fun _ _ => False) (fun _ _ _ h => h.elim) ?_
        simp (disch := first | omega | (simp only [sZb, sZa, sZd] <;> omega) | (simp (disch := first | omega | (simp only [sZb, sZa, sZd] <;> omega) | fail) only [go_sem, bS]; done) | fail) only [go_sem, dec_t, dec_f, w_u32, w_u64, w_u16, w_u8, w_i64, Int.reduceToNat, Int.reducePow, Nat.reducePow, bS]
        exact J13_spec f hh fb (by omega) na hk
      · rw [if_neg c12] at hk
        by_cases c13 : s.op = 13
        · rw [if_pos c13] at hk
          refine jn_with (fun _ _ => False) (fun _ _ _ h => h.elim) ?_
          simp (disch := first | omega | (simp only [sZb, sZa, sZd] <;> omega) | (simp (disch := first | omega | (simp only [sZb, sZa, sZd] <;> omega) | fail) only [go_sem, bS]; done) | fail) only [go_sem, dec_t, dec_f, w_u32, w_u64, w_u16, w_u8, w_i64, Int.reduceToNat, Int.reducePow, Nat.reducePow, bS]
          unfold J_spec_Mem_file_22
          simp (disch := first | omega | (simp only [sZb, sZa, sZd] <;> omega) | (simp (disch := first | omega | (simp only [sZb, sZa, sZd] <;> omega) | fail) only [go_sem]; done) | fail) only [go_sem, dec_t, dec_f, w_u32, w_u64, w_u16, w_u8, w_i64, Int.reduceToNat, Int.reducePow, Nat.reducePow]
          exact J14_spec f hh fb (by omega) na hk
        · rw [if_neg c13] at hk
          by_cases c16 : s.op = 16
          · rw [if_pos c16] at hk
            refine jn_with (fun _ _ => False) (fun _ _ _ h => h.elim) ?_
            simp (disch := first | omega | (simp only [sZb, sZa, sZd] <;> omega) | (simp (disch := first | omega | (simp only [sZb, sZa, sZd] <;> omega) | fail) only [go_sem, bS]; done) | fail) only [go_sem, dec_t, dec_f, w_u32, w_u64, w_u16, w_u8, w_i64, Int.reduceToNat, Int.reducePow, Nat.reducePow, bS]
            unfold J_spec_Mem_file_22
            simp (disch := first | omega | (simp only [sZb, sZa, sZd] <;> omega) | (simp (disch := first | omega | (simp only [sZb, sZa, sZd] <;> omega) | fail) only [go_sem]; done) | fail) only [go_sem, dec_t, dec_f, w_u32, w_u64, w_u16, w_u8, w_i64, Int.reduceToNat, Int.reducePow, Nat.reducePow]
            unfold J_spec_Mem_file_21
            simp (disch := first | omega | (simp only [sZb, sZa, sZd] <;> omega) | (simp (disch := first | omega | (simp only [sZb, sZa, sZd] <;> omega) | fail) only [go_sem]; done) | fail) only [go_sem, dec_t, dec_f, w_u32, w_u64, w_u16, w_u8, w_i64, Int.reduceToNat, Int.reducePow, Nat.reducePow]
            exact J20_spec f hh fb (by omega) na hk
          · rw [if_neg c16] at hk
            refine jn_with (fun t w' => w' = w1) ?_ ?_
            · rintro t e w2 rfl
              unfold J_spec_Mem_file_12
              by_cases hro : hd.ro = true
              · rw [if_pos hro] at hk
                refine jn_with (fun _ _ => False) (fun _ _ _ h => h.elim) ?_
                simp (disch := first | omega | (simp only [sZb, sZa, sZd] <;> omega) | (simp (disch := first | omega | (simp only [sZb, sZa, sZd] <;> omega) | fail) only [go_sem, bh, hro]; done) | fail) only [go_sem, dec_t, dec_f, w_u32, w_u64, w_u16, w_u8, w_i64, Int.reduceToNat, Int.reducePow, Nat.reducePow, bh, hro]
                exact J11_spec f hh hk
              · rw [if_neg hro] at hk
                have hro' : hd.ro = false := by simpa using hro
                refine jn_with (fun t w' => w' = w2) ?_ ?_
                · rintro t e w3 rfl
                  refine J9_spec f hh fb hv (by omega) na t e ?_
                  by_cases q1 : s.op = 17 ∧ s.off < 0
                  · rw [if_pos q1] at hk ⊢; exact hk
                  rw [if_neg q1] at hk ⊢
                  by_cases q2 : s.op = 14 ∧ (hd.pos < 0 ∨ 1048576 < hd.pos) ∨ s.op ≠ 14 ∧ (s.off < 0 ∨ 1048576 < s.off)
                  · rw [if_pos q2] at hk ⊢; exact hk
                  rw [if_neg q2] at hk ⊢
                  by_cases q3 : s.op = 17
                  · rw [if_pos q3] at hk ⊢; exact hk
                  rw [if_neg q3] at hk ⊢
                  by_cases q4 : s.op = 14
                  · rw [if_pos q4] at hk ⊢; exact hk
                  rw [if_neg q4] at hk ⊢
                  rw [if_pos (by omega)] at hk
                  exact hk
                · simp (disch := first | omega | (simp only [sZb, sZa, sZd] <;> omega) | (simp (disch := first | omega | (simp only [sZb, sZa, sZd] <;> omega) | fail) only [go_sem, bh, hro']; done) | fail) only [go_sem, dec_t, dec_f, w_u32, w_u64, w_u16, w_u8, w_i64, Int.reduceToNat, Int.reducePow, Nat.reducePow, bh, hro']
            · simp (disch := first | omega | (simp only [sZb, sZa, sZd] <;> omega) | (simp (disch := first | omega | (simp only [sZb, sZa, sZd] <;> omega) | fail) only [go_sem, bS]; done) | fail) only [go_sem, dec_t, dec_f, w_u32, w_u64, w_u16, w_u8, w_i64, Int.reduceToNat, Int.reducePow, Nat.reducePow, bS]
              unfold J_spec_Mem_file_22
              simp (disch := first | omega | (simp only [sZb, sZa, sZd] <;> omega) | (simp (disch := first | omega | (simp only [sZb, sZa, sZd] <;> omega) | fail) only [go_sem]; done) | fail) only [go_sem, dec_t, dec_f, w_u32, w_u64, w_u16, w_u8, w_i64, Int.reduceToNat, Int.reducePow, Nat.reducePow]
              unfold J_spec_Mem_file_21
              simp (disch := first | omega | (simp only [sZb, sZa, sZd] <;> omega) | (simp (disch := first | omega | (simp only [sZb, sZa, sZd] <;> omega) | fail) only [go_sem]; done) | fail) only [go_sem, dec_t, dec_f, w_u32, w_u64, w_u16, w_u8, w_i64, Int.reduceToNat, Int.reducePow, Nat.reducePow]
    · simp (disch := first | omega | (simp only [sZb, sZa, sZd] <;> omega) | (simp (disch := first | omega | (simp only [sZb, sZa, sZd] <;> omega) | fail) only [go_sem, bh, hcl']; done) | fail) only [go_sem, dec_t, dec_f, w_u32, w_u64, w_u16, w_u8, w_i64, Int.reduceToNat, Int.reducePow, Nat.reducePow, bh, hcl']
set_option maxHeartbeats 8000000 in
theorem file_spec (h : MemX w B p m F vn va vd q ds hl c hb ρ) (hv : BS w v s.data) (hh : SM.hget m.hs k = some hd) (fb : FB m hd s) (h0 : 0 ≤ hd.listed) (mb : MB m) (hop : 12 ≤ s.op ∧ s.op ≤ 23) (hk : FileK w B p F (m.fileS k hd s) K) : Cl P Fn.spec_Mem_file #[pt p 0, pt (hb k) 0, AG (stepC s v)] w K := by
  apply S_spec_Mem_file
  unfold F_spec_Mem_file
  obtain ⟨W, eW, BW, zW, bS, bA⟩ := start_w w s v
  rw [oBox_agg, M.al_impl_Answer, eW]
  have f0 : Fc w W B p m F vn va vd q ds hl c hb ρ s v := ⟨h.old BW, h.lt, Tr.of_below BW F, bS, bA⟩
  have hn := fb.node
  have bm := f0.h.bm
  have bh := (f0.h.bh k hd hh).2
  obtain ⟨g, cur, na0, na1, na2⟩ := f0.h.node hn
  have ix := na0.ix .i64
  have na : NodeAt W.drew vd m hd.node (ds[hd.node]'(by rw [f0.drew.h.dl]; exact fb.node)) g cur := ⟨na0.ob, na0.bg, na0.len, na0.ix, na0.row, na0.c0, na0.c1, na0.c2, na0.c3, na0.c4⟩
  have f := f0.drew
  have hvW : BS W.drew v s.data := BS_old hv (BW.trans (by repeat (first | exact Below.refl _ _ | assumption | refine bel_setb ?_ (by first | exact Nat.le_refl _ | omega | (simp only [go_sem] <;> omega)) _ | refine Below.alloc ?_ (by first | exact Nat.le_refl _ | omega | (simp only [go_sem]; omega)) _ | refine Below.drew ?_))) (Nat.le_refl _)
  have hv1 := BS_one' hv
  have lA := f.lA
  have bA' := f.A
  simp (disch := first | omega | (simp only [sZb, sZa, sZd] <;> omega) | (simp (disch := first | omega | (simp only [sZb, sZa, sZd] <;> omega) | fail) only [go_sem, bm, bh, ix]; done) | fail) only [go_sem, dec_t, dec_f, w_u32, w_u64, w_u16, w_u8, w_i64, Int.reduceToNat, Int.reducePow, Nat.reducePow, bm, bh, ix]
  have hk0 := hk
  unfold SM.Mem.fileS at hk
  simp only at hk
  by_cases c18 : s.op = 18
  · rw [if_pos c18] at hk
    refine jn_with (fun _ _ => False) (fun _ _ _ h => h.elim) ?_
    simp (disch := first | omega | (simp only [sZb, sZa, sZd] <;> omega) | (simp (disch := first | omega | (simp only [sZb, sZa, sZd] <;> omega) | fail) only [go_sem, bS]; done) | fail) only [go_sem, dec_t, dec_f, w_u32, w_u64, w_u16, w_u8, w_i64, Int.reduceToNat, Int.reducePow, Nat.reducePow, bS]
    exact J26_spec f hh hn na hk
  rw [if_neg c18] at hk
  by_cases c21 : s.op = 21
  · rw [if_pos c21] at hk
    refine jn_with (fun _ _ => False) (fun _ _ _ h => h.elim) ?_
    simp (disch := first | omega | (simp only [sZb, sZa, sZd] <;> omega) | (simp (disch := first | omega | (simp only [sZb, sZa, sZd] <;> omega) | fail) only [go_sem, bS]; done) | fail) only [go_sem, dec_t, dec_f, w_u32, w_u64, w_u16, w_u8, w_i64, Int.reduceToNat, Int.reducePow, Nat.reducePow, bS]
    unfold J_spec_Mem_file_33
    simp (disch := first | omega | (simp only [sZb, sZa, sZd] <;> omega) | (simp (disch := first | omega | (simp only [sZb, sZa, sZd] <;> omega) | fail) only [go_sem]; done) | fail) only [go_sem, dec_t, dec_f, w_u32, w_u64, w_u16, w_u8, w_i64, Int.reduceToNat, Int.reducePow, Nat.reducePow]
    exact J27_spec f hh fb hk
  rw [if_neg c21] at hk
  by_cases c22 : s.op = 22
  · rw [if_pos c22] at hk
    refine jn_with (fun _ _ => False) (fun _ _ _ h => h.elim) ?_
    simp (disch := first | omega | (simp only [sZb, sZa, sZd] <;> omega) | (simp (disch := first | omega | (simp only [sZb, sZa, sZd] <;> omega) | fail) only [go_sem, bS]; done) | fail) only [go_sem, dec_t, dec_f, w_u32, w_u64, w_u16, w_u8, w_i64, Int.reduceToNat, Int.reducePow, Nat.reducePow, bS]
    unfold J_spec_Mem_file_33
    simp (disch := first | omega | (simp only [sZb, sZa, sZd] <;> omega) | (simp (disch := first | omega | (simp only [sZb, sZa, sZd] <;> omega) | fail) only [go_sem]; done) | fail) only [go_sem, dec_t, dec_f, w_u32, w_u64, w_u16, w_u8, w_i64, Int.reduceToNat, Int.reducePow, Nat.reducePow]
    unfold J_spec_Mem_file_32
    simp (disch := first | omega | (simp only [sZb, sZa, sZd] <;> omega) | (simp (disch := first | omega | (simp only [sZb, sZa, sZd] <;> omega) | fail) only [go_sem]; done) | fail) only [go_sem, dec_t, dec_f, w_u32, w_u64, w_u16, w_u8, w_i64, Int.reduceToNat, Int.reducePow, Nat.reducePow]
    exact J28_spec f hh na hk
  rw [if_neg c22] at hk
  by_cases c23 : s.op = 23
  · rw [if_pos c23] at hk
    refine jn_with (fun _ _ => False) (fun _ _ _ h => h.elim) ?_
    simp (disch := first | omega | (simp only [sZb, sZa, sZd] <;> omega) | (simp (disch := first | omega | (simp only [sZb, sZa, sZd] <;> omega) | fail) only [go_sem, bS]; done) | fail) only [go_sem, dec_t, dec_f, w_u32, w_u64, w_u16, w_u8, w_i64, Int.reduceToNat, Int.reducePow, Nat.reducePow, bS]
    unfold J_spec_Mem_file_33
    simp (disch := first | omega | (simp only [sZb, sZa, sZd] <;> omega) | (simp (disch := first | omega | (simp only [sZb, sZa, sZd] <;> omega) | fail) only [go_sem]; done) | fail) only [go_sem, dec_t, dec_f, w_u32, w_u64, w_u16, w_u8, w_i64, Int.reduceToNat, Int.reducePow, Nat.reducePow]
    unfold J_spec_Mem_file_32
    simp (disch := first | omega | (simp only [sZb, sZa, sZd] <;> omega) | (simp (disch := first | omega | (simp only [sZb, sZa, sZd] <;> omega) | fail) only [go_sem]; done) | fail) only [go_sem, dec_t, dec_f, w_u32, w_u64, w_u16, w_u8, w_i64, Int.reduceToNat, Int.reducePow, Nat.reducePow]
    unfold J_spec_Mem_file_31
    simp (disch := first | omega | (simp only [sZb, sZa, sZd] <;> omega) | (simp (disch := first | omega | (simp only [sZb, sZa, sZd] <;> omega) | fail) only [go_sem, bA']; done) | fail) only [go_sem, dec_t, dec_f, w_u32, w_u64, w_u16, w_u8, w_i64, Int.reduceToNat, Int.reducePow, Nat.reducePow, bA']
    obtain ⟨e1, e2, e3⟩ := fin_ans f.h.toS f.tr (A := w.heap.size + 1) (by omega) f.nA (AnsN.plain W.drew (w.heap.size + 1 + 1) _ (a := SM.Ans.z) rfl rfl rfl) (CB ansZ T.impl_Answer)
    exact hk _ _ _ e1 e2 e3
  rw [if_neg c23] at hk
  by_cases c19 : s.op = 19 ∨ s.op = 20
  · rw [if_pos c19] at hk
    refine jn_with (fun _ _ => False) (fun _ _ _ h => h.elim) ?_
    simp (disch := first | omega | (simp only [sZb, sZa, sZd] <;> omega) | (simp (disch := first | omega | (simp only [sZb, sZa, sZd] <;> omega) | fail) only [go_sem, bS]; done) | fail) only [go_sem, dec_t, dec_f, w_u32, w_u64, w_u16, w_u8, w_i64, Int.reduceToNat, Int.reducePow, Nat.reducePow, bS]
    unfold J_spec_Mem_file_33
    simp (disch := first | omega | (simp only [sZb, sZa, sZd] <;> omega) | (simp (disch := first | omega | (simp only [sZb, sZa, sZd] <;> omega) | fail) only [go_sem]; done) | fail) only [go_sem, dec_t, dec_f, w_u32, w_u64, w_u16, w_u8, w_i64, Int.reduceToNat, Int.reducePow, Nat.reducePow]
    unfold J_spec_Mem_file_32
    simp (disch := first | omega | (simp only [sZb, sZa, sZd] <;> omega) | (simp (disch := first | omega | (simp only [sZb, sZa, sZd] <;> omega) | fail) only [go_sem]; done) | fail) only [go_sem, dec_t, dec_f, w_u32, w_u64, w_u16, w_u8, w_i64, Int.reduceToNat, Int.reducePow, Nat.reducePow]
    unfold J_spec_Mem_file_31
    simp (disch := first | omega | (simp only [sZb, sZa, sZd] <;> omega) | (simp (disch := first | omega | (simp only [sZb, sZa, sZd] <;> omega) | fail) only [go_sem]; done) | fail) only [go_sem, dec_t, dec_f, w_u32, w_u64, w_u16, w_u8, w_i64, Int.reduceToNat, Int.reducePow, Nat.reducePow]
    unfold J_spec_Mem_file_30
    refine jn_with (fun t w' => t = [.bool true] ∧ w' = W.drew) ?_ ?_
    · rintro t e w1 ⟨rfl, rfl⟩
      unfold J_spec_Mem_file_29
      simp (disch := first | omega | (simp only [sZb, sZa, sZd] <;> omega) | (simp (disch := first | omega | (simp only [sZb, sZa, sZd] <;> omega) | fail) only [go_sem, bS]; done) | fail) only [go_sem, dec_t, dec_f, w_u32, w_u64, w_u16, w_u8, w_i64, Int.reduceToNat, Int.reducePow, Nat.reducePow, bS]
      refine list_spec f.h hv1 hh fb h0 mb fun w2 F2 c2 h2 t2 a2 => ?_
      obtain ⟨x, y, z, ec, _⟩ := id a2
      have t02 := f.tr.trans t2
      have bA2 : bk w2 (w.heap.size + 1) = some (CB ansZ T.impl_Answer) := by rw [t2.kp.block _ lA (fun e => f.nA (f.h.sub _ e))]; exact bA'
      have lA2 := bk_lt bA2
      have o1 : x.oneCell' = true ∧ y.oneCell' = true ∧ z.oneCell' = true := by
        obtain ⟨x', y', z', e', b1, b2, b3, _⟩ := a2
        rw [e'] at ec
        injection ec with _ ec
        injection ec with _ ec
        injection ec with _ ec
        injection ec with q1 ec
        injection ec with q2 ec
        injection ec with q3 ec
        subst q1 q2 q3
        refine ⟨BS_one' b1, ?_, ?_⟩
        · rcases b2 with ⟨_, _, _, rfl, _⟩ | ⟨_, _, _, _, rfl⟩ <;> rfl
        · rcases b3 with ⟨_, _, _, rfl, _⟩ | ⟨_, _, _, _, rfl⟩ <;> rfl
      subst ec
      have ox := o1.1
      have oy := o1.2.1
      have oz := o1.2.2
      simp (disch := first | omega | (simp only [sZb, sZa, sZd] <;> omega) | (simp (disch := first | omega | (simp only [sZb, sZa, sZd] <;> omega) | fail) only [go_sem, bA2, ox, oy, oz]; done) | fail) only [go_sem, dec_t, dec_f, w_u32, w_u64, w_u16, w_u8, w_i64, Int.reduceToNat, Int.reducePow, Nat.reducePow, bA2, ox, oy, oz]
      have nA2 : ¬ F2.use (w.heap.size + 1) := fun e => f.nA ((t2.st _ lA).2 e)
      obtain ⟨e1, e2, e3⟩ := fin_ans h2 t02 (A := w.heap.size + 1) (by omega) nA2 (a2.less (by omega)) (CB (answC (m.listS k hd s).2 x y z) T.impl_Answer)
      exact hk _ _ _ e1 e2 e3
    · rcases c19 with c | c
      · simp (disch := first | omega | (simp only [sZb, sZa, sZd] <;> omega) | (simp (disch := first | omega | (simp only [sZb, sZa, sZd] <;> omega) | fail) only [go_sem]; done) | fail) only [go_sem, dec_t, dec_f, w_u32, w_u64, w_u16, w_u8, w_i64, Int.reduceToNat, Int.reducePow, Nat.reducePow]
        exact ⟨trivial, trivial⟩
      · simp (disch := first | omega | (simp only [sZb, sZa, sZd] <;> omega) | (simp (disch := first | omega | (simp only [sZb, sZa, sZd] <;> omega) | fail) only [go_sem]; done) | fail) only [go_sem, dec_t, dec_f, w_u32, w_u64, w_u16, w_u8, w_i64, Int.reduceToNat, Int.reducePow, Nat.reducePow]
        exact ⟨trivial, trivial⟩
  · refine jn_with (fun t w' => w' = W.drew) ?_ ?_
    · rintro t e w1 rfl
      exact J24_spec f hh fb hvW (by omega) na t e hk0
    · simp (disch := first | omega | (simp only [sZb, sZa, sZd] <;> omega) | (simp (disch := first | omega | (simp only [sZb, sZa, sZd] <;> omega) | fail) only [go_sem, bS]; done) | fail) only [go_sem, dec_t, dec_f, w_u32, w_u64, w_u16, w_u8, w_i64, Int.reduceToNat, Int.reducePow, Nat.reducePow, bS]
      unfold J_spec_Mem_file_33
      simp (disch := first | omega | (simp only [sZb, sZa, sZd] <;> omega) | (simp (disch := first | omega | (simp only [sZb, sZa, sZd] <;> omega) | fail) only [go_sem]; done) | fail) only [go_sem, dec_t, dec_f, w_u32, w_u64, w_u16, w_u8, w_i64, Int.reduceToNat, Int.reducePow, Nat.reducePow]
      unfold J_spec_Mem_file_32
      simp (disch := first | omega | (simp only [sZb, sZa, sZd] <;> omega) | (simp (disch := first | omega | (simp only [sZb, sZa, sZd] <;> omega) | fail) only [go_sem]; done) | fail) only [go_sem, dec_t, dec_f, w_u32, w_u64, w_u16, w_u8, w_i64, Int.reduceToNat, Int.reducePow, Nat.reducePow]
      unfold J_spec_Mem_file_31
      simp (disch := first | omega | (simp only [sZb, sZa, sZd] <;> omega) | (simp (disch := first | omega | (simp only [sZb, sZa, sZd] <;> omega) | fail) only [go_sem]; done) | fail) only [go_sem, dec_t, dec_f, w_u32, w_u64, w_u16, w_u8, w_i64, Int.reduceToNat, Int.reducePow, Nat.reducePow]
      unfold J_spec_Mem_file_30
      refine jn_with (fun t w' => t = [.bool false] ∧ w' = W.drew) ?_ ?_
      · rintro t e w1 ⟨rfl, rfl⟩
        unfold J_spec_Mem_file_29
        simp (disch := first | omega | (simp only [sZb, sZa, sZd] <;> omega) | (simp (disch := first | omega | (simp only [sZb, sZa, sZd] <;> omega) | fail) only [go_sem]; done) | fail) only [go_sem, dec_t, dec_f, w_u32, w_u64, w_u16, w_u8, w_i64, Int.reduceToNat, Int.reducePow, Nat.reducePow]
      · simp (disch := first | omega | (simp only [sZb, sZa, sZd] <;> omega) | (simp (disch := first | omega | (simp only [sZb, sZa, sZd] <;> omega) | fail) only [go_sem]; done) | fail) only [go_sem, dec_t, dec_f, w_u32, w_u64, w_u16, w_u8, w_i64, Int.reduceToNat, Int.reducePow, Nat.reducePow]
        exact ⟨trivial, trivial⟩
end
end Go.Proofs.YteblpejgenehfaaDoor.X
end
section
namespace Go.Proofs.YteblpejgenehfaaDoor.X
open Go Go.X Go.Proofs Go.RowKit
section
variable {w : World} {K : Value → World → Prop} {B p : Nat} {m : SM.Mem} {F : Fp} {s : SM.Stp} {v : Value}
theorem step_w (w : World) (s : SM.Stp) (v : Value) : ∃ W : World, w.alloc (CB (stepC s v) T.impl_Step) = W ∧ Below w.heap.size w W ∧ W.heap.size = w.heap.size + 1 ∧ bk W w.heap.size = some (CB (stepC s v) T.impl_Step) :=
  ⟨_, rfl, by repeat (first | exact Below.refl _ _ | assumption | refine bel_setb ?_ (by first | exact Nat.le_refl _ | omega | (simp only [go_sem] <;> omega)) _ | refine Below.alloc ?_ (by first | exact Nat.le_refl _ | omega | (simp only [go_sem]; omega)) _ | refine Below.drew ?_), by simp only [go_sem], bk_alloc_eq _ _ _ rfl⟩
set_option maxHeartbeats 4000000 in
theorem speaksOpen_spec (h : MemS w B p m F) (mb : MB m) (hn : s.name.length ≤ 400) (hk : ∀ w', Below w.heap.size w w' → K (.bool (m.speaksOpen s)) w') : Cl P Fn.spec_Mem_speaksOpen #[pt p 0, AG (stepC s v)] w K := by
  apply S_spec_Mem_speaksOpen
  unfold F_spec_Mem_speaksOpen
  obtain ⟨W, eW, BW, zW, bS⟩ := step_w w s v
  rw [oBox_agg, eW]
  simp (disch := first | omega | (simp only [sZb, sZa, sZd] <;> omega) | (simp (disch := first | omega | (simp only [sZb, sZa, sZd] <;> omega) | fail) only [go_sem, bS]; done) | fail) only [go_sem, dec_t, dec_f, w_u32, w_u64, w_u16, w_u8, w_i64, Int.reduceToNat, Int.reducePow, Nat.reducePow, bS]
  refine memName_spec hn fun w1 B1 => ?_
  have BW1 : Below w.heap.size w w1 := BW.trans (B1.mono BW.size)
  have h1 := h.old BW1
  have mnn := mb.nn
  have lS := bk_lt bS
  have bS1 := (bel_bk B1 lS).trans bS
  have hnl := norm_len s.name
  refine find_spec h1 (by omega) mb.la ?_
  simp (disch := first | omega | (simp only [sZb, sZa, sZd] <;> omega) | (simp (disch := first | omega | (simp only [sZb, sZa, sZd] <;> omega) | fail) only [go_sem, bS1]; done) | fail) only [go_sem, dec_t, dec_f, w_u32, w_u64, w_u16, w_u8, w_i64, Int.reduceToNat, Int.reducePow, Nat.reducePow, bS1]
  unfold SM.Mem.speaksOpen at hk
  simp only at hk
  by_cases c0 : SM.namedS s.name = false
  · refine jn_with (fun _ _ => False) (fun _ _ _ h => h.elim) ?_
    rw [if_pos c0] at hk
    refine named_spec (by omega) fun w2 B2 => ?_
    simp (disch := first | omega | (simp only [sZb, sZa, sZd] <;> omega) | (simp (disch := first | omega | (simp only [sZb, sZa, sZd] <;> omega) | fail) only [go_sem, c0]; done) | fail) only [go_sem, dec_t, dec_f, w_u32, w_u64, w_u16, w_u8, w_i64, Int.reduceToNat, Int.reducePow, Nat.reducePow, c0]
    exact hk _ (BW1.trans (B2.mono BW1.size))
  rw [if_neg c0] at hk
  have c0' : SM.namedS s.name = true := by simpa using c0
  by_cases c1 : s.op = 0
  · rw [if_pos c1] at hk
    refine jn_with (fun _ _ => False) (fun _ _ _ h => h.elim) ?_
    refine named_spec (by omega) fun w2 B2 => ?_
    have BW2 := BW1.trans (B2.mono BW1.size)
    have h2 := h.old BW2
    have bS2 := (bel_bk B2 (bk_lt bS1)).trans bS1
    simp (disch := first | omega | (simp only [sZb, sZa, sZd] <;> omega) | (simp (disch := first | omega | (simp only [sZb, sZa, sZd] <;> omega) | fail) only [go_sem, c0']; done) | fail) only [go_sem, dec_t, dec_f, w_u32, w_u64, w_u16, w_u8, w_i64, Int.reduceToNat, Int.reducePow, Nat.reducePow, c0']
    unfold J_spec_Mem_speaksOpen_3
    simp (disch := first | omega | (simp only [sZb, sZa, sZd] <;> omega) | (simp (disch := first | omega | (simp only [sZb, sZa, sZd] <;> omega) | fail) only [go_sem, bS2]; done) | fail) only [go_sem, dec_t, dec_f, w_u32, w_u64, w_u16, w_u8, w_i64, Int.reduceToNat, Int.reducePow, Nat.reducePow, bS2]
    unfold J_spec_Mem_speaksOpen_2
    rw [C.spec_Mem_isDir]
    refine isDir_spec h2 (by omega) mb.la mb.lt ?_
    cases hd : m.isDir (norm s.name) with
    | true =>
      rw [hd] at hk
      simp (disch := first | omega | (simp only [sZb, sZa, sZd] <;> omega) | (simp (disch := first | omega | (simp only [sZb, sZa, sZd] <;> omega) | fail) only [go_sem]; done) | fail) only [go_sem, dec_t, dec_f, w_u32, w_u64, w_u16, w_u8, w_i64, Int.reduceToNat, Int.reducePow, Nat.reducePow]
      exact hk _ BW2
    | false =>
      rw [hd] at hk
      simp (disch := first | omega | (simp only [sZb, sZa, sZd] <;> omega) | (simp (disch := first | omega | (simp only [sZb, sZa, sZd] <;> omega) | fail) only [go_sem]; done) | fail) only [go_sem, dec_t, dec_f, w_u32, w_u64, w_u16, w_u8, w_i64, Int.reduceToNat, Int.reducePow, Nat.reducePow]
      refine clear_spec h2 (by omega) mb.la mb.lt (by omega) ?_
      simpa using hk _ BW2
  rw [if_neg c1] at hk
  by_cases c2 : s.op = 1
  · rw [if_pos c2] at hk
    refine jn_with (fun _ _ => False) (fun _ _ _ h => h.elim) ?_
    refine named_spec (by omega) fun w2 B2 => ?_
    have BW2 := BW1.trans (B2.mono BW1.size)
    have bS2 := (bel_bk B2 (bk_lt bS1)).trans bS1
    simp (disch := first | omega | (simp only [sZb, sZa, sZd] <;> omega) | (simp (disch := first | omega | (simp only [sZb, sZa, sZd] <;> omega) | fail) only [go_sem, c0']; done) | fail) only [go_sem, dec_t, dec_f, w_u32, w_u64, w_u16, w_u8, w_i64, Int.reduceToNat, Int.reducePow, Nat.reducePow, c0']
    unfold J_spec_Mem_speaksOpen_3
    simp (disch := first | omega | (simp only [sZb, sZa, sZd] <;> omega) | (simp (disch := first | omega | (simp only [sZb, sZa, sZd] <;> omega) | fail) only [go_sem, bS2]; done) | fail) only [go_sem, dec_t, dec_f, w_u32, w_u64, w_u16, w_u8, w_i64, Int.reduceToNat, Int.reducePow, Nat.reducePow, bS2]
    exact hk _ BW2
  rw [if_neg c2] at hk
  refine jn_with (fun t w' => Below w1.heap.size w1 w') ?_ ?_
  · rintro t e w2 B2
    have BW2 := BW1.trans (B2.mono BW1.size)
    have h2 := h.old BW2
    have bS2 := (bel_bk B2 (bk_lt bS1)).trans bS1
    unfold J_spec_Mem_speaksOpen_1
    have q := hk _ BW2
    by_cases a1 : andNotI s.flag 1731 = 0
    · simp only [a1, decide_true, Bool.true_and] at q
      have key : ∀ b : Bool, ((m.find (norm s.name)).isSome || decide (andI s.flag 64 = 0) || m.clear (norm s.name)) = b → K (.bool (b && !(m.isDir (norm s.name) && SM.has s.flag 512))) w2 := fun b hb => by rw [hb] at q; exact q
      have tail : ∀ b : Bool, K (.bool (b && !(m.isDir (norm s.name) && SM.has s.flag 512))) w2 → 
        gd (.bool b) true w2 (fun K13 => K13 (pt p 0) w2) fun t58 w19 =>
        gd (.bool b) true w19 (fun K14 => K14 (S (norm s.name)) w19) fun t59 w20 =>
        gd (.bool b) true w20 (fun K15 => st P (oCall Fn.spec_Mem_isDir #[t58, t59]) w20 K15) fun t60 w21 =>
        gd (.bool b) true w21 (fun K16 => K16 t60 w21) fun t61 w22 =>
        gd t61 true w22 (fun K17 => pu P (oFldA T.impl_Step (pt w.heap.size 0) 3) fun v => K17 v w22) fun t62 w23 =>
        gd t61 true w23 (fun K18 => st P (oLoad T.int t62) w23 K18) fun t63 w24 =>
        gd t61 true w24 (fun K19 => pu P (oBin .and T.int false true t63 (.int .i64 512)) fun v => K19 v w24) fun t64 w25 =>
        gd t61 true w25 (fun K20 => pu P (oBin .neq T.int false true t64 (.int .i64 0)) fun v => K20 v w25) fun t65 w26 =>
        gd (.bool b) true w26 (fun K21 => pu P (oPick t61 t65 (.bool false)) fun v => K21 v w26) fun t66 w27 =>
        gd (.bool b) true w27 (fun K22 => pu P (oUn .not t66) fun v => K22 v w27) fun t67 w28 =>
        pu P (oPick (.bool b) t67 (.bool false)) fun t68 =>
        K (tup [t68]) w28 := fun b hb => by
        cases b with
        | false =>
          simp (disch := first | omega | (simp only [sZb, sZa, sZd] <;> omega) | (simp (disch := first | omega | (simp only [sZb, sZa, sZd] <;> omega) | fail) only [go_sem]; done) | fail) only [go_sem, dec_t, dec_f, w_u32, w_u64, w_u16, w_u8, w_i64, Int.reduceToNat, Int.reducePow, Nat.reducePow]
          simpa using hb
        | true =>
          simp (disch := first | omega | (simp only [sZb, sZa, sZd] <;> omega) | (simp (disch := first | omega | (simp only [sZb, sZa, sZd] <;> omega) | fail) only [go_sem]; done) | fail) only [go_sem, dec_t, dec_f, w_u32, w_u64, w_u16, w_u8, w_i64, Int.reduceToNat, Int.reducePow, Nat.reducePow]
          refine isDir_spec h2 (by omega) mb.la mb.lt ?_
          cases hd : m.isDir (norm s.name) with
          | false =>
            rw [hd] at hb
            simp (disch := first | omega | (simp only [sZb, sZa, sZd] <;> omega) | (simp (disch := first | omega | (simp only [sZb, sZa, sZd] <;> omega) | fail) only [go_sem]; done) | fail) only [go_sem, dec_t, dec_f, w_u32, w_u64, w_u16, w_u8, w_i64, Int.reduceToNat, Int.reducePow, Nat.reducePow]
            simpa using hb
          | true =>
            rw [hd] at hb
            simp (disch := first | omega | (simp only [sZb, sZa, sZd] <;> omega) | (simp (disch := first | omega | (simp only [sZb, sZa, sZd] <;> omega) | fail) only [go_sem, bS2]; done) | fail) only [go_sem, dec_t, dec_f, w_u32, w_u64, w_u16, w_u8, w_i64, Int.reduceToNat, Int.reducePow, Nat.reducePow, bS2]
            simpa [SM.has] using hb
      cases hf : (m.find (norm s.name)).isSome with
      | true =>
        have q2 := tail true (key true (by rw [hf]; rfl))
        simp (disch := first | omega | (simp only [sZb, sZa, sZd] <;> omega) | (simp (disch := first | omega | (simp only [sZb, sZa, sZd] <;> omega) | fail) only [go_sem, bS2, a1, decide_true]; done) | fail) only [go_sem, dec_t, dec_f, w_u32, w_u64, w_u16, w_u8, w_i64, Int.reduceToNat, Int.reducePow, Nat.reducePow, bS2, a1, decide_true]
        simp (disch := first | omega | (simp only [sZb, sZa, sZd] <;> omega) | (simp (disch := first | omega | (simp only [sZb, sZa, sZd] <;> omega) | fail) only [go_sem]; done) | fail) only [go_sem, dec_t, dec_f, w_u32, w_u64, w_u16, w_u8, w_i64, Int.reduceToNat, Int.reducePow, Nat.reducePow] at q2
        exact q2
      | false =>
        by_cases a2 : andI s.flag 64 = 0
        · have q2 := tail true (key true (by rw [hf]; simp [a2]))
          simp (disch := first | omega | (simp only [sZb, sZa, sZd] <;> omega) | (simp (disch := first | omega | (simp only [sZb, sZa, sZd] <;> omega) | fail) only [go_sem, bS2, a1, a2, decide_true]; done) | fail) only [go_sem, dec_t, dec_f, w_u32, w_u64, w_u16, w_u8, w_i64, Int.reduceToNat, Int.reducePow, Nat.reducePow, bS2, a1, a2, decide_true]
          simp (disch := first | omega | (simp only [sZb, sZa, sZd] <;> omega) | (simp (disch := first | omega | (simp only [sZb, sZa, sZd] <;> omega) | fail) only [go_sem]; done) | fail) only [go_sem, dec_t, dec_f, w_u32, w_u64, w_u16, w_u8, w_i64, Int.reduceToNat, Int.reducePow, Nat.reducePow] at q2
          exact q2
        · simp (disch := first | omega | (simp only [sZb, sZa, sZd] <;> omega) | (simp (disch := first | omega | (simp only [sZb, sZa, sZd] <;> omega) | fail) only [go_sem, bS2, a1, a2, decide_true, decide_false]; done) | fail) only [go_sem, dec_t, dec_f, w_u32, w_u64, w_u16, w_u8, w_i64, Int.reduceToNat, Int.reducePow, Nat.reducePow, bS2, a1, a2, decide_true, decide_false]
          refine clear_spec h2 (by omega) mb.la mb.lt (by omega) ?_
          cases hcl : m.clear (norm s.name) with
          | true =>
            have q2 := tail true (key true (by rw [hf, hcl]; simp))
            simp (disch := first | omega | (simp only [sZb, sZa, sZd] <;> omega) | (simp (disch := first | omega | (simp only [sZb, sZa, sZd] <;> omega) | fail) only [go_sem]; done) | fail) only [go_sem, dec_t, dec_f, w_u32, w_u64, w_u16, w_u8, w_i64, Int.reduceToNat, Int.reducePow, Nat.reducePow]
            simp (disch := first | omega | (simp only [sZb, sZa, sZd] <;> omega) | (simp (disch := first | omega | (simp only [sZb, sZa, sZd] <;> omega) | fail) only [go_sem]; done) | fail) only [go_sem, dec_t, dec_f, w_u32, w_u64, w_u16, w_u8, w_i64, Int.reduceToNat, Int.reducePow, Nat.reducePow] at q2
            exact q2
          | false =>
            have q2 := tail false (key false (by rw [hf, hcl]; simp [a2]))
            simp (disch := first | omega | (simp only [sZb, sZa, sZd] <;> omega) | (simp (disch := first | omega | (simp only [sZb, sZa, sZd] <;> omega) | fail) only [go_sem]; done) | fail) only [go_sem, dec_t, dec_f, w_u32, w_u64, w_u16, w_u8, w_i64, Int.reduceToNat, Int.reducePow, Nat.reducePow]
            simp (disch := first | omega | (simp only [sZb, sZa, sZd] <;> omega) | (simp (disch := first | omega | (simp only [sZb, sZa, sZd] <;> omega) | fail) only [go_sem]; done) | fail) only [go_sem, dec_t, dec_f, w_u32, w_u64, w_u16, w_u8, w_i64, Int.reduceToNat, Int.reducePow, Nat.reducePow] at q2
            exact q2
    · simp only [a1, decide_false, Bool.false_and] at q
      simp (disch := first | omega | (simp only [sZb, sZa, sZd] <;> omega) | (simp (disch := first | omega | (simp only [sZb, sZa, sZd] <;> omega) | fail) only [go_sem, bS2, a1, decide_false]; done) | fail) only [go_sem, dec_t, dec_f, w_u32, w_u64, w_u16, w_u8, w_i64, Int.reduceToNat, Int.reducePow, Nat.reducePow, bS2, a1, decide_false]
      exact q
  · refine named_spec (by omega) fun w2 B2 => ?_
    have BW2 := BW1.trans (B2.mono BW1.size)
    have bS2 := (bel_bk B2 (bk_lt bS1)).trans bS1
    simp (disch := first | omega | (simp only [sZb, sZa, sZd] <;> omega) | (simp (disch := first | omega | (simp only [sZb, sZa, sZd] <;> omega) | fail) only [go_sem, c0']; done) | fail) only [go_sem, dec_t, dec_f, w_u32, w_u64, w_u16, w_u8, w_i64, Int.reduceToNat, Int.reducePow, Nat.reducePow, c0']
    unfold J_spec_Mem_speaksOpen_3
    simp (disch := first | omega | (simp only [sZb, sZa, sZd] <;> omega) | (simp (disch := first | omega | (simp only [sZb, sZa, sZd] <;> omega) | fail) only [go_sem, bS2]; done) | fail) only [go_sem, dec_t, dec_f, w_u32, w_u64, w_u16, w_u8, w_i64, Int.reduceToNat, Int.reducePow, Nat.reducePow, bS2]
    exact B2
end
end Go.Proofs.YteblpejgenehfaaDoor.X
end
