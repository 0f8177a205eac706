/- What the claim needs of the texts on it, laid together. No condition. -/
import Derived.Test.YteblpejgenehfaaDoorZBytesAreBytes0
import Derived.MapKept
import Derived.Laws.IdiomRangeMap
import Derived.Lib.CleanSame2
import Derived.Lib.CleanSame
import Derived.Lib.CleanLen
set_option linter.unusedVariables false
set_option linter.unusedSimpArgs false
set_option maxRecDepth 100000
section
namespace Go.X
open Go Go.RowKit
structure Fp where
  own : Nat → Prop
  use : Nat → Prop
def Fp.step (n : Nat) (F G : Fp) : Prop := ∀ b, b < n → (G.own b → F.own b) ∧ (G.use b → F.use b)
theorem Fp.step_refl (n : Nat) (F : Fp) : Fp.step n F F := fun _ _ => ⟨id, id⟩
theorem Fp.step_trans {n m : Nat} {F G H : Fp} (h : Fp.step n F G) (k : Fp.step m G H) (hnm : n ≤ m) : Fp.step n F H := fun b hb =>
  ⟨fun x => (h b hb).1 ((k b (by omega)).1 x), fun x => (h b hb).2 ((k b (by omega)).2 x)⟩
def Fp.sep (F G : Fp) : Prop := ∀ b, (F.own b → ¬ G.use b) ∧ (G.own b → ¬ F.use b)
theorem Fp.sep.symm {F G : Fp} (h : Fp.sep F G) : Fp.sep G F := fun b => ⟨(h b).2, (h b).1⟩
def Fp.in_ (F : Fp) (n : Nat) : Prop := ∀ b, F.use b → b < n
theorem Fp.sep.step {F F' G : Fp} {n : Nat} (h : Fp.sep F G) (k : Fp.step n F F') (hs : ∀ b, G.own b → G.use b) (hG : G.in_ n) : Fp.sep F' G := fun b => by
  refine ⟨fun x y => ?_, fun x y => ?_⟩
  · have := hG b y
    exact (h b).1 ((k b this).1 x) y
  · have := hG b (hs b x)
    exact (h b).2 x ((k b this).2 y)
structure Tr (w w' : World) (F F' : Fp) : Prop where
  kp : Kp w w' F.own
  st : Fp.step w.heap.size F F'
theorem Tr.refl (w : World) (F : Fp) : Tr w w F F := ⟨Kp.refl w _, Fp.step_refl _ _⟩
theorem Tr.trans {a b c : World} {F G H : Fp} (h : Tr a b F G) (k : Tr b c G H) : Tr a c F H :=
  ⟨h.kp.trans k.kp fun x hx hG => (h.st x hx).1 hG, Fp.step_trans h.st k.st h.kp.size⟩
theorem Tr.of_below {w w' : World} (h : Below w.heap.size w w') (F : Fp) : Tr w w' F F := ⟨Kp.of_below h _, Fp.step_refl _ _⟩
theorem Tr.after {a b c : World} {F G : Fp} (h : Tr a b F G) (k : Below b.heap.size b c) : Tr a c F G := h.trans (Tr.of_below k G)
theorem Tr.before {a b c : World} {F G : Fp} (k : Below a.heap.size a b) (h : Tr b c F G) : Tr a c F G := (Tr.of_below k F).trans h
theorem Kp_sub {a b : World} {S T : Nat → Prop} (h : Kp a b S) (hS : ∀ x, x < a.heap.size → S x → T x) : Kp a b T := ⟨h.os, h.tape, h.output, h.size, fun k hk hn => h.block k hk fun hs => hn (hS k hk hs)⟩
section
variable {P : Program} {L : Value → World → Prop} {w : World}
theorem own_front {tB tE : TypeId} {size : Nat} (h2 : P.underlying tB = some (.slice tE)) (hs : (P.info? tE).map (·.size) = some size) {B : Nat} {v : Value} {n : Nat} {xs : List Value} (h : w.ownsRow B tE size v n xs) {p : Nat} (hp : p ≤ n) :
    ∃ v', w.ownsRow B tE size v' p (xs.take (p * size)) ∧ v'.ownBlock = v.ownBlock ∧ ∀ (k : IntKind) (M : Value → Prop), pu P (oSlice tB v none (some (.int k p)) none) M = M v' := by
  rcases h.2 with ⟨rfl, rfl⟩ | ⟨g, cap, cur, rfl, h3, h4, h5, h6, h7, h8⟩
  · have hp0 : p = 0 := by omega
    subst hp0
    refine ⟨.slice none 0 0, ⟨by simp, .inl ⟨rfl, rfl⟩⟩, rfl, fun k M => ?_⟩
    have hx : rp P (sizeOf tE) = some size := by
      cases hi : P.info? tE with
      | none => rw [hi] at hs; cases hs
      | some i => rw [hi] at hs; simp at hs; simp [sizeOf, typeInfo, rp_bind, hi, hs]
    exact pu_v' (by
      simp only [Instr.sliceAt, Instr.slice, Instr.sliceBounds]
      simp [rp_bind, rp_map, rp_underlying h2, rp_sliceBound k 0 0 _ (by omega) (by omega), hx])
  · refine ⟨sl g 0 p cap, ⟨?_, .inr ⟨g, cap, cur, rfl, h3, h4, by omega, h6, h7, ?_⟩⟩, rfl, fun k M => ?_⟩
    · have e := h.1
      rw [List.length_take, e]
      exact Nat.min_eq_left (Nat.mul_le_mul_right _ hp)
    · rw [← h8, List.take_take, Nat.min_eq_left (Nat.mul_le_mul_right _ hp)]
    · rw [oSlice_hi (size := size) M h2 hs (by omega) (by omega), Int.toNat_natCast]
theorem own_in {w : World} {B n size : Nat} {e : TypeId} {v : Value} {xs : List Value} (h : w.ownsRow B e size v n xs) : ∀ k, v.ownBlock = some k → B ≤ k ∧ k < w.heap.size := fun k hk => by
  rcases h.2 with ⟨rfl, _⟩ | ⟨g, cap, cur, rfl, h1, h2, h3⟩
  · cases hk
  · injection hk with hk
    subst hk
    exact ⟨h1, (Array.getElem?_eq_some_iff.1 h2).1⟩
def RowS (w : World) (x : Value) (m : Nat) (news : List Value) : Prop := (∃ b o c, x = sl b o m c ∧ rowOf (bk w b) o news.length = some news) ∨ (m = 0 ∧ news = [] ∧ ∃ a c, x = .slice a 0 c)
theorem RowS.old {w w' : World} {x : Value} {m : Nat} {news : List Value} (h : RowS w x m news) (hb : Below w.heap.size w w') : RowS w' x m news := by
  rcases h with ⟨b, o, c, e, r⟩ | h
  · refine .inl ⟨b, o, c, e, ?_⟩
    have : b < w.heap.size := by
      obtain ⟨c', t', fz, e1, _, _⟩ := rowOf_inv r
      exact bk_lt e1
    rw [bel_bk hb this]; exact r
  · exact .inr h
theorem RowS.kp {w w' : World} {x : Value} {m : Nat} {news : List Value} {S : Nat → Prop} (h : RowS w x m news) (k : Kp w w' S) (hS : ∀ b, x.ownBlock = some b → ¬ S b) : RowS w' x m news := by
  rcases h with ⟨b, o, c, e, r⟩ | h
  · refine .inl ⟨b, o, c, e, ?_⟩
    have : b < w.heap.size := by
      obtain ⟨c', t', fz, e1, _, _⟩ := rowOf_inv r
      exact bk_lt e1
    rw [k.block b this (hS b (by rw [e]; rfl))]; exact r
  · exact .inr h
theorem own_back {tB tE : TypeId} {size : Nat} (h2 : P.underlying tB = some (.slice tE)) (hs : (P.info? tE).map (·.size) = some size) {B : Nat} {v : Value} {n : Nat} {xs : List Value} (h : w.ownsRow B tE size v n xs) {p : Nat} (hp : p ≤ n) :
    ∃ x, RowS w x (n - p) (xs.drop (p * size)) ∧ x.ownBlock = v.ownBlock ∧ ∀ (k : IntKind) (M : Value → Prop), pu P (oSlice tB v (some (.int k p)) none none) M = M x := by
  rcases h.2 with ⟨rfl, rfl⟩ | ⟨g, cap, cur, rfl, h3, h4, h5, h6, h7, h8⟩
  · have hp0 : p = 0 := by omega
    subst hp0
    have hx : xs = [] := by have := h.1; simpa using this
    subst hx
    refine ⟨.slice none 0 0, .inr ⟨rfl, by simp, _, _, rfl⟩, rfl, fun k M => ?_⟩
    have hx : rp P (sizeOf tE) = some size := by
      cases hi : P.info? tE with
      | none => rw [hi] at hs; cases hs
      | some i => rw [hi] at hs; simp at hs; simp [sizeOf, typeInfo, rp_bind, hi, hs]
    exact pu_v' (by
      simp only [Instr.sliceAt, Instr.slice, Instr.sliceBounds]
      simp [rp_bind, rp_map, rp_underlying h2, rp_sliceBound k 0 0 _ (by omega) (by omega), hx])
  · have e := h.1
    have hlen : (xs.drop (p * size)).length = (n - p) * size := by rw [List.length_drop, e, Nat.sub_mul]
    have hcs : cur.toList.length = cap * size := by simpa using h7
    refine ⟨sl g (if cap = p then 0 else p * size) (n - p) (cap - p), .inl ⟨g, _, _, rfl, ?_⟩, rfl, fun k M => ?_⟩
    · have hb : bk w g = some (.cells cur tE (0, 0)) := h4
      rw [hb]
      simp only [rowOf, hlen]
      by_cases hc : cap = p
      · have hn : n - p = 0 := by omega
        rw [if_pos hc, hn]
        simp
        have : n * size ≤ p * size := Nat.mul_le_mul_right _ (by omega)
        omega
      · rw [if_neg hc]
        have h9 : p * size + (n - p) * size = n * size := by rw [← Nat.add_mul]; congr 1; omega
        have h10 : n * size ≤ cap * size := Nat.mul_le_mul_right _ h5
        rw [if_pos (by rw [h9]; omega)]
        rw [← h8]
        congr 1
        rw [List.drop_take]
        congr 1
        omega
    · rw [oSlice_lo (size := size) M h2 hs (by omega) (by omega) h5, Int.toNat_natCast, Nat.zero_add]
theorem oAppendR {t e : TypeId} {z : Value} {size bytes : Nat} {cs : Array Bool} {ty : TypeId} (ht : P.underlying t = some (.slice e)) (hi : (P.info? e).map (fun i => (i.zero, i.size, i.bytes)) = some (some z, size, bytes)) (hzs : z.cells.size = size) (hsz : 0 < size)
    {B : Nat} {v : Value} {n : Nat} {xs : List Value} (hown : w.ownsRow B e size v n xs) {x : Value} {m : Nat} {news : List Value} (hx : RowS w x m news) (hl : news.length = m * size) (h1 : ∀ u ∈ news, u.oneCell' = true)
    (h63 : n + m ≤ maxLen) (hbytes : (n + m) * bytes ≤ 140737488355328) (hbase : B ≤ w.heap.size)
    (h : ∀ v' w', w'.ownsRow B e size v' (n + m) (xs ++ news) → w.grownBy w' v.ownBlock → (v'.ownBlock = v.ownBlock ∨ v'.ownBlock = some w.heap.size) → L v' w') : st P (oBuiltin .append #[t, t] ty cs #[v, x]) w L := by
  rcases hx with ⟨b, o, c, rfl, r⟩ | ⟨rfl, rfl, a, c, rfl⟩
  · exact oAppend_own_at ht hi hzs hsz hown hl r h1 h63 hbytes hbase h
  · obtain ⟨a', cap, rfl⟩ := own_slice hown
    cases hie : P.info? e with
    | none => rw [hie] at hi; cases hi
    | some ie =>
    have hle : n ≤ cap := by
      rcases hown.2 with ⟨e1, rfl⟩ | ⟨g, cap', cur, e1, h3, h4, h5, h6, h7, h8⟩
      · exact Nat.zero_le _
      · injection e1 with _ _ e3; omega
    have hs : Src P ie.size t (.slice a 0 c) 0 [] w := by
      cases a with
      | none => exact Src.ofNil w ht c
      | some ad => exact Src.ofSlice w ht ad 0 c [] (by simp) (fun j u hj => by simp at hj) (fun u hu => by cases hu)
    have hr := run_append_nothing w t t ty e ie ht hie a' n cap hle (.slice a 0 c) hs
    have := st_eq_value (K := L) (run_v' hr)
    rw [show st P (oBuiltin .append #[t, t] ty cs #[.slice a' n cap, .slice a 0 c]) w L = L (.slice a' n cap) w from this]
    exact h _ _ (by simpa using hown) (grown_refl w _) (.inl rfl)
theorem own_idx {tB tE : TypeId} {size : Nat} (h2 : P.underlying tB = some (.slice tE)) (hs : (P.info? tE).map (·.size) = some size) {B : Nat} {v : Value} {n : Nat} {xs : List Value} (h : w.ownsRow B tE size v n xs) {i : Nat} (hi : i < n) :
    ∃ g cur, v.ownBlock = some g ∧ B ≤ g ∧ bk w g = some (CB cur tE) ∧ n * size ≤ cur.length ∧ cur.take (n * size) = xs ∧ ∀ (k : IntKind) (M : Value → Prop), pu P (oIdxA tB v (.int k i)) M = M (pt g (i * size)) := by
  obtain ⟨b, cap, cur, rfl, h3, h4, h5, h6, h7, h8⟩ := own_row h (by omega)
  refine ⟨b, cur, rfl, h4, h6, by rw [h7]; exact Nat.mul_le_mul_right _ h3, h8, fun k M => ?_⟩
  rw [oIdxA_sl (size := size) M h2 hs (by omega) (by omega), Int.toNat_natCast, Nat.zero_add]
theorem own_set {tE : TypeId} {size : Nat} {B : Nat} {v : Value} {n : Nat} {xs : List Value} (h : w.ownsRow B tE size v n xs) {g : Nat} {cur cur' : List Value} (hg : v.ownBlock = some g) (hb : bk w g = some (CB cur tE)) (hl : cur'.length = cur.length) (o : Obj) (ho : o = CB cur' tE) :
    (setb w g o).ownsRow B tE size v n (cur'.take (n * size)) := by
  subst ho
  rcases h.2 with ⟨rfl, rfl⟩ | ⟨g', cap, c0, rfl, h3, h4, h5, h6, h7, h8⟩
  · cases hg
  · have e : g' = g := Option.some.inj hg
    subst e
    have hb2 : bk w g' = some (.cells c0 tE (0, 0)) := h4
    rw [hb] at hb2
    injection hb2 with hb2
    injection hb2 with hb2
    subst hb2
    have h9 : n * size ≤ cap * size := Nat.mul_le_mul_right _ h5
    simp only [List.size_toArray] at h7
    refine ⟨by rw [List.length_take, hl, h7]; omega, .inr ⟨g', cap, cur'.toArray, rfl, h3, ?_, h5, h6, by simp [hl, h7], rfl⟩⟩
    exact bk_setb_eq _ _ _ _ rfl (bk_lt hb)
end
section
variable {α : Type} {emb : α → Value} {P : Program} {w w' : World}
def VS (emb : α → Value) (w : World) (v : Value) (l : List α) : Prop :=
  (l = [] ∧ ∃ a cap, v = .slice a 0 cap) ∨ ∃ b o cap, v = sl b o l.length cap ∧ l.length ≤ cap ∧ rowOf (bk w b) o l.length = some (l.map emb) ∧ b < w.heap.size
theorem VS.kp {v : Value} {l : List α} {S : Nat → Prop} (h : VS emb w v l) (k : Kp w w' S) (hS : ∀ b, v.ownBlock = some b → ¬ S b) : VS emb w' v l := by
  rcases h with h | ⟨b, o, cap, rfl, h2, h3, h4⟩
  · exact .inl h
  · exact .inr ⟨b, o, cap, rfl, h2, by rw [k.block b h4 (hS b rfl)]; exact h3, Nat.lt_of_lt_of_le h4 k.size⟩
theorem VS.old {v : Value} {l : List α} (h : VS emb w v l) (k : Below w.heap.size w w') : VS emb w' v l := by
  rcases h with h | ⟨b, o, cap, rfl, h2, h3, h4⟩
  · exact .inl h
  · exact .inr ⟨b, o, cap, rfl, h2, by rw [bel_bk k h4]; exact h3, Nat.lt_of_lt_of_le h4 k.size⟩
theorem VS.slice {v : Value} {l : List α} (h : VS emb w v l) : ∃ a cap, v = .slice a l.length cap := by
  rcases h with ⟨rfl, a, cap, h⟩ | ⟨b, o, cap, h1, _⟩
  · exact ⟨a, cap, h⟩
  · exact ⟨_, cap, h1⟩
theorem VS.row {v : Value} {l : List α} (h : VS emb w v l) : RowS w v l.length (l.map emb) := by
  rcases h with ⟨rfl, a, cap, h⟩ | ⟨b, o, cap, rfl, h2, h3, h4⟩
  · exact .inr ⟨rfl, rfl, a, cap, h⟩
  · exact .inl ⟨b, o, cap, rfl, by rw [List.length_map]; exact h3⟩
theorem VS.own {B : Nat} {e : TypeId} {v : Value} {l : List α} (h : w.ownsRow B e 1 v l.length (l.map emb)) : VS emb w v l := by
  by_cases h0 : l.length = 0
  · obtain ⟨a, cap, rfl⟩ := own_slice h
    exact .inl ⟨List.length_eq_zero_iff.1 h0, a, cap, by rw [h0]⟩
  · obtain ⟨b, cap, cur, rfl, h1, h2, h3, h4, h5, h6⟩ := own_row h h0
    refine .inr ⟨b, 0, cap, rfl, h1, ?_, h3⟩
    rw [h4]
    simp only [rowOf]
    rw [Nat.mul_one] at h5 h6
    rw [if_pos (by simp only [List.size_toArray]; omega)]
    simpa using h6
theorem VS.lo {tB tE : TypeId} (h2 : P.underlying tB = some (.slice tE)) (hs : (P.info? tE).map (·.size) = some 1) {v : Value} {l : List α} (h : VS emb w v l) {p : Nat} (hp : p ≤ l.length) :
    ∃ v', VS emb w v' (l.drop p) ∧ (∀ b, v'.ownBlock = some b → v.ownBlock = some b) ∧ ∀ (k : IntKind) (L : Value → Prop), pu P (oSlice tB v (some (.int k p)) none none) L = L v' := by
  rcases h with ⟨rfl, a, cap, rfl⟩ | ⟨b, o, cap, rfl, h3, h4, h5⟩
  · have hp0 : p = 0 := by simpa using hp
    subst hp0
    have hx : rp P (sizeOf tE) = some 1 := rp_size hs
    cases a with
    | none =>
      refine ⟨.slice none 0 cap, .inl ⟨rfl, _, _, rfl⟩, fun b hb => hb, fun k L => ?_⟩
      exact pu_v' (by
        simp only [Instr.sliceAt, Instr.slice, Instr.sliceBounds]
        simp [rp_bind, rp_map, rp_underlying h2, rp_sliceBound k 0 0 _ (by omega) (by omega), hx])
    | some ad =>
      refine ⟨.slice (some ad) 0 cap, .inl ⟨rfl, _, _, rfl⟩, fun b hb => hb, fun k L => ?_⟩
      exact pu_v' (by
        simp only [Instr.sliceAt, Instr.slice, Instr.sliceBounds]
        simp [rp_bind, rp_map, rp_underlying h2, rp_sliceBound k 0 0 _ (by omega) (by omega), hx]
        intro h
        simp [Addr.add])
  · refine ⟨sl b (if cap = p then o else o + p * 1) (l.length - p) (cap - p), ?_, fun b hb => hb, fun k L => ?_⟩
    · by_cases e : l.length - p = 0
      · exact .inl ⟨List.drop_eq_nil_of_le (by omega), some ⟨b, if cap = p then o else o + p * 1, none⟩, cap - p, by rw [e]⟩
      · refine .inr ⟨b, _, _, by rw [List.length_drop], by rw [List.length_drop]; omega, ?_, h5⟩
        rw [if_neg (by omega), Nat.mul_one]
        obtain ⟨c', t', fz, e1, e2, e3⟩ := rowOf_inv h4
        rw [e1]
        simp only [rowOf, List.length_drop]
        rw [if_pos (by omega)]
        congr 1
        rw [List.map_drop, ← e3]
        apply List.ext_getElem?
        intro i
        by_cases hi : i < l.length - p
        · rw [List.getElem?_take_of_lt hi, List.getElem?_drop, List.getElem?_drop, List.getElem?_take_of_lt (by omega), List.getElem?_drop]
          congr 1; omega
        · rw [List.getElem?_eq_none (by simp; omega), List.getElem?_eq_none (by simp; omega)]
    · rw [oSlice_lo (size := 1) L h2 hs (by omega) (by omega) (by omega), Int.toNat_natCast]
theorem VS.hi {tB tE : TypeId} (h2 : P.underlying tB = some (.slice tE)) (hs : (P.info? tE).map (·.size) = some 1) {v : Value} {l : List α} (h : VS emb w v l) {q : Nat} (hq : q ≤ l.length) :
    ∃ v', VS emb w v' (l.take q) ∧ (∀ b, v'.ownBlock = some b → v.ownBlock = some b) ∧ ∀ (j : IntKind) (L : Value → Prop), pu P (oSlice tB v none (some (.int j q)) none) L = L v' := by
  rcases h with ⟨rfl, a, cap, rfl⟩ | ⟨b, o, cap, rfl, h3, h4, h5⟩
  · have hq0 : q = 0 := by simpa using hq
    subst hq0
    have hx : rp P (sizeOf tE) = some 1 := rp_size hs
    refine ⟨.slice a 0 cap, .inl ⟨rfl, _, _, rfl⟩, fun b hb => hb, fun j L => ?_⟩
    cases a with
    | none =>
      exact pu_v' (by
        simp only [Instr.sliceAt, Instr.slice, Instr.sliceBounds]
        simp [rp_bind, rp_map, rp_underlying h2, rp_sliceBound j 0 cap _ (by omega) (by omega), hx])
    | some ad =>
      exact pu_v' (by
        simp only [Instr.sliceAt, Instr.slice, Instr.sliceBounds]
        simp [rp_bind, rp_map, rp_underlying h2, rp_sliceBound j 0 cap _ (by omega) (by omega), hx]
        intro h
        simp [Addr.add])
  · refine ⟨sl b o q cap, ?_, fun b hb => hb, fun j L => ?_⟩
    · by_cases e : q = 0
      · subst e
        exact .inl ⟨by simp, some ⟨b, o, none⟩, cap, rfl⟩
      · have el : (l.take q).length = q := by simp; omega
        refine .inr ⟨b, o, cap, by rw [el], by rw [el]; omega, ?_, h5⟩
        obtain ⟨c', t', fz, e1, e2, e3⟩ := rowOf_inv h4
        rw [e1]
        simp only [rowOf, el]
        rw [if_pos (by omega)]
        congr 1
        rw [List.map_take, ← e3, List.take_take, Nat.min_eq_left hq]
    · rw [oSlice_hi (size := 1) L h2 hs (by omega) (by omega), Int.toNat_natCast]
theorem VS.idx {tB tE : TypeId} (h2 : P.underlying tB = some (.slice tE)) (hs : (P.info? tE).map (·.size) = some 1) {v : Value} {l : List α} (h : VS emb w v l) {i : Nat} (hi : i < l.length) :
    ∃ b o, v.ownBlock = some b ∧ b < w.heap.size ∧ cellOf (bk w b) o = some (emb l[i]) ∧ ∀ (k : IntKind) (L : Value → Prop), pu P (oIdxA tB v (.int k i)) L = L (pt b o) := by
  rcases h with ⟨rfl, _⟩ | ⟨b, o, cap, rfl, h3, h4, h5⟩
  · simp at hi
  · refine ⟨b, o + i, rfl, h5, ?_, fun k L => ?_⟩
    · obtain ⟨c', t', fz, e1, e2, e3⟩ := rowOf_inv h4
      rw [e1]
      show c'[o + i]? = _
      have : ((c'.toList.drop o).take l.length)[i]? = (l.map emb)[i]? := by rw [e3]
      rw [List.getElem?_take_of_lt hi, List.getElem?_drop] at this
      simpa [hi] using this
    · rw [oIdxA_sl (size := 1) L h2 hs (by omega) (by omega), Int.toNat_natCast, Nat.mul_one]
end
section
variable {P : Program} {L : Value → World → Prop} {w : World}
theorem oMkRow {tB tE : TypeId} {z : Value} {bytes : Nat} (h2 : P.underlying tB = some (.slice tE)) (hi : (P.info? tE).map (fun i => (i.zero, i.size, i.bytes)) = some (some z, 1, bytes)) (hz : z.cells = #[z]) (n : Nat) (hn : bytes * n ≤ 281474976710656) (hn2 : n ≤ 281474976710656) :
    st P (oMkSlice tB (.int .i64 n) (.int .i64 n)) w L = L (sl w.heap.size 0 n n) (w.alloc (CB (List.replicate n z) tE)) := by
  have h := run_make_row' (P := P) tB tE z bytes h2 hi hz .i64 .i64 n (by omega) (by omega) w
  have e : madeCells #[z] n = (List.replicate n z).toArray := by
    apply Array.toList_inj.1
    apply List.ext_getElem
    · simp [madeCells]
    · intro i h1 h2
      simp [madeCells, Nat.mod_one]
  rw [e] at h
  exact st_eq_value (run_v' h)
end
end Go.X
end
section
set_option linter.unusedSectionVars false
namespace Go.X
open Go Go.RowKit
structure KE {κ : Type} [DecidableEq κ] (P : Program) (kt : TypeId) (emb : κ → Value) : Prop where
  d : ∃ d, P.underlying kt = some d ∧ (∀ a b, Instr.sameNow d (emb a) (emb b) = some (decide (a = b))) ∧ (∀ e n a, rp P (Instr.checkKey e (n + 1) kt (emb a)) = some ())
  bits : ∀ a, Instr.sameBits 10000 (emb a) (emb a) = true
abbrev emS (l : List UInt8) : Value := S l
abbrev emI (n : Int) : Value := .int .i64 n
section
variable {κ : Type} [DecidableEq κ]
abbrev ML (κ : Type) := List (κ × Value × Nat)
def mes (emb : κ → Value) (l : ML κ) : Array MapEntry := (l.map fun x => (⟨emb x.1, x.2.1, x.2.2⟩ : MapEntry)).toArray
def MO (emb : κ → Value) (l : ML κ) (c : Nat) : Obj := .map (mes emb l) c
def mget : ML κ → κ → Option Value
  | [], _ => none
  | x :: l, k => if x.1 = k then some x.2.1 else mget l k
def mmod : ML κ → κ → Value → ML κ
  | [], _, _ => []
  | x :: l, k, v => if x.1 = k then (x.1, v, x.2.2) :: l else x :: mmod l k v
def mdel : ML κ → κ → ML κ
  | [], _ => []
  | x :: l, k => if x.1 = k then l else x :: mdel l k
def mputL (l : ML κ) (k : κ) (v : Value) (c : Nat) : ML κ := if (mget l k).isSome then mmod l k v else l ++ [(k, v, c)]
def mputC (l : ML κ) (k : κ) (c : Nat) : Nat := if (mget l k).isSome then c else c + 1
def midx : ML κ → κ → Nat → Option (Nat × Value)
  | [], _, _ => none
  | x :: l, k, i => if x.1 = k then some (i, x.2.1) else midx l k (i + 1)
theorem midx_get : ∀ (l : ML κ) (k : κ) (i : Nat), (midx l k i).map (·.2) = mget l k
  | [], _, _ => rfl
  | x :: l, k, i => by
    simp only [midx, mget]
    by_cases h : x.1 = k
    · simp [h]
    · simp only [h, if_false]; exact midx_get l k (i + 1)
theorem midx_spec : ∀ (l : ML κ) (k : κ) (i j : Nat) (v : Value), midx l k i = some (j, v) → i ≤ j ∧ ∃ x, l[j - i]? = some x ∧ x.1 = k ∧ x.2.1 = v ∧ (∀ u, mmod l k u = l.set (j - i) (x.1, u, x.2.2)) ∧ mdel l k = l.eraseIdx (j - i)
  | [], _, _, _, _, h => by cases h
  | x :: l, k, i, j, v, h => by
    simp only [midx] at h
    by_cases hx : x.1 = k
    · rw [if_pos hx] at h
      injection h with h; injection h with h1 h2
      subst h1
      refine ⟨Nat.le_refl _, x, ?_, hx, h2, fun u => ?_, ?_⟩
      · simp
      · simp [mmod, hx]
      · simp [mdel, hx]
    · rw [if_neg hx] at h
      obtain ⟨h1, y, h2, h3, h4, h5, h6⟩ := midx_spec l k (i + 1) j v h
      have e : j - i = (j - (i + 1)) + 1 := by omega
      refine ⟨by omega, y, by rw [e]; simpa using h2, h3, h4, fun u => ?_, ?_⟩
      · simp only [mmod, hx, if_false, e, List.set_cons_succ, h5]
      · simp only [mdel, hx, if_false, e, List.eraseIdx_cons_succ, h6]
variable {P : Program} {emb : κ → Value}
theorem findNow_eq {d : TypeDesc} (hd : ∀ a b, Instr.sameNow d (emb a) (emb b) = some (decide (a = b))) (k : κ) : ∀ (l : ML κ) (i : Nat), Instr.findNow d (emb k) (mes emb l).toList i = some (midx l k i)
  | [], i => rfl
  | x :: l, i => by
    have ih := findNow_eq hd k l (i + 1)
    simp only [mes, List.map_cons, Instr.findNow, hd] at ih ⊢
    by_cases h : x.1 = k
    · simp [midx, h]
    · have h' : ¬ k = x.1 := fun e => h e.symm
      simp only [h', decide_false, midx, h, if_false]
      exact ih
theorem rp_findKey {kt : TypeId} (hk : KE P kt emb) (k : κ) (l : ML κ) : rp P (Instr.findKey kt (emb k) (mes emb l).toList) = some (midx l k 0) := by
  obtain ⟨d, h1, h2, _⟩ := hk.d
  unfold Instr.findKey
  rw [rp_bind, rp_underlying h1]
  simp only [Option.bind_some, findNow_eq h2, rp_pure]
theorem rp_check {kt : TypeId} (hk : KE P kt emb) (e : Bool) (k : κ) : rp P (Instr.checkKey e 10000 kt (emb k)) = some () := by
  obtain ⟨d, _, _, h⟩ := hk.d
  exact h e 9999 k
theorem run_rp {α : Type} {s : Sem α} {a : α} {w : World} (h : rp P s = some a) : s.run P w = .ok a w := by
  induction s with
  | pure b => simp [rp] at h; subst h; rfl
  | program k ih => exact ih P h
  | mark _ k ih => exact ih h
  | _ => simp [rp] at h
theorem lookup_run {w : World} {t kt et : TypeId} {b : Nat} {l : ML κ} {c : Nat} {z : Value} (ht : P.underlying t = some (.map kt et)) (hk : KE P kt emb) (hz : rp P (zeroValue et) = some z) (hb : bk w b = some (MO emb l c)) (k : κ) (ok : Bool) :
    (Instr.lookup t (.map (some b)) (emb k) ok).run P w = .ok (if ok then .tuple #[(mget l k).getD z, .bool (mget l k).isSome] else (mget l k).getD z) w := by
  have hg : (getObj b).run P w = .ok (.map (mes emb l) c) w := MapKept.run_getObj_map hb
  have e := midx_get l k 0
  unfold Instr.lookup
  simp only [Sem.run_bind, run_underlying ht w, Result.andThen_ok, hg, Sem.run_pure, run_rp (rp_check hk _ k), run_rp (rp_findKey hk k l)]
  cases h : midx l k 0 with
  | none =>
    rw [h] at e
    simp only [Option.map_none] at e
    simp only [← e, Sem.run_bind, run_rp hz, Result.andThen_ok, Sem.run_pure, Option.getD_none, Option.isSome_none]
  | some q =>
    rw [h] at e
    simp only [Option.map_some] at e
    simp only [← e, Sem.run_bind, Result.andThen_ok, Sem.run_pure, Option.getD_some, Option.isSome_some]
theorem modify_set {α : Type} (l : List α) (i : Nat) (f : α → α) {x : α} (h : l[i]? = some x) : (l.toArray.modify i f) = (l.set i (f x)).toArray := by
  apply Array.ext_getElem?
  intro j
  rw [Array.getElem?_modify]
  by_cases e : i = j
  · subst e
    obtain ⟨hl, hx⟩ := List.getElem?_eq_some_iff.1 h
    simp [hl, hx]
  · rw [if_neg e]; simp [e]
theorem mapUp_run {w : World} {t kt et : TypeId} {b : Nat} {l : ML κ} {c : Nat} (ht : P.underlying t = some (.map kt et)) (hk : KE P kt emb) (hb : bk w b = some (MO emb l c)) (k : κ) (v : Value) :
    (Instr.mapUpdate t (.map (some b)) (emb k) v).run P w = .ok () (setb w b (MO emb (mputL l k v c) (mputC l k c))) := by
  have hg : (getObj b).run P w = .ok (.map (mes emb l) c) w := MapKept.run_getObj_map hb
  have hs : ∀ o, (setObj b o).run P w = .ok () (setb w b o) := fun o => MapKept.run_setObj_map o hb
  have e := midx_get l k 0
  unfold Instr.mapUpdate
  simp only [Sem.run_bind, run_underlying ht w, Result.andThen_ok, hg, Sem.run_pure, run_rp (rp_check hk _ k), run_rp (rp_findKey hk k l)]
  cases h : midx l k 0 with
  | none =>
    rw [h] at e
    simp only [Option.map_none] at e
    simp only [mputL, mputC, ← e, Option.isSome_none, Bool.false_eq_true, if_false, hs]
    congr 2
    simp [MO, mes]
  | some q =>
    obtain ⟨i, u⟩ := q
    rw [h] at e
    simp only [Option.map_some] at e
    obtain ⟨h1, x, h2, h3, h4, h5, h6⟩ := midx_spec l k 0 i u h
    rw [Nat.sub_zero] at h2 h5 h6
    have hi : (mes emb l)[i]? = some ⟨emb k, u, x.2.2⟩ := by
      have : (mes emb l)[i]? = (l[i]?).map fun x => (⟨emb x.1, x.2.1, x.2.2⟩ : MapEntry) := by simp [mes]
      rw [this, h2]; simp [h3, h4]
    have hkey : (Instr.keyThatStays (((mes emb l)[i]?.map (·.key)).getD (emb k)) (emb k)).run P w = .ok (emb k) w := by
      rw [hi]
      simp [Instr.keyThatStays, hk.bits]
    simp only [mputL, mputC, ← e, Option.isSome_some, if_true, Sem.run_bind, hkey, Result.andThen_ok, hs, h5]
    congr 2
    have hm := modify_set (l.map fun x => (⟨emb x.1, x.2.1, x.2.2⟩ : MapEntry)) i (fun e => { e with key := emb k, val := v }) (x := ⟨emb x.1, x.2.1, x.2.2⟩) (by simp [h2])
    show Obj.map ((mes emb l).modify i _) c = Obj.map _ c
    unfold mes
    rw [hm]
    simp [h3]
theorem oLookup_m1 (K : Value → World → Prop) {w : World} {t kt et : TypeId} {b : Nat} {l : ML κ} {c : Nat} {z : Value} (ht : P.underlying t = some (.map kt et)) (hk : KE P kt emb) (hz : rp P (zeroValue et) = some z) (hb : bk w b = some (MO emb l c)) (k : κ) :
    st P (oLookup t (.map (some b)) (emb k) false) w K = K ((mget l k).getD z) w :=
  st_eq_value (run_v' (by rw [lookup_run ht hk hz hb]; rfl))
theorem rdLookup_m1 (K : Value → Prop) {w : World} {t kt et : TypeId} {b : Nat} {l : ML κ} {c : Nat} {z : Value} (ht : P.underlying t = some (.map kt et)) (hk : KE P kt emb) (hz : rp P (zeroValue et) = some z) (hb : bk w b = some (MO emb l c)) (k : κ) :
    rd P (oLookup t (.map (some b)) (emb k) false) w K = K ((mget l k).getD z) :=
  rd_eq (run_v' (by rw [lookup_run ht hk hz hb]; rfl))
theorem oMapUp_m (K : Value → World → Prop) {w : World} {t kt et : TypeId} {b : Nat} {l : ML κ} {c : Nat} (ht : P.underlying t = some (.map kt et)) (hk : KE P kt emb) (hb : bk w b = some (MO emb l c)) (k : κ) (v : Value) :
    st P (oMapUp t (.map (some b)) (emb k) v) w K = K undef (setb w b (MO emb (mputL l k v c) (mputC l k c))) :=
  st_eq_skip (run_u' (mapUp_run ht hk hb k v))
theorem oMkMap_m (K : Value → World → Prop) {w : World} (t : TypeId) : st P (oMkMap t none) w K = K (.map (some w.heap.size)) (w.alloc (MO emb [] 0)) :=
  st_eq_value (run_v' (by simp [Instr.makeMap, MO, mes]))
structure MWF (l : ML κ) (c : Nat) : Prop where
  keys : (l.map (·.1)).Nodup
  born : (l.map (·.2.2)).Nodup
  lt : ∀ x ∈ l, x.2.2 < c
theorem MWF.nil (c : Nat) : MWF ([] : ML κ) c := ⟨List.nodup_nil, List.nodup_nil, fun _ h => by cases h⟩
theorem mget_none_iff : ∀ (l : ML κ) (k : κ), mget l k = none ↔ k ∉ l.map (·.1)
  | [], k => by simp [mget]
  | x :: l, k => by
    simp only [mget, List.map_cons, List.mem_cons, not_or]
    by_cases h : x.1 = k
    · simp [h]
    · rw [if_neg h, mget_none_iff l k]
      exact ⟨fun q => ⟨fun e => h e.symm, q⟩, fun q => q.2⟩
theorem mmod_keys : ∀ (l : ML κ) (k : κ) (v : Value), (mmod l k v).map (·.1) = l.map (·.1) ∧ (mmod l k v).map (·.2.2) = l.map (·.2.2)
  | [], _, _ => ⟨rfl, rfl⟩
  | x :: l, k, v => by
    simp only [mmod]
    by_cases h : x.1 = k
    · simp [h]
    · simp [h, mmod_keys l k v]
theorem mget_mmod : ∀ (l : ML κ) (k : κ) (v : Value) (q : κ), mget (mmod l k v) q = if q = k ∧ (mget l k).isSome then some v else mget l q
  | [], k, v, q => by simp [mmod, mget]
  | x :: l, k, v, q => by
    simp only [mmod, mget]
    by_cases h : x.1 = k
    · by_cases e : q = k
      · subst e; simp [h, mget]
      · have h3 : ¬ k = q := fun h2 => e h2.symm
        simp [h, mget, e, h3]
    · by_cases e : x.1 = q
      · have h3 : ¬ q = k := fun h2 => h (by rw [e, h2])
        simp [mget, e, h3]
      · simp only [h, if_false, mget, e, mget_mmod l k v q]
theorem mget_append (l : ML κ) (x : κ × Value × Nat) (q : κ) : mget (l ++ [x]) q = (mget l q).or (if x.1 = q then some x.2.1 else none) := by
  induction l with
  | nil => simp [mget]
  | cons y l ih =>
    simp only [List.cons_append, mget]
    by_cases e : y.1 = q
    · simp [e]
    · simp only [e, if_false, ih]
theorem mget_mputL (l : ML κ) (k : κ) (v : Value) (c : Nat) (q : κ) : mget (mputL l k v c) q = if q = k then some v else mget l q := by
  unfold mputL
  cases h : mget l k with
  | none =>
    simp only [Option.isSome_none, Bool.false_eq_true, if_false, mget_append]
    by_cases e : q = k
    · subst e; simp [h]
    · have : ¬ k = q := fun h2 => e h2.symm
      simp [e, this]
  | some u =>
    simp only [Option.isSome_some, if_true, mget_mmod, h, and_true]
theorem MWF.put {l : ML κ} {c : Nat} (h : MWF l c) (k : κ) (v : Value) : MWF (mputL l k v c) (mputC l k c) := by
  unfold mputL mputC
  cases hk : mget l k with
  | none =>
    simp only [Option.isSome_none, Bool.false_eq_true, if_false]
    have hn := (mget_none_iff l k).1 hk
    refine ⟨?_, ?_, fun x hx => ?_⟩
    · rw [List.map_append, List.nodup_append]
      refine ⟨h.keys, by simp, fun a ha b hb => ?_⟩
      simp at hb
      subst hb
      exact fun e => hn (e ▸ ha)
    · rw [List.map_append, List.nodup_append]
      refine ⟨h.born, by simp, fun a ha b hb => ?_⟩
      simp at hb
      obtain ⟨x, hx, rfl⟩ := List.mem_map.1 ha
      have := h.lt x hx
      omega
    · rcases List.mem_append.1 hx with hx | hx
      · have := h.lt x hx; omega
      · simp at hx; subst hx; exact Nat.lt_succ_self _
  | some u =>
    simp only [Option.isSome_some, if_true]
    refine ⟨by rw [(mmod_keys l k v).1]; exact h.keys, by rw [(mmod_keys l k v).2]; exact h.born, fun x hx => ?_⟩
    have : x.2.2 ∈ (mmod l k v).map (·.2.2) := List.mem_map.2 ⟨x, hx, rfl⟩
    rw [(mmod_keys l k v).2] at this
    obtain ⟨y, hy, e⟩ := List.mem_map.1 this
    rw [← e]; exact h.lt y hy
end
theorem KE_int {P : Program} {kt : TypeId} (h : P.underlying kt = some (.int .i64)) : KE P kt emI := by
  refine ⟨⟨_, h, fun a b => ?_, fun e n a => ?_⟩, fun a => ?_⟩
  · simp only [emI, Instr.sameNow, if_true, Option.some.injEq]
    by_cases e : a = b <;> simp [e]
  · unfold Instr.checkKey
    simp only [rp_bind, rp_underlying h, Option.bind_some]
    rfl
  · simp [emI, Instr.sameBits]
section
def mlS (o : Option Obj) : Option (ML (List UInt8) × Nat) :=
  match o with
  | some (.map es c) => (es.toList.mapM fun (e : MapEntry) => match e.key with | .string s => some (s.data.toList, e.val, e.born) | _ => none).map (·, c)
  | _ => none
def mlI (o : Option Obj) : Option (ML Int × Nat) :=
  match o with
  | some (.map es c) => (es.toList.mapM fun (e : MapEntry) => match e.key with | .int .i64 n => some (n, e.val, e.born) | _ => none).map (·, c)
  | _ => none
theorem mapM_some {α β : Type} (f : α → Option β) (g : β → α) (h : ∀ b, f (g b) = some b) : ∀ l : List β, (l.map g).mapM f = some l
  | [] => rfl
  | b :: l => by simp [List.mapM_cons, h, mapM_some f g h l]
@[go_sem] theorem mlS_MO (l : ML (List UInt8)) (c : Nat) : mlS (some (MO emS l c)) = some (l, c) := by
  simp only [mlS, MO, mes]
  rw [mapM_some _ (fun x : List UInt8 × Value × Nat => (⟨emS x.1, x.2.1, x.2.2⟩ : MapEntry)) (fun b => by simp [emS, S])]
  rfl
@[go_sem] theorem mlI_MO (l : ML Int) (c : Nat) : mlI (some (MO emI l c)) = some (l, c) := by
  simp only [mlI, MO, mes]
  rw [mapM_some _ (fun x : Int × Value × Nat => (⟨emI x.1, x.2.1, x.2.2⟩ : MapEntry)) (fun b => by simp [emI])]
  rfl
theorem mlI_inv {o : Option Obj} {l : ML Int} {c : Nat} (h : mlI o = some (l, c)) : o = some (MO emI l c) := by
  unfold mlI at h
  split at h
  · rename_i es c'
    rw [Option.map_eq_some_iff] at h
    obtain ⟨l', h1, h2⟩ := h
    injection h2 with h2 h3
    subst h2 h3
    have : ∀ (es : List MapEntry) (l' : ML Int), es.mapM (fun (e : MapEntry) => match e.key with | .int .i64 n => some (n, e.val, e.born) | _ => none) = some l' → es = l'.map fun x => (⟨emI x.1, x.2.1, x.2.2⟩ : MapEntry) := by
      intro es
      induction es with
      | nil => intro l' h; simp at h; subst h; rfl
      | cons e es ih =>
        intro l' h
        rw [List.mapM_cons] at h
        simp only [Option.bind_eq_bind, Option.bind_eq_some_iff, Option.pure_def, Option.some.injEq] at h
        obtain ⟨x, hx, r, hr, rfl⟩ := h
        rw [ih r hr]
        split at hx
        · rename_i s hs
          injection hx with hx
          subst hx
          cases e
          simp at hs
          subst hs
          simp
        · cases hx
    have e := this _ _ h1
    simp only [MO, mes]
    rw [← e]
  · cases h
variable {P : Program} (w : World)
theorem luI1 {t kt et : TypeId} {z : Value} (ht : P.underlying t = some (.map kt et)) (hk : P.underlying kt = some (.int .i64)) (hz : rp P (zeroValue et) = some z) (K : Value → World → Prop) (b : Nat) (k : Int) :
    st P (oLookup t (.map (some b)) (.int .i64 k) false) w K = optE (mlI (bk w b)) (fun q => K ((mget q.1 k).getD z) w) (farK P (oLookup t (.map (some b)) (.int .i64 k) false) w K) := by
  cases h : mlI (bk w b) with
  | none => rfl
  | some q => exact oLookup_m1 K ht (KE_int hk) hz (mlI_inv h) k
theorem luI1_rd {t kt et : TypeId} {z : Value} (ht : P.underlying t = some (.map kt et)) (hk : P.underlying kt = some (.int .i64)) (hz : rp P (zeroValue et) = some z) (K : Value → Prop) (b : Nat) (k : Int) :
    rd P (oLookup t (.map (some b)) (.int .i64 k) false) w K = optE (mlI (bk w b)) (fun q => K ((mget q.1 k).getD z)) (farR P (oLookup t (.map (some b)) (.int .i64 k) false) w K) := by
  cases h : mlI (bk w b) with
  | none => rfl
  | some q => exact rdLookup_m1 K ht (KE_int hk) hz (mlI_inv h) k
theorem upI {t kt et : TypeId} (ht : P.underlying t = some (.map kt et)) (hk : P.underlying kt = some (.int .i64)) (K : Value → World → Prop) (b : Nat) (k : Int) (v : Value) :
    st P (oMapUp t (.map (some b)) (.int .i64 k) v) w K = optE (mlI (bk w b)) (fun q => K undef (setb w b (MO emI (mputL q.1 k v q.2) (mputC q.1 k q.2)))) (farK P (oMapUp t (.map (some b)) (.int .i64 k) v) w K) := by
  cases h : mlI (bk w b) with
  | none => rfl
  | some q => exact oMapUp_m K ht (KE_int hk) (mlI_inv h) k v
theorem mkI (t : TypeId) (K : Value → World → Prop) : st P (oMkMap t none) w K = K (.map (some w.heap.size)) (w.alloc (MO emI [] 0)) := oMkMap_m K t
end
end Go.X
end
section
namespace Go.X
open Go Go.RowKit Go.Lib
def rest (l : List UInt8) (i : Nat) : List (List UInt8) := if i ≤ l.length then Pa.els (l.drop i) else []
theorem rest_step {l : List UInt8} {i j : Nat} (hi : i ≤ j) (hj : j ≤ l.length) (hno : ∀ k (hk : k < l.length), i ≤ k → k < j → l[k] ≠ 47) (hend : j = l.length ∨ ∃ h : j < l.length, l[j] = 47) :
    rest l i = (l.drop i).take (j - i) :: rest l (j + 1) := by
  have e1 : l.drop i = (l.drop i).take (j - i) ++ l.drop j := by
    have h := (List.take_append_drop (j - i) (l.drop i)).symm
    rw [List.drop_drop, show i + (j - i) = j by omega] at h
    exact h
  have hnot : 47 ∉ (l.drop i).take (j - i) := by
    intro hm
    obtain ⟨k, hk, e⟩ := List.getElem_of_mem hm
    simp only [List.length_take, List.length_drop] at hk
    rw [List.getElem_take, List.getElem_drop] at e
    exact hno (i + k) (by omega) (by omega) (by omega) e
  have hh : l.drop j = [] ∨ (l.drop j).head? = some 47 := by
    rcases hend with h | ⟨h, e⟩
    · exact .inl (by rw [h]; simp)
    · right
      rw [List.head?_drop, List.getElem?_eq_getElem h, e]
  have e2 := Pa.els_elem ((l.drop i).take (j - i)) (l.drop j) hnot hh
  rw [← e1] at e2
  unfold rest
  rw [if_pos (by omega), e2]
  congr 1
  rcases hend with h | ⟨h, e⟩
  · subst h
    rw [if_neg (by omega), List.drop_length]; rfl
  · rw [if_pos (by omega), List.drop_eq_getElem_cons h]; rfl
theorem own_take {w : World} {B : Nat} {e : TypeId} {size n cap b : Nat} {xs : List Value} (h : w.ownsRow B e size (sl b 0 n cap) n xs) {m : Nat} (hm : m ≤ n) : w.ownsRow B e size (sl b 0 m cap) m (xs.take (m * size)) := by
  refine ⟨?_, ?_⟩
  · rw [List.length_take, h.1]
    have := Nat.mul_le_mul_right size hm
    omega
  · rcases h.2 with ⟨h1, _⟩ | ⟨g, cap', cur, h1, h2, h3, h4, h5, h6, h7⟩
    · cases h1
    · injection h1 with e1 e2 e3
      injection e1 with e1
      injection e1 with e1
      subst e1 e3
      refine .inr ⟨_, _, cur, rfl, h2, h3, by omega, h5, h6, ?_⟩
      rw [← h7, List.take_take, Nat.min_eq_left (Nat.mul_le_mul_right size hm)]
theorem step_mem (ro : Bool) (st : List (List UInt8)) (e : List UInt8) : ∀ x ∈ Pa.cleanStep ro st e, x ∈ st ∨ (x = e ∧ e ≠ [46]) := by
  intro x hx
  unfold Pa.cleanStep at hx
  by_cases c1 : e = [] ∨ e = [46]
  · rw [if_pos c1] at hx; exact .inl hx
  rw [if_neg c1] at hx
  have c2 : e ≠ [46] := fun h => c1 (.inr h)
  by_cases c3 : e = [46, 46]
  · rw [if_pos c3] at hx
    cases st with
    | nil =>
      cases ro with
      | true => simp at hx
      | false => simp at hx; exact .inr ⟨hx, c2⟩
    | cons y r =>
      simp only at hx
      by_cases c4 : y = [46, 46]
      · rw [if_pos c4] at hx
        rcases List.mem_cons.1 hx with h | h
        · exact .inr ⟨h, c2⟩
        · exact .inl h
      · rw [if_neg c4] at hx
        exact .inl (List.mem_cons_of_mem _ hx)
  · rw [if_neg c3] at hx
    rcases List.mem_cons.1 hx with h | h
    · exact .inr ⟨h, c2⟩
    · exact .inl h
theorem fold_mem (ro : Bool) : ∀ (es st : List (List UInt8)), ∀ x ∈ es.foldl (Pa.cleanStep ro) st, x ∈ st ∨ (x ∈ es ∧ x ≠ [46])
  | [], st, x, hx => .inl hx
  | e :: es, st, x, hx => by
    rw [List.foldl_cons] at hx
    rcases fold_mem ro es _ x hx with h | h
    · rcases step_mem ro st e x h with h | ⟨h, h2⟩
      · exact .inl h
      · subst h; exact .inr ⟨List.mem_cons_self .., h2⟩
    · exact .inr ⟨List.mem_cons_of_mem _ h.1, h.2⟩
theorem els_len : ∀ (l : List UInt8), ∀ x ∈ Pa.els l, x.length ≤ l.length
  | [], x, hx => by simp [Pa.els] at hx; subst hx; simp
  | c :: t, x, hx => by
    have ih := els_len t
    unfold Pa.els at hx
    by_cases hc : c = 47
    · rw [if_pos hc] at hx
      rcases List.mem_cons.1 hx with h | h
      · subst h; simp
      · have := ih x h; simp only [List.length_cons]; omega
    · rw [if_neg hc] at hx
      cases he : Pa.els t with
      | nil =>
        rw [he] at hx
        simp at hx; subst hx; simp
      | cons e r =>
        rw [he] at hx ih
        rcases List.mem_cons.1 hx with h | h
        · subst h
          have := ih e (List.mem_cons_self ..)
          simp only [List.length_cons]; omega
        · have := ih x (List.mem_cons_of_mem _ h)
          simp only [List.length_cons]; omega
def jf (ro : Bool) (xs : List (List UInt8)) : List UInt8 := if ro = true then xs.flatMap (47 :: ·) else [47].intercalate xs
theorem inter_cons2 (x y : List UInt8) (r : List (List UInt8)) : ([47] : List UInt8).intercalate (x :: y :: r) = x ++ 47 :: ([47] : List UInt8).intercalate (y :: r) := by
  simp [List.intercalate]
theorem flat_inter : ∀ (xs : List (List UInt8)), xs ≠ [] → xs.flatMap (47 :: ·) = 47 :: ([47] : List UInt8).intercalate xs
  | [], h => absurd rfl h
  | [x], _ => by simp [List.intercalate]
  | x :: y :: r, _ => by
    rw [List.flatMap_cons, flat_inter (y :: r) (by simp), inter_cons2]
    simp
theorem jf_snoc (ro : Bool) (xs : List (List UInt8)) (x : List UInt8) : jf ro (xs ++ [x]) = (if xs ≠ [] ∨ ro = true then jf ro xs ++ [47] else jf ro xs) ++ x := by
  cases ro with
  | true => simp [jf]
  | false =>
    by_cases h : xs = []
    · subst h; simp [jf, List.intercalate]
    · simp only [jf, Bool.false_eq_true, if_false, or_false]
      rw [Pa.inter_snoc x xs h, if_pos h]
      simp
theorem take_snoc {xs : List (List UInt8)} {i : Nat} (h : i < xs.length) : xs.take (i + 1) = xs.take i ++ [xs[i]] := by
  rw [List.take_succ_eq_append_getElem h]
def outOf (l : List UInt8) : List (List UInt8) := (Pa.els l).foldl (Pa.cleanStep (l.head? == some 47)) []
theorem out_mem (l : List UInt8) : ∀ x ∈ outOf l, x.length ≤ l.length ∧ x ≠ [46] := by
  intro x hx
  rcases fold_mem _ _ _ x hx with h | h
  · cases h
  · exact ⟨els_len l x h.1, h.2⟩
end Go.X
end
section
namespace Go.X
open Go Go.RowKit Go.Lib
def norm (l : List UInt8) : List UInt8 := if Pa.clean l = [46] ∨ Pa.clean l = [46, 46] then [47] else Pa.clean l
theorem inter_dot (xs : List (List UInt8)) (h : ∀ x ∈ xs, x ≠ [46]) : ([47] : List UInt8).intercalate xs ≠ [46] := by
  match xs, h with
  | [], _ => simp [List.intercalate]
  | [x], h => simpa [List.intercalate] using h x (by simp)
  | x :: y :: r, _ =>
    rw [inter_cons2]
    intro e
    have : (47 : UInt8) ∈ x ++ 47 :: ([47] : List UInt8).intercalate (y :: r) := by simp
    rw [e] at this
    simp at this
theorem norm_eq (l : List UInt8) : norm l = if jf (l.head? == some 47) (outOf l).reverse = [] ∨ jf (l.head? == some 47) (outOf l).reverse = [46, 46] then [47] else jf (l.head? == some 47) (outOf l).reverse := by
  unfold norm
  rw [Pa.clean_eq_cleanEls]
  by_cases hne : l = []
  · subst hne
    rfl
  · cases hro : (l.head? == some 47) with
    | true =>
      rw [Pa.cleanEls_abs l hne hro]
      have e : (Pa.els l).foldl (Pa.cleanStep true) [] = outOf l := by rw [outOf, hro]
      rw [e, if_neg (by simp)]
      simp only [jf, if_true]
      by_cases q : (outOf l).reverse = []
      · rw [q]; rfl
      · rw [flat_inter _ q, if_neg (by simp)]
    | false =>
      rw [Pa.cleanEls_rel l hne hro]
      have e : (Pa.els l).foldl (Pa.cleanStep false) [] = outOf l := by rw [outOf, hro]
      rw [e]
      simp only [jf, Bool.false_eq_true, if_false]
      have hd := inter_dot (outOf l).reverse (fun x hx => (out_mem l x (List.mem_reverse.1 hx)).2)
      generalize ([47] : List UInt8).intercalate (outOf l).reverse = z at hd ⊢
      by_cases q : z = []
      · subst q; rfl
      · rw [if_neg q]
        simp [q, hd]
theorem norm_len (l : List UInt8) : (norm l).length ≤ l.length + 1 := by
  unfold norm
  split
  · simp
  · exact Pa.clean_length_le_succ l
end Go.X
end
section
namespace Go.X
open Go
abbrev Str := List UInt8
def andI (x y : Int) : Int := (BitVec.ofInt 64 x &&& BitVec.ofInt 64 y).toInt
def orI (x y : Int) : Int := (BitVec.ofInt 64 x ||| BitVec.ofInt 64 y).toInt
def andNotI (x y : Int) : Int := (BitVec.ofInt 64 x &&& ~~~ BitVec.ofInt 64 y).toInt
theorem wrap_bvI (x : BitVec 64) : IntKind.i64.wrap (x.toNat : Int) = x.toInt := by
  rw [BitVec.toInt_eq_toNat_cond]
  have := x.isLt
  simp only [IntKind.wrap]
  simp [IntKind.bits, IntKind.signed]
  split <;> omega
section
variable {P : Program} (K : Value → Prop)
@[go_sem high] theorem oandI (t : TypeId) (cx cy : Bool) (x y : Int) : pu P (oBin .and t cx cy (.int .i64 x) (.int .i64 y)) K = K (.int .i64 (andI x y)) :=
  bin_int K (by
    simp only [binOp, Op.intBits]
    rw [if_neg (by simp), rp_pure]
    exact congrArg (fun z => some (Value.int .i64 z)) (wrap_bvI _))
@[go_sem high] theorem oorI (t : TypeId) (cx cy : Bool) (x y : Int) : pu P (oBin .or t cx cy (.int .i64 x) (.int .i64 y)) K = K (.int .i64 (orI x y)) :=
  bin_int K (by
    simp only [binOp, Op.intBits]
    rw [if_neg (by simp), rp_pure]
    exact congrArg (fun z => some (Value.int .i64 z)) (wrap_bvI _))
@[go_sem high] theorem oandNotI (t : TypeId) (cx cy : Bool) (x y : Int) : pu P (oBin .andNot t cx cy (.int .i64 x) (.int .i64 y)) K = K (.int .i64 (andNotI x y)) :=
  bin_int K (by
    simp only [binOp, Op.intBits]
    rw [if_neg (by simp), rp_pure]
    exact congrArg (fun z => some (Value.int .i64 z)) (wrap_bvI _))
end
namespace SM
structure Node where
  dir : Bool
  mode : Int
  data : Str
  time : Int
  name : Str
  deriving DecidableEq
structure Hnd where
  node : Nat
  pos : Int
  listed : Int
  cl : Bool
  ro : Bool
  deriving DecidableEq
structure Info where
  name : Str
  size : Int
  mode : Int
  dir : Bool
  time : Int
  deriving DecidableEq
structure Ans where
  e : Int
  n : Int
  off : Int
  data : Str
  names : List Str
  infos : List Info
  deriving DecidableEq
abbrev Ans.z : Ans := ⟨0, 0, 0, [], [], []⟩
abbrev Ans.err (e : Int) : Ans := ⟨e, 0, 0, [], [], []⟩
structure Stp where
  op : Int
  name : Str
  other : Str
  flag : Int
  perm : Int
  h : Int
  data : Str
  off : Int
  wh : Int
  n : Int
  deriving DecidableEq
abbrev HM := List (Int × Hnd)
def hget : HM → Int → Option Hnd
  | [], _ => none
  | x :: l, k => if x.1 = k then some x.2 else hget l k
def hput : HM → Int → Hnd → HM
  | [], k, h => [(k, h)]
  | x :: l, k, h => if x.1 = k then (k, h) :: l else x :: hput l k h
theorem hget_hput (l : HM) (k : Int) (h : Hnd) (j : Int) : hget (hput l k h) j = if j = k then some h else hget l j := by
  induction l with
  | nil =>
    simp only [hput, hget]
    by_cases e : k = j
    · rw [if_pos e, if_pos e.symm]
    · rw [if_neg e, if_neg (fun q => e q.symm)]
  | cons x l ih =>
    simp only [hput]
    by_cases e : x.1 = k
    · rw [if_pos e]
      simp only [hget]
      by_cases e2 : k = j
      · rw [if_pos e2, if_pos e2.symm]
      · rw [if_neg e2, if_neg (fun q => e2 q.symm), if_neg (fun q => e2 (by rw [← e, q]))]
    · rw [if_neg e]
      simp only [hget, ih]
      by_cases e2 : x.1 = j
      · rw [if_pos e2, if_pos e2, if_neg (fun q => e (by rw [e2, q]))]
      · rw [if_neg e2, if_neg e2]
structure Mem where
  names : List Str
  ats : List Nat
  nodes : List Node
  hs : HM
def placeG (l : List Str) (n : Str) (i : Nat) : Nat × Bool :=
  match l with
  | [] => (i, false)
  | x :: l => if Op.bytesLess x n = true then placeG l n (i + 1) else (i, decide (x = n))
def place (l : List Str) (n : Str) : Nat × Bool := placeG l n 0
def Mem.find (m : Mem) (n : Str) : Option Nat := if (place m.names n).2 then some (m.ats.getD (place m.names n).1 0) else none
def Mem.put (m : Mem) (n : Str) (x : Nat) : Mem :=
  let p := place m.names n
  if p.2 then { m with ats := m.ats.set p.1 x }
  else { m with names := m.names.take p.1 ++ n :: m.names.drop p.1, ats := m.ats.take p.1 ++ x :: m.ats.drop p.1 }
def Mem.drop (m : Mem) (n : Str) : Mem :=
  let p := place m.names n
  if p.2 then { m with names := m.names.take p.1 ++ m.names.drop (p.1 + 1), ats := m.ats.take p.1 ++ m.ats.drop (p.1 + 1) } else m
def Mem.add (m : Mem) (n : Str) (x : Node) : Mem := Mem.put { m with nodes := m.nodes ++ [{ x with name := n }] } n m.nodes.length
def ls (l : Str) : Nat → Option Nat
  | 0 => none
  | i + 1 => if l.getD i 0 = 47 then some i else ls l i
def lastSlash (l : Str) : Option Nat := ls l l.length
def parent (l : Str) : Str := match lastSlash l with | some 0 => [47] | some i => l.take i | none => [47]
def base (l : Str) : Str := match lastSlash l with | some i => l.drop (i + 1) | none => l
def below (n d : Str) : Bool := if d = [47] then decide (n ≠ [47]) else decide (d.length < n.length) && decide (n.take d.length = d) && decide (n.getD d.length 0 = 47)
def Mem.children (m : Mem) (d : Str) : List Str := m.names.filter fun n => decide (n ≠ [47]) && decide (parent n = d)
theorem ls_lt {l : Str} : ∀ {i j : Nat}, ls l i = some j → j < i
  | 0, _, h => by cases h
  | i + 1, j, h => by
    simp only [ls] at h
    by_cases e : l.getD i 0 = 47
    · rw [if_pos e] at h; injection h with h; omega
    · rw [if_neg e] at h; have := ls_lt h; omega
theorem lastSlash_lt {l : Str} {i : Nat} (h : lastSlash l = some i) : i < l.length := ls_lt h
theorem parent_lt (l : Str) : (parent l).length < l.length ∨ parent l = [47] := by
  unfold parent
  split
  · exact .inr rfl
  · rename_i i hi
    have := lastSlash_lt hi
    left; simp; omega
  · exact .inr rfl
theorem parent_len (l : Str) : (parent l).length ≤ l.length + 1 := by
  rcases parent_lt l with h | h
  · omega
  · rw [h]; simp
def Mem.parentsF (m : Mem) (n : Str) (perm : Int) : Nat → Mem
  | 0 => m
  | f + 1 =>
    match m.find (parent n) with
    | some _ => m
    | none => (m.parentsF (parent n) perm f).add (parent n) ⟨true, orI 2147483648 perm, [], 0, []⟩
def Mem.parents (m : Mem) (n : Str) (perm : Int) : Mem := m.parentsF n perm (n.length + 2)
theorem put_lens (m : Mem) (n : Str) (x : Nat) : (m.put n x).names.length ≤ m.names.length + 1 ∧ (m.put n x).nodes = m.nodes ∧ (m.ats.length = m.names.length → (m.put n x).ats.length = (m.put n x).names.length) := by
  unfold Mem.put
  simp only
  split
  · exact ⟨Nat.le_succ _, rfl, fun h => by simpa using h⟩
  · refine ⟨?_, rfl, fun h => ?_⟩
    · simp; omega
    · simp; omega
theorem add_lens (m : Mem) (n : Str) (x : Node) : (m.add n x).names.length ≤ m.names.length + 1 ∧ (m.add n x).nodes.length = m.nodes.length + 1 ∧ (m.ats.length = m.names.length → (m.add n x).ats.length = (m.add n x).names.length) := by
  obtain ⟨h1, h2, h3⟩ := put_lens { m with nodes := m.nodes ++ [{ x with name := n }] } n m.nodes.length
  exact ⟨h1, by unfold Mem.add; rw [h2]; simp, h3⟩
theorem parentsF_lens (m : Mem) (perm : Int) : ∀ (f : Nat) (l : Str), (m.parentsF l perm f).names.length ≤ m.names.length + f ∧ (m.parentsF l perm f).nodes.length ≤ m.nodes.length + f ∧ (m.ats.length = m.names.length → (m.parentsF l perm f).ats.length = (m.parentsF l perm f).names.length)
  | 0, l => ⟨Nat.le_refl _, Nat.le_refl _, id⟩
  | f + 1, l => by
    simp only [Mem.parentsF]
    split
    · exact ⟨by omega, by omega, id⟩
    · obtain ⟨h1, h2, h3⟩ := parentsF_lens m perm f (parent l)
      obtain ⟨k1, k2, k3⟩ := add_lens (m.parentsF (parent l) perm f) (parent l) ⟨true, orI 2147483648 perm, [], 0, []⟩
      exact ⟨by omega, by omega, fun h => k3 (h3 h)⟩
def Mem.info (m : Mem) (x : Nat) : Info :=
  let n := m.nodes.getD x ⟨false, 0, [], 0, []⟩
  ⟨base n.name, if n.dir then 42 else n.data.length, n.mode, n.dir, n.time⟩
def chmodBits : Int := 13631999
def Mem.node (m : Mem) (x : Nat) : Node := m.nodes.getD x ⟨false, 0, [], 0, []⟩
def Mem.setNode (m : Mem) (x : Nat) (n : Node) : Mem := { m with nodes := m.nodes.set x n }
def Mem.setH (m : Mem) (k : Int) (h : Hnd) : Mem := { m with hs := hput m.hs k h }
def has (a b : Int) : Bool := decide (andI a b ≠ 0)
def Mem.openS (m : Mem) (i : Int) (s : Stp) : Mem × Ans :=
  let name := norm s.name
  let f := m.find name
  if s.op = 0 then
    let m1 := (m.parents name 0).add name ⟨false, 268435456, [], 0, []⟩
    (m1.setH i ⟨(m.parents name 0).nodes.length, 0, 0, false, false⟩, Ans.z)
  else if s.op = 1 then
    match f with
    | none => (m, Ans.err 1)
    | some x => (m.setH i ⟨x, 0, 0, false, true⟩, Ans.z)
  else
    if f.isSome && has s.flag 128 then (m, Ans.err 2)
    else if f.isNone && !has s.flag 64 then (m, Ans.err 1)
    else
      let m1 := if f.isNone then (m.parents name 0).add name ⟨false, andI s.perm chmodBits, [], 0, []⟩ else m
      let x := match f with | some x => x | none => (m.parents name 0).nodes.length
      let at_ : Int := if has s.flag 1024 then (m1.node x).data.length else 0
      let m2 := if has s.flag 512 && has s.flag 3 then m1.setNode x { m1.node x with data := [], time := 0 } else m1
      (m2.setH i ⟨x, at_, 0, false, decide (s.flag = 0)⟩, Ans.z)
def Mem.dropAll (m : Mem) (ns : List Str) : Mem := ns.foldl (fun m n => m.drop n) m
def Mem.moved (m : Mem) (src dst : Str) (n : Str) : Mem :=
  let x := (m.find n).getD 0
  let m1 := (m.drop n).put (dst ++ n.drop src.length) x
  m1.setNode x { m1.node x with name := dst ++ n.drop src.length }
def Mem.renameS (m : Mem) (src dst : Str) : Mem × Ans :=
  if src = dst then (m, Ans.z)
  else if (m.find src).isNone then (m, Ans.err 1)
  else
    let m1 := m.parents dst 0
    ((m1.names.filter fun n => decide (n = src) || below n src).foldl (fun m n => m.moved src dst n) m1, Ans.z)
def Mem.namesS (m : Mem) (s : Stp) : Mem × Ans :=
  let name := norm s.name
  if s.op = 9 ∧ name ≠ s.name then (m, Ans.err 1)
  else
    let f := m.find name
    if s.op = 3 ∨ s.op = 4 then
      if f.isSome && decide (s.op = 3) then (m, Ans.err 2)
      else if f.isNone then ((m.parents name (andI s.perm chmodBits)).add name ⟨true, orI 2147483648 (andI s.perm chmodBits), [], 0, []⟩, Ans.z)
      else (m, Ans.z)
    else if s.op = 6 then (m.dropAll (m.names.filter fun n => decide (n = name) || below n name), Ans.z)
    else if s.op = 7 then m.renameS name (norm s.other)
    else
      match f with
      | none => (m, Ans.err 1)
      | some x =>
        if s.op = 5 then (m.drop name, Ans.z)
        else if s.op = 8 then (m, { Ans.z with infos := [m.info x] })
        else if s.op = 9 then (m.setNode x { m.node x with mode := orI (andNotI (m.node x).mode chmodBits) (andI s.perm chmodBits) }, Ans.z)
        else if s.op = 11 then (m.setNode x { m.node x with time := s.off }, Ans.z)
        else (m, Ans.z)
def readFrom (data : Str) (pos : Int) (n : Int) : Str × Int :=
  if pos < 0 then ([], 13)
  else if 0 < max n 0 ∧ pos = data.length then ([], 4)
  else if (data.length : Int) < pos then ([], 5)
  else ((data.drop pos.toNat).take (max n 0).toNat, 0)
def grown (data : Str) (n : Int) : Str := data ++ List.replicate (n.toNat - data.length) 0
def over (data : Str) (pos : Int) (b : Str) : Str := (grown data (pos + b.length)).take pos.toNat ++ b ++ (grown data (pos + b.length)).drop (pos.toNat + b.length)
def Mem.listS (m : Mem) (k : Int) (h : Hnd) (s : Stp) : Mem × Ans :=
  let n := m.node h.node
  if n.dir = false then (m, Ans.err 8)
  else
    let l0 := m.children n.name
    let l1 := l0.drop (min h.listed l0.length).toNat
    let e : Int := if 0 < s.n ∧ l1 = [] then 4 else 0
    let l2 := if 0 < s.n then l1.take (min s.n l1.length).toNat else l1
    let m1 := m.setH k { h with listed := h.listed + l2.length }
    (m1, if s.op = 20 then ⟨e, 0, 0, [], l2.map base, []⟩ else ⟨e, 0, 0, [], [], l2.map fun x => m.info ((m.find x).getD 0)⟩)
def Mem.fileS (m : Mem) (k : Int) (h : Hnd) (s : Stp) : Mem × Ans :=
  let n := m.node h.node
  if s.op = 18 then
    let m1 := m.setH k { h with cl := true }
    (if h.ro then m1 else m1.setNode h.node { n with time := 0 }, Ans.z)
  else if s.op = 21 then (m, { Ans.z with infos := [m.info h.node] })
  else if s.op = 22 then (m, { Ans.z with names := [n.name] })
  else if s.op = 23 then (m, Ans.z)
  else if s.op = 19 ∨ s.op = 20 then m.listS k h s
  else if h.cl then (m, Ans.err 3)
  else if s.op = 12 then
    let r := readFrom n.data h.pos s.n
    (m.setH k { h with pos := h.pos + r.1.length }, ⟨r.2, 0, 0, r.1, [], []⟩)
  else if s.op = 13 then
    let r := readFrom n.data s.off s.n
    (m, ⟨r.2, 0, 0, r.1, [], []⟩)
  else if s.op = 16 then
    let p : Int := if s.wh = 0 then s.off else if s.wh = 1 then h.pos + s.off else if s.wh = 2 then n.data.length + s.off else h.pos
    (m.setH k { h with pos := p }, ⟨0, 0, p, [], [], []⟩)
  else if h.ro then
    (if s.op = 15 then m.setH k { h with pos := s.off } else m, Ans.err 6)
  else if s.op = 17 ∧ s.off < 0 then (m, Ans.err 7)
  else if s.op = 14 ∧ (h.pos < 0 ∨ 1048576 < h.pos) ∨ s.op ≠ 14 ∧ (s.off < 0 ∨ 1048576 < s.off) then (m, Ans.err 13)
  else if s.op = 17 then (m.setNode h.node { n with data := grown (n.data.take (min (n.data.length : Int) s.off).toNat) s.off, time := 0 }, Ans.z)
  else if s.op = 14 then
    ((m.setNode h.node { n with data := over n.data h.pos s.data, time := 0 }).setH k { h with pos := h.pos + s.data.length }, ⟨0, s.data.length, 0, [], [], []⟩)
  else if s.op = 15 then
    ((m.setNode h.node { n with data := over n.data s.off s.data, time := 0 }).setH k { h with pos := s.off + s.data.length }, ⟨0, s.data.length, 0, [], [], []⟩)
  else (m, ⟨0, s.data.length, 0, [], [], []⟩)
def Mem.doS (m : Mem) (i : Int) (s : Stp) : Mem × Ans :=
  if 0 ≤ s.op ∧ s.op ≤ 2 then m.openS i s
  else if 3 ≤ s.op ∧ s.op ≤ 11 then m.namesS s
  else
    match hget m.hs s.h with
    | none => (m, Ans.err 13)
    | some h => if s.op < 12 ∨ 23 < s.op then (m, Ans.err 13) else m.fileS s.h h s
def namedS (l : Str) : Bool := decide (l.length ≤ 400) && !(decide (2 < (norm l).length) && decide ((norm l).take 3 = [46, 46, 47]))
def Mem.clearF (m : Mem) (n : Str) : Nat → Bool
  | 0 => true
  | f + 1 => if n = [47] then true else
    match m.find (parent n) with
    | some x => if (m.node x).dir = false then false else m.clearF (parent n) f
    | none => m.clearF (parent n) f
def Mem.clear (m : Mem) (n : Str) : Bool := m.clearF n (n.length + 2)
def Mem.isDir (m : Mem) (n : Str) : Bool := match m.find n with | some x => (m.node x).dir | none => false
def Mem.speaksOpen (m : Mem) (s : Stp) : Bool :=
  let name := norm s.name
  if namedS s.name = false then false
  else if s.op = 0 then !m.isDir name && m.clear name
  else if s.op = 1 then true
  else decide (andNotI s.flag 1731 = 0) && ((m.find name).isSome || decide (andI s.flag 64 = 0) || m.clear name) && !(m.isDir name && has s.flag 512)
def Mem.speaksNames (m : Mem) (s : Stp) : Bool :=
  let name := norm s.name
  if namedS s.name = false then false
  else if s.op = 3 ∨ s.op = 4 then (m.find name).isSome || m.clear name
  else if s.op = 5 then decide (name ≠ [47]) && decide (m.children name = [])
  else if s.op = 6 then decide (name ≠ [47])
  else if s.op = 7 then namedS s.other && (decide (name = norm s.other) || (decide (name ≠ [47]) && decide (norm s.other ≠ [47]) && !below (norm s.other) name && !m.isDir (norm s.other) && m.clear (norm s.other)))
  else if s.op = 10 then (m.find name).isSome && decide (s.name = name)
  else if s.op = 11 then decide (-1099511627776 ≤ s.off) && decide (s.off ≤ 1099511627776)
  else true
def Mem.speaksFile (m : Mem) (h : Hnd) (s : Stp) : Bool :=
  let n := m.node h.node
  if s.op = 19 ∨ s.op = 20 then !n.dir || (decide (m.find n.name = some h.node) && decide (h.listed ≤ (m.children n.name).length))
  else if s.op = 18 ∨ s.op = 21 ∨ s.op = 22 ∨ s.op = 23 then true
  else if n.dir || decide (4096 < s.data.length) || decide (s.n < 0) || decide (4096 < s.n) || decide (1099511627776 < s.off) || decide (s.off < -1099511627776) then false
  else if s.op = 12 then h.cl || decide (0 ≤ h.pos)
  else if s.op = 13 then decide (0 ≤ s.off)
  else if s.op = 14 then decide (0 ≤ h.pos) && decide (h.pos ≤ 4096)
  else if s.op = 15 then decide (0 ≤ s.off) && decide (s.off ≤ 4096)
  else if s.op = 17 then decide (s.off ≤ 4096)
  else if s.op = 16 then decide (h.pos < 2199023255552) && decide (-2199023255552 < h.pos)
  else true
def Mem.speaks (m : Mem) (s : Stp) : Bool :=
  if 400 < s.name.length ∨ 400 < s.other.length ∨ 4096 < s.data.length then false
  else if 0 ≤ s.op ∧ s.op ≤ 2 then m.speaksOpen s
  else if 3 ≤ s.op ∧ s.op ≤ 11 then m.speaksNames s
  else match hget m.hs s.h with | none => true | some h => m.speaksFile h s
end SM
end Go.X
end
section
namespace Go.Proofs.YteblpejgenehfaaDoor.X
open Go Go.X Go.Proofs
def J_laws_FnBytesAreBytes_1 (t74 : Value) (t65 : Value) (t33 : Value) (K : Value → World → Prop) (s5 : List Value) (u5 : Env) (w9 : World) : Prop :=
 rd P (oConv T.sl_uint8 T.string t74) w9.drew fun t112 =>
 st P (oCall Fn.laws_recoded #[t65, t33]) w9.drew fun t109 w10 =>
 hold P (oConv T.sl_uint8 T.string t74) t112 w10 ∧ rd P (oConv T.sl_uint8 T.string t109) w10 fun t110 =>
 pu P (oBin .eql T.string false false t110 t112) fun t113 =>
 K (tup [t113]) w10
def J_laws_FnBytesAreBytes_2 (s6 : List Value) (C1 : List Value → World → Prop) (s8 : List Value) (u8 : Env) (w13 : World) : Prop :=
 pu P (oBin .add T.int false true (gs s6 0) (.int .i64 1)) fun t106 =>
 C1 [t106] w13
def J_laws_FnBytesAreBytes_3 (s6 : List Value) (C1 : List Value → World → Prop) (t64 : Value) (t33 : Value) (t73 : Value) (K : Value → World → Prop) (s7 : List Value) (u7 : Env) (w12 : World) : Prop :=
 jn (J_laws_FnBytesAreBytes_2 s6 C1) fun k7 =>
 pu P (oIdxA T.sl_impl_Answer t64 (gs s6 0)) fun t92 =>
 st P (oLoad T.impl_Answer t92) w12 fun t93 w14 =>
 st P (oAlloc T.impl_Answer) w14 fun t18 w15 =>
 st P (oStore T.impl_Answer t18 t93) w15 fun _ w16 =>
 pu P (oFldA T.impl_Answer t18 3) fun t94 =>
 st P (oLoad T.sl_uint8 t94) w16 fun t95 w17 =>
 st P (oCall Fn.laws_recoded #[t95, t33]) w17 fun t97 w18 =>
 pu P (oFldA T.impl_Answer t18 3) fun t98 =>
 st P (oStore T.sl_uint8 t98 t97) w18 fun _ w19 =>
 rd P (oLoad T.impl_Answer t18) w19.drew fun t99 =>
 pu P (oIdxA T.sl_impl_Answer t73 (gs s6 0)) fun t102 =>
 rd P (oLoad T.impl_Answer t102) w19.drew fun t103 =>
 st P (oCall Fn.spec_SameAnswer #[t99, t103]) w19.drew fun t104 w20 =>
 pu P (oUn .not t104) fun t105 =>
 cd t105 (
 K (tup [(.bool false)]) w20) (
 k7 [] w20)
def J_laws_FnBytesAreBytes_4 (t74 : Value) (t65 : Value) (t33 : Value) (K : Value → World → Prop) (t64 : Value) (t73 : Value) (s4 : List Value) (u4 : Env) (w8 : World) : Prop :=
 jn (J_laws_FnBytesAreBytes_1 t74 t65 t33 K) fun k5 =>
 pu P (oBuiltin .len #[T.sl_impl_Answer] T.int #[false] #[t64]) fun t88 =>
 lp [(.int .i64 0)] w8 fun s6 u6 w11 C1 =>
 pu P (oBin .lss T.int false false (gs s6 0) t88) fun t90 =>
 jn (J_laws_FnBytesAreBytes_3 s6 C1 t64 t33 t73 K) fun k6 =>
 cd t90 (
 k6 [] w11) (
 k5 [] w11)
def J_laws_FnBytesAreBytes_5 (t0 : Value) (t1 : Value) (t2 : Value) (t33 : Value) (K : Value → World → Prop) (s3 : List Value) (u3 : Env) (w4 : World) : Prop :=
 st P (oCall Fn.impl_HandleScript #[t0, t1, t2]) w4 fun t63 w5 =>
 pu P (oExtract t63 0) fun t64 =>
 pu P (oExtract t63 1) fun t65 =>
 st P (oCall Fn.laws_recoded #[t0, t33]) w5 fun t69 w6 =>
 st P (oCall Fn.impl_HandleScript #[t69, t1, (gs s3 0)]) w6 fun t72 w7 =>
 pu P (oExtract t72 0) fun t73 =>
 pu P (oExtract t72 1) fun t74 =>
 jn (J_laws_FnBytesAreBytes_4 t74 t65 t33 K t64 t73) fun k4 =>
 pu P (oBuiltin .len #[T.sl_impl_Answer] T.int #[false] #[t64]) fun t76 =>
 pu P (oBuiltin .len #[T.sl_impl_Step] T.int #[false] #[t2]) fun t78 =>
 pu P (oBin .neq T.int false false t76 t78) fun t79 =>
 gd t79 false w7 (fun K1 => K1 t73 w7) fun t81 w21 =>
 gd t79 false w21 (fun K2 => pu P (oBuiltin .len #[T.sl_impl_Answer] T.int #[false] #[t81]) fun v => K2 v w21) fun t82 w22 =>
 gd t79 false w22 (fun K3 => K3 t2 w22) fun t83 w23 =>
 gd t79 false w23 (fun K4 => pu P (oBuiltin .len #[T.sl_impl_Step] T.int #[false] #[t83]) fun v => K4 v w23) fun t84 w24 =>
 gd t79 false w24 (fun K5 => pu P (oBin .neq T.int false false t82 t84) fun v => K5 v w24) fun t85 w25 =>
 pu P (oPick t79 (.bool true) t85) fun t86 =>
 cd t86 (
 K (tup [(.bool false)]) w25) (
 k4 [] w25)
def J_laws_FnBytesAreBytes_6 (s9 : List Value) (C2 : List Value → World → Prop) (s11 : List Value) (u11 : Env) (w28 : World) : Prop :=
 pu P (oBin .add T.int false true (gs s9 1) (.int .i64 1)) fun t58 =>
 C2 [(gs s11 0), t58] w28
def J_laws_FnBytesAreBytes_7 (t12 : Value) (t33 : Value) (s9 : List Value) (k9 : List Value → World → Prop) (s12 : List Value) (u12 : Env) (w32 : World) : Prop :=
 pu P (oFldA T.impl_Step t12 6) fun t49 =>
 st P (oLoad T.sl_uint8 t49) w32 fun t50 w33 =>
 st P (oCall Fn.laws_recoded #[t50, t33]) w33 fun t52 w34 =>
 pu P (oFldA T.impl_Step t12 6) fun t53 =>
 st P (oStore T.sl_uint8 t53 t52) w34 fun _ w35 =>
 st P (oLoad T.impl_Step t12) w35 fun t55 w36 =>
 st P (oBuildSlice T.sl_impl_Step 1 #[(0, t55)]) w36 fun t56 w37 =>
 st P (oBuiltin .append #[T.sl_impl_Step, T.sl_impl_Step] T.sl_impl_Step #[false, false] #[(gs s9 0), t56]) w37 fun t57 w38 =>
 k9 [t57] w38
def J_laws_FnBytesAreBytes_8 (s9 : List Value) (C2 : List Value → World → Prop) (t2 : Value) (t33 : Value) (K : Value → World → Prop) (s10 : List Value) (u10 : Env) (w27 : World) : Prop :=
 jn (J_laws_FnBytesAreBytes_6 s9 C2) fun k9 =>
 pu P (oIdxA T.sl_impl_Step t2 (gs s9 1)) fun t39 =>
 st P (oLoad T.impl_Step t39) w27 fun t40 w29 =>
 st P (oAlloc T.impl_Step) w29 fun t12 w30 =>
 st P (oStore T.impl_Step t12 t40) w30 fun _ w31 =>
 jn (J_laws_FnBytesAreBytes_7 t12 t33 s9 k9) fun k10 =>
 pu P (oFldA T.impl_Step t12 0) fun t41 =>
 st P (oLoad T.int t41) w31 fun t42 w39 =>
 pu P (oBin .eql T.int false true t42 (.int .i64 21)) fun t43 =>
 gd t43 false w39 (fun K6 => pu P (oFldA T.impl_Step t12 0) fun v => K6 v w39) fun t45 w40 =>
 gd t43 false w40 (fun K7 => st P (oLoad T.int t45) w40 K7) fun t46 w41 =>
 gd t43 false w41 (fun K8 => pu P (oBin .eql T.int false true t46 (.int .i64 22)) fun v => K8 v w41) fun t47 w42 =>
 pu P (oPick t43 (.bool true) t47) fun t48 =>
 cd t48 (
 K (tup [(.bool true)]) w42) (
 k10 [] w42)
def J_laws_FnBytesAreBytes_9 (t3 : Value) (t0 : Value) (t1 : Value) (t2 : Value) (K : Value → World → Prop) (s2 : List Value) (u2 : Env) (w2 : World) : Prop :=
 pu P (oBin .or T.uint8 false true t3 (.int .u8 1)) fun t33 =>
 st P (oBuildSlice T.sl_impl_Step 0 #[]) w2 fun t34 w3 =>
 jn (J_laws_FnBytesAreBytes_5 t0 t1 t2 t33 K) fun k3 =>
 pu P (oBuiltin .len #[T.sl_impl_Step] T.int #[false] #[t2]) fun t36 =>
 lp [t34, (.int .i64 0)] w3 fun s9 u9 w26 C2 =>
 pu P (oBin .lss T.int false false (gs s9 1) t36) fun t38 =>
 jn (J_laws_FnBytesAreBytes_8 s9 C2 t2 t33 K) fun k8 =>
 cd t38 (
 k8 [] w26) (
 k3 [(gs s9 0)] w26)
def J_laws_FnBytesAreBytes_10 (t3 : Value) (t0 : Value) (t1 : Value) (t2 : Value) (K : Value → World → Prop) (s1 : List Value) (u1 : Env) (w1 : World) : Prop :=
 jn (J_laws_FnBytesAreBytes_9 t3 t0 t1 t2 K) fun k2 =>
 st P (oCall Fn.laws_handleSpoken #[t0, t1, t2]) w1 fun t30 w43 =>
 pu P (oUn .not t30) fun t31 =>
 cd t31 (
 K (tup [(.bool true)]) w43) (
 k2 [] w43)
def F_laws_FnBytesAreBytes (t0 t1 t2 t3 : Value) (w : World) (K : Value → World → Prop) : Prop :=
 jn (J_laws_FnBytesAreBytes_10 t3 t0 t1 t2 K) fun k1 =>
 pu P (oBuiltin .len #[T.sl_uint8] T.int #[false] #[t0]) fun t20 =>
 pu P (oBin .gtr T.int false true t20 (.int .i64 2147483647)) fun t21 =>
 gd t21 false w (fun K9 => K9 t2 w) fun t23 w44 =>
 gd t21 false w44 (fun K10 => st P (oCall Fn.laws_zzFits1 #[t23]) w44 K10) fun t24 w45 =>
 gd t21 false w45 (fun K11 => pu P (oUn .not t24) fun v => K11 v w45) fun t25 w46 =>
 pu P (oPick t21 (.bool true) t25) fun t26 =>
 cd t26 (
 K (tup [(.bool true)]) w46) (
 k1 [] w46)
def Tb_laws_FnBytesAreBytes : Tab := { join := fun n => match n with | 13 => [10] | 14 => [10] | _ => [], loop := fun n => match n with | 7 => [10, 37] | 19 => [89] | _ => [] }
theorem S_laws_FnBytesAreBytes {t0 t1 t2 t3 : Value} {w : World} {K : Value → World → Prop} (h : F_laws_FnBytesAreBytes t0 t1 t2 t3 w K) : Cl P Fn.laws_FnBytesAreBytes #[t0, t1, t2, t3] w K :=
  cl_of_eq (T := Tb_laws_FnBytesAreBytes) (args := [t0, t1, t2, t3]) Tryd.func3 rfl follows_mixed (by kernel_rfl) (Nat.le_of_ble_eq_true (by kernel_rfl)) (by kernel_rfl) h
def F_laws_zzFits1 (t0 : Value) (w : World) (K : Value → World → Prop) : Prop :=
 jn (fun s1 u1 w1 =>
 jn (fun s2 u2 w2 =>
 K (tup [(.bool true)]) w2) fun k2 =>
 pu P (oBuiltin .len #[T.sl_impl_Step] T.int #[false] #[t0]) fun t9 =>
 lp [(.int .i64 0)] w1 fun s3 u3 w3 C1 =>
 pu P (oBin .lss T.int false false (gs s3 0) t9) fun t11 =>
 jn (fun s4 u4 w4 =>
 jn (fun s5 u5 w5 =>
 pu P (oBin .add T.int false true (gs s3 0) (.int .i64 1)) fun t17 =>
 C1 [t17] w5) fun k4 =>
 pu P (oIdxA T.sl_impl_Step t0 (gs s3 0)) fun t12 =>
 st P (oLoad T.impl_Step t12) w4 fun t13 w6 =>
 st P (oAlloc T.impl_Step) w6 fun t4 w7 =>
 st P (oStore T.impl_Step t4 t13) w7 fun _ w8 =>
 st P (oLoad T.impl_Step t4) w8 fun t14 w9 =>
 st P (oCall Fn.laws_zzFits2 #[t14]) w9 fun t15 w10 =>
 pu P (oUn .not t15) fun t16 =>
 cd t16 (
 K (tup [(.bool false)]) w10) (
 k4 [] w10)) fun k3 =>
 cd t11 (
 k3 [] w3) (
 k2 [] w3)) fun k1 =>
 pu P (oBuiltin .len #[T.sl_impl_Step] T.int #[false] #[t0]) fun t6 =>
 pu P (oBin .gtr T.int false true t6 (.int .i64 2147483647)) fun t7 =>
 cd t7 (
 K (tup [(.bool false)]) w) (
 k1 [] w)
def Tb_laws_zzFits1 : Tab := { join := fun n => match n with | _ => [], loop := fun n => match n with | 4 => [10] | _ => [] }
theorem S_laws_zzFits1 {t0 : Value} {w : World} {K : Value → World → Prop} (h : F_laws_zzFits1 t0 w K) : Cl P Fn.laws_zzFits1 #[t0] w K :=
  cl_of_eq (T := Tb_laws_zzFits1) (args := [t0]) Tryd.func11 rfl follows_mixed (by kernel_rfl) (Nat.le_of_ble_eq_true (by kernel_rfl)) (by kernel_rfl) h
def F_laws_handleSpoken (t0 t1 t2 : Value) (w : World) (K : Value → World → Prop) : Prop :=
 jn (fun s1 u1 w1 =>
 st P (oCall Fn.laws_oneFile #[t0, t1]) w1 fun t22 w2 =>
 pu P (oExtract t22 0) fun t23 =>
 pu P (oExtract t22 1) fun t24 =>
 jn (fun s2 u2 w3 =>
 pu P (oBin .neq T.p_spec_MemHandle false true (gs s2 0) (.pointer none)) fun t51 =>
 K (tup [t51]) w3) fun k2 =>
 pu P (oBuiltin .len #[T.sl_impl_Step] T.int #[false] #[t2]) fun t26 =>
 lp [t24, (.int .i64 0)] w2 fun s3 u3 w4 C1 =>
 pu P (oBin .lss T.int false false (gs s3 1) t26) fun t28 =>
 jn (fun s4 u4 w5 =>
 jn (fun s5 u5 w6 =>
 pu P (oBin .add T.int false true (gs s3 1) (.int .i64 1)) fun t49 =>
 C1 [(gs s5 0), t49] w6) fun k4 =>
 pu P (oIdxA T.sl_impl_Step t2 (gs s3 1)) fun t29 =>
 st P (oLoad T.impl_Step t29) w5 fun t30 w7 =>
 st P (oAlloc T.impl_Step) w7 fun t10 w8 =>
 st P (oStore T.impl_Step t10 t30) w8 fun _ w9 =>
 jn (fun s6 u6 w10 =>
 st P (oLoad T.impl_Step t10) w10 fun t42 w11 =>
 st P (oCall Fn.spec_Mem_Do #[t23, (.int .i64 1), t42]) w11 fun t43 w12 =>
 pu P (oNil t23) fun t45 =>
 pu P (oFldA T.spec_Mem t45 3) fun t46 =>
 st P (oLoad T.map_int_p_spec_MemHandle t46) w12 fun t47 w13 =>
 st P (oLookup T.map_int_p_spec_MemHandle t47 (.int .i64 0) false) w13 fun t48 w14 =>
 k4 [t48] w14) fun k5 =>
 pu P (oFldA T.impl_Step t10 5) fun t31 =>
 st P (oStore T.int t31 (.int .i64 0)) w9 fun _ w15 =>
 st P (oLoad T.impl_Step t10) w15 fun t33 w16 =>
 st P (oCall Fn.spec_Mem_Speaks #[t23, t33]) w16 fun t34 w17 =>
 pu P (oUn .not t34) fun t35 =>
 gd t35 false w17 (fun K1 => st P (oLoad T.impl_Step t10) w17 K1) fun t37 w18 =>
 gd t35 false w18 (fun K2 => st P (oCall Fn.laws_onFile #[t37]) w18 K2) fun t38 w19 =>
 gd t35 false w19 (fun K3 => pu P (oUn .not t38) fun v => K3 v w19) fun t39 w20 =>
 pu P (oPick t35 (.bool true) t39) fun t40 =>
 cd t40 (
 K (tup [(.bool false)]) w20) (
 k5 [] w20)) fun k3 =>
 cd t28 (
 k3 [] w4) (
 k2 [(gs s3 0)] w4)) fun k1 =>
 pu P (oBuiltin .len #[T.sl_uint8] T.int #[false] #[t0]) fun t12 =>
 pu P (oBin .gtr T.int false true t12 (.int .i64 4096)) fun t13 =>
 gd t13 false w (fun K4 => K4 t2 w) fun t15 w21 =>
 gd t13 false w21 (fun K5 => pu P (oBuiltin .len #[T.sl_impl_Step] T.int #[false] #[t15]) fun v => K5 v w21) fun t16 w22 =>
 gd t13 false w22 (fun K6 => pu P (oBin .gtr T.int false true t16 (.int .i64 60)) fun v => K6 v w22) fun t17 w23 =>
 pu P (oPick t13 (.bool true) t17) fun t18 =>
 cd t18 (
 K (tup [(.bool false)]) w23) (
 k1 [] w23)
def Tb_laws_handleSpoken : Tab := { join := fun n => match n with | 12 => [8] | 13 => [8] | _ => [], loop := fun n => match n with | 5 => [8, 27] | _ => [] }
theorem S_laws_handleSpoken {t0 t1 t2 : Value} {w : World} {K : Value → World → Prop} (h : F_laws_handleSpoken t0 t1 t2 w K) : Cl P Fn.laws_handleSpoken #[t0, t1, t2] w K :=
  cl_of_eq (T := Tb_laws_handleSpoken) (args := [t0, t1, t2]) Tryd.func12 rfl follows_mixed (by kernel_rfl) (Nat.le_of_ble_eq_true (by kernel_rfl)) (by kernel_rfl) h
def F_laws_recoded (t0 t1 : Value) (w : World) (K : Value → World → Prop) : Prop :=
 st P (oBuildSlice T.sl_uint8 0 #[]) w fun t8 w1 =>
 jn (fun s1 u1 w2 =>
 K (tup [(gs s1 0)]) w2) fun k1 =>
 pu P (oBuiltin .len #[T.sl_uint8] T.int #[false] #[t0]) fun t10 =>
 lp [t8, (.int .i64 0)] w1 fun s2 u2 w3 C1 =>
 pu P (oBin .lss T.int false false (gs s2 1) t10) fun t12 =>
 jn (fun s3 u3 w4 =>
 pu P (oIdxA T.sl_uint8 t0 (gs s2 1)) fun t13 =>
 st P (oLoad T.uint8 t13) w4 fun t14 w5 =>
 pu P (oBin .mul T.uint8 false false t14 t1) fun t18 =>
 st P (oBuildSlice T.sl_uint8 1 #[(0, t18)]) w5 fun t19 w6 =>
 st P (oBuiltin .append #[T.sl_uint8, T.sl_uint8] T.sl_uint8 #[false, false] #[(gs s2 0), t19]) w6 fun t20 w7 =>
 pu P (oBin .add T.int false true (gs s2 1) (.int .i64 1)) fun t21 =>
 C1 [t20, t21] w7) fun k2 =>
 cd t12 (
 k2 [] w3) (
 k1 [(gs s2 0)] w3)
def Tb_laws_recoded : Tab := { join := fun n => match n with | 7 => [5] | _ => [], loop := fun n => match n with | 3 => [5, 11] | _ => [] }
theorem S_laws_recoded {t0 t1 : Value} {w : World} {K : Value → World → Prop} (h : F_laws_recoded t0 t1 w K) : Cl P Fn.laws_recoded #[t0, t1] w K :=
  cl_of_eq (T := Tb_laws_recoded) (args := [t0, t1]) Tryd.func13 rfl follows_mixed (by kernel_rfl) (Nat.le_of_ble_eq_true (by kernel_rfl)) (by kernel_rfl) h
def F_impl_HandleScript (t0 t1 t2 : Value) (w : World) (K : Value → World → Prop) : Prop :=
 st P (oBuiltin .append #[T.sl_uint8, T.sl_uint8] T.sl_uint8 #[true, false] #[(.slice none 0 0), t0]) w fun t14 w1 =>
 st P (oCall Fn.mem_DoorWith #[(S [47, 102]), t14]) w1 fun t15 w2 =>
 st P (oCall Fn.mem_NewFileHandle #[t15]) w2 fun t17 w3 =>
 jn (fun s1 u1 w4 =>
 jn (fun s2 u2 w5 =>
 st P (oCall Fn.mem_FileData_DoorBytes #[t15]) w5 fun t36 w6 =>
 st P (oBuiltin .append #[T.sl_uint8, T.sl_uint8] T.sl_uint8 #[true, false] #[(.slice none 0 0), t36]) w6 fun t37 w7 =>
 K (tup [(gs s2 0), t37]) w7) fun k2 =>
 pu P (oBuiltin .len #[T.sl_impl_Step] T.int #[false] #[t2]) fun t22 =>
 lp [(.slice none 0 0), (.int .i64 0)] w4 fun s3 u3 w8 C1 =>
 pu P (oBin .lss T.int false false (gs s3 1) t22) fun t24 =>
 jn (fun s4 u4 w9 =>
 pu P (oIdxA T.sl_impl_Step t2 (gs s3 1)) fun t25 =>
 st P (oLoad T.impl_Step t25) w9 fun t26 w10 =>
 st P (oAlloc T.impl_Step) w10 fun t12 w11 =>
 st P (oStore T.impl_Step t12 t26) w11 fun _ w12 =>
 st P (oLoad T.impl_Step t12) w12 fun t29 w13 =>
 st P (oCall Fn.impl_on #[(gs s1 0), t29]) w13 fun t30 w14 =>
 st P (oBuildSlice T.sl_impl_Answer 1 #[(0, t30)]) w14 fun t31 w15 =>
 st P (oBuiltin .append #[T.sl_impl_Answer, T.sl_impl_Answer] T.sl_impl_Answer #[false, false] #[(gs s3 0), t31]) w15 fun t32 w16 =>
 pu P (oBin .add T.int false true (gs s3 1) (.int .i64 1)) fun t33 =>
 C1 [t32, t33] w16) fun k3 =>
 cd t24 (
 k3 [] w8) (
 k2 [(gs s3 0)] w8)) fun k1 =>
 cd t1 (
 st P (oCall Fn.mem_NewReadOnlyFileHandle #[t15]) w3 fun t20 w17 =>
 k1 [t20] w17) (
 k1 [t17] w3)
def Tb_impl_HandleScript : Tab := { join := fun n => match n with | 5 => [9] | 11 => [10] | _ => [], loop := fun n => match n with | 7 => [10, 23] | _ => [] }
theorem S_impl_HandleScript {t0 t1 t2 : Value} {w : World} {K : Value → World → Prop} (h : F_impl_HandleScript t0 t1 t2 w K) : Cl P Fn.impl_HandleScript #[t0, t1, t2] w K :=
  cl_of_eq (T := Tb_impl_HandleScript) (args := [t0, t1, t2]) Tryd.func14 rfl follows_mixed (by kernel_rfl) (Nat.le_of_ble_eq_true (by kernel_rfl)) (by kernel_rfl) h
def F_spec_SameAnswer (t0 t1 : Value) (w : World) (K : Value → World → Prop) : Prop :=
 st P (oBox T.impl_Answer t0) w fun t2 w1 =>
 st P (oBox T.impl_Answer t1) w1 fun t3 w2 =>
 jn (fun s1 u1 w3 =>
 jn (fun s2 u2 w4 =>
 jn (fun s3 u3 w5 =>
 K (tup [(.bool true)]) w5) fun k3 =>
 pu P (oFldA T.impl_Answer t2 5) fun t71 =>
 st P (oLoad T.sl_impl_Info t71) w4 fun t72 w6 =>
 pu P (oBuiltin .len #[T.sl_impl_Info] T.int #[false] #[t72]) fun t73 =>
 lp [(.int .i64 0)] w6 fun s4 u4 w7 C1 =>
 pu P (oBin .lss T.int false false (gs s4 0) t73) fun t75 =>
 jn (fun s5 u5 w8 =>
 jn (fun s6 u6 w9 =>
 pu P (oBin .add T.int false true (gs s4 0) (.int .i64 1)) fun t88 =>
 C1 [t88] w9) fun k5 =>
 pu P (oFldA T.impl_Answer t2 5) fun t77 =>
 rd P (oLoad T.sl_impl_Info t77) w8.drew fun t78 =>
 pu P (oIdxA T.sl_impl_Info t78 (gs s4 0)) fun t80 =>
 rd P (oLoad T.impl_Info t80) w8.drew fun t81 =>
 pu P (oFldA T.impl_Answer t3 5) fun t82 =>
 rd P (oLoad T.sl_impl_Info t82) w8.drew fun t83 =>
 pu P (oIdxA T.sl_impl_Info t83 (gs s4 0)) fun t85 =>
 rd P (oLoad T.impl_Info t85) w8.drew fun t86 =>
 pu P (oBin .neq T.impl_Info false false t81 t86) fun t87 =>
 cd t87 (
 K (tup [(.bool false)]) w8.drew) (
 k5 [] w8.drew)) fun k4 =>
 cd t75 (
 k4 [] w7) (
 k3 [] w7)) fun k2 =>
 pu P (oFldA T.impl_Answer t2 4) fun t53 =>
 st P (oLoad T.sl_string t53) w3 fun t54 w10 =>
 pu P (oBuiltin .len #[T.sl_string] T.int #[false] #[t54]) fun t55 =>
 lp [(.int .i64 0)] w10 fun s7 u7 w11 C2 =>
 pu P (oBin .lss T.int false false (gs s7 0) t55) fun t57 =>
 jn (fun s8 u8 w12 =>
 jn (fun s9 u9 w13 =>
 pu P (oBin .add T.int false true (gs s7 0) (.int .i64 1)) fun t70 =>
 C2 [t70] w13) fun k7 =>
 pu P (oFldA T.impl_Answer t2 4) fun t59 =>
 rd P (oLoad T.sl_string t59) w12.drew fun t60 =>
 pu P (oIdxA T.sl_string t60 (gs s7 0)) fun t62 =>
 rd P (oLoad T.string t62) w12.drew fun t63 =>
 pu P (oFldA T.impl_Answer t3 4) fun t64 =>
 rd P (oLoad T.sl_string t64) w12.drew fun t65 =>
 pu P (oIdxA T.sl_string t65 (gs s7 0)) fun t67 =>
 rd P (oLoad T.string t67) w12.drew fun t68 =>
 pu P (oBin .neq T.string false false t63 t68) fun t69 =>
 cd t69 (
 K (tup [(.bool false)]) w12.drew) (
 k7 [] w12.drew)) fun k6 =>
 cd t57 (
 k6 [] w11) (
 k2 [] w11)) fun k1 =>
 pu P (oFldA T.impl_Answer t2 0) fun t7 =>
 st P (oLoad T.int t7) w2 fun t8 w14 =>
 pu P (oFldA T.impl_Answer t3 0) fun t9 =>
 st P (oLoad T.int t9) w14 fun t10 w15 =>
 pu P (oBin .neq T.int false false t8 t10) fun t11 =>
 gd t11 false w15 (fun K1 => pu P (oFldA T.impl_Answer t2 1) fun v => K1 v w15) fun t13 w16 =>
 gd t11 false w16 (fun K2 => st P (oLoad T.int t13) w16 K2) fun t14 w17 =>
 gd t11 false w17 (fun K3 => pu P (oFldA T.impl_Answer t3 1) fun v => K3 v w17) fun t15 w18 =>
 gd t11 false w18 (fun K4 => st P (oLoad T.int t15) w18 K4) fun t16 w19 =>
 gd t11 false w19 (fun K5 => pu P (oBin .neq T.int false false t14 t16) fun v => K5 v w19) fun t17 w20 =>
 pu P (oPick t11 (.bool true) t17) fun t18 =>
 gd t18 false w20 (fun K6 => pu P (oFldA T.impl_Answer t2 2) fun v => K6 v w20) fun t20 w21 =>
 gd t18 false w21 (fun K7 => st P (oLoad T.int64 t20) w21 K7) fun t21 w22 =>
 gd t18 false w22 (fun K8 => pu P (oFldA T.impl_Answer t3 2) fun v => K8 v w22) fun t22 w23 =>
 gd t18 false w23 (fun K9 => st P (oLoad T.int64 t22) w23 K9) fun t23 w24 =>
 gd t18 false w24 (fun K10 => pu P (oBin .neq T.int64 false false t21 t23) fun v => K10 v w24) fun t24 w25 =>
 pu P (oPick t18 (.bool true) t24) fun t25 =>
 gd t25 false w25 (fun K11 => pu P (oFldA T.impl_Answer t2 3) fun v => K11 v w25) fun t27 w26 =>
 gd t25 false w26 (fun K12 => st P (oLoad T.sl_uint8 t27) w26 K12) fun t28 w27 =>
 gd t25 false w27 (fun K13 => st P (oConv T.sl_uint8 T.string t28) w27 K13) fun t29 w28 =>
 gd t25 false w28 (fun K14 => pu P (oFldA T.impl_Answer t3 3) fun v => K14 v w28) fun t30 w29 =>
 gd t25 false w29 (fun K15 => st P (oLoad T.sl_uint8 t30) w29 K15) fun t31 w30 =>
 gd t25 false w30 (fun K16 => st P (oConv T.sl_uint8 T.string t31) w30 K16) fun t32 w31 =>
 gd t25 false w31 (fun K17 => pu P (oBin .neq T.string false false t29 t32) fun v => K17 v w31) fun t33 w32 =>
 pu P (oPick t25 (.bool true) t33) fun t34 =>
 gd t34 false w32 (fun K18 => pu P (oFldA T.impl_Answer t2 4) fun v => K18 v w32) fun t36 w33 =>
 gd t34 false w33 (fun K19 => st P (oLoad T.sl_string t36) w33 K19) fun t37 w34 =>
 gd t34 false w34 (fun K20 => pu P (oBuiltin .len #[T.sl_string] T.int #[false] #[t37]) fun v => K20 v w34) fun t38 w35 =>
 gd t34 false w35 (fun K21 => pu P (oFldA T.impl_Answer t3 4) fun v => K21 v w35) fun t39 w36 =>
 gd t34 false w36 (fun K22 => st P (oLoad T.sl_string t39) w36 K22) fun t40 w37 =>
 gd t34 false w37 (fun K23 => pu P (oBuiltin .len #[T.sl_string] T.int #[false] #[t40]) fun v => K23 v w37) fun t41 w38 =>
 gd t34 false w38 (fun K24 => pu P (oBin .neq T.int false false t38 t41) fun v => K24 v w38) fun t42 w39 =>
 pu P (oPick t34 (.bool true) t42) fun t43 =>
 gd t43 false w39 (fun K25 => pu P (oFldA T.impl_Answer t2 5) fun v => K25 v w39) fun t45 w40 =>
 gd t43 false w40 (fun K26 => st P (oLoad T.sl_impl_Info t45) w40 K26) fun t46 w41 =>
 gd t43 false w41 (fun K27 => pu P (oBuiltin .len #[T.sl_impl_Info] T.int #[false] #[t46]) fun v => K27 v w41) fun t47 w42 =>
 gd t43 false w42 (fun K28 => pu P (oFldA T.impl_Answer t3 5) fun v => K28 v w42) fun t48 w43 =>
 gd t43 false w43 (fun K29 => st P (oLoad T.sl_impl_Info t48) w43 K29) fun t49 w44 =>
 gd t43 false w44 (fun K30 => pu P (oBuiltin .len #[T.sl_impl_Info] T.int #[false] #[t49]) fun v => K30 v w44) fun t50 w45 =>
 gd t43 false w45 (fun K31 => pu P (oBin .neq T.int false false t47 t50) fun v => K31 v w45) fun t51 w46 =>
 pu P (oPick t43 (.bool true) t51) fun t52 =>
 cd t52 (
 K (tup [(.bool false)]) w46) (
 k1 [] w46)
def Tb_spec_SameAnswer : Tab := { join := fun n => match n with | _ => [], loop := fun n => match n with | 4 => [56] | 10 => [74] | _ => [] }
theorem S_spec_SameAnswer {t0 t1 : Value} {w : World} {K : Value → World → Prop} (h : F_spec_SameAnswer t0 t1 w K) : Cl P Fn.spec_SameAnswer #[t0, t1] w K :=
  cl_of_eq (T := Tb_spec_SameAnswer) (args := [t0, t1]) Tryd.func15 rfl follows_mixed (by kernel_rfl) (Nat.le_of_ble_eq_true (by kernel_rfl)) (by kernel_rfl) h
def F_laws_zzFits2 (t0 : Value) (w : World) (K : Value → World → Prop) : Prop :=
 st P (oBox T.impl_Step t0) w fun t1 w1 =>
 jn (fun s1 u1 w2 =>
 jn (fun s2 u2 w3 =>
 jn (fun s3 u3 w4 =>
 K (tup [(.bool true)]) w4) fun k3 =>
 pu P (oFldA T.impl_Step t1 6) fun t11 =>
 st P (oLoad T.sl_uint8 t11) w3 fun t12 w5 =>
 pu P (oBuiltin .len #[T.sl_uint8] T.int #[false] #[t12]) fun t13 =>
 pu P (oBin .gtr T.int false true t13 (.int .i64 2147483647)) fun t14 =>
 cd t14 (
 K (tup [(.bool false)]) w5) (
 k3 [] w5)) fun k2 =>
 pu P (oFldA T.impl_Step t1 2) fun t7 =>
 st P (oLoad T.string t7) w2 fun t8 w6 =>
 pu P (oBuiltin .len #[T.string] T.int #[false] #[t8]) fun t9 =>
 pu P (oBin .gtr T.int false true t9 (.int .i64 2147483647)) fun t10 =>
 cd t10 (
 K (tup [(.bool false)]) w6) (
 k2 [] w6)) fun k1 =>
 pu P (oFldA T.impl_Step t1 1) fun t3 =>
 st P (oLoad T.string t3) w1 fun t4 w7 =>
 pu P (oBuiltin .len #[T.string] T.int #[false] #[t4]) fun t5 =>
 pu P (oBin .gtr T.int false true t5 (.int .i64 2147483647)) fun t6 =>
 cd t6 (
 K (tup [(.bool false)]) w7) (
 k1 [] w7)
def Tb_laws_zzFits2 : Tab := { join := fun n => match n with | _ => [], loop := fun n => match n with | _ => [] }
theorem S_laws_zzFits2 {t0 : Value} {w : World} {K : Value → World → Prop} (h : F_laws_zzFits2 t0 w K) : Cl P Fn.laws_zzFits2 #[t0] w K :=
  cl_of_eq (T := Tb_laws_zzFits2) (args := [t0]) Tryd.func20 rfl follows_mixed (by kernel_rfl) (Nat.le_of_ble_eq_true (by kernel_rfl)) (by kernel_rfl) h
def F_laws_oneFile (t0 t1 : Value) (w : World) (K : Value → World → Prop) : Prop :=
 st P (oCall Fn.spec_NewMem #[]) w fun t8 w1 =>
 pu P (oBuild T.impl_Step #[(0, (.int .i64 0)), (1, (S [47, 102]))]) fun t10 =>
 st P (oCall Fn.spec_Mem_Do #[t8, (.int .i64 0), t10]) w1 fun t11 w2 =>
 pu P (oNil t8) fun t13 =>
 pu P (oFldA T.spec_Mem t13 3) fun t14 =>
 st P (oLoad T.map_int_p_spec_MemHandle t14) w2 fun t15 w3 =>
 st P (oLookup T.map_int_p_spec_MemHandle t15 (.int .i64 0) false) w3 fun t16 w4 =>
 pu P (oNil t8) fun t18 =>
 pu P (oFldA T.spec_Mem t18 2) fun t19 =>
 rd P (oLoad T.sl_spec_MemNode t19) w4.drew fun t20 =>
 pu P (oNil t16) fun t22 =>
 pu P (oFldA T.spec_MemHandle t22 0) fun t23 =>
 rd P (oLoad T.int t23) w4.drew fun t24 =>
 st P (oBuildSlice T.sl_uint8 0 #[]) w4.drew fun t25 w5 =>
 hold P (oLoad T.int t23) t24 w5 ∧ hold P (oLoad T.sl_spec_MemNode t19) t20 w5 ∧ st P (oBuiltin .append #[T.sl_uint8, T.sl_uint8] T.sl_uint8 #[false, false] #[t25, t0]) w5 fun t27 w6 =>
 hold P (oLoad T.int t23) t24 w6 ∧ hold P (oLoad T.sl_spec_MemNode t19) t20 w6 ∧ pu P (oIdxA T.sl_spec_MemNode t20 t24) fun t28 =>
 pu P (oFldA T.spec_MemNode t28 2) fun t29 =>
 st P (oStore T.sl_uint8 t29 t27) w6 fun _ w7 =>
 pu P (oNil t16) fun t32 =>
 pu P (oFldA T.spec_MemHandle t32 4) fun t33 =>
 st P (oStore T.bool t33 t1) w7 fun _ w8 =>
 K (tup [t8, t16]) w8
def Tb_laws_oneFile : Tab := { join := fun n => match n with | _ => [], loop := fun n => match n with | _ => [] }
theorem S_laws_oneFile {t0 t1 : Value} {w : World} {K : Value → World → Prop} (h : F_laws_oneFile t0 t1 w K) : Cl P Fn.laws_oneFile #[t0, t1] w K :=
  cl_of_eq (T := Tb_laws_oneFile) (args := [t0, t1]) Tryd.func21 rfl follows_mixed (by kernel_rfl) (Nat.le_of_ble_eq_true (by kernel_rfl)) (by kernel_rfl) h
def J_spec_Mem_Speaks_1 (t0 : Value) (t3 : Value) (K : Value → World → Prop) (s2 : List Value) (u2 : Env) (w3 : World) : Prop :=
 pu P (oNil t0) fun t47 =>
 pu P (oFldA T.spec_Mem t47 3) fun t48 =>
 rd P (oLoad T.map_int_p_spec_MemHandle t48) w3.drew fun t49 =>
 pu P (oFldA T.impl_Step t3 5) fun t50 =>
 rd P (oLoad T.int t50) w3.drew fun t51 =>
 rd P (oLookup T.map_int_p_spec_MemHandle t49 t51 false) w3.drew fun t52 =>
 pu P (oBin .eql T.p_spec_MemHandle false true t52 (.pointer none)) fun t54 =>
 gd t54 false w3.drew (fun K1 => K1 t0 w3.drew) fun t56 w4 =>
 gd t54 false w4 (fun K2 => K2 t52 w4) fun t57 w5 =>
 gd t54 false w5 (fun K3 => st P (oLoad T.impl_Step t3) w5 K3) fun t58 w6 =>
 gd t54 false w6 (fun K4 => st P (oCall Fn.spec_Mem_speaksFile #[t56, t57, t58]) w6 K4) fun t59 w7 =>
 pu P (oPick t54 (.bool true) t59) fun t60 =>
 K (tup [t60]) w7
def J_spec_Mem_Speaks_2 (t3 : Value) (w11 : World) (t0 : Value) (K : Value → World → Prop) (k2 : List Value → World → Prop) : Prop :=
 pu P (oFldA T.impl_Step t3 0) fun t35 =>
 st P (oLoad T.int t35) w11 fun t36 w14 =>
 pu P (oBin .geq T.int false true t36 (.int .i64 3)) fun t37 =>
 gd t37 true w14 (fun K8 => pu P (oFldA T.impl_Step t3 0) fun v => K8 v w14) fun t39 w15 =>
 gd t37 true w15 (fun K9 => st P (oLoad T.int t39) w15 K9) fun t40 w16 =>
 gd t37 true w16 (fun K10 => pu P (oBin .leq T.int false true t40 (.int .i64 11)) fun v => K10 v w16) fun t41 w17 =>
 pu P (oPick t37 t41 (.bool false)) fun t42 =>
 cd t42 (
 st P (oLoad T.impl_Step t3) w17 fun t44 w18 =>
 st P (oCall Fn.spec_Mem_speaksNames #[t0, t44]) w18 fun t45 w19 =>
 K (tup [t45]) w19) (
 k2 [] w17)
def J_spec_Mem_Speaks_3 (t0 : Value) (t3 : Value) (K : Value → World → Prop) (s1 : List Value) (u1 : Env) (w2 : World) : Prop :=
 jn (J_spec_Mem_Speaks_1 t0 t3 K) fun k2 =>
 pu P (oFldA T.impl_Step t3 0) fun t23 =>
 st P (oLoad T.int t23) w2 fun t24 w8 =>
 pu P (oBin .geq T.int false true t24 (.int .i64 0)) fun t25 =>
 gd t25 true w8 (fun K5 => pu P (oFldA T.impl_Step t3 0) fun v => K5 v w8) fun t27 w9 =>
 gd t25 true w9 (fun K6 => st P (oLoad T.int t27) w9 K6) fun t28 w10 =>
 gd t25 true w10 (fun K7 => pu P (oBin .leq T.int false true t28 (.int .i64 2)) fun v => K7 v w10) fun t29 w11 =>
 pu P (oPick t25 t29 (.bool false)) fun t30 =>
 cd t30 (
 st P (oLoad T.impl_Step t3) w11 fun t32 w12 =>
 st P (oCall Fn.spec_Mem_speaksOpen #[t0, t32]) w12 fun t33 w13 =>
 K (tup [t33]) w13) (J_spec_Mem_Speaks_2 t3 w11 t0 K k2)
def F_spec_Mem_Speaks (t0 t1 : Value) (w : World) (K : Value → World → Prop) : Prop :=
 st P (oBox T.impl_Step t1) w fun t3 w1 =>
 jn (J_spec_Mem_Speaks_3 t0 t3 K) fun k1 =>
 pu P (oFldA T.impl_Step t3 1) fun t6 =>
 st P (oLoad T.string t6) w1 fun t7 w20 =>
 pu P (oBuiltin .len #[T.string] T.int #[false] #[t7]) fun t8 =>
 pu P (oBin .gtr T.int false true t8 (.int .i64 400)) fun t9 =>
 gd t9 false w20 (fun K11 => pu P (oFldA T.impl_Step t3 2) fun v => K11 v w20) fun t11 w21 =>
 gd t9 false w21 (fun K12 => st P (oLoad T.string t11) w21 K12) fun t12 w22 =>
 gd t9 false w22 (fun K13 => pu P (oBuiltin .len #[T.string] T.int #[false] #[t12]) fun v => K13 v w22) fun t13 w23 =>
 gd t9 false w23 (fun K14 => pu P (oBin .gtr T.int false true t13 (.int .i64 400)) fun v => K14 v w23) fun t14 w24 =>
 pu P (oPick t9 (.bool true) t14) fun t15 =>
 gd t15 false w24 (fun K15 => pu P (oFldA T.impl_Step t3 6) fun v => K15 v w24) fun t17 w25 =>
 gd t15 false w25 (fun K16 => st P (oLoad T.sl_uint8 t17) w25 K16) fun t18 w26 =>
 gd t15 false w26 (fun K17 => pu P (oBuiltin .len #[T.sl_uint8] T.int #[false] #[t18]) fun v => K17 v w26) fun t19 w27 =>
 gd t15 false w27 (fun K18 => pu P (oBin .gtr T.int false true t19 (.int .i64 4096)) fun v => K18 v w27) fun t20 w28 =>
 pu P (oPick t15 (.bool true) t20) fun t21 =>
 cd t21 (
 K (tup [(.bool false)]) w28) (
 k1 [] w28)
def Tb_spec_Mem_Speaks : Tab := { join := fun n => match n with | _ => [], loop := fun n => match n with | _ => [] }
theorem S_spec_Mem_Speaks {t0 t1 : Value} {w : World} {K : Value → World → Prop} (h : F_spec_Mem_Speaks t0 t1 w K) : Cl P Fn.spec_Mem_Speaks #[t0, t1] w K :=
  cl_of_eq (T := Tb_spec_Mem_Speaks) (args := [t0, t1]) Tryd.func22 rfl follows_mixed (by kernel_rfl) (Nat.le_of_ble_eq_true (by kernel_rfl)) (by kernel_rfl) h
def F_laws_onFile (t0 : Value) (w : World) (K : Value → World → Prop) : Prop :=
 st P (oBox T.impl_Step t0) w fun t1 w1 =>
 pu P (oFldA T.impl_Step t1 0) fun t3 =>
 st P (oLoad T.int t3) w1 fun t4 w2 =>
 pu P (oBin .geq T.int false true t4 (.int .i64 12)) fun t5 =>
 gd t5 true w2 (fun K1 => pu P (oFldA T.impl_Step t1 0) fun v => K1 v w2) fun t7 w3 =>
 gd t5 true w3 (fun K2 => st P (oLoad T.int t7) w3 K2) fun t8 w4 =>
 gd t5 true w4 (fun K3 => pu P (oBin .leq T.int false true t8 (.int .i64 23)) fun v => K3 v w4) fun t9 w5 =>
 pu P (oPick t5 t9 (.bool false)) fun t10 =>
 K (tup [t10]) w5
def Tb_laws_onFile : Tab := { join := fun n => match n with | _ => [], loop := fun n => match n with | _ => [] }
theorem S_laws_onFile {t0 : Value} {w : World} {K : Value → World → Prop} (h : F_laws_onFile t0 w K) : Cl P Fn.laws_onFile #[t0] w K :=
  cl_of_eq (T := Tb_laws_onFile) (args := [t0]) Tryd.func23 rfl follows_mixed (by kernel_rfl) (Nat.le_of_ble_eq_true (by kernel_rfl)) (by kernel_rfl) h
def J_spec_Mem_Do_1 (t5 : Value) (t0 : Value) (t39 : Value) (t6 : Value) (K : Value → World → Prop) (s2 : List Value) (u2 : Env) (w4 : World) : Prop :=
 st P (oLoad T.impl_Step t5) w4 fun t55 w5 =>
 st P (oCall Fn.spec_Mem_file #[t0, t39, t55]) w5 fun t56 w6 =>
 st P (oStore T.impl_Answer t6 t56) w6 fun _ w7 =>
 rsl P T.impl_Answer t6 w7 fun r1 =>
 K (tup [r1]) w7
def J_spec_Mem_Do_2 (t0 : Value) (t5 : Value) (t6 : Value) (K : Value → World → Prop) (s1 : List Value) (u1 : Env) (w3 : World) : Prop :=
 pu P (oNil t0) fun t34 =>
 pu P (oFldA T.spec_Mem t34 3) fun t35 =>
 rd P (oLoad T.map_int_p_spec_MemHandle t35) w3.drew fun t36 =>
 pu P (oFldA T.impl_Step t5 5) fun t37 =>
 rd P (oLoad T.int t37) w3.drew fun t38 =>
 rd P (oLookup T.map_int_p_spec_MemHandle t36 t38 false) w3.drew fun t39 =>
 jn (J_spec_Mem_Do_1 t5 t0 t39 t6 K) fun k2 =>
 pu P (oBin .eql T.p_spec_MemHandle false true t39 (.pointer none)) fun t41 =>
 gd t41 false w3.drew (fun K1 => pu P (oFldA T.impl_Step t5 0) fun v => K1 v w3.drew) fun t43 w8 =>
 gd t41 false w8 (fun K2 => st P (oLoad T.int t43) w8 K2) fun t44 w9 =>
 gd t41 false w9 (fun K3 => pu P (oBin .lss T.int false true t44 (.int .i64 12)) fun v => K3 v w9) fun t45 w10 =>
 pu P (oPick t41 (.bool true) t45) fun t46 =>
 gd t46 false w10 (fun K4 => pu P (oFldA T.impl_Step t5 0) fun v => K4 v w10) fun t48 w11 =>
 gd t46 false w11 (fun K5 => st P (oLoad T.int t48) w11 K5) fun t49 w12 =>
 gd t46 false w12 (fun K6 => pu P (oBin .gtr T.int false true t49 (.int .i64 23)) fun v => K6 v w12) fun t50 w13 =>
 pu P (oPick t46 (.bool true) t50) fun t51 =>
 cd t51 (
 pu P (oBuild T.impl_Answer #[(0, (.int .i64 13))]) fun t52 =>
 st P (oStore T.impl_Answer t6 t52) w13 fun _ w14 =>
 rsl P T.impl_Answer t6 w14 fun r2 =>
 K (tup [r2]) w14) (
 k2 [] w13)
def J_spec_Mem_Do_3 (t5 : Value) (w18 : World) (t0 : Value) (t6 : Value) (K : Value → World → Prop) (k1 : List Value → World → Prop) : Prop :=
 pu P (oFldA T.impl_Step t5 0) fun t22 =>
 st P (oLoad T.int t22) w18 fun t23 w22 =>
 pu P (oBin .geq T.int false true t23 (.int .i64 3)) fun t24 =>
 gd t24 true w22 (fun K10 => pu P (oFldA T.impl_Step t5 0) fun v => K10 v w22) fun t26 w23 =>
 gd t24 true w23 (fun K11 => st P (oLoad T.int t26) w23 K11) fun t27 w24 =>
 gd t24 true w24 (fun K12 => pu P (oBin .leq T.int false true t27 (.int .i64 11)) fun v => K12 v w24) fun t28 w25 =>
 pu P (oPick t24 t28 (.bool false)) fun t29 =>
 cd t29 (
 st P (oLoad T.impl_Step t5) w25 fun t31 w26 =>
 st P (oCall Fn.spec_Mem_names #[t0, t31]) w26 fun t32 w27 =>
 st P (oStore T.impl_Answer t6 t32) w27 fun _ w28 =>
 rsl P T.impl_Answer t6 w28 fun r4 =>
 K (tup [r4]) w28) (
 k1 [] w25)
def F_spec_Mem_Do (t0 t1 t2 : Value) (w : World) (K : Value → World → Prop) : Prop :=
 st P (oBox T.impl_Step t2) w fun t5 w1 =>
 st P (oAlloc T.impl_Answer) w1 fun t6 w2 =>
 jn (J_spec_Mem_Do_2 t0 t5 t6 K) fun k1 =>
 pu P (oFldA T.impl_Step t5 0) fun t9 =>
 st P (oLoad T.int t9) w2 fun t10 w15 =>
 pu P (oBin .geq T.int false true t10 (.int .i64 0)) fun t11 =>
 gd t11 true w15 (fun K7 => pu P (oFldA T.impl_Step t5 0) fun v => K7 v w15) fun t13 w16 =>
 gd t11 true w16 (fun K8 => st P (oLoad T.int t13) w16 K8) fun t14 w17 =>
 gd t11 true w17 (fun K9 => pu P (oBin .leq T.int false true t14 (.int .i64 2)) fun v => K9 v w17) fun t15 w18 =>
 pu P (oPick t11 t15 (.bool false)) fun t16 =>
 cd t16 (
 st P (oLoad T.impl_Step t5) w18 fun t19 w19 =>
 st P (oCall Fn.spec_Mem_open #[t0, t1, t19]) w19 fun t20 w20 =>
 st P (oStore T.impl_Answer t6 t20) w20 fun _ w21 =>
 rsl P T.impl_Answer t6 w21 fun r3 =>
 K (tup [r3]) w21) (J_spec_Mem_Do_3 t5 w18 t0 t6 K k1)
def Tb_spec_Mem_Do : Tab := { join := fun n => match n with | _ => [], loop := fun n => match n with | _ => [] }
theorem S_spec_Mem_Do {t0 t1 t2 : Value} {w : World} {K : Value → World → Prop} (h : F_spec_Mem_Do t0 t1 t2 w K) : Cl P Fn.spec_Mem_Do #[t0, t1, t2] w K :=
  cl_of_eq (T := Tb_spec_Mem_Do) (args := [t0, t1, t2]) Tryd.func24 rfl follows_mixed (by kernel_rfl) (Nat.le_of_ble_eq_true (by kernel_rfl)) (by kernel_rfl) h
def F_mem_DoorWith (t0 t1 : Value) (w : World) (K : Value → World → Prop) : Prop :=
 st P (oCall Fn.mem_CreateFile #[t0]) w fun t7 w1 =>
 pu P (oNil t7) fun t10 =>
 pu P (oFldA T.mem_FileData t10 1) fun t11 =>
 st P (oStore T.sl_uint8 t11 t1) w1 fun _ w2 =>
 K (tup [t7]) w2
def Tb_mem_DoorWith : Tab := { join := fun n => match n with | _ => [], loop := fun n => match n with | _ => [] }
theorem S_mem_DoorWith {t0 t1 : Value} {w : World} {K : Value → World → Prop} (h : F_mem_DoorWith t0 t1 w K) : Cl P Fn.mem_DoorWith #[t0, t1] w K :=
  cl_of_eq (T := Tb_mem_DoorWith) (args := [t0, t1]) Tryd.func25 rfl follows_mixed (by kernel_rfl) (Nat.le_of_ble_eq_true (by kernel_rfl)) (by kernel_rfl) h
def F_mem_NewFileHandle (t0 : Value) (w : World) (K : Value → World → Prop) : Prop :=
 pu P (oBuild T.mem_File #[(4, t0)]) fun t4 =>
 st P (oBox T.mem_File t4) w fun t5 w1 =>
 K (tup [t5]) w1
def Tb_mem_NewFileHandle : Tab := { join := fun n => match n with | _ => [], loop := fun n => match n with | _ => [] }
theorem S_mem_NewFileHandle {t0 : Value} {w : World} {K : Value → World → Prop} (h : F_mem_NewFileHandle t0 w K) : Cl P Fn.mem_NewFileHandle #[t0] w K :=
  cl_of_eq (T := Tb_mem_NewFileHandle) (args := [t0]) Tryd.func26 rfl follows_mixed (by kernel_rfl) (Nat.le_of_ble_eq_true (by kernel_rfl)) (by kernel_rfl) h
def F_mem_NewReadOnlyFileHandle (t0 : Value) (w : World) (K : Value → World → Prop) : Prop :=
 pu P (oBuild T.mem_File #[(4, t0), (3, (.bool true))]) fun t4 =>
 st P (oBox T.mem_File t4) w fun t5 w1 =>
 K (tup [t5]) w1
def Tb_mem_NewReadOnlyFileHandle : Tab := { join := fun n => match n with | _ => [], loop := fun n => match n with | _ => [] }
theorem S_mem_NewReadOnlyFileHandle {t0 : Value} {w : World} {K : Value → World → Prop} (h : F_mem_NewReadOnlyFileHandle t0 w K) : Cl P Fn.mem_NewReadOnlyFileHandle #[t0] w K :=
  cl_of_eq (T := Tb_mem_NewReadOnlyFileHandle) (args := [t0]) Tryd.func27 rfl follows_mixed (by kernel_rfl) (Nat.le_of_ble_eq_true (by kernel_rfl)) (by kernel_rfl) h
def J_impl_on_1 (t5 : Value) (t4 : Value) (K : Value → World → Prop) (s1 : List Value) (u1 : Env) (w5 : World) : Prop :=
 st P (oCall Fn.impl_kind #[(gs s1 0)]) w5 fun t143 w6 =>
 pu P (oFldA T.impl_Answer t5 0) fun t144 =>
 st P (oStore T.int t144 t143) w6 fun _ w7 =>
 st P (oLoad T.impl_Answer t5) w7 fun t145 w8 =>
 st P (oStore T.impl_Answer t4 t145) w8 fun _ w9 =>
 rsl P T.impl_Answer t4 w9 fun r1 =>
 K (tup [r1]) w9
def J_impl_on_2 (t3 : Value) (w10 : World) (t0 : Value) (t5 : Value) (k1 : List Value → World → Prop) : Prop :=
 pu P (oFldA T.impl_Step t3 9) fun t19 =>
 st P (oLoad T.int t19) w10 fun t20 w11 =>
 pu P (oBuiltin .min #[T.int, T.int] T.int #[false, true] #[t20, (.int .i64 1048576)]) fun t21 =>
 pu P (oBuiltin .max #[T.int, T.int] T.int #[true, false] #[(.int .i64 0), t21]) fun t22 =>
 st P (oMkSlice T.sl_uint8 t22 t22) w11 fun t23 w12 =>
 st P (oCall Fn.mem_File_Read #[t0, t23]) w12 fun t27 w13 =>
 pu P (oExtract t27 0) fun t28 =>
 pu P (oExtract t27 1) fun t29 =>
 pu P (oSlice T.sl_uint8 t23 none (some t28) none) fun t32 =>
 pu P (oFldA T.impl_Answer t5 3) fun t33 =>
 st P (oStore T.sl_uint8 t33 t32) w13 fun _ w14 =>
 k1 [t29] w14
def J_impl_on_3 (t3 : Value) (w10 : World) (t0 : Value) (t5 : Value) (k1 : List Value → World → Prop) : Prop :=
 pu P (oFldA T.impl_Step t3 9) fun t36 =>
 st P (oLoad T.int t36) w10 fun t37 w15 =>
 pu P (oBuiltin .min #[T.int, T.int] T.int #[false, true] #[t37, (.int .i64 1048576)]) fun t38 =>
 pu P (oBuiltin .max #[T.int, T.int] T.int #[true, false] #[(.int .i64 0), t38]) fun t39 =>
 st P (oMkSlice T.sl_uint8 t39 t39) w15 fun t40 w16 =>
 pu P (oFldA T.impl_Step t3 7) fun t44 =>
 st P (oLoad T.int64 t44) w16 fun t45 w17 =>
 st P (oCall Fn.mem_File_ReadAt #[t0, t40, t45]) w17 fun t46 w18 =>
 pu P (oExtract t46 0) fun t47 =>
 pu P (oExtract t46 1) fun t48 =>
 pu P (oSlice T.sl_uint8 t40 none (some t47) none) fun t51 =>
 pu P (oFldA T.impl_Answer t5 3) fun t52 =>
 st P (oStore T.sl_uint8 t52 t51) w18 fun _ w19 =>
 k1 [t48] w19
def J_impl_on_4 (t3 : Value) (w10 : World) (t0 : Value) (t5 : Value) (k1 : List Value → World → Prop) : Prop :=
 pu P (oFldA T.impl_Step t3 6) fun t57 =>
 st P (oLoad T.sl_uint8 t57) w10 fun t58 w20 =>
 st P (oBuiltin .append #[T.sl_uint8, T.sl_uint8] T.sl_uint8 #[true, false] #[(.slice none 0 0), t58]) w20 fun t59 w21 =>
 st P (oCall Fn.mem_File_Write #[t0, t59]) w21 fun t60 w22 =>
 pu P (oExtract t60 0) fun t61 =>
 pu P (oExtract t60 1) fun t62 =>
 pu P (oFldA T.impl_Answer t5 1) fun t63 =>
 st P (oStore T.int t63 t61) w22 fun _ w23 =>
 k1 [t62] w23
def J_impl_on_5 (t3 : Value) (w10 : World) (t0 : Value) (t5 : Value) (k1 : List Value → World → Prop) : Prop :=
 pu P (oFldA T.impl_Step t3 6) fun t68 =>
 rd P (oLoad T.sl_uint8 t68) w10.drew fun t69 =>
 pu P (oFldA T.impl_Step t3 7) fun t71 =>
 rd P (oLoad T.int64 t71) w10.drew fun t72 =>
 st P (oBuiltin .append #[T.sl_uint8, T.sl_uint8] T.sl_uint8 #[true, false] #[(.slice none 0 0), t69]) w10.drew fun t70 w24 =>
 hold P (oLoad T.int64 t71) t72 w24 ∧ st P (oCall Fn.mem_File_WriteAt #[t0, t70, t72]) w24 fun t73 w25 =>
 pu P (oExtract t73 0) fun t74 =>
 pu P (oExtract t73 1) fun t75 =>
 pu P (oFldA T.impl_Answer t5 1) fun t76 =>
 st P (oStore T.int t76 t74) w25 fun _ w26 =>
 k1 [t75] w26
def J_impl_on_6 (t3 : Value) (w10 : World) (t0 : Value) (t5 : Value) (k1 : List Value → World → Prop) : Prop :=
 pu P (oFldA T.impl_Step t3 7) fun t81 =>
 st P (oLoad T.int64 t81) w10 fun t82 w27 =>
 pu P (oFldA T.impl_Step t3 8) fun t83 =>
 st P (oLoad T.int t83) w27 fun t84 w28 =>
 st P (oCall Fn.mem_File_Seek #[t0, t82, t84]) w28 fun t85 w29 =>
 pu P (oExtract t85 0) fun t86 =>
 pu P (oExtract t85 1) fun t87 =>
 pu P (oFldA T.impl_Answer t5 2) fun t88 =>
 st P (oStore T.int64 t88 t86) w29 fun _ w30 =>
 k1 [t87] w30
def J_impl_on_7 (t3 : Value) (w10 : World) (t0 : Value) (t5 : Value) (k1 : List Value → World → Prop) : Prop :=
 pu P (oFldA T.impl_Step t3 9) fun t103 =>
 st P (oLoad T.int t103) w10 fun t104 w34 =>
 st P (oCall Fn.mem_File_Readdir #[t0, t104]) w34 fun t105 w35 =>
 pu P (oExtract t105 0) fun t106 =>
 pu P (oExtract t105 1) fun t107 =>
 st P (oCall Fn.impl_fromInfos #[t106]) w35 fun t109 w36 =>
 pu P (oFldA T.impl_Answer t5 5) fun t110 =>
 st P (oStore T.sl_impl_Info t110 t109) w36 fun _ w37 =>
 k1 [t107] w37
def J_impl_on_8 (t3 : Value) (w10 : World) (t0 : Value) (t5 : Value) (k1 : List Value → World → Prop) : Prop :=
 pu P (oFldA T.impl_Step t3 9) fun t115 =>
 st P (oLoad T.int t115) w10 fun t116 w38 =>
 st P (oCall Fn.mem_File_Readdirnames #[t0, t116]) w38 fun t117 w39 =>
 pu P (oExtract t117 0) fun t118 =>
 pu P (oExtract t117 1) fun t119 =>
 pu P (oFldA T.impl_Answer t5 4) fun t120 =>
 st P (oStore T.sl_string t120 t118) w39 fun _ w40 =>
 k1 [t119] w40
def J_impl_on_9 (t0 : Value) (w10 : World) (t5 : Value) (k1 : List Value → World → Prop) : Prop :=
 st P (oCall Fn.mem_File_Stat #[t0]) w10 fun t125 w41 =>
 pu P (oExtract t125 0) fun t126 =>
 pu P (oExtract t125 1) fun t127 =>
 st P (oBuildSlice T.sl_p_mem_FileInfo 1 #[(0, t126)]) w41 fun t129 w42 =>
 st P (oCall Fn.impl_fromInfos #[t129]) w42 fun t130 w43 =>
 pu P (oFldA T.impl_Answer t5 5) fun t131 =>
 st P (oStore T.sl_impl_Info t131 t130) w43 fun _ w44 =>
 k1 [t127] w44
def J_impl_on_10 (t15 : Value) (t0 : Value) (w10 : World) (k1 : List Value → World → Prop) (t4 : Value) (K : Value → World → Prop) : Prop :=
 pu P (oBin .eql T.int false true t15 (.int .i64 23)) fun t139 =>
 cd t139 (
 st P (oCall Fn.mem_File_Sync #[t0]) w10 fun t141 w48 =>
 k1 [t141] w48) (
 pu P (oBuild T.impl_Answer #[(0, (.int .i64 13))]) fun t16 =>
 st P (oStore T.impl_Answer t4 t16) w10 fun _ w49 =>
 rsl P T.impl_Answer t4 w49 fun r2 =>
 K (tup [r2]) w49)
def J_impl_on_11 (t15 : Value) (t0 : Value) (w10 : World) (t5 : Value) (k1 : List Value → World → Prop) (t4 : Value) (K : Value → World → Prop) : Prop :=
 pu P (oBin .eql T.int false true t15 (.int .i64 22)) fun t133 =>
 cd t133 (
 st P (oCall Fn.mem_File_Name #[t0]) w10 fun t135 w45 =>
 st P (oBuildSlice T.sl_string 1 #[(0, t135)]) w45 fun t136 w46 =>
 pu P (oFldA T.impl_Answer t5 4) fun t137 =>
 st P (oStore T.sl_string t137 t136) w46 fun _ w47 =>
 k1 [.nilIface] w47) (J_impl_on_10 t15 t0 w10 k1 t4 K)
def J_impl_on_12 (t15 : Value) (t0 : Value) (w10 : World) (t5 : Value) (k1 : List Value → World → Prop) (t4 : Value) (K : Value → World → Prop) : Prop :=
 pu P (oBin .eql T.int false true t15 (.int .i64 21)) fun t122 =>
 cd t122 (J_impl_on_9 t0 w10 t5 k1) (J_impl_on_11 t15 t0 w10 t5 k1 t4 K)
def J_impl_on_13 (t15 : Value) (t3 : Value) (w10 : World) (t0 : Value) (t5 : Value) (k1 : List Value → World → Prop) (t4 : Value) (K : Value → World → Prop) : Prop :=
 pu P (oBin .eql T.int false true t15 (.int .i64 20)) fun t112 =>
 cd t112 (J_impl_on_8 t3 w10 t0 t5 k1) (J_impl_on_12 t15 t0 w10 t5 k1 t4 K)
def J_impl_on_14 (t15 : Value) (t3 : Value) (w10 : World) (t0 : Value) (t5 : Value) (k1 : List Value → World → Prop) (t4 : Value) (K : Value → World → Prop) : Prop :=
 pu P (oBin .eql T.int false true t15 (.int .i64 19)) fun t100 =>
 cd t100 (J_impl_on_7 t3 w10 t0 t5 k1) (J_impl_on_13 t15 t3 w10 t0 t5 k1 t4 K)
def J_impl_on_15 (t15 : Value) (t0 : Value) (w10 : World) (k1 : List Value → World → Prop) (t3 : Value) (t5 : Value) (t4 : Value) (K : Value → World → Prop) : Prop :=
 pu P (oBin .eql T.int false true t15 (.int .i64 18)) fun t96 =>
 cd t96 (
 st P (oCall Fn.mem_File_Close #[t0]) w10 fun t98 w33 =>
 k1 [t98] w33) (J_impl_on_14 t15 t3 w10 t0 t5 k1 t4 K)
def J_impl_on_16 (t15 : Value) (t3 : Value) (w10 : World) (t0 : Value) (k1 : List Value → World → Prop) (t5 : Value) (t4 : Value) (K : Value → World → Prop) : Prop :=
 pu P (oBin .eql T.int false true t15 (.int .i64 17)) fun t90 =>
 cd t90 (
 pu P (oFldA T.impl_Step t3 7) fun t92 =>
 st P (oLoad T.int64 t92) w10 fun t93 w31 =>
 st P (oCall Fn.mem_File_Truncate #[t0, t93]) w31 fun t94 w32 =>
 k1 [t94] w32) (J_impl_on_15 t15 t0 w10 k1 t3 t5 t4 K)
def J_impl_on_17 (t15 : Value) (t3 : Value) (w10 : World) (t0 : Value) (t5 : Value) (k1 : List Value → World → Prop) (t4 : Value) (K : Value → World → Prop) : Prop :=
 pu P (oBin .eql T.int false true t15 (.int .i64 16)) fun t78 =>
 cd t78 (J_impl_on_6 t3 w10 t0 t5 k1) (J_impl_on_16 t15 t3 w10 t0 k1 t5 t4 K)
def J_impl_on_18 (t15 : Value) (t3 : Value) (w10 : World) (t0 : Value) (t5 : Value) (k1 : List Value → World → Prop) (t4 : Value) (K : Value → World → Prop) : Prop :=
 pu P (oBin .eql T.int false true t15 (.int .i64 15)) fun t65 =>
 cd t65 (J_impl_on_5 t3 w10 t0 t5 k1) (J_impl_on_17 t15 t3 w10 t0 t5 k1 t4 K)
def J_impl_on_19 (t15 : Value) (t3 : Value) (w10 : World) (t0 : Value) (t5 : Value) (k1 : List Value → World → Prop) (t4 : Value) (K : Value → World → Prop) : Prop :=
 pu P (oBin .eql T.int false true t15 (.int .i64 14)) fun t54 =>
 cd t54 (J_impl_on_4 t3 w10 t0 t5 k1) (J_impl_on_18 t15 t3 w10 t0 t5 k1 t4 K)
def J_impl_on_20 (t15 : Value) (t3 : Value) (w10 : World) (t0 : Value) (t5 : Value) (k1 : List Value → World → Prop) (t4 : Value) (K : Value → World → Prop) : Prop :=
 pu P (oBin .eql T.int false true t15 (.int .i64 13)) fun t35 =>
 cd t35 (J_impl_on_3 t3 w10 t0 t5 k1) (J_impl_on_19 t15 t3 w10 t0 t5 k1 t4 K)
def F_impl_on (t0 t1 : Value) (w : World) (K : Value → World → Prop) : Prop :=
 st P (oBox T.impl_Step t1) w fun t3 w1 =>
 st P (oAlloc T.impl_Answer) w1 fun t4 w2 =>
 pu P (oBuild T.impl_Answer #[]) fun t13 =>
 st P (oAlloc T.impl_Answer) w2 fun t5 w3 =>
 st P (oStore T.impl_Answer t5 t13) w3 fun _ w4 =>
 jn (J_impl_on_1 t5 t4 K) fun k1 =>
 pu P (oFldA T.impl_Step t3 0) fun t14 =>
 st P (oLoad T.int t14) w4 fun t15 w10 =>
 pu P (oBin .eql T.int false true t15 (.int .i64 12)) fun t18 =>
 cd t18 (J_impl_on_2 t3 w10 t0 t5 k1) (J_impl_on_20 t15 t3 w10 t0 t5 k1 t4 K)
def Tb_impl_on : Tab := { join := fun n => match n with | 39 => [6] | _ => [], loop := fun n => match n with | _ => [] }
theorem S_impl_on {t0 t1 : Value} {w : World} {K : Value → World → Prop} (h : F_impl_on t0 t1 w K) : Cl P Fn.impl_on #[t0, t1] w K :=
  cl_of_eq (T := Tb_impl_on) (args := [t0, t1]) Tryd.func28 rfl follows_mixed (by kernel_rfl) (Nat.le_of_ble_eq_true (by kernel_rfl)) (by kernel_rfl) h
def F_mem_FileData_DoorBytes (t0 : Value) (w : World) (K : Value → World → Prop) : Prop :=
 pu P (oNil t0) fun t4 =>
 pu P (oFldA T.mem_FileData t4 1) fun t5 =>
 st P (oLoad T.sl_uint8 t5) w fun t6 w1 =>
 K (tup [t6]) w1
def Tb_mem_FileData_DoorBytes : Tab := { join := fun n => match n with | _ => [], loop := fun n => match n with | _ => [] }
theorem S_mem_FileData_DoorBytes {t0 : Value} {w : World} {K : Value → World → Prop} (h : F_mem_FileData_DoorBytes t0 w K) : Cl P Fn.mem_FileData_DoorBytes #[t0] w K :=
  cl_of_eq (T := Tb_mem_FileData_DoorBytes) (args := [t0]) Tryd.func29 rfl follows_mixed (by kernel_rfl) (Nat.le_of_ble_eq_true (by kernel_rfl)) (by kernel_rfl) h
end Go.Proofs.YteblpejgenehfaaDoor.X
end
section
namespace Go.Proofs.YteblpejgenehfaaDoor.X
open Go Go.X Go.Proofs
def F_spec_NewMem (w : World) (K : Value → World → Prop) : Prop :=
 st P (oBuildSlice T.sl_string 1 #[(0, (S [47]))]) w fun t1 w1 =>
 st P (oBuildSlice T.sl_int 1 #[(0, (.int .i64 0))]) w1 fun t2 w2 =>
 pu P (oBuild T.spec_MemNode #[(0, (.bool true)), (1, (.int .i64 2147484141)), (4, (S [47]))]) fun t3 =>
 st P (oBuildSlice T.sl_spec_MemNode 1 #[(0, t3)]) w2 fun t4 w3 =>
 st P (oMkMap T.map_int_p_spec_MemHandle none) w3 fun t5 w4 =>
 pu P (oBuild T.spec_Mem #[(0, t1), (1, t2), (2, t4), (3, t5)]) fun t6 =>
 st P (oBox T.spec_Mem t6) w4 fun t7 w5 =>
 K (tup [t7]) w5
def Tb_spec_NewMem : Tab := { join := fun n => match n with | _ => [], loop := fun n => match n with | _ => [] }
theorem S_spec_NewMem {w : World} {K : Value → World → Prop} (h : F_spec_NewMem  w K) : Cl P Fn.spec_NewMem #[] w K :=
  cl_of_eq (T := Tb_spec_NewMem) (args := []) Tryd.func34 rfl follows_mixed (by kernel_rfl) (Nat.le_of_ble_eq_true (by kernel_rfl)) (by kernel_rfl) h
def J_spec_Mem_speaksOpen_1 (t3 : Value) (t16 : Value) (t0 : Value) (t10 : Value) (K : Value → World → Prop) (s1 : List Value) (u1 : Env) (w5 : World) : Prop :=
 pu P (oFldA T.impl_Step t3 3) fun t39 =>
 st P (oLoad T.int t39) w5 fun t40 w6 =>
 pu P (oBin .andNot T.int false true t40 (.int .i64 1731)) fun t41 =>
 pu P (oBin .eql T.int false true t41 (.int .i64 0)) fun t42 =>
 gd t42 true w6 (fun K1 => K1 t16 w6) fun t44 w7 =>
 gd t42 true w7 (fun K2 => K2 t44 w7) fun t45 w8 =>
 gd t45 false w8 (fun K3 => pu P (oFldA T.impl_Step t3 3) fun v => K3 v w8) fun t46 w9 =>
 gd t45 false w9 (fun K4 => st P (oLoad T.int t46) w9 K4) fun t47 w10 =>
 gd t45 false w10 (fun K5 => pu P (oBin .and T.int false true t47 (.int .i64 64)) fun v => K5 v w10) fun t48 w11 =>
 gd t45 false w11 (fun K6 => pu P (oBin .eql T.int false true t48 (.int .i64 0)) fun v => K6 v w11) fun t49 w12 =>
 gd t42 true w12 (fun K7 => pu P (oPick t45 (.bool true) t49) fun v => K7 v w12) fun t50 w13 =>
 gd t42 true w13 (fun K8 => K8 t50 w13) fun t51 w14 =>
 gd t51 false w14 (fun K9 => K9 t0 w14) fun t52 w15 =>
 gd t51 false w15 (fun K10 => K10 t10 w15) fun t53 w16 =>
 gd t51 false w16 (fun K11 => st P (oCall Fn.spec_Mem_clear #[t52, t53]) w16 K11) fun t54 w17 =>
 gd t42 true w17 (fun K12 => pu P (oPick t51 (.bool true) t54) fun v => K12 v w17) fun t55 w18 =>
 pu P (oPick t42 t55 (.bool false)) fun t56 =>
 gd t56 true w18 (fun K13 => K13 t0 w18) fun t58 w19 =>
 gd t56 true w19 (fun K14 => K14 t10 w19) fun t59 w20 =>
 gd t56 true w20 (fun K15 => st P (oCall Fn.spec_Mem_isDir #[t58, t59]) w20 K15) fun t60 w21 =>
 gd t56 true w21 (fun K16 => K16 t60 w21) fun t61 w22 =>
 gd t61 true w22 (fun K17 => pu P (oFldA T.impl_Step t3 3) fun v => K17 v w22) fun t62 w23 =>
 gd t61 true w23 (fun K18 => st P (oLoad T.int t62) w23 K18) fun t63 w24 =>
 gd t61 true w24 (fun K19 => pu P (oBin .and T.int false true t63 (.int .i64 512)) fun v => K19 v w24) fun t64 w25 =>
 gd t61 true w25 (fun K20 => pu P (oBin .neq T.int false true t64 (.int .i64 0)) fun v => K20 v w25) fun t65 w26 =>
 gd t56 true w26 (fun K21 => pu P (oPick t61 t65 (.bool false)) fun v => K21 v w26) fun t66 w27 =>
 gd t56 true w27 (fun K22 => pu P (oUn .not t66) fun v => K22 v w27) fun t67 w28 =>
 pu P (oPick t56 t67 (.bool false)) fun t68 =>
 K (tup [t68]) w28
def J_spec_Mem_speaksOpen_2 (t0 : Value) (t10 : Value) (w31 : World) (K : Value → World → Prop) : Prop :=
 st P (oCall Fn.spec_Mem_isDir #[t0, t10]) w31 fun t28 w32 =>
 pu P (oUn .not t28) fun t29 =>
 gd t29 true w32 (fun K23 => K23 t0 w32) fun t31 w33 =>
 gd t29 true w33 (fun K24 => K24 t10 w33) fun t32 w34 =>
 gd t29 true w34 (fun K25 => st P (oCall Fn.spec_Mem_clear #[t31, t32]) w34 K25) fun t33 w35 =>
 pu P (oPick t29 t33 (.bool false)) fun t34 =>
 K (tup [t34]) w35
def J_spec_Mem_speaksOpen_3 (t3 : Value) (w30 : World) (t0 : Value) (t10 : Value) (K : Value → World → Prop) (k1 : List Value → World → Prop) : Prop :=
 pu P (oFldA T.impl_Step t3 0) fun t23 =>
 st P (oLoad T.int t23) w30 fun t24 w31 =>
 pu P (oBin .eql T.int false true t24 (.int .i64 0)) fun t25 =>
 cd t25 (J_spec_Mem_speaksOpen_2 t0 t10 w31 K) (
 pu P (oFldA T.impl_Step t3 0) fun t36 =>
 st P (oLoad T.int t36) w31 fun t37 w36 =>
 pu P (oBin .eql T.int false true t37 (.int .i64 1)) fun t38 =>
 cd t38 (
 K (tup [(.bool true)]) w36) (
 k1 [] w36))
def F_spec_Mem_speaksOpen (t0 t1 : Value) (w : World) (K : Value → World → Prop) : Prop :=
 st P (oBox T.impl_Step t1) w fun t3 w1 =>
 pu P (oFldA T.impl_Step t3 1) fun t8 =>
 st P (oLoad T.string t8) w1 fun t9 w2 =>
 st P (oCall Fn.spec_MemName #[t9]) w2 fun t10 w3 =>
 st P (oCall Fn.spec_Mem_Find #[t0, t10]) w3 fun t14 w4 =>
 pu P (oExtract t14 0) fun t15 =>
 pu P (oExtract t14 1) fun t16 =>
 jn (J_spec_Mem_speaksOpen_1 t3 t16 t0 t10 K) fun k1 =>
 pu P (oFldA T.impl_Step t3 1) fun t18 =>
 st P (oLoad T.string t18) w4 fun t19 w29 =>
 st P (oCall Fn.spec_named #[t19]) w29 fun t20 w30 =>
 pu P (oUn .not t20) fun t21 =>
 cd t21 (
 K (tup [(.bool false)]) w30) (J_spec_Mem_speaksOpen_3 t3 w30 t0 t10 K k1)
def Tb_spec_Mem_speaksOpen : Tab := { join := fun n => match n with | _ => [], loop := fun n => match n with | _ => [] }
theorem S_spec_Mem_speaksOpen {t0 t1 : Value} {w : World} {K : Value → World → Prop} (h : F_spec_Mem_speaksOpen t0 t1 w K) : Cl P Fn.spec_Mem_speaksOpen #[t0, t1] w K :=
  cl_of_eq (T := Tb_spec_Mem_speaksOpen) (args := [t0, t1]) Tryd.func35 rfl follows_mixed (by kernel_rfl) (Nat.le_of_ble_eq_true (by kernel_rfl)) (by kernel_rfl) h
def J_spec_Mem_speaksNames_1 (K : Value → World → Prop) (s1 : List Value) (u1 : Env) (w5 : World) : Prop :=
 K (tup [(.bool true)]) w5
def J_spec_Mem_speaksNames_2 (t17 : Value) (w11 : World) (t0 : Value) (t11 : Value) (K : Value → World → Prop) : Prop :=
 gd t17 false w11 (fun K4 => K4 t0 w11) fun t34 w12 =>
 gd t17 false w12 (fun K5 => K5 t11 w12) fun t35 w13 =>
 gd t17 false w13 (fun K6 => st P (oCall Fn.spec_Mem_clear #[t34, t35]) w13 K6) fun t36 w14 =>
 pu P (oPick t17 (.bool true) t36) fun t37 =>
 K (tup [t37]) w14
def J_spec_Mem_speaksNames_3 (t11 : Value) (w15 : World) (t0 : Value) (K : Value → World → Prop) : Prop :=
 pu P (oBin .neq T.string false true t11 (S [47])) fun t43 =>
 gd t43 true w15 (fun K7 => K7 t0 w15) fun t45 w16 =>
 gd t43 true w16 (fun K8 => K8 t11 w16) fun t46 w17 =>
 gd t43 true w17 (fun K9 => st P (oCall Fn.spec_Mem_Children #[t45, t46]) w17 K9) fun t47 w18 =>
 gd t43 true w18 (fun K10 => pu P (oBuiltin .len #[T.sl_string] T.int #[false] #[t47]) fun v => K10 v w18) fun t48 w19 =>
 gd t43 true w19 (fun K11 => pu P (oBin .eql T.int false true t48 (.int .i64 0)) fun v => K11 v w19) fun t49 w20 =>
 pu P (oPick t43 t49 (.bool false)) fun t50 =>
 K (tup [t50]) w20
def J_spec_Mem_speaksNames_4 (t3 : Value) (w22 : World) (t11 : Value) (t0 : Value) (K : Value → World → Prop) : Prop :=
 pu P (oFldA T.impl_Step t3 2) fun t61 =>
 st P (oLoad T.string t61) w22 fun t62 w23 =>
 st P (oCall Fn.spec_MemName #[t62]) w23 fun t63 w24 =>
 pu P (oFldA T.impl_Step t3 2) fun t64 =>
 st P (oLoad T.string t64) w24 fun t65 w25 =>
 st P (oCall Fn.spec_named #[t65]) w25 fun t66 w26 =>
 gd t66 true w26 (fun K12 => K12 t11 w26) fun t68 w27 =>
 gd t66 true w27 (fun K13 => K13 t63 w27) fun t69 w28 =>
 gd t66 true w28 (fun K14 => pu P (oBin .eql T.string false false t68 t69) fun v => K14 v w28) fun t70 w29 =>
 gd t66 true w29 (fun K15 => K15 t70 w29) fun t71 w30 =>
 gd t71 false w30 (fun K16 => K16 t11 w30) fun t72 w31 =>
 gd t71 false w31 (fun K17 => pu P (oBin .neq T.string false true t72 (S [47])) fun v => K17 v w31) fun t73 w32 =>
 gd t71 false w32 (fun K18 => K18 t73 w32) fun t74 w33 =>
 gd t74 true w33 (fun K19 => K19 t63 w33) fun t75 w34 =>
 gd t74 true w34 (fun K20 => pu P (oBin .neq T.string false true t75 (S [47])) fun v => K20 v w34) fun t76 w35 =>
 gd t71 false w35 (fun K21 => pu P (oPick t74 t76 (.bool false)) fun v => K21 v w35) fun t77 w36 =>
 gd t71 false w36 (fun K22 => K22 t77 w36) fun t78 w37 =>
 gd t78 true w37 (fun K23 => K23 t63 w37) fun t79 w38 =>
 gd t78 true w38 (fun K24 => K24 t11 w38) fun t80 w39 =>
 gd t78 true w39 (fun K25 => st P (oCall Fn.spec_MemBelow #[t79, t80]) w39 K25) fun t81 w40 =>
 gd t78 true w40 (fun K26 => pu P (oUn .not t81) fun v => K26 v w40) fun t82 w41 =>
 gd t71 false w41 (fun K27 => pu P (oPick t78 t82 (.bool false)) fun v => K27 v w41) fun t83 w42 =>
 gd t71 false w42 (fun K28 => K28 t83 w42) fun t84 w43 =>
 gd t84 true w43 (fun K29 => K29 t0 w43) fun t85 w44 =>
 gd t84 true w44 (fun K30 => K30 t63 w44) fun t86 w45 =>
 gd t84 true w45 (fun K31 => st P (oCall Fn.spec_Mem_isDir #[t85, t86]) w45 K31) fun t87 w46 =>
 gd t84 true w46 (fun K32 => pu P (oUn .not t87) fun v => K32 v w46) fun t88 w47 =>
 gd t71 false w47 (fun K33 => pu P (oPick t84 t88 (.bool false)) fun v => K33 v w47) fun t89 w48 =>
 gd t71 false w48 (fun K34 => K34 t89 w48) fun t90 w49 =>
 gd t90 true w49 (fun K35 => K35 t0 w49) fun t91 w50 =>
 gd t90 true w50 (fun K36 => K36 t63 w50) fun t92 w51 =>
 gd t90 true w51 (fun K37 => st P (oCall Fn.spec_Mem_clear #[t91, t92]) w51 K37) fun t93 w52 =>
 gd t71 false w52 (fun K38 => pu P (oPick t90 t93 (.bool false)) fun v => K38 v w52) fun t94 w53 =>
 gd t66 true w53 (fun K39 => pu P (oPick t71 (.bool true) t94) fun v => K39 v w53) fun t95 w54 =>
 pu P (oPick t66 t95 (.bool false)) fun t96 =>
 K (tup [t96]) w54
def J_spec_Mem_speaksNames_5 (t17 : Value) (w55 : World) (t3 : Value) (t11 : Value) (K : Value → World → Prop) : Prop :=
 gd t17 true w55 (fun K40 => pu P (oFldA T.impl_Step t3 1) fun v => K40 v w55) fun t103 w56 =>
 gd t17 true w56 (fun K41 => st P (oLoad T.string t103) w56 K41) fun t104 w57 =>
 gd t17 true w57 (fun K42 => K42 t11 w57) fun t105 w58 =>
 gd t17 true w58 (fun K43 => pu P (oBin .eql T.string false false t104 t105) fun v => K43 v w58) fun t106 w59 =>
 pu P (oPick t17 t106 (.bool false)) fun t107 =>
 K (tup [t107]) w59
def J_spec_Mem_speaksNames_6 (t3 : Value) (w60 : World) (K : Value → World → Prop) : Prop :=
 pu P (oFldA T.impl_Step t3 7) fun t112 =>
 st P (oLoad T.int64 t112) w60 fun t113 w61 =>
 pu P (oBin .geq T.int64 false true t113 (.int .i64 (-1099511627776))) fun t114 =>
 gd t114 true w61 (fun K44 => pu P (oFldA T.impl_Step t3 7) fun v => K44 v w61) fun t116 w62 =>
 gd t114 true w62 (fun K45 => st P (oLoad T.int64 t116) w62 K45) fun t117 w63 =>
 gd t114 true w63 (fun K46 => pu P (oBin .leq T.int64 false true t117 (.int .i64 1099511627776)) fun v => K46 v w63) fun t118 w64 =>
 pu P (oPick t114 t118 (.bool false)) fun t119 =>
 K (tup [t119]) w64
def J_spec_Mem_speaksNames_7 (t3 : Value) (w55 : World) (K : Value → World → Prop) (k1 : List Value → World → Prop) : Prop :=
 pu P (oFldA T.impl_Step t3 0) fun t109 =>
 st P (oLoad T.int t109) w55 fun t110 w60 =>
 pu P (oBin .eql T.int false true t110 (.int .i64 11)) fun t111 =>
 cd t111 (J_spec_Mem_speaksNames_6 t3 w60 K) (
 k1 [] w60)
def J_spec_Mem_speaksNames_8 (t3 : Value) (w22 : World) (t17 : Value) (t11 : Value) (K : Value → World → Prop) (k1 : List Value → World → Prop) : Prop :=
 pu P (oFldA T.impl_Step t3 0) fun t98 =>
 st P (oLoad T.int t98) w22 fun t99 w55 =>
 pu P (oBin .eql T.int false true t99 (.int .i64 10)) fun t100 =>
 cd t100 (J_spec_Mem_speaksNames_5 t17 w55 t3 t11 K) (J_spec_Mem_speaksNames_7 t3 w55 K k1)
def J_spec_Mem_speaksNames_9 (t3 : Value) (w21 : World) (t11 : Value) (t0 : Value) (K : Value → World → Prop) (t17 : Value) (k1 : List Value → World → Prop) : Prop :=
 pu P (oFldA T.impl_Step t3 0) fun t58 =>
 st P (oLoad T.int t58) w21 fun t59 w22 =>
 pu P (oBin .eql T.int false true t59 (.int .i64 7)) fun t60 =>
 cd t60 (J_spec_Mem_speaksNames_4 t3 w22 t11 t0 K) (J_spec_Mem_speaksNames_8 t3 w22 t17 t11 K k1)
def J_spec_Mem_speaksNames_10 (t3 : Value) (w15 : World) (t11 : Value) (K : Value → World → Prop) (t0 : Value) (t17 : Value) (k1 : List Value → World → Prop) : Prop :=
 pu P (oFldA T.impl_Step t3 0) fun t52 =>
 st P (oLoad T.int t52) w15 fun t53 w21 =>
 pu P (oBin .eql T.int false true t53 (.int .i64 6)) fun t54 =>
 cd t54 (
 pu P (oBin .neq T.string false true t11 (S [47])) fun t56 =>
 K (tup [t56]) w21) (J_spec_Mem_speaksNames_9 t3 w21 t11 t0 K t17 k1)
def J_spec_Mem_speaksNames_11 (t3 : Value) (w11 : World) (t11 : Value) (t0 : Value) (K : Value → World → Prop) (t17 : Value) (k1 : List Value → World → Prop) : Prop :=
 pu P (oFldA T.impl_Step t3 0) fun t39 =>
 st P (oLoad T.int t39) w11 fun t40 w15 =>
 pu P (oBin .eql T.int false true t40 (.int .i64 5)) fun t41 =>
 cd t41 (J_spec_Mem_speaksNames_3 t11 w15 t0 K) (J_spec_Mem_speaksNames_10 t3 w15 t11 K t0 t17 k1)
def J_spec_Mem_speaksNames_12 (t3 : Value) (w7 : World) (t17 : Value) (t0 : Value) (t11 : Value) (K : Value → World → Prop) (k1 : List Value → World → Prop) : Prop :=
 pu P (oFldA T.impl_Step t3 0) fun t24 =>
 st P (oLoad T.int t24) w7 fun t25 w8 =>
 pu P (oBin .eql T.int false true t25 (.int .i64 3)) fun t26 =>
 gd t26 false w8 (fun K1 => pu P (oFldA T.impl_Step t3 0) fun v => K1 v w8) fun t28 w9 =>
 gd t26 false w9 (fun K2 => st P (oLoad T.int t28) w9 K2) fun t29 w10 =>
 gd t26 false w10 (fun K3 => pu P (oBin .eql T.int false true t29 (.int .i64 4)) fun v => K3 v w10) fun t30 w11 =>
 pu P (oPick t26 (.bool true) t30) fun t31 =>
 cd t31 (J_spec_Mem_speaksNames_2 t17 w11 t0 t11 K) (J_spec_Mem_speaksNames_11 t3 w11 t11 t0 K t17 k1)
def F_spec_Mem_speaksNames (t0 t1 : Value) (w : World) (K : Value → World → Prop) : Prop :=
 st P (oBox T.impl_Step t1) w fun t3 w1 =>
 pu P (oFldA T.impl_Step t3 1) fun t9 =>
 st P (oLoad T.string t9) w1 fun t10 w2 =>
 st P (oCall Fn.spec_MemName #[t10]) w2 fun t11 w3 =>
 st P (oCall Fn.spec_Mem_Find #[t0, t11]) w3 fun t15 w4 =>
 pu P (oExtract t15 0) fun t16 =>
 pu P (oExtract t15 1) fun t17 =>
 jn (J_spec_Mem_speaksNames_1 K) fun k1 =>
 pu P (oFldA T.impl_Step t3 1) fun t19 =>
 st P (oLoad T.string t19) w4 fun t20 w6 =>
 st P (oCall Fn.spec_named #[t20]) w6 fun t21 w7 =>
 pu P (oUn .not t21) fun t22 =>
 cd t22 (
 K (tup [(.bool false)]) w7) (J_spec_Mem_speaksNames_12 t3 w7 t17 t0 t11 K k1)
def Tb_spec_Mem_speaksNames : Tab := { join := fun n => match n with | _ => [], loop := fun n => match n with | _ => [] }
theorem S_spec_Mem_speaksNames {t0 t1 : Value} {w : World} {K : Value → World → Prop} (h : F_spec_Mem_speaksNames t0 t1 w K) : Cl P Fn.spec_Mem_speaksNames #[t0, t1] w K :=
  cl_of_eq (T := Tb_spec_Mem_speaksNames) (args := [t0, t1]) Tryd.func36 rfl follows_mixed (by kernel_rfl) (Nat.le_of_ble_eq_true (by kernel_rfl)) (by kernel_rfl) h
def J_spec_Mem_speaksFile_2 (t1 : Value) (w7 : World) (K : Value → World → Prop) : Prop :=
 pu P (oNil t1) fun t96 =>
 pu P (oFldA T.spec_MemHandle t96 3) fun t97 =>
 st P (oLoad T.bool t97) w7 fun t98 w8 =>
 gd t98 false w8 (fun K1 => K1 t1 w8) fun t100 w9 =>
 gd t98 false w9 (fun K2 => pu P (oNil t100) fun v => K2 v w9) fun t101 w10 =>
 gd t98 false w10 (fun K3 => pu P (oFldA T.spec_MemHandle t101 1) fun v => K3 v w10) fun t102 w11 =>
 gd t98 false w11 (fun K4 => st P (oLoad T.int64 t102) w11 K4) fun t103 w12 =>
 gd t98 false w12 (fun K5 => pu P (oBin .geq T.int64 false true t103 (.int .i64 0)) fun v => K5 v w12) fun t104 w13 =>
 pu P (oPick t98 (.bool true) t104) fun t105 =>
 K (tup [t105]) w13
def J_spec_Mem_speaksFile_3 (t1 : Value) (w7 : World) (K : Value → World → Prop) : Prop :=
 pu P (oNil t1) fun t114 =>
 pu P (oFldA T.spec_MemHandle t114 1) fun t115 =>
 st P (oLoad T.int64 t115) w7 fun t116 w15 =>
 pu P (oBin .geq T.int64 false true t116 (.int .i64 0)) fun t117 =>
 gd t117 true w15 (fun K6 => K6 t1 w15) fun t119 w16 =>
 gd t117 true w16 (fun K7 => pu P (oNil t119) fun v => K7 v w16) fun t120 w17 =>
 gd t117 true w17 (fun K8 => pu P (oFldA T.spec_MemHandle t120 1) fun v => K8 v w17) fun t121 w18 =>
 gd t117 true w18 (fun K9 => st P (oLoad T.int64 t121) w18 K9) fun t122 w19 =>
 gd t117 true w19 (fun K10 => pu P (oBin .leq T.int64 false true t122 (.int .i64 4096)) fun v => K10 v w19) fun t123 w20 =>
 pu P (oPick t117 t123 (.bool false)) fun t124 =>
 K (tup [t124]) w20
def J_spec_Mem_speaksFile_4 (t5 : Value) (w7 : World) (K : Value → World → Prop) : Prop :=
 pu P (oFldA T.impl_Step t5 7) fun t127 =>
 st P (oLoad T.int64 t127) w7 fun t128 w21 =>
 pu P (oBin .geq T.int64 false true t128 (.int .i64 0)) fun t129 =>
 gd t129 true w21 (fun K11 => pu P (oFldA T.impl_Step t5 7) fun v => K11 v w21) fun t131 w22 =>
 gd t129 true w22 (fun K12 => st P (oLoad T.int64 t131) w22 K12) fun t132 w23 =>
 gd t129 true w23 (fun K13 => pu P (oBin .leq T.int64 false true t132 (.int .i64 4096)) fun v => K13 v w23) fun t133 w24 =>
 pu P (oPick t129 t133 (.bool false)) fun t134 =>
 K (tup [t134]) w24
def J_spec_Mem_speaksFile_5 (t1 : Value) (w7 : World) (K : Value → World → Prop) : Prop :=
 pu P (oNil t1) fun t143 =>
 pu P (oFldA T.spec_MemHandle t143 1) fun t144 =>
 st P (oLoad T.int64 t144) w7 fun t145 w26 =>
 pu P (oBin .lss T.int64 false true t145 (.int .i64 2199023255552)) fun t146 =>
 gd t146 true w26 (fun K14 => K14 t1 w26) fun t148 w27 =>
 gd t146 true w27 (fun K15 => pu P (oNil t148) fun v => K15 v w27) fun t149 w28 =>
 gd t146 true w28 (fun K16 => pu P (oFldA T.spec_MemHandle t149 1) fun v => K16 v w28) fun t150 w29 =>
 gd t146 true w29 (fun K17 => st P (oLoad T.int64 t150) w29 K17) fun t151 w30 =>
 gd t146 true w30 (fun K18 => pu P (oBin .gtr T.int64 false true t151 (.int .i64 (-2199023255552))) fun v => K18 v w30) fun t152 w31 =>
 pu P (oPick t146 t152 (.bool false)) fun t153 =>
 K (tup [t153]) w31
def J_spec_Mem_speaksFile_6 (t92 : Value) (t1 : Value) (w7 : World) (K : Value → World → Prop) (k3 : List Value → World → Prop) : Prop :=
 pu P (oBin .eql T.int false true t92 (.int .i64 16)) fun t141 =>
 cd t141 (J_spec_Mem_speaksFile_5 t1 w7 K) (
 k3 [] w7)
def J_spec_Mem_speaksFile_7 (t92 : Value) (t5 : Value) (w7 : World) (K : Value → World → Prop) (t1 : Value) (k3 : List Value → World → Prop) : Prop :=
 pu P (oBin .eql T.int false true t92 (.int .i64 17)) fun t136 =>
 cd t136 (
 pu P (oFldA T.impl_Step t5 7) fun t137 =>
 st P (oLoad T.int64 t137) w7 fun t138 w25 =>
 pu P (oBin .leq T.int64 false true t138 (.int .i64 4096)) fun t139 =>
 K (tup [t139]) w25) (J_spec_Mem_speaksFile_6 t92 t1 w7 K k3)
def J_spec_Mem_speaksFile_8 (t92 : Value) (t5 : Value) (w7 : World) (K : Value → World → Prop) (t1 : Value) (k3 : List Value → World → Prop) : Prop :=
 pu P (oBin .eql T.int false true t92 (.int .i64 15)) fun t126 =>
 cd t126 (J_spec_Mem_speaksFile_4 t5 w7 K) (J_spec_Mem_speaksFile_7 t92 t5 w7 K t1 k3)
def J_spec_Mem_speaksFile_9 (t92 : Value) (t1 : Value) (w7 : World) (K : Value → World → Prop) (t5 : Value) (k3 : List Value → World → Prop) : Prop :=
 pu P (oBin .eql T.int false true t92 (.int .i64 14)) fun t112 =>
 cd t112 (J_spec_Mem_speaksFile_3 t1 w7 K) (J_spec_Mem_speaksFile_8 t92 t5 w7 K t1 k3)
def J_spec_Mem_speaksFile_10 (t92 : Value) (t5 : Value) (w7 : World) (K : Value → World → Prop) (t1 : Value) (k3 : List Value → World → Prop) : Prop :=
 pu P (oBin .eql T.int false true t92 (.int .i64 13)) fun t107 =>
 cd t107 (
 pu P (oFldA T.impl_Step t5 7) fun t108 =>
 st P (oLoad T.int64 t108) w7 fun t109 w14 =>
 pu P (oBin .geq T.int64 false true t109 (.int .i64 0)) fun t110 =>
 K (tup [t110]) w14) (J_spec_Mem_speaksFile_9 t92 t1 w7 K t5 k3)
def J_spec_Mem_speaksFile_11 (K : Value → World → Prop) (t5 : Value) (t1 : Value) (s2 : List Value) (u2 : Env) (w5 : World) : Prop :=
 jn (J_spec_Mem_speaksNames_1 K) fun k3 =>
 pu P (oFldA T.impl_Step t5 0) fun t91 =>
 st P (oLoad T.int t91) w5 fun t92 w7 =>
 pu P (oBin .eql T.int false true t92 (.int .i64 12)) fun t94 =>
 cd t94 (J_spec_Mem_speaksFile_2 t1 w7 K) (J_spec_Mem_speaksFile_10 t92 t5 w7 K t1 k3)
def J_spec_Mem_speaksFile_12 (K : Value → World → Prop) (t5 : Value) (t1 : Value) (t7 : Value) (s1 : List Value) (u1 : Env) (w4 : World) : Prop :=
 jn (J_spec_Mem_speaksFile_11 K t5 t1) fun k2 =>
 pu P (oFldA T.spec_MemNode t7 0) fun t63 =>
 st P (oLoad T.bool t63) w4 fun t64 w32 =>
 gd t64 false w32 (fun K19 => pu P (oFldA T.impl_Step t5 6) fun v => K19 v w32) fun t66 w33 =>
 gd t64 false w33 (fun K20 => st P (oLoad T.sl_uint8 t66) w33 K20) fun t67 w34 =>
 gd t64 false w34 (fun K21 => pu P (oBuiltin .len #[T.sl_uint8] T.int #[false] #[t67]) fun v => K21 v w34) fun t68 w35 =>
 gd t64 false w35 (fun K22 => pu P (oBin .gtr T.int false true t68 (.int .i64 4096)) fun v => K22 v w35) fun t69 w36 =>
 pu P (oPick t64 (.bool true) t69) fun t70 =>
 gd t70 false w36 (fun K23 => pu P (oFldA T.impl_Step t5 9) fun v => K23 v w36) fun t72 w37 =>
 gd t70 false w37 (fun K24 => st P (oLoad T.int t72) w37 K24) fun t73 w38 =>
 gd t70 false w38 (fun K25 => pu P (oBin .lss T.int false true t73 (.int .i64 0)) fun v => K25 v w38) fun t74 w39 =>
 pu P (oPick t70 (.bool true) t74) fun t75 =>
 gd t75 false w39 (fun K26 => pu P (oFldA T.impl_Step t5 9) fun v => K26 v w39) fun t77 w40 =>
 gd t75 false w40 (fun K27 => st P (oLoad T.int t77) w40 K27) fun t78 w41 =>
 gd t75 false w41 (fun K28 => pu P (oBin .gtr T.int false true t78 (.int .i64 4096)) fun v => K28 v w41) fun t79 w42 =>
 pu P (oPick t75 (.bool true) t79) fun t80 =>
 gd t80 false w42 (fun K29 => pu P (oFldA T.impl_Step t5 7) fun v => K29 v w42) fun t82 w43 =>
 gd t80 false w43 (fun K30 => st P (oLoad T.int64 t82) w43 K30) fun t83 w44 =>
 gd t80 false w44 (fun K31 => pu P (oBin .gtr T.int64 false true t83 (.int .i64 1099511627776)) fun v => K31 v w44) fun t84 w45 =>
 pu P (oPick t80 (.bool true) t84) fun t85 =>
 gd t85 false w45 (fun K32 => pu P (oFldA T.impl_Step t5 7) fun v => K32 v w45) fun t87 w46 =>
 gd t85 false w46 (fun K33 => st P (oLoad T.int64 t87) w46 K33) fun t88 w47 =>
 gd t85 false w47 (fun K34 => pu P (oBin .lss T.int64 false true t88 (.int .i64 (-1099511627776))) fun v => K34 v w47) fun t89 w48 =>
 pu P (oPick t85 (.bool true) t89) fun t90 =>
 cd t90 (
 K (tup [(.bool false)]) w48) (
 k2 [] w48)
def J_spec_Mem_speaksFile_13 (t7 : Value) (w50 : World) (t0 : Value) (t1 : Value) (K : Value → World → Prop) : Prop :=
 pu P (oFldA T.spec_MemNode t7 4) fun t27 =>
 st P (oLoad T.string t27) w50 fun t28 w51 =>
 st P (oCall Fn.spec_Mem_Find #[t0, t28]) w51 fun t29 w52 =>
 pu P (oExtract t29 0) fun t30 =>
 pu P (oExtract t29 1) fun t31 =>
 pu P (oFldA T.spec_MemNode t7 0) fun t32 =>
 rd P (oLoad T.bool t32) w52.drew fun t33 =>
 pu P (oUn .not t33) fun t34 =>
 gd t34 false w52.drew (fun K35 => K35 t31 w52.drew) fun t36 w53 =>
 gd t34 false w53 (fun K36 => K36 t36 w53) fun t37 w54 =>
 gd t37 true w54 (fun K37 => K37 t30 w54) fun t38 w55 =>
 gd t37 true w55 (fun K38 => K38 t1 w55) fun t39 w56 =>
 gd t37 true w56 (fun K39 => pu P (oNil t39) fun v => K39 v w56) fun t40 w57 =>
 gd t37 true w57 (fun K40 => pu P (oFldA T.spec_MemHandle t40 0) fun v => K40 v w57) fun t41 w58 =>
 gd t37 true w58 (fun K41 => rd P (oLoad T.int t41) w58 fun v => K41 v w58) fun t42 w59 =>
 gd t37 true w59 (fun K42 => pu P (oBin .eql T.int false false t38 t42) fun v => K42 v w59) fun t43 w60 =>
 gd t34 false w60 (fun K43 => pu P (oPick t37 t43 (.bool false)) fun v => K43 v w60) fun t44 w61 =>
 gd t34 false w61 (fun K44 => K44 t44 w61) fun t45 w62 =>
 gd t45 true w62 (fun K45 => K45 t1 w62) fun t46 w63 =>
 gd t45 true w63 (fun K46 => pu P (oNil t46) fun v => K46 v w63) fun t47 w64 =>
 gd t45 true w64 (fun K47 => pu P (oFldA T.spec_MemHandle t47 2) fun v => K47 v w64) fun t48 w65 =>
 gd t45 true w65 (fun K48 => rd P (oLoad T.int t48) w65 fun v => K48 v w65) fun t49 w66 =>
 gd t45 true w66 (fun K49 => K49 t0 w66) fun t50 w67 =>
 gd t45 true w67 (fun K50 => pu P (oFldA T.spec_MemNode t7 4) fun v => K50 v w67) fun t51 w68 =>
 gd t45 true w68 (fun K51 => rd P (oLoad T.string t51) w68 fun v => K51 v w68) fun t52 w69 =>
 gd t45 true w69 (fun K52 => st P (oCall Fn.spec_Mem_Children #[t50, t52]) w69 K52) fun t53 w70 =>
 (isb t45 true = true → hold P (oLoad T.int t48) t49 w70) ∧ gd t45 true w70 (fun K53 => pu P (oBuiltin .len #[T.sl_string] T.int #[false] #[t53]) fun v => K53 v w70) fun t54 w71 =>
 gd t45 true w71 (fun K54 => pu P (oBin .leq T.int false false t49 t54) fun v => K54 v w71) fun t55 w72 =>
 gd t34 false w72 (fun K55 => pu P (oPick t45 t55 (.bool false)) fun v => K55 v w72) fun t56 w73 =>
 pu P (oPick t34 (.bool true) t56) fun t57 =>
 K (tup [t57]) w73
def J_spec_Mem_speaksFile_14 (K : Value → World → Prop) (k1 : List Value → World → Prop) (s5 : List Value) (u5 : Env) (w74 : World) : Prop :=
 cd (gs s5 0) (
 K (tup [(.bool true)]) w74) (
 k1 [] w74)
def J_spec_Mem_speaksFile_15 (t21 : Value) (k5 : List Value → World → Prop) (w50 : World) : Prop :=
 pu P (oBin .eql T.int false true t21 (.int .i64 21)) fun t60 =>
 cd t60 (
 k5 [t60] w50) (
 pu P (oBin .eql T.int false true t21 (.int .i64 22)) fun t61 =>
 cd t61 (
 k5 [t61] w50) (
 pu P (oBin .eql T.int false true t21 (.int .i64 23)) fun t62 =>
 k5 [t62] w50))
def J_spec_Mem_speaksFile_16 (K : Value → World → Prop) (k1 : List Value → World → Prop) (t21 : Value) (w50 : World) : Prop :=
 jn (J_spec_Mem_speaksFile_14 K k1) fun k5 =>
 pu P (oBin .eql T.int false true t21 (.int .i64 18)) fun t59 =>
 cd t59 (
 k5 [t59] w50) (J_spec_Mem_speaksFile_15 t21 k5 w50)
def J_spec_Mem_speaksFile_17 (t7 : Value) (t0 : Value) (t1 : Value) (K : Value → World → Prop) (k1 : List Value → World → Prop) (t21 : Value) (s4 : List Value) (u4 : Env) (w50 : World) : Prop :=
 cd (gs s4 0) (J_spec_Mem_speaksFile_13 t7 w50 t0 t1 K) (J_spec_Mem_speaksFile_16 K k1 t21 w50)
def F_spec_Mem_speaksFile (t0 t1 t2 : Value) (w : World) (K : Value → World → Prop) : Prop :=
 st P (oBox T.impl_Step t2) w fun t5 w1 =>
 pu P (oNil t0) fun t11 =>
 pu P (oFldA T.spec_Mem t11 2) fun t12 =>
 rd P (oLoad T.sl_spec_MemNode t12) w1.drew fun t13 =>
 pu P (oNil t1) fun t15 =>
 pu P (oFldA T.spec_MemHandle t15 0) fun t16 =>
 rd P (oLoad T.int t16) w1.drew fun t17 =>
 pu P (oIdxA T.sl_spec_MemNode t13 t17) fun t18 =>
 rd P (oLoad T.spec_MemNode t18) w1.drew fun t19 =>
 st P (oAlloc T.spec_MemNode) w1.drew fun t7 w2 =>
 hold P (oLoad T.spec_MemNode t18) t19 w2 ∧ hold P (oLoad T.int t16) t17 w2 ∧ hold P (oLoad T.sl_spec_MemNode t12) t13 w2 ∧ st P (oStore T.spec_MemNode t7 t19) w2 fun _ w3 =>
 jn (J_spec_Mem_speaksFile_12 K t5 t1 t7) fun k1 =>
 pu P (oFldA T.impl_Step t5 0) fun t20 =>
 st P (oLoad T.int t20) w3 fun t21 w49 =>
 jn (J_spec_Mem_speaksFile_17 t7 t0 t1 K k1 t21) fun k4 =>
 pu P (oBin .eql T.int false true t21 (.int .i64 19)) fun t23 =>
 cd t23 (
 k4 [t23] w49) (
 pu P (oBin .eql T.int false true t21 (.int .i64 20)) fun t24 =>
 k4 [t24] w49)
def Tb_spec_Mem_speaksFile : Tab := { join := fun n => match n with | 5 => [22] | 11 => [58] | _ => [], loop := fun n => match n with | _ => [] }
theorem S_spec_Mem_speaksFile {t0 t1 t2 : Value} {w : World} {K : Value → World → Prop} (h : F_spec_Mem_speaksFile t0 t1 t2 w K) : Cl P Fn.spec_Mem_speaksFile #[t0, t1, t2] w K :=
  cl_of_eq (T := Tb_spec_Mem_speaksFile) (args := [t0, t1, t2]) Tryd.func37 rfl follows_mixed (by kernel_rfl) (Nat.le_of_ble_eq_true (by kernel_rfl)) (by kernel_rfl) h
def J_spec_Mem_open_1 (t0 : Value) (t1 : Value) (t22 : Value) (t6 : Value) (K : Value → World → Prop) (s1 : List Value) (u1 : Env) (w7 : World) : Prop :=
 pu P (oNil t0) fun t133 =>
 pu P (oFldA T.spec_Mem t133 3) fun t134 =>
 st P (oLoad T.map_int_p_spec_MemHandle t134) w7 fun t135 w8 =>
 st P (oMapUp T.map_int_p_spec_MemHandle t135 t1 t22) w8 fun _ w9 =>
 pu P (oBuild T.impl_Answer #[]) fun t138 =>
 st P (oStore T.impl_Answer t6 t138) w9 fun _ w10 =>
 rsl P T.impl_Answer t6 w10 fun r1 =>
 K (tup [r1]) w10
def J_spec_Mem_open_2 (t0 : Value) (t13 : Value) (w11 : World) (t22 : Value) (k1 : List Value → World → Prop) : Prop :=
 st P (oCall Fn.spec_Mem_parents #[t0, t13, (.int .i64 0)]) w11 fun t116 w12 =>
 pu P (oBuild T.spec_MemNode #[(1, (.int .i64 268435456))]) fun t120 =>
 st P (oCall Fn.spec_Mem_add #[t0, t13, t120]) w12 fun t121 w13 =>
 pu P (oNil t22) fun t122 =>
 pu P (oFldA T.spec_MemHandle t122 0) fun t123 =>
 st P (oStore T.int t123 t121) w13 fun _ w14 =>
 k1 [] w14
def J_spec_Mem_open_3 (t22 : Value) (k1 : List Value → World → Prop) (s2 : List Value) (u2 : Env) (w15 : World) : Prop :=
 pu P (oNil t22) fun t130 =>
 pu P (oFldA T.spec_MemHandle t130 4) fun t131 =>
 st P (oStore T.bool t131 (.bool true)) w15 fun _ w16 =>
 k1 [] w16
def J_spec_Mem_open_4 (t22 : Value) (k1 : List Value → World → Prop) (t19 : Value) (t6 : Value) (w11 : World) (K : Value → World → Prop) : Prop :=
 jn (J_spec_Mem_open_3 t22 k1) fun k2 =>
 pu P (oUn .not t19) fun t127 =>
 cd t127 (
 pu P (oBuild T.impl_Answer #[(0, (.int .i64 1))]) fun t128 =>
 st P (oStore T.impl_Answer t6 t128) w11 fun _ w17 =>
 rsl P T.impl_Answer t6 w17 fun r2 =>
 K (tup [r2]) w17) (
 k2 [] w11)
def J_spec_Mem_open_5 (t0 : Value) (w28 : World) (t22 : Value) (k1 : List Value → World → Prop) : Prop :=
 pu P (oNil t0) fun t93 =>
 pu P (oFldA T.spec_Mem t93 2) fun t94 =>
 rd P (oLoad T.sl_spec_MemNode t94) w28.drew fun t95 =>
 pu P (oNil t22) fun t97 =>
 pu P (oFldA T.spec_MemHandle t97 0) fun t98 =>
 rd P (oLoad T.int t98) w28.drew fun t99 =>
 pu P (oNil t0) fun t101 =>
 pu P (oFldA T.spec_Mem t101 2) fun t102 =>
 rd P (oLoad T.sl_spec_MemNode t102) w28.drew fun t103 =>
 pu P (oNil t22) fun t105 =>
 pu P (oFldA T.spec_MemHandle t105 0) fun t106 =>
 rd P (oLoad T.int t106) w28.drew fun t107 =>
 pu P (oIdxA T.sl_spec_MemNode t95 t99) fun t108 =>
 pu P (oFldA T.spec_MemNode t108 2) fun t109 =>
 st P (oStore T.sl_uint8 t109 (.slice none 0 0)) w28.drew fun _ w29 =>
 pu P (oIdxA T.sl_spec_MemNode t103 t107) fun t110 =>
 pu P (oFldA T.spec_MemNode t110 3) fun t111 =>
 st P (oStore T.int64 t111 (.int .i64 0)) w29 fun _ w30 =>
 k1 [] w30
def J_spec_Mem_open_6 (t5 : Value) (t0 : Value) (t22 : Value) (k1 : List Value → World → Prop) (s6 : List Value) (u6 : Env) (w23 : World) : Prop :=
 pu P (oFldA T.impl_Step t5 3) fun t82 =>
 st P (oLoad T.int t82) w23 fun t83 w24 =>
 pu P (oBin .and T.int false true t83 (.int .i64 512)) fun t84 =>
 pu P (oBin .neq T.int false true t84 (.int .i64 0)) fun t85 =>
 gd t85 true w24 (fun K1 => pu P (oFldA T.impl_Step t5 3) fun v => K1 v w24) fun t87 w25 =>
 gd t85 true w25 (fun K2 => st P (oLoad T.int t87) w25 K2) fun t88 w26 =>
 gd t85 true w26 (fun K3 => pu P (oBin .and T.int false true t88 (.int .i64 3)) fun v => K3 v w26) fun t89 w27 =>
 gd t85 true w27 (fun K4 => pu P (oBin .neq T.int false true t89 (.int .i64 0)) fun v => K4 v w27) fun t90 w28 =>
 pu P (oPick t85 t90 (.bool false)) fun t91 =>
 cd t91 (J_spec_Mem_open_5 t0 w28 t22 k1) (
 k1 [] w28)
def J_spec_Mem_open_7 (t0 : Value) (w31 : World) (t22 : Value) (k6 : List Value → World → Prop) : Prop :=
 pu P (oNil t0) fun t69 =>
 pu P (oFldA T.spec_Mem t69 2) fun t70 =>
 rd P (oLoad T.sl_spec_MemNode t70) w31.drew fun t71 =>
 pu P (oNil t22) fun t73 =>
 pu P (oFldA T.spec_MemHandle t73 0) fun t74 =>
 rd P (oLoad T.int t74) w31.drew fun t75 =>
 pu P (oIdxA T.sl_spec_MemNode t71 t75) fun t76 =>
 pu P (oFldA T.spec_MemNode t76 2) fun t77 =>
 rd P (oLoad T.sl_uint8 t77) w31.drew fun t78 =>
 pu P (oBuiltin .len #[T.sl_uint8] T.int #[false] #[t78]) fun t79 =>
 pu P (oNil t22) fun t80 =>
 pu P (oFldA T.spec_MemHandle t80 1) fun t81 =>
 st P (oStore T.int64 t81 t79) w31.drew fun _ w32 =>
 k6 [] w32
def J_spec_Mem_open_8 (t5 : Value) (t22 : Value) (t0 : Value) (k1 : List Value → World → Prop) (s5 : List Value) (u5 : Env) (w20 : World) : Prop :=
 pu P (oFldA T.impl_Step t5 3) fun t58 =>
 st P (oLoad T.int t58) w20 fun t59 w21 =>
 pu P (oBin .eql T.int false true t59 (.int .i64 0)) fun t60 =>
 pu P (oNil t22) fun t61 =>
 pu P (oFldA T.spec_MemHandle t61 4) fun t62 =>
 st P (oStore T.bool t62 t60) w21 fun _ w22 =>
 jn (J_spec_Mem_open_6 t5 t0 t22 k1) fun k6 =>
 pu P (oFldA T.impl_Step t5 3) fun t63 =>
 st P (oLoad T.int t63) w22 fun t64 w31 =>
 pu P (oBin .and T.int false true t64 (.int .i64 1024)) fun t65 =>
 pu P (oBin .neq T.int false true t65 (.int .i64 0)) fun t66 =>
 cd t66 (J_spec_Mem_open_7 t0 w31 t22 k6) (
 k6 [] w31)
def J_spec_Mem_open_9 (t0 : Value) (t13 : Value) (w19 : World) (t5 : Value) (t22 : Value) (k5 : List Value → World → Prop) : Prop :=
 st P (oCall Fn.spec_Mem_parents #[t0, t13, (.int .i64 0)]) w19 fun t46 w33 =>
 pu P (oFldA T.impl_Step t5 4) fun t50 =>
 st P (oLoad T.int t50) w33 fun t51 w34 =>
 pu P (oBin .and T.int false true t51 (.int .i64 13631999)) fun t52 =>
 pu P (oBuild T.spec_MemNode #[(1, t52)]) fun t53 =>
 st P (oCall Fn.spec_Mem_add #[t0, t13, t53]) w34 fun t54 w35 =>
 pu P (oNil t22) fun t55 =>
 pu P (oFldA T.spec_MemHandle t55 0) fun t56 =>
 st P (oStore T.int t56 t54) w35 fun _ w36 =>
 k5 [] w36
def J_spec_Mem_open_10 (t5 : Value) (t22 : Value) (t0 : Value) (k1 : List Value → World → Prop) (t19 : Value) (t13 : Value) (s4 : List Value) (u4 : Env) (w19 : World) : Prop :=
 jn (J_spec_Mem_open_8 t5 t22 t0 k1) fun k5 =>
 pu P (oUn .not t19) fun t43 =>
 cd t43 (J_spec_Mem_open_9 t0 t13 w19 t5 t22 k5) (
 k5 [] w19)
def J_spec_Mem_open_11 (t5 : Value) (t22 : Value) (t0 : Value) (k1 : List Value → World → Prop) (t19 : Value) (t13 : Value) (t6 : Value) (K : Value → World → Prop) (s3 : List Value) (u3 : Env) (w18 : World) : Prop :=
 jn (J_spec_Mem_open_10 t5 t22 t0 k1 t19 t13) fun k4 =>
 pu P (oUn .not t19) fun t34 =>
 gd t34 true w18 (fun K5 => pu P (oFldA T.impl_Step t5 3) fun v => K5 v w18) fun t36 w37 =>
 gd t34 true w37 (fun K6 => st P (oLoad T.int t36) w37 K6) fun t37 w38 =>
 gd t34 true w38 (fun K7 => pu P (oBin .and T.int false true t37 (.int .i64 64)) fun v => K7 v w38) fun t38 w39 =>
 gd t34 true w39 (fun K8 => pu P (oBin .eql T.int false true t38 (.int .i64 0)) fun v => K8 v w39) fun t39 w40 =>
 pu P (oPick t34 t39 (.bool false)) fun t40 =>
 cd t40 (
 pu P (oBuild T.impl_Answer #[(0, (.int .i64 1))]) fun t41 =>
 st P (oStore T.impl_Answer t6 t41) w40 fun _ w41 =>
 rsl P T.impl_Answer t6 w41 fun r3 =>
 K (tup [r3]) w41) (
 k4 [] w40)
def J_spec_Mem_open_12 (t5 : Value) (t22 : Value) (t0 : Value) (k1 : List Value → World → Prop) (t19 : Value) (t13 : Value) (t6 : Value) (K : Value → World → Prop) (w11 : World) : Prop :=
 jn (J_spec_Mem_open_11 t5 t22 t0 k1 t19 t13 t6 K) fun k3 =>
 gd t19 true w11 (fun K9 => pu P (oFldA T.impl_Step t5 3) fun v => K9 v w11) fun t27 w42 =>
 gd t19 true w42 (fun K10 => st P (oLoad T.int t27) w42 K10) fun t28 w43 =>
 gd t19 true w43 (fun K11 => pu P (oBin .and T.int false true t28 (.int .i64 128)) fun v => K11 v w43) fun t29 w44 =>
 gd t19 true w44 (fun K12 => pu P (oBin .neq T.int false true t29 (.int .i64 0)) fun v => K12 v w44) fun t30 w45 =>
 pu P (oPick t19 t30 (.bool false)) fun t31 =>
 cd t31 (
 pu P (oBuild T.impl_Answer #[(0, (.int .i64 2))]) fun t32 =>
 st P (oStore T.impl_Answer t6 t32) w45 fun _ w46 =>
 rsl P T.impl_Answer t6 w46 fun r4 =>
 K (tup [r4]) w46) (
 k3 [] w45)
def J_spec_Mem_open_13 (t24 : Value) (t22 : Value) (k1 : List Value → World → Prop) (t19 : Value) (t6 : Value) (w11 : World) (K : Value → World → Prop) (t5 : Value) (t0 : Value) (t13 : Value) : Prop :=
 pu P (oBin .eql T.int false true t24 (.int .i64 1)) fun t125 =>
 cd t125 (J_spec_Mem_open_4 t22 k1 t19 t6 w11 K) (J_spec_Mem_open_12 t5 t22 t0 k1 t19 t13 t6 K w11)
def F_spec_Mem_open (t0 t1 t2 : Value) (w : World) (K : Value → World → Prop) : Prop :=
 st P (oBox T.impl_Step t2) w fun t5 w1 =>
 st P (oAlloc T.impl_Answer) w1 fun t6 w2 =>
 pu P (oFldA T.impl_Step t5 1) fun t11 =>
 st P (oLoad T.string t11) w2 fun t12 w3 =>
 st P (oCall Fn.spec_MemName #[t12]) w3 fun t13 w4 =>
 st P (oCall Fn.spec_Mem_Find #[t0, t13]) w4 fun t17 w5 =>
 pu P (oExtract t17 0) fun t18 =>
 pu P (oExtract t17 1) fun t19 =>
 pu P (oBuild T.spec_MemHandle #[(0, t18)]) fun t21 =>
 st P (oBox T.spec_MemHandle t21) w5 fun t22 w6 =>
 jn (J_spec_Mem_open_1 t0 t1 t22 t6 K) fun k1 =>
 pu P (oFldA T.impl_Step t5 0) fun t23 =>
 st P (oLoad T.int t23) w6 fun t24 w11 =>
 pu P (oBin .eql T.int false true t24 (.int .i64 0)) fun t113 =>
 cd t113 (J_spec_Mem_open_2 t0 t13 w11 t22 k1) (J_spec_Mem_open_13 t24 t22 k1 t19 t6 w11 K t5 t0 t13)
def Tb_spec_Mem_open : Tab := { join := fun n => match n with | _ => [], loop := fun n => match n with | _ => [] }
theorem S_spec_Mem_open {t0 t1 t2 : Value} {w : World} {K : Value → World → Prop} (h : F_spec_Mem_open t0 t1 t2 w K) : Cl P Fn.spec_Mem_open #[t0, t1, t2] w K :=
  cl_of_eq (T := Tb_spec_Mem_open) (args := [t0, t1, t2]) Tryd.func38 rfl follows_mixed (by kernel_rfl) (Nat.le_of_ble_eq_true (by kernel_rfl)) (by kernel_rfl) h
def J_spec_Mem_file_1 (t5 : Value) (t6 : Value) (K : Value → World → Prop) (s7 : List Value) (u7 : Env) (w9 : World) : Prop :=
 pu P (oFldA T.impl_Step t5 6) fun t294 =>
 st P (oLoad T.sl_uint8 t294) w9 fun t295 w10 =>
 pu P (oBuiltin .len #[T.sl_uint8] T.int #[false] #[t295]) fun t296 =>
 pu P (oBuild T.impl_Answer #[(1, t296)]) fun t297 =>
 st P (oStore T.impl_Answer t6 t297) w10 fun _ w11 =>
 rsl P T.impl_Answer t6 w11 fun r1 =>
 K (tup [r1]) w11
def J_spec_Mem_file_2 (t20 : Value) (w12 : World) (t5 : Value) (t6 : Value) (K : Value → World → Prop) : Prop :=
 pu P (oNil t20) fun t219 =>
 pu P (oFldA T.spec_MemNode t219 2) fun t220 =>
 rd P (oLoad T.sl_uint8 t220) w12.drew fun t221 =>
 pu P (oNil t20) fun t223 =>
 pu P (oFldA T.spec_MemNode t223 2) fun t224 =>
 rd P (oLoad T.sl_uint8 t224) w12.drew fun t225 =>
 pu P (oBuiltin .len #[T.sl_uint8] T.int #[false] #[t225]) fun t226 =>
 pu P (oFldA T.impl_Step t5 7) fun t227 =>
 rd P (oLoad T.int64 t227) w12.drew fun t228 =>
 pu P (oBuiltin .min #[T.int64, T.int64] T.int64 #[false, false] #[t226, t228]) fun t229 =>
 pu P (oSlice T.sl_uint8 t221 none (some t229) none) fun t230 =>
 pu P (oFldA T.impl_Step t5 7) fun t231 =>
 rd P (oLoad T.int64 t231) w12.drew fun t232 =>
 st P (oCall Fn.spec_grown #[t230, t232]) w12.drew fun t233 w13 =>
 pu P (oNil t20) fun t234 =>
 pu P (oFldA T.spec_MemNode t234 2) fun t235 =>
 st P (oStore T.sl_uint8 t235 t233) w13 fun _ w14 =>
 pu P (oNil t20) fun t236 =>
 pu P (oFldA T.spec_MemNode t236 3) fun t237 =>
 st P (oStore T.int64 t237 (.int .i64 0)) w14 fun _ w15 =>
 pu P (oBuild T.impl_Answer #[]) fun t238 =>
 st P (oStore T.impl_Answer t6 t238) w15 fun _ w16 =>
 rsl P T.impl_Answer t6 w16 fun r2 =>
 K (tup [r2]) w16
def J_spec_Mem_file_3 (t20 : Value) (w12 : World) (t1 : Value) (t5 : Value) (k7 : List Value → World → Prop) : Prop :=
 pu P (oNil t20) fun t244 =>
 pu P (oFldA T.spec_MemNode t244 2) fun t245 =>
 rd P (oLoad T.sl_uint8 t245) w12.drew fun t246 =>
 pu P (oNil t1) fun t248 =>
 pu P (oFldA T.spec_MemHandle t248 1) fun t249 =>
 rd P (oLoad T.int64 t249) w12.drew fun t250 =>
 pu P (oFldA T.impl_Step t5 6) fun t251 =>
 rd P (oLoad T.sl_uint8 t251) w12.drew fun t252 =>
 st P (oCall Fn.spec_overwritten #[t246, t250, t252]) w12.drew fun t253 w17 =>
 pu P (oNil t20) fun t254 =>
 pu P (oFldA T.spec_MemNode t254 2) fun t255 =>
 st P (oStore T.sl_uint8 t255 t253) w17 fun _ w18 =>
 pu P (oNil t20) fun t256 =>
 pu P (oFldA T.spec_MemNode t256 3) fun t257 =>
 st P (oStore T.int64 t257 (.int .i64 0)) w18 fun _ w19 =>
 pu P (oNil t1) fun t259 =>
 pu P (oFldA T.spec_MemHandle t259 1) fun t260 =>
 rd P (oLoad T.int64 t260) w19.drew fun t261 =>
 pu P (oFldA T.impl_Step t5 6) fun t262 =>
 rd P (oLoad T.sl_uint8 t262) w19.drew fun t263 =>
 pu P (oBuiltin .len #[T.sl_uint8] T.int #[false] #[t263]) fun t264 =>
 pu P (oBin .add T.int64 false false t261 t264) fun t265 =>
 pu P (oNil t1) fun t266 =>
 pu P (oFldA T.spec_MemHandle t266 1) fun t267 =>
 st P (oStore T.int64 t267 t265) w19.drew fun _ w20 =>
 k7 [] w20
def J_spec_Mem_file_4 (t20 : Value) (w12 : World) (t5 : Value) (t1 : Value) (k7 : List Value → World → Prop) : Prop :=
 pu P (oNil t20) fun t273 =>
 pu P (oFldA T.spec_MemNode t273 2) fun t274 =>
 rd P (oLoad T.sl_uint8 t274) w12.drew fun t275 =>
 pu P (oFldA T.impl_Step t5 7) fun t276 =>
 rd P (oLoad T.int64 t276) w12.drew fun t277 =>
 pu P (oFldA T.impl_Step t5 6) fun t278 =>
 rd P (oLoad T.sl_uint8 t278) w12.drew fun t279 =>
 st P (oCall Fn.spec_overwritten #[t275, t277, t279]) w12.drew fun t280 w21 =>
 pu P (oNil t20) fun t281 =>
 pu P (oFldA T.spec_MemNode t281 2) fun t282 =>
 st P (oStore T.sl_uint8 t282 t280) w21 fun _ w22 =>
 pu P (oNil t20) fun t283 =>
 pu P (oFldA T.spec_MemNode t283 3) fun t284 =>
 st P (oStore T.int64 t284 (.int .i64 0)) w22 fun _ w23 =>
 pu P (oFldA T.impl_Step t5 7) fun t286 =>
 st P (oLoad T.int64 t286) w23 fun t287 w24 =>
 pu P (oFldA T.impl_Step t5 6) fun t288 =>
 st P (oLoad T.sl_uint8 t288) w24 fun t289 w25 =>
 pu P (oBuiltin .len #[T.sl_uint8] T.int #[false] #[t289]) fun t290 =>
 pu P (oBin .add T.int64 false false t287 t290) fun t291 =>
 pu P (oNil t1) fun t292 =>
 pu P (oFldA T.spec_MemHandle t292 1) fun t293 =>
 st P (oStore T.int64 t293 t291) w25 fun _ w26 =>
 k7 [] w26
def J_spec_Mem_file_5 (t213 : Value) (t20 : Value) (w12 : World) (t5 : Value) (t1 : Value) (k7 : List Value → World → Prop) : Prop :=
 pu P (oBin .eql T.int false true t213 (.int .i64 15)) fun t269 =>
 cd t269 (J_spec_Mem_file_4 t20 w12 t5 t1 k7) (
 k7 [] w12)
def J_spec_Mem_file_6 (t213 : Value) (t20 : Value) (w12 : World) (t1 : Value) (t5 : Value) (k7 : List Value → World → Prop) : Prop :=
 pu P (oBin .eql T.int false true t213 (.int .i64 14)) fun t240 =>
 cd t240 (J_spec_Mem_file_3 t20 w12 t1 t5 k7) (J_spec_Mem_file_5 t213 t20 w12 t5 t1 k7)
def J_spec_Mem_file_7 (t5 : Value) (t6 : Value) (K : Value → World → Prop) (t20 : Value) (t1 : Value) (s6 : List Value) (u6 : Env) (w8 : World) : Prop :=
 jn (J_spec_Mem_file_1 t5 t6 K) fun k7 =>
 pu P (oFldA T.impl_Step t5 0) fun t212 =>
 st P (oLoad T.int t212) w8 fun t213 w12 =>
 pu P (oBin .eql T.int false true t213 (.int .i64 17)) fun t215 =>
 cd t215 (J_spec_Mem_file_2 t20 w12 t5 t6 K) (J_spec_Mem_file_6 t213 t20 w12 t1 t5 k7)
def J_spec_Mem_file_8 (t5 : Value) (t6 : Value) (K : Value → World → Prop) (t20 : Value) (t1 : Value) (s5 : List Value) (u5 : Env) (w7 : World) : Prop :=
 jn (J_spec_Mem_file_7 t5 t6 K t20 t1) fun k6 =>
 pu P (oFldA T.impl_Step t5 0) fun t179 =>
 st P (oLoad T.int t179) w7 fun t180 w27 =>
 pu P (oBin .eql T.int false true t180 (.int .i64 14)) fun t181 =>
 gd t181 true w27 (fun K1 => K1 t1 w27) fun t183 w28 =>
 gd t181 true w28 (fun K2 => pu P (oNil t183) fun v => K2 v w28) fun t184 w29 =>
 gd t181 true w29 (fun K3 => pu P (oFldA T.spec_MemHandle t184 1) fun v => K3 v w29) fun t185 w30 =>
 gd t181 true w30 (fun K4 => st P (oLoad T.int64 t185) w30 K4) fun t186 w31 =>
 gd t181 true w31 (fun K5 => pu P (oBin .lss T.int64 false true t186 (.int .i64 0)) fun v => K5 v w31) fun t187 w32 =>
 gd t181 true w32 (fun K6 => K6 t187 w32) fun t188 w33 =>
 gd t188 false w33 (fun K7 => K7 t1 w33) fun t189 w34 =>
 gd t188 false w34 (fun K8 => pu P (oNil t189) fun v => K8 v w34) fun t190 w35 =>
 gd t188 false w35 (fun K9 => pu P (oFldA T.spec_MemHandle t190 1) fun v => K9 v w35) fun t191 w36 =>
 gd t188 false w36 (fun K10 => st P (oLoad T.int64 t191) w36 K10) fun t192 w37 =>
 gd t188 false w37 (fun K11 => pu P (oBin .gtr T.int64 false true t192 (.int .i64 1048576)) fun v => K11 v w37) fun t193 w38 =>
 gd t181 true w38 (fun K12 => pu P (oPick t188 (.bool true) t193) fun v => K12 v w38) fun t194 w39 =>
 pu P (oPick t181 t194 (.bool false)) fun t195 =>
 gd t195 false w39 (fun K13 => pu P (oFldA T.impl_Step t5 0) fun v => K13 v w39) fun t197 w40 =>
 gd t195 false w40 (fun K14 => st P (oLoad T.int t197) w40 K14) fun t198 w41 =>
 gd t195 false w41 (fun K15 => pu P (oBin .neq T.int false true t198 (.int .i64 14)) fun v => K15 v w41) fun t199 w42 =>
 gd t195 false w42 (fun K16 => K16 t199 w42) fun t200 w43 =>
 gd t200 true w43 (fun K17 => pu P (oFldA T.impl_Step t5 7) fun v => K17 v w43) fun t201 w44 =>
 gd t200 true w44 (fun K18 => st P (oLoad T.int64 t201) w44 K18) fun t202 w45 =>
 gd t200 true w45 (fun K19 => pu P (oBin .lss T.int64 false true t202 (.int .i64 0)) fun v => K19 v w45) fun t203 w46 =>
 gd t200 true w46 (fun K20 => K20 t203 w46) fun t204 w47 =>
 gd t204 false w47 (fun K21 => pu P (oFldA T.impl_Step t5 7) fun v => K21 v w47) fun t205 w48 =>
 gd t204 false w48 (fun K22 => st P (oLoad T.int64 t205) w48 K22) fun t206 w49 =>
 gd t204 false w49 (fun K23 => pu P (oBin .gtr T.int64 false true t206 (.int .i64 1048576)) fun v => K23 v w49) fun t207 w50 =>
 gd t200 true w50 (fun K24 => pu P (oPick t204 (.bool true) t207) fun v => K24 v w50) fun t208 w51 =>
 gd t195 false w51 (fun K25 => pu P (oPick t200 t208 (.bool false)) fun v => K25 v w51) fun t209 w52 =>
 pu P (oPick t195 (.bool true) t209) fun t210 =>
 cd t210 (
 pu P (oBuild T.impl_Answer #[(0, (.int .i64 13))]) fun t211 =>
 st P (oStore T.impl_Answer t6 t211) w52 fun _ w53 =>
 rsl P T.impl_Answer t6 w53 fun r3 =>
 K (tup [r3]) w53) (
 k6 [] w52)
def J_spec_Mem_file_9 (t5 : Value) (t6 : Value) (K : Value → World → Prop) (t20 : Value) (t1 : Value) (s4 : List Value) (u4 : Env) (w6 : World) : Prop :=
 jn (J_spec_Mem_file_8 t5 t6 K t20 t1) fun k5 =>
 pu P (oFldA T.impl_Step t5 0) fun t170 =>
 st P (oLoad T.int t170) w6 fun t171 w54 =>
 pu P (oBin .eql T.int false true t171 (.int .i64 17)) fun t172 =>
 gd t172 true w54 (fun K26 => pu P (oFldA T.impl_Step t5 7) fun v => K26 v w54) fun t174 w55 =>
 gd t172 true w55 (fun K27 => st P (oLoad T.int64 t174) w55 K27) fun t175 w56 =>
 gd t172 true w56 (fun K28 => pu P (oBin .lss T.int64 false true t175 (.int .i64 0)) fun v => K28 v w56) fun t176 w57 =>
 pu P (oPick t172 t176 (.bool false)) fun t177 =>
 cd t177 (
 pu P (oBuild T.impl_Answer #[(0, (.int .i64 7))]) fun t178 =>
 st P (oStore T.impl_Answer t6 t178) w57 fun _ w58 =>
 rsl P T.impl_Answer t6 w58 fun r4 =>
 K (tup [r4]) w58) (
 k5 [] w57)
def J_spec_Mem_file_10 (t6 : Value) (K : Value → World → Prop) (s8 : List Value) (u8 : Env) (w60 : World) : Prop :=
 pu P (oBuild T.impl_Answer #[(0, (.int .i64 6))]) fun t169 =>
 st P (oStore T.impl_Answer t6 t169) w60 fun _ w61 =>
 rsl P T.impl_Answer t6 w61 fun r5 =>
 K (tup [r5]) w61
def J_spec_Mem_file_11 (t6 : Value) (K : Value → World → Prop) (t5 : Value) (w59 : World) (t1 : Value) : Prop :=
 jn (J_spec_Mem_file_10 t6 K) fun k8 =>
 pu P (oFldA T.impl_Step t5 0) fun t161 =>
 st P (oLoad T.int t161) w59 fun t162 w62 =>
 pu P (oBin .eql T.int false true t162 (.int .i64 15)) fun t163 =>
 cd t163 (
 pu P (oFldA T.impl_Step t5 7) fun t165 =>
 st P (oLoad T.int64 t165) w62 fun t166 w63 =>
 pu P (oNil t1) fun t167 =>
 pu P (oFldA T.spec_MemHandle t167 1) fun t168 =>
 st P (oStore T.int64 t168 t166) w63 fun _ w64 =>
 k8 [] w64) (
 k8 [] w62)
def J_spec_Mem_file_12 (t5 : Value) (t6 : Value) (K : Value → World → Prop) (t20 : Value) (t1 : Value) (s3 : List Value) (u3 : Env) (w5 : World) : Prop :=
 jn (J_spec_Mem_file_9 t5 t6 K t20 t1) fun k4 =>
 pu P (oNil t1) fun t158 =>
 pu P (oFldA T.spec_MemHandle t158 4) fun t159 =>
 st P (oLoad T.bool t159) w5 fun t160 w59 =>
 cd t160 (J_spec_Mem_file_11 t6 K t5 w59 t1) (
 k4 [] w59)
def J_spec_Mem_file_13 (t20 : Value) (w65 : World) (t1 : Value) (t5 : Value) (t6 : Value) (K : Value → World → Prop) : Prop :=
 pu P (oNil t20) fun t76 =>
 pu P (oFldA T.spec_MemNode t76 2) fun t77 =>
 rd P (oLoad T.sl_uint8 t77) w65.drew fun t78 =>
 pu P (oNil t1) fun t80 =>
 pu P (oFldA T.spec_MemHandle t80 1) fun t81 =>
 rd P (oLoad T.int64 t81) w65.drew fun t82 =>
 pu P (oFldA T.impl_Step t5 9) fun t83 =>
 rd P (oLoad T.int t83) w65.drew fun t84 =>
 st P (oCall Fn.spec_readFrom #[t78, t82, t84]) w65.drew fun t85 w66 =>
 pu P (oExtract t85 0) fun t86 =>
 pu P (oExtract t85 1) fun t87 =>
 pu P (oNil t1) fun t89 =>
 pu P (oFldA T.spec_MemHandle t89 1) fun t90 =>
 st P (oLoad T.int64 t90) w66 fun t91 w67 =>
 pu P (oBuiltin .len #[T.sl_uint8] T.int #[false] #[t86]) fun t93 =>
 pu P (oBin .add T.int64 false false t91 t93) fun t94 =>
 pu P (oNil t1) fun t95 =>
 pu P (oFldA T.spec_MemHandle t95 1) fun t96 =>
 st P (oStore T.int64 t96 t94) w67 fun _ w68 =>
 pu P (oBuild T.impl_Answer #[(0, t87), (3, t86)]) fun t99 =>
 st P (oStore T.impl_Answer t6 t99) w68 fun _ w69 =>
 rsl P T.impl_Answer t6 w69 fun r6 =>
 K (tup [r6]) w69
def J_spec_Mem_file_14 (t20 : Value) (w65 : World) (t5 : Value) (t6 : Value) (K : Value → World → Prop) : Prop :=
 pu P (oNil t20) fun t104 =>
 pu P (oFldA T.spec_MemNode t104 2) fun t105 =>
 rd P (oLoad T.sl_uint8 t105) w65.drew fun t106 =>
 pu P (oFldA T.impl_Step t5 7) fun t107 =>
 rd P (oLoad T.int64 t107) w65.drew fun t108 =>
 pu P (oFldA T.impl_Step t5 9) fun t109 =>
 rd P (oLoad T.int t109) w65.drew fun t110 =>
 st P (oCall Fn.spec_readFrom #[t106, t108, t110]) w65.drew fun t111 w70 =>
 pu P (oExtract t111 0) fun t112 =>
 pu P (oExtract t111 1) fun t113 =>
 pu P (oBuild T.impl_Answer #[(0, t113), (3, t112)]) fun t116 =>
 st P (oStore T.impl_Answer t6 t116) w70 fun _ w71 =>
 rsl P T.impl_Answer t6 w71 fun r7 =>
 K (tup [r7]) w71
def J_spec_Mem_file_15 (t1 : Value) (t6 : Value) (K : Value → World → Prop) (s9 : List Value) (u9 : Env) (w72 : World) : Prop :=
 pu P (oNil t1) fun t153 =>
 pu P (oFldA T.spec_MemHandle t153 1) fun t154 =>
 st P (oLoad T.int64 t154) w72 fun t155 w73 =>
 pu P (oBuild T.impl_Answer #[(2, t155)]) fun t156 =>
 st P (oStore T.impl_Answer t6 t156) w73 fun _ w74 =>
 rsl P T.impl_Answer t6 w74 fun r8 =>
 K (tup [r8]) w74
def J_spec_Mem_file_16 (t1 : Value) (w75 : World) (t5 : Value) (k9 : List Value → World → Prop) : Prop :=
 pu P (oNil t1) fun t131 =>
 pu P (oFldA T.spec_MemHandle t131 1) fun t132 =>
 rd P (oLoad T.int64 t132) w75.drew fun t133 =>
 pu P (oFldA T.impl_Step t5 7) fun t134 =>
 rd P (oLoad T.int64 t134) w75.drew fun t135 =>
 pu P (oBin .add T.int64 false false t133 t135) fun t136 =>
 pu P (oNil t1) fun t137 =>
 pu P (oFldA T.spec_MemHandle t137 1) fun t138 =>
 st P (oStore T.int64 t138 t136) w75.drew fun _ w78 =>
 k9 [] w78
def J_spec_Mem_file_17 (t20 : Value) (w75 : World) (t5 : Value) (t1 : Value) (k9 : List Value → World → Prop) : Prop :=
 pu P (oNil t20) fun t143 =>
 pu P (oFldA T.spec_MemNode t143 2) fun t144 =>
 rd P (oLoad T.sl_uint8 t144) w75.drew fun t145 =>
 pu P (oBuiltin .len #[T.sl_uint8] T.int #[false] #[t145]) fun t146 =>
 pu P (oFldA T.impl_Step t5 7) fun t147 =>
 rd P (oLoad T.int64 t147) w75.drew fun t148 =>
 pu P (oBin .add T.int64 false false t146 t148) fun t149 =>
 pu P (oNil t1) fun t150 =>
 pu P (oFldA T.spec_MemHandle t150 1) fun t151 =>
 st P (oStore T.int64 t151 t149) w75.drew fun _ w79 =>
 k9 [] w79
def J_spec_Mem_file_18 (t120 : Value) (t20 : Value) (w75 : World) (t5 : Value) (t1 : Value) (k9 : List Value → World → Prop) : Prop :=
 pu P (oBin .eql T.int false true t120 (.int .i64 2)) fun t140 =>
 cd t140 (J_spec_Mem_file_17 t20 w75 t5 t1 k9) (
 k9 [] w75)
def J_spec_Mem_file_19 (t120 : Value) (t1 : Value) (w75 : World) (t5 : Value) (k9 : List Value → World → Prop) (t20 : Value) : Prop :=
 pu P (oBin .eql T.int false true t120 (.int .i64 1)) fun t129 =>
 cd t129 (J_spec_Mem_file_16 t1 w75 t5 k9) (J_spec_Mem_file_18 t120 t20 w75 t5 t1 k9)
def J_spec_Mem_file_20 (t1 : Value) (t6 : Value) (K : Value → World → Prop) (t5 : Value) (w65 : World) (t20 : Value) : Prop :=
 jn (J_spec_Mem_file_15 t1 t6 K) fun k9 =>
 pu P (oFldA T.impl_Step t5 8) fun t119 =>
 st P (oLoad T.int t119) w65 fun t120 w75 =>
 pu P (oBin .eql T.int false true t120 (.int .i64 0)) fun t122 =>
 cd t122 (
 pu P (oFldA T.impl_Step t5 7) fun t124 =>
 st P (oLoad T.int64 t124) w75 fun t125 w76 =>
 pu P (oNil t1) fun t126 =>
 pu P (oFldA T.spec_MemHandle t126 1) fun t127 =>
 st P (oStore T.int64 t127 t125) w76 fun _ w77 =>
 k9 [] w77) (J_spec_Mem_file_19 t120 t1 w75 t5 k9 t20)
def J_spec_Mem_file_21 (t71 : Value) (t1 : Value) (t6 : Value) (K : Value → World → Prop) (t5 : Value) (w65 : World) (t20 : Value) (k3 : List Value → World → Prop) : Prop :=
 pu P (oBin .eql T.int false true t71 (.int .i64 16)) fun t118 =>
 cd t118 (J_spec_Mem_file_20 t1 t6 K t5 w65 t20) (
 k3 [] w65)
def J_spec_Mem_file_22 (t71 : Value) (t20 : Value) (w65 : World) (t5 : Value) (t6 : Value) (K : Value → World → Prop) (t1 : Value) (k3 : List Value → World → Prop) : Prop :=
 pu P (oBin .eql T.int false true t71 (.int .i64 13)) fun t101 =>
 cd t101 (J_spec_Mem_file_14 t20 w65 t5 t6 K) (J_spec_Mem_file_21 t71 t1 t6 K t5 w65 t20 k3)
def J_spec_Mem_file_23 (t5 : Value) (t6 : Value) (K : Value → World → Prop) (t20 : Value) (t1 : Value) (s2 : List Value) (u2 : Env) (w4 : World) : Prop :=
 jn (J_spec_Mem_file_12 t5 t6 K t20 t1) fun k3 =>
 pu P (oFldA T.impl_Step t5 0) fun t70 =>
 st P (oLoad T.int t70) w4 fun t71 w65 =>
 pu P (oBin .eql T.int false true t71 (.int .i64 12)) fun t73 =>
 cd t73 (J_spec_Mem_file_13 t20 w65 t1 t5 t6 K) (J_spec_Mem_file_22 t71 t20 w65 t5 t6 K t1 k3)
def J_spec_Mem_file_24 (t5 : Value) (t6 : Value) (K : Value → World → Prop) (t20 : Value) (t1 : Value) (s1 : List Value) (u1 : Env) (w3 : World) : Prop :=
 jn (J_spec_Mem_file_23 t5 t6 K t20 t1) fun k2 =>
 pu P (oNil t1) fun t66 =>
 pu P (oFldA T.spec_MemHandle t66 3) fun t67 =>
 st P (oLoad T.bool t67) w3 fun t68 w80 =>
 cd t68 (
 pu P (oBuild T.impl_Answer #[(0, (.int .i64 3))]) fun t69 =>
 st P (oStore T.impl_Answer t6 t69) w80 fun _ w81 =>
 rsl P T.impl_Answer t6 w81 fun r9 =>
 K (tup [r9]) w81) (
 k2 [] w80)
def J_spec_Mem_file_25 (t6 : Value) (K : Value → World → Prop) (s10 : List Value) (u10 : Env) (w84 : World) : Prop :=
 pu P (oBuild T.impl_Answer #[]) fun t36 =>
 st P (oStore T.impl_Answer t6 t36) w84 fun _ w85 =>
 rsl P T.impl_Answer t6 w85 fun r10 =>
 K (tup [r10]) w85
def J_spec_Mem_file_26 (t1 : Value) (w82 : World) (t6 : Value) (K : Value → World → Prop) (t20 : Value) : Prop :=
 pu P (oNil t1) fun t26 =>
 pu P (oFldA T.spec_MemHandle t26 3) fun t27 =>
 st P (oStore T.bool t27 (.bool true)) w82 fun _ w83 =>
 jn (J_spec_Mem_file_25 t6 K) fun k10 =>
 pu P (oNil t1) fun t29 =>
 pu P (oFldA T.spec_MemHandle t29 4) fun t30 =>
 st P (oLoad T.bool t30) w83 fun t31 w86 =>
 pu P (oUn .not t31) fun t32 =>
 cd t32 (
 pu P (oNil t20) fun t34 =>
 pu P (oFldA T.spec_MemNode t34 3) fun t35 =>
 st P (oStore T.int64 t35 (.int .i64 0)) w86 fun _ w87 =>
 k10 [] w87) (
 k10 [] w86)
def J_spec_Mem_file_27 (t1 : Value) (w82 : World) (t0 : Value) (t6 : Value) (K : Value → World → Prop) : Prop :=
 pu P (oNil t1) fun t41 =>
 pu P (oFldA T.spec_MemHandle t41 0) fun t42 =>
 st P (oLoad T.int t42) w82 fun t43 w88 =>
 st P (oCall Fn.spec_Mem_info #[t0, t43]) w88 fun t44 w89 =>
 st P (oBuildSlice T.sl_impl_Info 1 #[(0, t44)]) w89 fun t45 w90 =>
 pu P (oBuild T.impl_Answer #[(5, t45)]) fun t46 =>
 st P (oStore T.impl_Answer t6 t46) w90 fun _ w91 =>
 rsl P T.impl_Answer t6 w91 fun r11 =>
 K (tup [r11]) w91
def J_spec_Mem_file_28 (t20 : Value) (w82 : World) (t6 : Value) (K : Value → World → Prop) : Prop :=
 pu P (oNil t20) fun t50 =>
 pu P (oFldA T.spec_MemNode t50 4) fun t51 =>
 st P (oLoad T.string t51) w82 fun t52 w92 =>
 st P (oBuildSlice T.sl_string 1 #[(0, t52)]) w92 fun t53 w93 =>
 pu P (oBuild T.impl_Answer #[(4, t53)]) fun t54 =>
 st P (oStore T.impl_Answer t6 t54) w93 fun _ w94 =>
 rsl P T.impl_Answer t6 w94 fun r12 =>
 K (tup [r12]) w94
def J_spec_Mem_file_29 (t5 : Value) (t0 : Value) (t1 : Value) (t6 : Value) (K : Value → World → Prop) (k1 : List Value → World → Prop) (s11 : List Value) (u11 : Env) (w96 : World) : Prop :=
 cd (gs s11 0) (
 st P (oLoad T.impl_Step t5) w96 fun t63 w97 =>
 st P (oCall Fn.spec_Mem_list #[t0, t1, t63]) w97 fun t64 w98 =>
 st P (oStore T.impl_Answer t6 t64) w98 fun _ w99 =>
 rsl P T.impl_Answer t6 w99 fun r14 =>
 K (tup [r14]) w99) (
 k1 [] w96)
def J_spec_Mem_file_30 (t5 : Value) (t0 : Value) (t1 : Value) (t6 : Value) (K : Value → World → Prop) (k1 : List Value → World → Prop) (t22 : Value) (w82 : World) : Prop :=
 jn (J_spec_Mem_file_29 t5 t0 t1 t6 K k1) fun k11 =>
 pu P (oBin .eql T.int false true t22 (.int .i64 19)) fun t59 =>
 cd t59 (
 k11 [t59] w82) (
 pu P (oBin .eql T.int false true t22 (.int .i64 20)) fun t60 =>
 k11 [t60] w82)
def J_spec_Mem_file_31 (t22 : Value) (t6 : Value) (w82 : World) (K : Value → World → Prop) (t5 : Value) (t0 : Value) (t1 : Value) (k1 : List Value → World → Prop) : Prop :=
 pu P (oBin .eql T.int false true t22 (.int .i64 23)) fun t56 =>
 cd t56 (
 pu P (oBuild T.impl_Answer #[]) fun t57 =>
 st P (oStore T.impl_Answer t6 t57) w82 fun _ w95 =>
 rsl P T.impl_Answer t6 w95 fun r13 =>
 K (tup [r13]) w95) (J_spec_Mem_file_30 t5 t0 t1 t6 K k1 t22 w82)
def J_spec_Mem_file_32 (t22 : Value) (t20 : Value) (w82 : World) (t6 : Value) (K : Value → World → Prop) (t5 : Value) (t0 : Value) (t1 : Value) (k1 : List Value → World → Prop) : Prop :=
 pu P (oBin .eql T.int false true t22 (.int .i64 22)) fun t48 =>
 cd t48 (J_spec_Mem_file_28 t20 w82 t6 K) (J_spec_Mem_file_31 t22 t6 w82 K t5 t0 t1 k1)
def J_spec_Mem_file_33 (t22 : Value) (t1 : Value) (w82 : World) (t0 : Value) (t6 : Value) (K : Value → World → Prop) (t20 : Value) (t5 : Value) (k1 : List Value → World → Prop) : Prop :=
 pu P (oBin .eql T.int false true t22 (.int .i64 21)) fun t38 =>
 cd t38 (J_spec_Mem_file_27 t1 w82 t0 t6 K) (J_spec_Mem_file_32 t22 t20 w82 t6 K t5 t0 t1 k1)
def F_spec_Mem_file (t0 t1 t2 : Value) (w : World) (K : Value → World → Prop) : Prop :=
 st P (oBox T.impl_Step t2) w fun t5 w1 =>
 st P (oAlloc T.impl_Answer) w1 fun t6 w2 =>
 pu P (oNil t0) fun t13 =>
 pu P (oFldA T.spec_Mem t13 2) fun t14 =>
 rd P (oLoad T.sl_spec_MemNode t14) w2.drew fun t15 =>
 pu P (oNil t1) fun t17 =>
 pu P (oFldA T.spec_MemHandle t17 0) fun t18 =>
 rd P (oLoad T.int t18) w2.drew fun t19 =>
 pu P (oIdxA T.sl_spec_MemNode t15 t19) fun t20 =>
 jn (J_spec_Mem_file_24 t5 t6 K t20 t1) fun k1 =>
 pu P (oFldA T.impl_Step t5 0) fun t21 =>
 st P (oLoad T.int t21) w2.drew fun t22 w82 =>
 pu P (oBin .eql T.int false true t22 (.int .i64 18)) fun t24 =>
 cd t24 (J_spec_Mem_file_26 t1 w82 t6 K t20) (J_spec_Mem_file_33 t22 t1 w82 t0 t6 K t20 t5 k1)
def Tb_spec_Mem_file : Tab := { join := fun n => match n with | 16 => [58] | _ => [], loop := fun n => match n with | _ => [] }
theorem S_spec_Mem_file {t0 t1 t2 : Value} {w : World} {K : Value → World → Prop} (h : F_spec_Mem_file t0 t1 t2 w K) : Cl P Fn.spec_Mem_file #[t0, t1, t2] w K :=
  cl_of_eq (T := Tb_spec_Mem_file) (args := [t0, t1, t2]) Tryd.func40 rfl follows_mixed (by kernel_rfl) (Nat.le_of_ble_eq_true (by kernel_rfl)) (by kernel_rfl) h
def F_mem_CreateFile (t0 : Value) (w : World) (K : Value → World → Prop) : Prop :=
 pu P (oBuild T.mem_FileData #[(0, t0), (4, (.int .u32 268435456))]) fun t4 =>
 st P (oBox T.mem_FileData t4) w fun t5 w1 =>
 K (tup [t5]) w1
def Tb_mem_CreateFile : Tab := { join := fun n => match n with | _ => [], loop := fun n => match n with | _ => [] }
theorem S_mem_CreateFile {t0 : Value} {w : World} {K : Value → World → Prop} (h : F_mem_CreateFile t0 w K) : Cl P Fn.mem_CreateFile #[t0] w K :=
  cl_of_eq (T := Tb_mem_CreateFile) (args := [t0]) Tryd.func41 rfl follows_mixed (by kernel_rfl) (Nat.le_of_ble_eq_true (by kernel_rfl)) (by kernel_rfl) h
def F_mem_File_Read (t0 t1 : Value) (w : World) (K : Value → World → Prop) : Prop :=
 jn (fun s1 u1 w1 =>
 jn (fun s2 u2 w2 =>
 jn (fun s3 u3 w3 =>
 jn (fun s4 u4 w4 =>
 pu P (oNil t0) fun t77 =>
 pu P (oFldA T.mem_File t77 4) fun t78 =>
 rd P (oLoad T.p_mem_FileData t78) w4.drew fun t79 =>
 pu P (oNil t79) fun t80 =>
 pu P (oFldA T.mem_FileData t80 1) fun t81 =>
 rd P (oLoad T.sl_uint8 t81) w4.drew fun t82 =>
 pu P (oNil t0) fun t84 =>
 pu P (oFldA T.mem_File t84 0) fun t85 =>
 rd P (oLoad T.int64 t85) w4.drew fun t86 =>
 pu P (oNil t0) fun t88 =>
 pu P (oFldA T.mem_File t88 0) fun t89 =>
 rd P (oLoad T.int64 t89) w4.drew fun t90 =>
 pu P (oBin .add T.int64 false false t90 (gs s4 0)) fun t92 =>
 pu P (oSlice T.sl_uint8 t82 (some t86) (some t92) none) fun t93 =>
 st P (oBuiltin .copy #[T.sl_uint8, T.sl_uint8] T.int #[false, false] #[t1, t93]) w4.drew fun t94 w5 =>
 pu P (oNil t0) fun t96 =>
 pu P (oFldA T.mem_File t96 0) fun t97 =>
 st P (oLoad T.int64 t97) w5 fun t98 w6 =>
 pu P (oBin .add T.int64 false false t98 (gs s4 0)) fun t100 =>
 pu P (oNil t0) fun t101 =>
 pu P (oFldA T.mem_File t101 0) fun t102 =>
 st P (oStore T.int64 t102 t100) w6 fun _ w7 =>
 K (tup [(gs s4 0), (gs s3 0)]) w7) fun k4 =>
 pu P (oNil t0) fun t45 =>
 pu P (oFldA T.mem_File t45 4) fun t46 =>
 rd P (oLoad T.p_mem_FileData t46) w3.drew fun t47 =>
 pu P (oNil t47) fun t48 =>
 pu P (oFldA T.mem_FileData t48 1) fun t49 =>
 rd P (oLoad T.sl_uint8 t49) w3.drew fun t50 =>
 pu P (oBuiltin .len #[T.sl_uint8] T.int #[false] #[t50]) fun t51 =>
 pu P (oNil t0) fun t53 =>
 pu P (oFldA T.mem_File t53 0) fun t54 =>
 rd P (oLoad T.int64 t54) w3.drew fun t55 =>
 pu P (oBin .sub T.int false false t51 t55) fun t56 =>
 pu P (oBuiltin .len #[T.sl_uint8] T.int #[false] #[t1]) fun t58 =>
 pu P (oBin .geq T.int false false t56 t58) fun t59 =>
 cd t59 (
 pu P (oBuiltin .len #[T.sl_uint8] T.int #[false] #[t1]) fun t61 =>
 k4 [t61] w3.drew) (
 pu P (oNil t0) fun t63 =>
 pu P (oFldA T.mem_File t63 4) fun t64 =>
 rd P (oLoad T.p_mem_FileData t64) w3.drew.drew fun t65 =>
 pu P (oNil t65) fun t66 =>
 pu P (oFldA T.mem_FileData t66 1) fun t67 =>
 rd P (oLoad T.sl_uint8 t67) w3.drew.drew fun t68 =>
 pu P (oBuiltin .len #[T.sl_uint8] T.int #[false] #[t68]) fun t69 =>
 pu P (oNil t0) fun t71 =>
 pu P (oFldA T.mem_File t71 0) fun t72 =>
 rd P (oLoad T.int64 t72) w3.drew.drew fun t73 =>
 pu P (oBin .sub T.int false false t69 t73) fun t74 =>
 k4 [t74] w3.drew.drew)) fun k3 =>
 pu P (oNil t0) fun t31 =>
 pu P (oFldA T.mem_File t31 0) fun t32 =>
 rd P (oLoad T.int64 t32) w2.drew fun t33 =>
 pu P (oNil t0) fun t35 =>
 pu P (oFldA T.mem_File t35 4) fun t36 =>
 rd P (oLoad T.p_mem_FileData t36) w2.drew fun t37 =>
 pu P (oNil t37) fun t38 =>
 pu P (oFldA T.mem_FileData t38 1) fun t39 =>
 rd P (oLoad T.sl_uint8 t39) w2.drew fun t40 =>
 pu P (oBuiltin .len #[T.sl_uint8] T.int #[false] #[t40]) fun t41 =>
 pu P (oBin .gtr T.int false false t33 t41) fun t42 =>
 cd t42 (
 rd P (oLoad T.error (.pointer (some ⟨G.io_ErrUnexpectedEOF, 0, none⟩))) w2.drew.drew fun t43 =>
 K (tup [(.int .i64 0), t43]) w2.drew.drew) (
 k3 [(gs s2 0)] w2.drew)) fun k2 =>
 pu P (oBuiltin .len #[T.sl_uint8] T.int #[false] #[t1]) fun t12 =>
 pu P (oBin .gtr T.int false true t12 (.int .i64 0)) fun t13 =>
 gd t13 true w1.drew (fun K1 => K1 t0 w1.drew) fun t15 w8 =>
 gd t13 true w8 (fun K2 => pu P (oNil t15) fun v => K2 v w8) fun t16 w9 =>
 gd t13 true w9 (fun K3 => pu P (oFldA T.mem_File t16 0) fun v => K3 v w9) fun t17 w10 =>
 gd t13 true w10 (fun K4 => rd P (oLoad T.int64 t17) w10 fun v => K4 v w10) fun t18 w11 =>
 gd t13 true w11 (fun K5 => K5 t0 w11) fun t19 w12 =>
 gd t13 true w12 (fun K6 => pu P (oNil t19) fun v => K6 v w12) fun t20 w13 =>
 gd t13 true w13 (fun K7 => pu P (oFldA T.mem_File t20 4) fun v => K7 v w13) fun t21 w14 =>
 gd t13 true w14 (fun K8 => rd P (oLoad T.p_mem_FileData t21) w14 fun v => K8 v w14) fun t22 w15 =>
 gd t13 true w15 (fun K9 => pu P (oNil t22) fun v => K9 v w15) fun t23 w16 =>
 gd t13 true w16 (fun K10 => pu P (oFldA T.mem_FileData t23 1) fun v => K10 v w16) fun t24 w17 =>
 gd t13 true w17 (fun K11 => rd P (oLoad T.sl_uint8 t24) w17 fun v => K11 v w17) fun t25 w18 =>
 gd t13 true w18 (fun K12 => pu P (oBuiltin .len #[T.sl_uint8] T.int #[false] #[t25]) fun v => K12 v w18) fun t26 w19 =>
 gd t13 true w19 (fun K13 => pu P (oBin .eql T.int false false t18 t26) fun v => K13 v w19) fun t27 w20 =>
 pu P (oPick t13 t27 (.bool false)) fun t28 =>
 cd t28 (
 rd P (oLoad T.error (.pointer (some ⟨G.io_EOF, 0, none⟩))) w20.drew fun t29 =>
 K (tup [(.int .i64 0), t29]) w20.drew) (
 k2 [(gs s1 0)] w20)) fun k1 =>
 pu P (oNil t0) fun t7 =>
 pu P (oFldA T.mem_File t7 2) fun t8 =>
 st P (oLoad T.bool t8) w fun t9 w21 =>
 cd t9 (
 rd P (oLoad T.error (.pointer (some ⟨G.mem_ErrFileClosed, 0, none⟩))) w21.drew fun t10 =>
 K (tup [(.int .i64 0), t10]) w21.drew) (
 k1 [.nilIface] w21)
def Tb_mem_File_Read : Tab := { join := fun n => match n with | 3 => [5] | 5 => [5] | 7 => [5] | 10 => [4] | _ => [], loop := fun n => match n with | _ => [] }
theorem S_mem_File_Read {t0 t1 : Value} {w : World} {K : Value → World → Prop} (h : F_mem_File_Read t0 t1 w K) : Cl P Fn.mem_File_Read #[t0, t1] w K :=
  cl_of_eq (T := Tb_mem_File_Read) (args := [t0, t1]) Tryd.func42 rfl follows_mixed (by kernel_rfl) (Nat.le_of_ble_eq_true (by kernel_rfl)) (by kernel_rfl) h
def F_mem_File_ReadAt (t0 t1 t2 : Value) (w : World) (K : Value → World → Prop) : Prop :=
 pu P (oNil t0) fun t10 =>
 pu P (oFldA T.mem_File t10 0) fun t11 =>
 st P (oLoad T.int64 t11) w fun t12 w1 =>
 pu P (oNil t0) fun t15 =>
 pu P (oFldA T.mem_File t15 0) fun t16 =>
 st P (oStore T.int64 t16 t2) w1 fun _ w2 =>
 st P (oCall Fn.mem_File_Read #[t0, t1]) w2 fun t20 w3 =>
 pu P (oExtract t20 0) fun t21 =>
 pu P (oExtract t20 1) fun t22 =>
 pu P (oNil t0) fun t25 =>
 pu P (oFldA T.mem_File t25 0) fun t26 =>
 st P (oStore T.int64 t26 t12) w3 fun _ w4 =>
 K (tup [t21, t22]) w4
def Tb_mem_File_ReadAt : Tab := { join := fun n => match n with | _ => [], loop := fun n => match n with | _ => [] }
theorem S_mem_File_ReadAt {t0 t1 t2 : Value} {w : World} {K : Value → World → Prop} (h : F_mem_File_ReadAt t0 t1 t2 w K) : Cl P Fn.mem_File_ReadAt #[t0, t1, t2] w K :=
  cl_of_eq (T := Tb_mem_File_ReadAt) (args := [t0, t1, t2]) Tryd.func43 rfl follows_mixed (by kernel_rfl) (Nat.le_of_ble_eq_true (by kernel_rfl)) (by kernel_rfl) h
def F_mem_File_Write (t0 t1 : Value) (w : World) (K : Value → World → Prop) : Prop :=
 jn (fun s1 u1 w1 =>
 jn (fun s2 u2 w2 =>
 pu P (oBuiltin .len #[T.sl_uint8] T.int #[false] #[t1]) fun t30 =>
 pu P (oNil t0) fun t32 =>
 pu P (oFldA T.mem_File t32 0) fun t33 =>
 st P (oLoad T.int64 t33) w2 fun t34 w3 =>
 pu P (oNil t0) fun t37 =>
 pu P (oFldA T.mem_File t37 4) fun t38 =>
 st P (oLoad T.p_mem_FileData t38) w3 fun t39 w4 =>
 pu P (oNil t39) fun t40 =>
 pu P (oFldA T.mem_FileData t40 1) fun t41 =>
 st P (oLoad T.sl_uint8 t41) w4 fun t42 w5 =>
 pu P (oBuiltin .len #[T.sl_uint8] T.int #[false] #[t42]) fun t43 =>
 pu P (oBin .sub T.int64 false false t34 t43) fun t44 =>
 jn (fun s3 u3 w6 =>
 jn (fun s4 u4 w7 =>
 pu P (oNil t0) fun t136 =>
 pu P (oFldA T.mem_File t136 4) fun t137 =>
 st P (oLoad T.p_mem_FileData t137) w7 fun t138 w8 =>
 st P (oCall Fn.mem_setModTime #[t138, (.int .i64 0)]) w8 fun t139 w9 =>
 pu P (oNil t0) fun t141 =>
 pu P (oFldA T.mem_File t141 0) fun t142 =>
 st P (oLoad T.int64 t142) w9 fun t143 w10 =>
 pu P (oBin .add T.int64 false false t143 t30) fun t145 =>
 pu P (oNil t0) fun t146 =>
 pu P (oFldA T.mem_File t146 0) fun t147 =>
 st P (oStore T.int64 t147 t145) w10 fun _ w11 =>
 K (tup [t30, (gs s2 0)]) w11) fun k4 =>
 pu P (oBin .gtr T.int64 false true t44 (.int .i64 0)) fun t69 =>
 cd t69 (
 pu P (oNil t0) fun t71 =>
 pu P (oFldA T.mem_File t71 4) fun t72 =>
 rd P (oLoad T.p_mem_FileData t72) w6.drew fun t73 =>
 pu P (oNil t0) fun t75 =>
 pu P (oFldA T.mem_File t75 4) fun t76 =>
 rd P (oLoad T.p_mem_FileData t76) w6.drew fun t77 =>
 pu P (oNil t77) fun t78 =>
 pu P (oFldA T.mem_FileData t78 1) fun t79 =>
 rd P (oLoad T.sl_uint8 t79) w6.drew fun t80 =>
 st P (oMkSlice T.sl_uint8 t44 t44) w6.drew fun t82 w12 =>
 hold P (oLoad T.sl_uint8 t79) t80 w12 ∧ hold P (oLoad T.p_mem_FileData t76) t77 w12 ∧ hold P (oLoad T.p_mem_FileData t72) t73 w12 ∧ st P (oBuiltin .append #[T.sl_uint8, T.sl_uint8] T.sl_uint8 #[false, false] #[t82, t1]) w12 fun t84 w13 =>
 hold P (oLoad T.sl_uint8 t79) t80 w13 ∧ hold P (oLoad T.p_mem_FileData t76) t77 w13 ∧ hold P (oLoad T.p_mem_FileData t72) t73 w13 ∧ st P (oBuiltin .append #[T.sl_uint8, T.sl_uint8] T.sl_uint8 #[false, false] #[t80, t84]) w13 fun t85 w14 =>
 hold P (oLoad T.p_mem_FileData t72) t73 w14 ∧ pu P (oNil t73) fun t86 =>
 pu P (oFldA T.mem_FileData t86 1) fun t87 =>
 st P (oStore T.sl_uint8 t87 t85) w14 fun _ w15 =>
 pu P (oNil t0) fun t89 =>
 pu P (oFldA T.mem_File t89 4) fun t90 =>
 rd P (oLoad T.p_mem_FileData t90) w15.drew fun t91 =>
 pu P (oNil t0) fun t93 =>
 pu P (oFldA T.mem_File t93 4) fun t94 =>
 rd P (oLoad T.p_mem_FileData t94) w15.drew fun t95 =>
 pu P (oNil t95) fun t96 =>
 pu P (oFldA T.mem_FileData t96 1) fun t97 =>
 rd P (oLoad T.sl_uint8 t97) w15.drew fun t98 =>
 st P (oBuiltin .append #[T.sl_uint8, T.sl_uint8] T.sl_uint8 #[false, false] #[t98, (gs s3 0)]) w15.drew fun t100 w16 =>
 hold P (oLoad T.p_mem_FileData t90) t91 w16 ∧ pu P (oNil t91) fun t101 =>
 pu P (oFldA T.mem_FileData t101 1) fun t102 =>
 st P (oStore T.sl_uint8 t102 t100) w16 fun _ w17 =>
 k4 [] w17) (
 pu P (oNil t0) fun t104 =>
 pu P (oFldA T.mem_File t104 4) fun t105 =>
 rd P (oLoad T.p_mem_FileData t105) w6.drew fun t106 =>
 pu P (oNil t0) fun t108 =>
 pu P (oFldA T.mem_File t108 4) fun t109 =>
 rd P (oLoad T.p_mem_FileData t109) w6.drew fun t110 =>
 pu P (oNil t110) fun t111 =>
 pu P (oFldA T.mem_FileData t111 1) fun t112 =>
 rd P (oLoad T.sl_uint8 t112) w6.drew fun t113 =>
 pu P (oSlice T.sl_uint8 t113 none (some t34) none) fun t115 =>
 st P (oBuiltin .append #[T.sl_uint8, T.sl_uint8] T.sl_uint8 #[false, false] #[t115, t1]) w6.drew fun t117 w18 =>
 hold P (oLoad T.p_mem_FileData t105) t106 w18 ∧ pu P (oNil t106) fun t118 =>
 pu P (oFldA T.mem_FileData t118 1) fun t119 =>
 st P (oStore T.sl_uint8 t119 t117) w18 fun _ w19 =>
 pu P (oNil t0) fun t121 =>
 pu P (oFldA T.mem_File t121 4) fun t122 =>
 rd P (oLoad T.p_mem_FileData t122) w19.drew fun t123 =>
 pu P (oNil t0) fun t125 =>
 pu P (oFldA T.mem_File t125 4) fun t126 =>
 rd P (oLoad T.p_mem_FileData t126) w19.drew fun t127 =>
 pu P (oNil t127) fun t128 =>
 pu P (oFldA T.mem_FileData t128 1) fun t129 =>
 rd P (oLoad T.sl_uint8 t129) w19.drew fun t130 =>
 st P (oBuiltin .append #[T.sl_uint8, T.sl_uint8] T.sl_uint8 #[false, false] #[t130, (gs s3 0)]) w19.drew fun t132 w20 =>
 hold P (oLoad T.p_mem_FileData t122) t123 w20 ∧ pu P (oNil t123) fun t133 =>
 pu P (oFldA T.mem_FileData t133 1) fun t134 =>
 st P (oStore T.sl_uint8 t134 t132) w20 fun _ w21 =>
 k4 [] w21)) fun k3 =>
 pu P (oBin .add T.int false false t30 t34) fun t47 =>
 pu P (oNil t0) fun t49 =>
 pu P (oFldA T.mem_File t49 4) fun t50 =>
 st P (oLoad T.p_mem_FileData t50) w5 fun t51 w22 =>
 pu P (oNil t51) fun t52 =>
 pu P (oFldA T.mem_FileData t52 1) fun t53 =>
 st P (oLoad T.sl_uint8 t53) w22 fun t54 w23 =>
 pu P (oBuiltin .len #[T.sl_uint8] T.int #[false] #[t54]) fun t55 =>
 pu P (oBin .lss T.int false false t47 t55) fun t56 =>
 cd t56 (
 pu P (oNil t0) fun t58 =>
 pu P (oFldA T.mem_File t58 4) fun t59 =>
 st P (oLoad T.p_mem_FileData t59) w23 fun t60 w24 =>
 pu P (oNil t60) fun t61 =>
 pu P (oFldA T.mem_FileData t61 1) fun t62 =>
 st P (oLoad T.sl_uint8 t62) w24 fun t63 w25 =>
 pu P (oBin .add T.int false false t30 t34) fun t66 =>
 pu P (oSlice T.sl_uint8 t63 (some t66) none none) fun t67 =>
 k3 [t67] w25) (
 k3 [(.slice none 0 0)] w23)) fun k2 =>
 pu P (oNil t0) fun t15 =>
 pu P (oFldA T.mem_File t15 3) fun t16 =>
 st P (oLoad T.bool t16) w1 fun t17 w26 =>
 cd t17 (
 pu P (oNil t0) fun t19 =>
 pu P (oFldA T.mem_File t19 4) fun t20 =>
 rd P (oLoad T.p_mem_FileData t20) w26.drew fun t21 =>
 pu P (oNil t21) fun t22 =>
 pu P (oFldA T.mem_FileData t22 0) fun t23 =>
 rd P (oLoad T.string t23) w26.drew fun t24 =>
 st P (oCall Fn.errors_New #[(S [102, 105, 108, 101, 32, 104, 97, 110, 100, 108, 101, 32, 105, 115, 32, 114, 101, 97, 100, 32, 111, 110, 108, 121])]) w26.drew fun t25 w27 =>
 hold P (oLoad T.string t23) t24 w27 ∧ hold P (oLoad T.p_mem_FileData t20) t21 w27 ∧ pu P (oBuild T.os_PathError #[(0, (S [119, 114, 105, 116, 101])), (1, t24), (2, t25)]) fun t26 =>
 st P (oBox T.os_PathError t26) w27 fun t27 w28 =>
 pu P (oMkIface T.p_os_PathError t27) fun t28 =>
 K (tup [(.int .i64 0), t28]) w28) (
 k2 [(gs s1 0)] w26)) fun k1 =>
 pu P (oNil t0) fun t10 =>
 pu P (oFldA T.mem_File t10 2) fun t11 =>
 st P (oLoad T.bool t11) w fun t12 w29 =>
 cd t12 (
 rd P (oLoad T.error (.pointer (some ⟨G.mem_ErrFileClosed, 0, none⟩))) w29.drew fun t13 =>
 K (tup [(.int .i64 0), t13]) w29.drew) (
 k1 [.nilIface] w29)
def Tb_mem_File_Write : Tab := { join := fun n => match n with | 3 => [5] | 5 => [5] | 11 => [8] | _ => [], loop := fun n => match n with | _ => [] }
theorem S_mem_File_Write {t0 t1 : Value} {w : World} {K : Value → World → Prop} (h : F_mem_File_Write t0 t1 w K) : Cl P Fn.mem_File_Write #[t0, t1] w K :=
  cl_of_eq (T := Tb_mem_File_Write) (args := [t0, t1]) Tryd.func44 rfl follows_mixed (by kernel_rfl) (Nat.le_of_ble_eq_true (by kernel_rfl)) (by kernel_rfl) h
def F_mem_File_WriteAt (t0 t1 t2 : Value) (w : World) (K : Value → World → Prop) : Prop :=
 pu P (oNil t0) fun t10 =>
 pu P (oFldA T.mem_File t10 0) fun t11 =>
 st P (oStore T.int64 t11 t2) w fun _ w1 =>
 st P (oCall Fn.mem_File_Write #[t0, t1]) w1 fun t14 w2 =>
 pu P (oExtract t14 0) fun t15 =>
 pu P (oExtract t14 1) fun t16 =>
 K (tup [t15, t16]) w2
def Tb_mem_File_WriteAt : Tab := { join := fun n => match n with | _ => [], loop := fun n => match n with | _ => [] }
theorem S_mem_File_WriteAt {t0 t1 t2 : Value} {w : World} {K : Value → World → Prop} (h : F_mem_File_WriteAt t0 t1 t2 w K) : Cl P Fn.mem_File_WriteAt #[t0, t1, t2] w K :=
  cl_of_eq (T := Tb_mem_File_WriteAt) (args := [t0, t1, t2]) Tryd.func45 rfl follows_mixed (by kernel_rfl) (Nat.le_of_ble_eq_true (by kernel_rfl)) (by kernel_rfl) h
def F_mem_File_Seek (t0 t1 t2 : Value) (w : World) (K : Value → World → Prop) : Prop :=
 jn (fun s1 u1 w1 =>
 jn (fun s2 u2 w2 =>
 pu P (oNil t0) fun t46 =>
 pu P (oFldA T.mem_File t46 0) fun t47 =>
 st P (oLoad T.int64 t47) w2 fun t48 w3 =>
 K (tup [t48, .nilIface]) w3) fun k2 =>
 pu P (oBin .eql T.int false true t2 (.int .i64 0)) fun t15 =>
 cd t15 (
 pu P (oNil t0) fun t18 =>
 pu P (oFldA T.mem_File t18 0) fun t19 =>
 st P (oStore T.int64 t19 t1) w1 fun _ w4 =>
 k2 [] w4) (
 pu P (oBin .eql T.int false true t2 (.int .i64 1)) fun t21 =>
 cd t21 (
 pu P (oNil t0) fun t23 =>
 pu P (oFldA T.mem_File t23 0) fun t24 =>
 st P (oLoad T.int64 t24) w1 fun t25 w5 =>
 pu P (oBin .add T.int64 false false t25 t1) fun t27 =>
 pu P (oNil t0) fun t28 =>
 pu P (oFldA T.mem_File t28 0) fun t29 =>
 st P (oStore T.int64 t29 t27) w5 fun _ w6 =>
 k2 [] w6) (
 pu P (oBin .eql T.int false true t2 (.int .i64 2)) fun t31 =>
 cd t31 (
 pu P (oNil t0) fun t34 =>
 pu P (oFldA T.mem_File t34 4) fun t35 =>
 st P (oLoad T.p_mem_FileData t35) w1 fun t36 w7 =>
 pu P (oNil t36) fun t37 =>
 pu P (oFldA T.mem_FileData t37 1) fun t38 =>
 st P (oLoad T.sl_uint8 t38) w7 fun t39 w8 =>
 pu P (oBuiltin .len #[T.sl_uint8] T.int #[false] #[t39]) fun t40 =>
 pu P (oBin .add T.int64 false false t40 t1) fun t42 =>
 pu P (oNil t0) fun t43 =>
 pu P (oFldA T.mem_File t43 0) fun t44 =>
 st P (oStore T.int64 t44 t42) w8 fun _ w9 =>
 k2 [] w9) (
 k2 [] w1)))) fun k1 =>
 pu P (oNil t0) fun t9 =>
 pu P (oFldA T.mem_File t9 2) fun t10 =>
 st P (oLoad T.bool t10) w fun t11 w10 =>
 cd t11 (
 rd P (oLoad T.error (.pointer (some ⟨G.mem_ErrFileClosed, 0, none⟩))) w10.drew fun t12 =>
 K (tup [(.int .i64 0), t12]) w10.drew) (
 k1 [] w10)
def Tb_mem_File_Seek : Tab := { join := fun n => match n with | _ => [], loop := fun n => match n with | _ => [] }
theorem S_mem_File_Seek {t0 t1 t2 : Value} {w : World} {K : Value → World → Prop} (h : F_mem_File_Seek t0 t1 t2 w K) : Cl P Fn.mem_File_Seek #[t0, t1, t2] w K :=
  cl_of_eq (T := Tb_mem_File_Seek) (args := [t0, t1, t2]) Tryd.func46 rfl follows_mixed (by kernel_rfl) (Nat.le_of_ble_eq_true (by kernel_rfl)) (by kernel_rfl) h
def F_mem_File_Truncate (t0 t1 : Value) (w : World) (K : Value → World → Prop) : Prop :=
 jn (fun s1 u1 w1 =>
 jn (fun s2 u2 w2 =>
 jn (fun s3 u3 w3 =>
 jn (fun s4 u4 w4 =>
 pu P (oNil t0) fun t80 =>
 pu P (oFldA T.mem_File t80 4) fun t81 =>
 st P (oLoad T.p_mem_FileData t81) w4 fun t82 w5 =>
 st P (oCall Fn.mem_setModTime #[t82, (.int .i64 0)]) w5 fun t83 w6 =>
 K (tup [.nilIface]) w6) fun k4 =>
 pu P (oNil t0) fun t31 =>
 pu P (oFldA T.mem_File t31 4) fun t32 =>
 st P (oLoad T.p_mem_FileData t32) w3 fun t33 w7 =>
 pu P (oNil t33) fun t34 =>
 pu P (oFldA T.mem_FileData t34 1) fun t35 =>
 st P (oLoad T.sl_uint8 t35) w7 fun t36 w8 =>
 pu P (oBuiltin .len #[T.sl_uint8] T.int #[false] #[t36]) fun t37 =>
 pu P (oBin .gtr T.int64 false false t1 t37) fun t38 =>
 cd t38 (
 pu P (oNil t0) fun t41 =>
 pu P (oFldA T.mem_File t41 4) fun t42 =>
 st P (oLoad T.p_mem_FileData t42) w8 fun t43 w9 =>
 pu P (oNil t43) fun t44 =>
 pu P (oFldA T.mem_FileData t44 1) fun t45 =>
 st P (oLoad T.sl_uint8 t45) w9 fun t46 w10 =>
 pu P (oBuiltin .len #[T.sl_uint8] T.int #[false] #[t46]) fun t47 =>
 pu P (oBin .sub T.int64 false false t1 t47) fun t48 =>
 pu P (oNil t0) fun t50 =>
 pu P (oFldA T.mem_File t50 4) fun t51 =>
 rd P (oLoad T.p_mem_FileData t51) w10.drew fun t52 =>
 pu P (oNil t0) fun t54 =>
 pu P (oFldA T.mem_File t54 4) fun t55 =>
 rd P (oLoad T.p_mem_FileData t55) w10.drew fun t56 =>
 pu P (oNil t56) fun t57 =>
 pu P (oFldA T.mem_FileData t57 1) fun t58 =>
 rd P (oLoad T.sl_uint8 t58) w10.drew fun t59 =>
 st P (oBuiltin .append #[T.sl_uint8, T.int] T.sl_uint8 #[false, false] #[t59, t48]) w10.drew fun t61 w11 =>
 hold P (oLoad T.p_mem_FileData t51) t52 w11 ∧ pu P (oNil t52) fun t62 =>
 pu P (oFldA T.mem_FileData t62 1) fun t63 =>
 st P (oStore T.sl_uint8 t63 t61) w11 fun _ w12 =>
 k4 [] w12) (
 pu P (oNil t0) fun t65 =>
 pu P (oFldA T.mem_File t65 4) fun t66 =>
 rd P (oLoad T.p_mem_FileData t66) w8.drew fun t67 =>
 pu P (oNil t0) fun t69 =>
 pu P (oFldA T.mem_File t69 4) fun t70 =>
 rd P (oLoad T.p_mem_FileData t70) w8.drew fun t71 =>
 pu P (oNil t71) fun t72 =>
 pu P (oFldA T.mem_FileData t72 1) fun t73 =>
 rd P (oLoad T.sl_uint8 t73) w8.drew fun t74 =>
 pu P (oSlice T.sl_uint8 t74 (some (.int .i64 0)) (some t1) none) fun t76 =>
 pu P (oNil t67) fun t77 =>
 pu P (oFldA T.mem_FileData t77 1) fun t78 =>
 st P (oStore T.sl_uint8 t78 t76) w8.drew fun _ w13 =>
 k4 [] w13)) fun k3 =>
 pu P (oBin .lss T.int64 false true t1 (.int .i64 0)) fun t27 =>
 cd t27 (
 st P (oLoad T.error (.pointer (some ⟨G.mem_ErrOutOfRange, 0, none⟩))) w2 fun t28 w14 =>
 K (tup [t28]) w14) (
 k3 [] w2)) fun k2 =>
 pu P (oNil t0) fun t12 =>
 pu P (oFldA T.mem_File t12 3) fun t13 =>
 st P (oLoad T.bool t13) w1 fun t14 w15 =>
 cd t14 (
 pu P (oNil t0) fun t16 =>
 pu P (oFldA T.mem_File t16 4) fun t17 =>
 rd P (oLoad T.p_mem_FileData t17) w15.drew fun t18 =>
 pu P (oNil t18) fun t19 =>
 pu P (oFldA T.mem_FileData t19 0) fun t20 =>
 rd P (oLoad T.string t20) w15.drew fun t21 =>
 st P (oCall Fn.errors_New #[(S [102, 105, 108, 101, 32, 104, 97, 110, 100, 108, 101, 32, 105, 115, 32, 114, 101, 97, 100, 32, 111, 110, 108, 121])]) w15.drew fun t22 w16 =>
 hold P (oLoad T.string t20) t21 w16 ∧ hold P (oLoad T.p_mem_FileData t17) t18 w16 ∧ pu P (oBuild T.os_PathError #[(0, (S [116, 114, 117, 110, 99, 97, 116, 101])), (1, t21), (2, t22)]) fun t23 =>
 st P (oBox T.os_PathError t23) w16 fun t24 w17 =>
 pu P (oMkIface T.p_os_PathError t24) fun t25 =>
 K (tup [t25]) w17) (
 k2 [] w15)) fun k1 =>
 pu P (oNil t0) fun t7 =>
 pu P (oFldA T.mem_File t7 2) fun t8 =>
 st P (oLoad T.bool t8) w fun t9 w18 =>
 cd t9 (
 st P (oLoad T.error (.pointer (some ⟨G.mem_ErrFileClosed, 0, none⟩))) w18 fun t10 w19 =>
 K (tup [t10]) w19) (
 k1 [] w18)
def Tb_mem_File_Truncate : Tab := { join := fun n => match n with | _ => [], loop := fun n => match n with | _ => [] }
theorem S_mem_File_Truncate {t0 t1 : Value} {w : World} {K : Value → World → Prop} (h : F_mem_File_Truncate t0 t1 w K) : Cl P Fn.mem_File_Truncate #[t0, t1] w K :=
  cl_of_eq (T := Tb_mem_File_Truncate) (args := [t0, t1]) Tryd.func47 rfl follows_mixed (by kernel_rfl) (Nat.le_of_ble_eq_true (by kernel_rfl)) (by kernel_rfl) h
def F_mem_File_Close (t0 : Value) (w : World) (K : Value → World → Prop) : Prop :=
 pu P (oNil t0) fun t4 =>
 pu P (oFldA T.mem_File t4 2) fun t5 =>
 st P (oStore T.bool t5 (.bool true)) w fun _ w1 =>
 jn (fun s1 u1 w2 =>
 K (tup [.nilIface]) w2) fun k1 =>
 pu P (oNil t0) fun t7 =>
 pu P (oFldA T.mem_File t7 3) fun t8 =>
 st P (oLoad T.bool t8) w1 fun t9 w3 =>
 pu P (oUn .not t9) fun t10 =>
 cd t10 (
 pu P (oNil t0) fun t12 =>
 pu P (oFldA T.mem_File t12 4) fun t13 =>
 st P (oLoad T.p_mem_FileData t13) w3 fun t14 w4 =>
 st P (oCall Fn.mem_setModTime #[t14, (.int .i64 0)]) w4 fun t15 w5 =>
 k1 [] w5) (
 k1 [] w3)
def Tb_mem_File_Close : Tab := { join := fun n => match n with | _ => [], loop := fun n => match n with | _ => [] }
theorem S_mem_File_Close {t0 : Value} {w : World} {K : Value → World → Prop} (h : F_mem_File_Close t0 w K) : Cl P Fn.mem_File_Close #[t0] w K :=
  cl_of_eq (T := Tb_mem_File_Close) (args := [t0]) Tryd.func48 rfl follows_mixed (by kernel_rfl) (Nat.le_of_ble_eq_true (by kernel_rfl)) (by kernel_rfl) h
def J_mem_File_Readdir_1 (K : Value → World → Prop) (t65 : Value) (s2 : List Value) (s3 : List Value) (u3 : Env) (w7 : World) : Prop :=
 K (tup [t65, (gs s2 0)]) w7
def J_mem_File_Readdir_2 (t40 : Value) (s4 : List Value) (t65 : Value) (C1 : List Value → World → Prop) (s5 : List Value) (u5 : Env) (w9 : World) : Prop :=
 pu P (oIdxA T.sl_p_mem_FileData t40 (gs s4 0)) fun t75 =>
 st P (oLoad T.p_mem_FileData t75) w9 fun t76 w10 =>
 pu P (oBuild T.mem_FileInfo #[(0, t76)]) fun t77 =>
 st P (oBox T.mem_FileInfo t77) w10 fun t78 w11 =>
 pu P (oIdxA T.sl_p_mem_FileInfo t65 (gs s4 0)) fun t79 =>
 st P (oStore T.p_mem_FileInfo t79 t78) w11 fun _ w12 =>
 pu P (oBin .add T.int false true (gs s4 0) (.int .i64 1)) fun t80 =>
 C1 [t80] w12
def J_mem_File_Readdir_3 (t0 : Value) (K : Value → World → Prop) (t40 : Value) (s2 : List Value) (u2 : Env) (w3 : World) : Prop :=
 pu P (oNil t0) fun t57 =>
 pu P (oFldA T.mem_File t57 1) fun t58 =>
 st P (oLoad T.int64 t58) w3 fun t59 w4 =>
 pu P (oBin .add T.int64 false false t59 (gs s2 1)) fun t61 =>
 pu P (oNil t0) fun t62 =>
 pu P (oFldA T.mem_File t62 1) fun t63 =>
 st P (oStore T.int64 t63 t61) w4 fun _ w5 =>
 st P (oMkSlice T.sl_p_mem_FileInfo (gs s2 1) (gs s2 1)) w5 fun t65 w6 =>
 jn (J_mem_File_Readdir_1 K t65 s2) fun k3 =>
 pu P (oBuiltin .len #[T.sl_p_mem_FileInfo] T.int #[false] #[t65]) fun t67 =>
 lp [(.int .i64 0)] w6 fun s4 u4 w8 C1 =>
 pu P (oBin .lss T.int false false (gs s4 0) t67) fun t69 =>
 jn (J_mem_File_Readdir_2 t40 s4 t65 C1) fun k4 =>
 cd t69 (
 k4 [] w8) (
 k3 [] w8)
def J_mem_File_Readdir_4 (t40 : Value) (k2 : List Value → World → Prop) (s1 : List Value) (s6 : List Value) (u6 : Env) (w13 : World) : Prop :=
 pu P (oBuiltin .len #[T.sl_p_mem_FileData] T.int #[false] #[t40]) fun t51 =>
 pu P (oBin .eql T.int false true t51 (.int .i64 0)) fun t52 =>
 cd t52 (
 st P (oLoad T.error (.pointer (some ⟨G.io_EOF, 0, none⟩))) w13 fun t53 w14 =>
 k2 [t53, (gs s6 0)] w14) (
 k2 [(gs s1 0), (gs s6 0)] w13)
def J_mem_File_Readdir_5 (t40 : Value) (k2 : List Value → World → Prop) (s1 : List Value) (t1 : Value) (w2 : World) : Prop :=
 jn (J_mem_File_Readdir_4 t40 k2 s1) fun k5 =>
 pu P (oBuiltin .len #[T.sl_p_mem_FileData] T.int #[false] #[t40]) fun t44 =>
 pu P (oBin .lss T.int false false t44 t1) fun t46 =>
 cd t46 (
 pu P (oBuiltin .len #[T.sl_p_mem_FileData] T.int #[false] #[t40]) fun t48 =>
 k5 [t48] w2) (
 k5 [t1] w2)
def J_mem_File_Readdir_6 (t0 : Value) (K : Value → World → Prop) (t1 : Value) (s1 : List Value) (u1 : Env) (w1 : World) : Prop :=
 pu P (oNil t0) fun t29 =>
 pu P (oFldA T.mem_File t29 4) fun t30 =>
 rd P (oLoad T.p_mem_FileData t30) w1.drew fun t31 =>
 pu P (oNil t31) fun t32 =>
 pu P (oFldA T.mem_FileData t32 2) fun t33 =>
 rd P (oLoad T.mem_DirMap t33) w1.drew fun t34 =>
 pu P (oNil t0) fun t37 =>
 pu P (oFldA T.mem_File t37 1) fun t38 =>
 rd P (oLoad T.int64 t38) w1.drew fun t39 =>
 st P (oCall Fn.mem_DirMap_Files #[t34]) w1.drew fun t35 w2 =>
 hold P (oLoad T.int64 t38) t39 w2 ∧ pu P (oSlice T.sl_p_mem_FileData t35 (some t39) none none) fun t40 =>
 jn (J_mem_File_Readdir_3 t0 K t40) fun k2 =>
 pu P (oBin .gtr T.int false true t1 (.int .i64 0)) fun t42 =>
 cd t42 (J_mem_File_Readdir_5 t40 k2 s1 t1 w2) (
 pu P (oBuiltin .len #[T.sl_p_mem_FileData] T.int #[false] #[t40]) fun t55 =>
 k2 [(gs s1 0), t55] w2)
def J_mem_File_Readdir_7 (t0 : Value) (w16 : World) (K : Value → World → Prop) : Prop :=
 pu P (oNil t0) fun t18 =>
 pu P (oFldA T.mem_File t18 4) fun t19 =>
 rd P (oLoad T.p_mem_FileData t19) w16.drew fun t20 =>
 pu P (oNil t20) fun t21 =>
 pu P (oFldA T.mem_FileData t21 0) fun t22 =>
 rd P (oLoad T.string t22) w16.drew fun t23 =>
 st P (oCall Fn.errors_New #[(S [110, 111, 116, 32, 97, 32, 100, 105, 114])]) w16.drew fun t24 w17 =>
 hold P (oLoad T.string t22) t23 w17 ∧ hold P (oLoad T.p_mem_FileData t19) t20 w17 ∧ pu P (oBuild T.os_PathError #[(0, (S [114, 101, 97, 100, 100, 105, 114])), (1, t23), (2, t24)]) fun t25 =>
 st P (oBox T.os_PathError t25) w17 fun t26 w18 =>
 pu P (oMkIface T.p_os_PathError t26) fun t27 =>
 K (tup [(.slice none 0 0), t27]) w18
def F_mem_File_Readdir (t0 t1 : Value) (w : World) (K : Value → World → Prop) : Prop :=
 jn (J_mem_File_Readdir_6 t0 K t1) fun k1 =>
 pu P (oNil t0) fun t10 =>
 pu P (oFldA T.mem_File t10 4) fun t11 =>
 st P (oLoad T.p_mem_FileData t11) w fun t12 w15 =>
 pu P (oNil t12) fun t13 =>
 pu P (oFldA T.mem_FileData t13 3) fun t14 =>
 st P (oLoad T.bool t14) w15 fun t15 w16 =>
 pu P (oUn .not t15) fun t16 =>
 cd t16 (J_mem_File_Readdir_7 t0 w16 K) (
 k1 [.nilIface] w16)
def Tb_mem_File_Readdir : Tab := { join := fun n => match n with | 3 => [5] | 9 => [6] | 12 => [5, 6] | _ => [], loop := fun n => match n with | 15 => [68] | _ => [] }
theorem S_mem_File_Readdir {t0 t1 : Value} {w : World} {K : Value → World → Prop} (h : F_mem_File_Readdir t0 t1 w K) : Cl P Fn.mem_File_Readdir #[t0, t1] w K :=
  cl_of_eq (T := Tb_mem_File_Readdir) (args := [t0, t1]) Tryd.func49 rfl follows_mixed (by kernel_rfl) (Nat.le_of_ble_eq_true (by kernel_rfl)) (by kernel_rfl) h
def F_impl_fromInfos (t0 : Value) (w : World) (K : Value → World → Prop) : Prop :=
 jn (fun s1 u1 w1 =>
 K (tup [(gs s1 0)]) w1) fun k1 =>
 pu P (oBuiltin .len #[T.sl_p_mem_FileInfo] T.int #[false] #[t0]) fun t7 =>
 lp [(.slice none 0 0), (.int .i64 0)] w fun s2 u2 w2 C1 =>
 pu P (oBin .lss T.int false false (gs s2 1) t7) fun t9 =>
 jn (fun s3 u3 w3 =>
 pu P (oIdxA T.sl_p_mem_FileInfo t0 (gs s2 1)) fun t10 =>
 st P (oLoad T.p_mem_FileInfo t10) w3 fun t11 w4 =>
 st P (oCall Fn.impl_fromInfo #[t11]) w4 fun t14 w5 =>
 st P (oBuildSlice T.sl_impl_Info 1 #[(0, t14)]) w5 fun t15 w6 =>
 st P (oBuiltin .append #[T.sl_impl_Info, T.sl_impl_Info] T.sl_impl_Info #[false, false] #[(gs s2 0), t15]) w6 fun t16 w7 =>
 pu P (oBin .add T.int false true (gs s2 1) (.int .i64 1)) fun t17 =>
 C1 [t16, t17] w7) fun k2 =>
 cd t9 (
 k2 [] w2) (
 k1 [(gs s2 0)] w2)
def Tb_impl_fromInfos : Tab := { join := fun n => match n with | 7 => [3] | _ => [], loop := fun n => match n with | 3 => [3, 8] | _ => [] }
theorem S_impl_fromInfos {t0 : Value} {w : World} {K : Value → World → Prop} (h : F_impl_fromInfos t0 w K) : Cl P Fn.impl_fromInfos #[t0] w K :=
  cl_of_eq (T := Tb_impl_fromInfos) (args := [t0]) Tryd.func50 rfl follows_mixed (by kernel_rfl) (Nat.le_of_ble_eq_true (by kernel_rfl)) (by kernel_rfl) h
def F_mem_File_Readdirnames (t0 t1 : Value) (w : World) (K : Value → World → Prop) : Prop :=
 st P (oCall Fn.mem_File_Readdir #[t0, t1]) w fun t12 w1 =>
 pu P (oExtract t12 0) fun t13 =>
 pu P (oExtract t12 1) fun t14 =>
 pu P (oBuiltin .len #[T.sl_p_mem_FileInfo] T.int #[false] #[t13]) fun t16 =>
 st P (oMkSlice T.sl_string t16 t16) w1 fun t17 w2 =>
 jn (fun s1 u1 w3 =>
 K (tup [t17, t14]) w3) fun k1 =>
 pu P (oBuiltin .len #[T.sl_p_mem_FileInfo] T.int #[false] #[t13]) fun t19 =>
 lp [(.int .i64 0)] w2 fun s2 u2 w4 C1 =>
 pu P (oBin .lss T.int false false (gs s2 0) t19) fun t21 =>
 jn (fun s3 u3 w5 =>
 pu P (oIdxA T.sl_p_mem_FileInfo t13 (gs s2 0)) fun t23 =>
 st P (oLoad T.p_mem_FileInfo t23) w5 fun t24 w6 =>
 st P (oCall Fn.mem_FileInfo_Name #[t24]) w6 fun t29 w7 =>
 st P (oCall Fn.path_Split #[t29]) w7 fun t30 w8 =>
 pu P (oExtract t30 0) fun t31 =>
 pu P (oExtract t30 1) fun t32 =>
 pu P (oIdxA T.sl_string t17 (gs s2 0)) fun t33 =>
 st P (oStore T.string t33 t32) w8 fun _ w9 =>
 pu P (oBin .add T.int false true (gs s2 0) (.int .i64 1)) fun t34 =>
 C1 [t34] w9) fun k2 =>
 cd t21 (
 k2 [] w4) (
 k1 [] w4)
def Tb_mem_File_Readdirnames : Tab := { join := fun n => match n with | _ => [], loop := fun n => match n with | 4 => [20] | _ => [] }
theorem S_mem_File_Readdirnames {t0 t1 : Value} {w : World} {K : Value → World → Prop} (h : F_mem_File_Readdirnames t0 t1 w K) : Cl P Fn.mem_File_Readdirnames #[t0, t1] w K :=
  cl_of_eq (T := Tb_mem_File_Readdirnames) (args := [t0, t1]) Tryd.func51 rfl follows_mixed (by kernel_rfl) (Nat.le_of_ble_eq_true (by kernel_rfl)) (by kernel_rfl) h
end Go.Proofs.YteblpejgenehfaaDoor.X
end
section
namespace Go.Proofs.YteblpejgenehfaaDoor.X
open Go Go.X Go.Proofs
def F_mem_File_Stat (t0 : Value) (w : World) (K : Value → World → Prop) : Prop :=
 pu P (oNil t0) fun t5 =>
 pu P (oFldA T.mem_File t5 4) fun t6 =>
 st P (oLoad T.p_mem_FileData t6) w fun t7 w1 =>
 pu P (oBuild T.mem_FileInfo #[(0, t7)]) fun t8 =>
 st P (oBox T.mem_FileInfo t8) w1 fun t9 w2 =>
 K (tup [t9, .nilIface]) w2
def Tb_mem_File_Stat : Tab := { join := fun n => match n with | _ => [], loop := fun n => match n with | _ => [] }
theorem S_mem_File_Stat {t0 : Value} {w : World} {K : Value → World → Prop} (h : F_mem_File_Stat t0 w K) : Cl P Fn.mem_File_Stat #[t0] w K :=
  cl_of_eq (T := Tb_mem_File_Stat) (args := [t0]) Tryd.func52 rfl follows_mixed (by kernel_rfl) (Nat.le_of_ble_eq_true (by kernel_rfl)) (by kernel_rfl) h
def F_mem_File_Name (t0 : Value) (w : World) (K : Value → World → Prop) : Prop :=
 pu P (oNil t0) fun t4 =>
 pu P (oFldA T.mem_File t4 4) fun t5 =>
 st P (oLoad T.p_mem_FileData t5) w fun t6 w1 =>
 st P (oCall Fn.mem_FileData_Name #[t6]) w1 fun t7 w2 =>
 K (tup [t7]) w2
def Tb_mem_File_Name : Tab := { join := fun n => match n with | _ => [], loop := fun n => match n with | _ => [] }
theorem S_mem_File_Name {t0 : Value} {w : World} {K : Value → World → Prop} (h : F_mem_File_Name t0 w K) : Cl P Fn.mem_File_Name #[t0] w K :=
  cl_of_eq (T := Tb_mem_File_Name) (args := [t0]) Tryd.func53 rfl follows_mixed (by kernel_rfl) (Nat.le_of_ble_eq_true (by kernel_rfl)) (by kernel_rfl) h
def F_mem_File_Sync (t0 : Value) (w : World) (K : Value → World → Prop) : Prop :=
 K (tup [.nilIface]) w
def Tb_mem_File_Sync : Tab := { join := fun n => match n with | _ => [], loop := fun n => match n with | _ => [] }
theorem S_mem_File_Sync {t0 : Value} {w : World} {K : Value → World → Prop} (h : F_mem_File_Sync t0 w K) : Cl P Fn.mem_File_Sync #[t0] w K :=
  cl_of_eq (T := Tb_mem_File_Sync) (args := [t0]) Tryd.func54 rfl follows_mixed (by kernel_rfl) (Nat.le_of_ble_eq_true (by kernel_rfl)) (by kernel_rfl) h
def F_impl_kind (t0 : Value) (w : World) (K : Value → World → Prop) : Prop :=
 jn (fun s1 u1 w1 =>
 jn (fun s2 u2 w2 =>
 K (tup [(.int .i64 13)]) w2) fun k2 =>
 pu P (oBin .eql T.error false true (gs s1 0) .nilIface) fun t39 =>
 cd t39 (
 K (tup [(.int .i64 0)]) w1) (
 jn (fun s3 u3 w3 =>
 cd (gs s3 0) (
 K (tup [(.int .i64 1)]) w3) (
 st P (oLoad T.error (.pointer (some ⟨G.os_ErrExist, 0, none⟩))) w3 fun t46 w4 =>
 st P (oBin .eql T.error false false (gs s1 0) t46) w4 fun t47 w5 =>
 cd t47 (
 K (tup [(.int .i64 2)]) w5) (
 st P (oLoad T.error (.pointer (some ⟨G.mem_ErrFileClosed, 0, none⟩))) w5 fun t49 w6 =>
 st P (oBin .eql T.error false false (gs s1 0) t49) w6 fun t50 w7 =>
 cd t50 (
 K (tup [(.int .i64 3)]) w7) (
 st P (oLoad T.error (.pointer (some ⟨G.io_EOF, 0, none⟩))) w7 fun t52 w8 =>
 st P (oBin .eql T.error false false (gs s1 0) t52) w8 fun t53 w9 =>
 cd t53 (
 K (tup [(.int .i64 4)]) w9) (
 st P (oLoad T.error (.pointer (some ⟨G.io_ErrUnexpectedEOF, 0, none⟩))) w9 fun t55 w10 =>
 st P (oBin .eql T.error false false (gs s1 0) t55) w10 fun t56 w11 =>
 cd t56 (
 K (tup [(.int .i64 5)]) w11) (
 st P (oLoad T.error (.pointer (some ⟨G.mem_ErrOutOfRange, 0, none⟩))) w11 fun t58 w12 =>
 st P (oBin .eql T.error false false (gs s1 0) t58) w12 fun t59 w13 =>
 cd t59 (
 K (tup [(.int .i64 7)]) w13) (
 st P (oLoad T.error (.pointer (some ⟨G.os_ENOTDIR, 0, none⟩))) w13 fun t61 w14 =>
 st P (oBin .eql T.error false false (gs s1 0) t61) w14 fun t62 w15 =>
 cd t62 (
 K (tup [(.int .i64 8)]) w15) (
 st P (oLoad T.error (.pointer (some ⟨G.os_EPERM, 0, none⟩))) w15 fun t64 w16 =>
 st P (oBin .eql T.error false false (gs s1 0) t64) w16 fun t65 w17 =>
 cd t65 (
 K (tup [(.int .i64 9)]) w17) (
 st P (oLoad T.error (.pointer (some ⟨G.os_EBADFD, 0, none⟩))) w17 fun t67 w18 =>
 st P (oBin .eql T.error false false (gs s1 0) t67) w18 fun t68 w19 =>
 cd t68 (
 K (tup [(.int .i64 10)]) w19) (
 st P (oLoad T.error (.pointer (some ⟨G.os_EIO, 0, none⟩))) w19 fun t70 w20 =>
 st P (oBin .eql T.error false false (gs s1 0) t70) w20 fun t71 w21 =>
 cd t71 (
 K (tup [(.int .i64 11)]) w21) (
 k2 [] w21))))))))))) fun k3 =>
 st P (oLoad T.error (.pointer (some ⟨G.os_ErrNotExist, 0, none⟩))) w1 fun t41 w22 =>
 st P (oBin .eql T.error false false (gs s1 0) t41) w22 fun t42 w23 =>
 cd t42 (
 k3 [t42] w23) (
 st P (oLoad T.error (.pointer (some ⟨G.os_ENOENT, 0, none⟩))) w23 fun t43 w24 =>
 st P (oBin .eql T.error false false (gs s1 0) t43) w24 fun t44 w25 =>
 k3 [t44] w25))) fun k1 =>
 pu P (oAssert t0 T.error T.p_os_PathError true) fun t7 =>
 pu P (oExtract t7 0) fun t8 =>
 pu P (oExtract t7 1) fun t9 =>
 cd t9 (
 pu P (oNil t8) fun t12 =>
 pu P (oFldA T.os_PathError t12 2) fun t13 =>
 st P (oLoad T.error t13) w fun t14 w26 =>
 jn (fun s4 u4 w27 =>
 cd (gs s4 0) (
 pu P (oNil t8) fun t34 =>
 pu P (oFldA T.os_PathError t34 2) fun t35 =>
 st P (oLoad T.error t35) w27 fun t36 w28 =>
 k1 [t36] w28) (
 jn (fun s5 u5 w29 =>
 K (tup [(.int .i64 13)]) w29) fun k5 =>
 pu P (oNil t8) fun t16 =>
 pu P (oFldA T.os_PathError t16 0) fun t17 =>
 st P (oLoad T.string t17) w27 fun t18 w30 =>
 pu P (oBin .eql T.string false true t18 (S [114, 101, 97, 100, 100, 105, 114])) fun t20 =>
 cd t20 (
 K (tup [(.int .i64 8)]) w30) (
 jn (fun s6 u6 w31 =>
 cd (gs s6 0) (
 K (tup [(.int .i64 6)]) w31) (
 k5 [] w31)) fun k6 =>
 pu P (oBin .eql T.string false true t18 (S [116, 114, 117, 110, 99, 97, 116, 101])) fun t22 =>
 cd t22 (
 k6 [t22] w30) (
 pu P (oBin .eql T.string false true t18 (S [119, 114, 105, 116, 101])) fun t23 =>
 k6 [t23] w30)))) fun k4 =>
 st P (oLoad T.error (.pointer (some ⟨G.os_ErrNotExist, 0, none⟩))) w26 fun t25 w32 =>
 st P (oBin .eql T.error false false t14 t25) w32 fun t26 w33 =>
 cd t26 (
 k4 [t26] w33) (
 st P (oLoad T.error (.pointer (some ⟨G.os_ErrExist, 0, none⟩))) w33 fun t27 w34 =>
 st P (oBin .eql T.error false false t14 t27) w34 fun t28 w35 =>
 cd t28 (
 k4 [t28] w35) (
 st P (oLoad T.error (.pointer (some ⟨G.os_ENOTDIR, 0, none⟩))) w35 fun t29 w36 =>
 st P (oBin .eql T.error false false t14 t29) w36 fun t30 w37 =>
 cd t30 (
 k4 [t30] w37) (
 st P (oLoad T.error (.pointer (some ⟨G.os_ENOENT, 0, none⟩))) w37 fun t31 w38 =>
 st P (oBin .eql T.error false false t14 t31) w38 fun t32 w39 =>
 k4 [t32] w39)))) (
 k1 [t0] w)
def Tb_impl_kind : Tab := { join := fun n => match n with | 9 => [21] | 15 => [24] | 16 => [0] | 21 => [40] | _ => [], loop := fun n => match n with | _ => [] }
theorem S_impl_kind {t0 : Value} {w : World} {K : Value → World → Prop} (h : F_impl_kind t0 w K) : Cl P Fn.impl_kind #[t0] w K :=
  cl_of_eq (T := Tb_impl_kind) (args := [t0]) Tryd.func55 rfl follows_mixed (by kernel_rfl) (Nat.le_of_ble_eq_true (by kernel_rfl)) (by kernel_rfl) h
def F_spec_Mem_add (t0 t1 t2 : Value) (w : World) (K : Value → World → Prop) : Prop :=
 st P (oBox T.spec_MemNode t2) w fun t5 w1 =>
 pu P (oFldA T.spec_MemNode t5 4) fun t8 =>
 st P (oStore T.string t8 t1) w1 fun _ w2 =>
 pu P (oNil t0) fun t11 =>
 pu P (oFldA T.spec_Mem t11 2) fun t12 =>
 rd P (oLoad T.sl_spec_MemNode t12) w2.drew fun t13 =>
 rd P (oLoad T.spec_MemNode t5) w2.drew fun t14 =>
 st P (oBuildSlice T.sl_spec_MemNode 1 #[(0, t14)]) w2.drew fun t15 w3 =>
 hold P (oLoad T.sl_spec_MemNode t12) t13 w3 ∧ st P (oBuiltin .append #[T.sl_spec_MemNode, T.sl_spec_MemNode] T.sl_spec_MemNode #[false, false] #[t13, t15]) w3 fun t16 w4 =>
 pu P (oNil t0) fun t17 =>
 pu P (oFldA T.spec_Mem t17 2) fun t18 =>
 st P (oStore T.sl_spec_MemNode t18 t16) w4 fun _ w5 =>
 pu P (oNil t0) fun t22 =>
 pu P (oFldA T.spec_Mem t22 2) fun t23 =>
 st P (oLoad T.sl_spec_MemNode t23) w5 fun t24 w6 =>
 pu P (oBuiltin .len #[T.sl_spec_MemNode] T.int #[false] #[t24]) fun t25 =>
 pu P (oBin .sub T.int false true t25 (.int .i64 1)) fun t26 =>
 st P (oCall Fn.spec_Mem_put #[t0, t1, t26]) w6 fun t27 w7 =>
 pu P (oNil t0) fun t29 =>
 pu P (oFldA T.spec_Mem t29 2) fun t30 =>
 st P (oLoad T.sl_spec_MemNode t30) w7 fun t31 w8 =>
 pu P (oBuiltin .len #[T.sl_spec_MemNode] T.int #[false] #[t31]) fun t32 =>
 pu P (oBin .sub T.int false true t32 (.int .i64 1)) fun t33 =>
 K (tup [t33]) w8
def Tb_spec_Mem_add : Tab := { join := fun n => match n with | _ => [], loop := fun n => match n with | _ => [] }
theorem S_spec_Mem_add {t0 t1 t2 : Value} {w : World} {K : Value → World → Prop} (h : F_spec_Mem_add t0 t1 t2 w K) : Cl P Fn.spec_Mem_add #[t0, t1, t2] w K :=
  cl_of_eq (T := Tb_spec_Mem_add) (args := [t0, t1, t2]) Tryd.func56 rfl follows_mixed (by kernel_rfl) (Nat.le_of_ble_eq_true (by kernel_rfl)) (by kernel_rfl) h
def F_impl_fromInfo (t0 : Value) (w : World) (K : Value → World → Prop) : Prop :=
 st P (oAlloc T.impl_Info) w fun t2 w1 =>
 st P (oCall Fn.mem_FileInfo_Name #[t0]) w1 fun t4 w2 =>
 st P (oCall Fn.mem_FileInfo_Size #[t0]) w2 fun t6 w3 =>
 st P (oCall Fn.mem_FileInfo_Mode #[t0]) w3 fun t8 w4 =>
 pu P (oConv T.os_FileMode T.int t8) fun t9 =>
 st P (oCall Fn.mem_FileInfo_IsDir #[t0]) w4 fun t11 w5 =>
 st P (oCall Fn.mem_FileInfo_ModTime #[t0]) w5 fun t13 w6 =>
 pu P (oBuild T.impl_Info #[(0, t4), (1, t6), (2, t9), (3, t11), (4, t13)]) fun t14 =>
 st P (oStore T.impl_Info t2 t14) w6 fun _ w7 =>
 rsl P T.impl_Info t2 w7 fun r1 =>
 K (tup [r1]) w7
def Tb_impl_fromInfo : Tab := { join := fun n => match n with | _ => [], loop := fun n => match n with | _ => [] }
theorem S_impl_fromInfo {t0 : Value} {w : World} {K : Value → World → Prop} (h : F_impl_fromInfo t0 w K) : Cl P Fn.impl_fromInfo #[t0] w K :=
  cl_of_eq (T := Tb_impl_fromInfo) (args := [t0]) Tryd.func68 rfl follows_mixed (by kernel_rfl) (Nat.le_of_ble_eq_true (by kernel_rfl)) (by kernel_rfl) h
def F_spec_MemName (t0 : Value) (w : World) (K : Value → World → Prop) : Prop :=
 pu P (oBuiltin .len #[T.string] T.int #[false] #[t0]) fun t13 =>
 pu P (oBin .gtr T.int false true t13 (.int .i64 0)) fun t14 =>
 gd t14 true w.drew (fun K1 => K1 t0 w.drew) fun t16 w1 =>
 gd t14 true w1 (fun K2 => pu P (oIdx T.string t16 (.int .i64 0)) fun v => K2 v w1) fun t17 w2 =>
 gd t14 true w2 (fun K3 => pu P (oBin .eql T.uint8 false true t17 (.int .u8 47)) fun v => K3 v w2) fun t18 w3 =>
 pu P (oPick t14 t18 (.bool false)) fun t19 =>
 st P (oBuildSlice T.sl_string 0 #[]) w3 fun t11 w4 =>
 jn (fun s1 u1 w5 =>
 jn (fun s2 u2 w6 =>
 jn (fun s3 u3 w7 =>
 K (tup [(gs s2 0)]) w7) fun k3 =>
 pu P (oBin .eql T.string false true (gs s2 0) (S [])) fun t101 =>
 gd t101 false w6 (fun K4 => K4 (gs s2 0) w6) fun t103 w8 =>
 gd t101 false w8 (fun K5 => pu P (oBin .eql T.string false true t103 (S [46, 46])) fun v => K5 v w8) fun t104 w9 =>
 pu P (oPick t101 (.bool true) t104) fun t105 =>
 cd t105 (
 K (tup [(S [47])]) w9) (
 k3 [] w9)) fun k2 =>
 pu P (oBuiltin .len #[T.sl_string] T.int #[false] #[(gs s1 0)]) fun t83 =>
 lp [(S []), (.int .i64 0)] w5 fun s4 u4 w10 C1 =>
 pu P (oBin .lss T.int false false (gs s4 1) t83) fun t85 =>
 jn (fun s5 u5 w11 =>
 jn (fun s6 u6 w12 =>
 pu P (oBin .add T.int false true (gs s4 1) (.int .i64 1)) fun t99 =>
 C1 [(gs s6 0), t99] w12) fun k5 =>
 pu P (oIdxA T.sl_string (gs s1 0) (gs s4 1)) fun t87 =>
 st P (oLoad T.string t87) w11 fun t88 w13 =>
 jn (fun s7 u7 w14 =>
 pu P (oBin .add T.string false false (gs s7 0) t88) fun t98 =>
 k5 [t98] w14) fun k6 =>
 pu P (oBin .gtr T.int false true (gs s4 1) (.int .i64 0)) fun t90 =>
 gd t90 false w13 (fun K6 => K6 t19 w13) fun t92 w15 =>
 pu P (oPick t90 (.bool true) t92) fun t93 =>
 cd t93 (
 pu P (oBin .add T.string false true (gs s4 0) (S [47])) fun t95 =>
 k6 [t95] w15) (
 k6 [(gs s4 0)] w15)) fun k4 =>
 cd t85 (
 k4 [] w10) (
 k2 [(gs s4 0)] w10)) fun k1 =>
 lp [t11, (.int .i64 0)] w4 fun s8 u8 w16 C2 =>
 jn (fun s9 u9 w17 =>
 jn (fun s10 u10 w18 =>
 jn (fun s11 u11 w19 =>
 pu P (oBin .add T.int false true (gs s10 0) (.int .i64 1)) fun t81 =>
 C2 [(gs s11 0), t81] w19) fun k9 =>
 pu P (oSlice T.string t0 (some (gs s8 1)) (some (gs s10 0)) none) fun t40 =>
 pu P (oBin .eql T.string false true t40 (S [])) fun t43 =>
 gd t43 false w18 (fun K7 => K7 t40 w18) fun t45 w20 =>
 gd t43 false w20 (fun K8 => pu P (oBin .eql T.string false true t45 (S [46])) fun v => K8 v w20) fun t46 w21 =>
 pu P (oPick t43 (.bool true) t46) fun t47 =>
 cd t47 (
 k9 [(gs s8 0)] w21) (
 pu P (oBin .neq T.string false true t40 (S [46, 46])) fun t50 =>
 cd t50 (
 st P (oBuildSlice T.sl_string 1 #[(0, t40)]) w21 fun t53 w22 =>
 st P (oBuiltin .append #[T.sl_string, T.sl_string] T.sl_string #[false, false] #[(gs s8 0), t53]) w22 fun t54 w23 =>
 k9 [t54] w23) (
 pu P (oBuiltin .len #[T.sl_string] T.int #[false] #[(gs s8 0)]) fun t57 =>
 pu P (oBin .gtr T.int false true t57 (.int .i64 0)) fun t58 =>
 gd t58 true w21 (fun K9 => K9 (gs s8 0) w21) fun t60 w24 =>
 gd t58 true w24 (fun K10 => K10 (gs s8 0) w24) fun t61 w25 =>
 gd t58 true w25 (fun K11 => pu P (oBuiltin .len #[T.sl_string] T.int #[false] #[t61]) fun v => K11 v w25) fun t62 w26 =>
 gd t58 true w26 (fun K12 => pu P (oBin .sub T.int false true t62 (.int .i64 1)) fun v => K12 v w26) fun t63 w27 =>
 gd t58 true w27 (fun K13 => pu P (oIdxA T.sl_string t60 t63) fun v => K13 v w27) fun t64 w28 =>
 gd t58 true w28 (fun K14 => st P (oLoad T.string t64) w28 K14) fun t65 w29 =>
 gd t58 true w29 (fun K15 => pu P (oBin .neq T.string false true t65 (S [46, 46])) fun v => K15 v w29) fun t66 w30 =>
 pu P (oPick t58 t66 (.bool false)) fun t67 =>
 cd t67 (
 pu P (oBuiltin .len #[T.sl_string] T.int #[false] #[(gs s8 0)]) fun t70 =>
 pu P (oBin .sub T.int false true t70 (.int .i64 1)) fun t71 =>
 pu P (oSlice T.sl_string (gs s8 0) none (some t71) none) fun t72 =>
 k9 [t72] w30) (
 pu P (oUn .not t19) fun t75 =>
 cd t75 (
 st P (oBuildSlice T.sl_string 1 #[(0, t40)]) w30 fun t78 w31 =>
 st P (oBuiltin .append #[T.sl_string, T.sl_string] T.sl_string #[false, false] #[(gs s8 0), t78]) w31 fun t79 w32 =>
 k9 [t79] w32) (
 k9 [(gs s8 0)] w30))))) fun k8 =>
 lp [(gs s8 1)] w17 fun s12 u12 w33 C3 =>
 jn (fun s13 u13 w34 =>
 pu P (oBin .add T.int false true (gs s12 0) (.int .i64 1)) fun t36 =>
 C3 [t36] w34) fun k10 =>
 pu P (oBuiltin .len #[T.string] T.int #[false] #[t0]) fun t27 =>
 pu P (oBin .lss T.int false false (gs s12 0) t27) fun t28 =>
 gd t28 true w33 (fun K16 => K16 t0 w33) fun t30 w35 =>
 gd t28 true w35 (fun K17 => K17 (gs s12 0) w35) fun t31 w36 =>
 gd t28 true w36 (fun K18 => pu P (oIdx T.string t30 t31) fun v => K18 v w36) fun t32 w37 =>
 gd t28 true w37 (fun K19 => pu P (oBin .neq T.uint8 false true t32 (.int .u8 47)) fun v => K19 v w37) fun t33 w38 =>
 pu P (oPick t28 t33 (.bool false)) fun t34 =>
 cd t34 (
 k10 [] w38) (
 k8 [(gs s12 0)] w38)) fun k7 =>
 pu P (oBuiltin .len #[T.string] T.int #[false] #[t0]) fun t22 =>
 pu P (oBin .lss T.int false false (gs s8 1) t22) fun t23 =>
 cd t23 (
 k7 [] w16) (
 k1 [(gs s8 0)] w16)
def Tb_spec_MemName : Tab := { join := fun n => match n with | 7 => [6] | 15 => [3] | 16 => [3] | 22 => [8] | 23 => [8] | 24 => [8] | _ => [], loop := fun n => match n with | 3 => [3, 5] | 5 => [6] | 18 => [8, 84] | _ => [] }
theorem S_spec_MemName {t0 : Value} {w : World} {K : Value → World → Prop} (h : F_spec_MemName t0 w K) : Cl P Fn.spec_MemName #[t0] w K :=
  cl_of_eq (T := Tb_spec_MemName) (args := [t0]) Tryd.func71 rfl follows_mixed (by kernel_rfl) (Nat.le_of_ble_eq_true (by kernel_rfl)) (by kernel_rfl) h
def F_spec_Mem_Find (t0 t1 : Value) (w : World) (K : Value → World → Prop) : Prop :=
 st P (oCall Fn.spec_Mem_place #[t0, t1]) w fun t11 w1 =>
 pu P (oExtract t11 0) fun t12 =>
 pu P (oExtract t11 1) fun t13 =>
 jn (fun s1 u1 w2 =>
 pu P (oNil t0) fun t17 =>
 pu P (oFldA T.spec_Mem t17 1) fun t18 =>
 st P (oLoad T.sl_int t18) w2 fun t19 w3 =>
 pu P (oIdxA T.sl_int t19 t12) fun t21 =>
 st P (oLoad T.int t21) w3 fun t22 w4 =>
 K (tup [t22, (.bool true)]) w4) fun k1 =>
 pu P (oUn .not t13) fun t15 =>
 cd t15 (
 K (tup [(.int .i64 0), (.bool false)]) w1) (
 k1 [] w1)
def Tb_spec_Mem_Find : Tab := { join := fun n => match n with | _ => [], loop := fun n => match n with | _ => [] }
theorem S_spec_Mem_Find {t0 t1 : Value} {w : World} {K : Value → World → Prop} (h : F_spec_Mem_Find t0 t1 w K) : Cl P Fn.spec_Mem_Find #[t0, t1] w K :=
  cl_of_eq (T := Tb_spec_Mem_Find) (args := [t0, t1]) Tryd.func72 rfl follows_mixed (by kernel_rfl) (Nat.le_of_ble_eq_true (by kernel_rfl)) (by kernel_rfl) h
def F_spec_named (t0 : Value) (w : World) (K : Value → World → Prop) : Prop :=
 jn (fun s1 u1 w1 =>
 st P (oCall Fn.spec_MemName #[t0]) w1 fun t8 w2 =>
 pu P (oBuiltin .len #[T.string] T.int #[false] #[t8]) fun t10 =>
 pu P (oBin .gtr T.int false true t10 (.int .i64 2)) fun t11 =>
 gd t11 true w2 (fun K1 => K1 t8 w2) fun t13 w3 =>
 gd t11 true w3 (fun K2 => pu P (oSlice T.string t13 none (some (.int .i64 3)) none) fun v => K2 v w3) fun t14 w4 =>
 gd t11 true w4 (fun K3 => pu P (oBin .eql T.string false true t14 (S [46, 46, 47])) fun v => K3 v w4) fun t15 w5 =>
 pu P (oPick t11 t15 (.bool false)) fun t16 =>
 pu P (oUn .not t16) fun t17 =>
 K (tup [t17]) w5) fun k1 =>
 pu P (oBuiltin .len #[T.string] T.int #[false] #[t0]) fun t5 =>
 pu P (oBin .gtr T.int false true t5 (.int .i64 400)) fun t6 =>
 cd t6 (
 K (tup [(.bool false)]) w) (
 k1 [] w)
def Tb_spec_named : Tab := { join := fun n => match n with | _ => [], loop := fun n => match n with | _ => [] }
theorem S_spec_named {t0 : Value} {w : World} {K : Value → World → Prop} (h : F_spec_named t0 w K) : Cl P Fn.spec_named #[t0] w K :=
  cl_of_eq (T := Tb_spec_named) (args := [t0]) Tryd.func73 rfl follows_mixed (by kernel_rfl) (Nat.le_of_ble_eq_true (by kernel_rfl)) (by kernel_rfl) h
def F_spec_Mem_isDir (t0 t1 : Value) (w : World) (K : Value → World → Prop) : Prop :=
 st P (oCall Fn.spec_Mem_Find #[t0, t1]) w fun t10 w1 =>
 pu P (oExtract t10 0) fun t11 =>
 pu P (oExtract t10 1) fun t12 =>
 gd t12 true w1 (fun K1 => K1 t0 w1) fun t15 w2 =>
 gd t12 true w2 (fun K2 => pu P (oNil t15) fun v => K2 v w2) fun t16 w3 =>
 gd t12 true w3 (fun K3 => pu P (oFldA T.spec_Mem t16 2) fun v => K3 v w3) fun t17 w4 =>
 gd t12 true w4 (fun K4 => st P (oLoad T.sl_spec_MemNode t17) w4 K4) fun t18 w5 =>
 gd t12 true w5 (fun K5 => K5 t11 w5) fun t19 w6 =>
 gd t12 true w6 (fun K6 => pu P (oIdxA T.sl_spec_MemNode t18 t19) fun v => K6 v w6) fun t20 w7 =>
 gd t12 true w7 (fun K7 => pu P (oFldA T.spec_MemNode t20 0) fun v => K7 v w7) fun t21 w8 =>
 gd t12 true w8 (fun K8 => st P (oLoad T.bool t21) w8 K8) fun t22 w9 =>
 pu P (oPick t12 t22 (.bool false)) fun t23 =>
 K (tup [t23]) w9
def Tb_spec_Mem_isDir : Tab := { join := fun n => match n with | _ => [], loop := fun n => match n with | _ => [] }
theorem S_spec_Mem_isDir {t0 t1 : Value} {w : World} {K : Value → World → Prop} (h : F_spec_Mem_isDir t0 t1 w K) : Cl P Fn.spec_Mem_isDir #[t0, t1] w K :=
  cl_of_eq (T := Tb_spec_Mem_isDir) (args := [t0, t1]) Tryd.func74 rfl follows_mixed (by kernel_rfl) (Nat.le_of_ble_eq_true (by kernel_rfl)) (by kernel_rfl) h
def F_spec_Mem_clear (t0 t1 : Value) (w : World) (K : Value → World → Prop) : Prop :=
 jn (fun s1 u1 w1 =>
 K (tup [(.bool true)]) w1) fun k1 =>
 lp [t1] w fun s2 u2 w2 C1 =>
 jn (fun s3 u3 w3 =>
 st P (oCall Fn.spec_MemParent #[(gs s2 0)]) w3 fun t10 w4 =>
 st P (oCall Fn.spec_Mem_Find #[t0, t10]) w4 fun t14 w5 =>
 pu P (oExtract t14 0) fun t15 =>
 pu P (oExtract t14 1) fun t16 =>
 gd t16 true w5 (fun K1 => K1 t0 w5) fun t19 w6 =>
 gd t16 true w6 (fun K2 => pu P (oNil t19) fun v => K2 v w6) fun t20 w7 =>
 gd t16 true w7 (fun K3 => pu P (oFldA T.spec_Mem t20 2) fun v => K3 v w7) fun t21 w8 =>
 gd t16 true w8 (fun K4 => st P (oLoad T.sl_spec_MemNode t21) w8 K4) fun t22 w9 =>
 gd t16 true w9 (fun K5 => K5 t15 w9) fun t23 w10 =>
 gd t16 true w10 (fun K6 => pu P (oIdxA T.sl_spec_MemNode t22 t23) fun v => K6 v w10) fun t24 w11 =>
 gd t16 true w11 (fun K7 => pu P (oFldA T.spec_MemNode t24 0) fun v => K7 v w11) fun t25 w12 =>
 gd t16 true w12 (fun K8 => st P (oLoad T.bool t25) w12 K8) fun t26 w13 =>
 gd t16 true w13 (fun K9 => pu P (oUn .not t26) fun v => K9 v w13) fun t27 w14 =>
 pu P (oPick t16 t27 (.bool false)) fun t28 =>
 cd t28 (
 K (tup [(.bool false)]) w14) (
 C1 [t10] w14)) fun k2 =>
 pu P (oBin .neq T.string false true (gs s2 0) (S [47])) fun t8 =>
 cd t8 (
 k2 [] w2) (
 k1 [] w2)
def Tb_spec_Mem_clear : Tab := { join := fun n => match n with | _ => [], loop := fun n => match n with | 1 => [1] | _ => [] }
theorem S_spec_Mem_clear {t0 t1 : Value} {w : World} {K : Value → World → Prop} (h : F_spec_Mem_clear t0 t1 w K) : Cl P Fn.spec_Mem_clear #[t0, t1] w K :=
  cl_of_eq (T := Tb_spec_Mem_clear) (args := [t0, t1]) Tryd.func75 rfl follows_mixed (by kernel_rfl) (Nat.le_of_ble_eq_true (by kernel_rfl)) (by kernel_rfl) h
def F_spec_Mem_Children (t0 t1 : Value) (w : World) (K : Value → World → Prop) : Prop :=
 st P (oBuildSlice T.sl_string 0 #[]) w fun t8 w1 =>
 jn (fun s1 u1 w2 =>
 K (tup [(gs s1 0)]) w2) fun k1 =>
 pu P (oNil t0) fun t10 =>
 pu P (oFldA T.spec_Mem t10 0) fun t11 =>
 st P (oLoad T.sl_string t11) w1 fun t12 w3 =>
 pu P (oBuiltin .len #[T.sl_string] T.int #[false] #[t12]) fun t13 =>
 lp [t8, (.int .i64 0)] w3 fun s2 u2 w4 C1 =>
 pu P (oBin .lss T.int false false (gs s2 1) t13) fun t15 =>
 jn (fun s3 u3 w5 =>
 jn (fun s4 u4 w6 =>
 pu P (oBin .add T.int false true (gs s2 1) (.int .i64 1)) fun t30 =>
 C1 [(gs s4 0), t30] w6) fun k3 =>
 pu P (oIdxA T.sl_string t12 (gs s2 1)) fun t16 =>
 st P (oLoad T.string t16) w5 fun t17 w7 =>
 pu P (oBin .neq T.string false true t17 (S [47])) fun t19 =>
 gd t19 true w7 (fun K1 => K1 t17 w7) fun t21 w8 =>
 gd t19 true w8 (fun K2 => st P (oCall Fn.spec_MemParent #[t21]) w8 K2) fun t22 w9 =>
 gd t19 true w9 (fun K3 => K3 t1 w9) fun t23 w10 =>
 gd t19 true w10 (fun K4 => pu P (oBin .eql T.string false false t22 t23) fun v => K4 v w10) fun t24 w11 =>
 pu P (oPick t19 t24 (.bool false)) fun t25 =>
 cd t25 (
 st P (oBuildSlice T.sl_string 1 #[(0, t17)]) w11 fun t28 w12 =>
 st P (oBuiltin .append #[T.sl_string, T.sl_string] T.sl_string #[false, false] #[(gs s2 0), t28]) w12 fun t29 w13 =>
 k3 [t29] w13) (
 k3 [(gs s2 0)] w11)) fun k2 =>
 cd t15 (
 k2 [] w4) (
 k1 [(gs s2 0)] w4)
def Tb_spec_Mem_Children : Tab := { join := fun n => match n with | 7 => [5] | 8 => [5] | _ => [], loop := fun n => match n with | 3 => [5, 14] | _ => [] }
theorem S_spec_Mem_Children {t0 t1 : Value} {w : World} {K : Value → World → Prop} (h : F_spec_Mem_Children t0 t1 w K) : Cl P Fn.spec_Mem_Children #[t0, t1] w K :=
  cl_of_eq (T := Tb_spec_Mem_Children) (args := [t0, t1]) Tryd.func76 rfl follows_mixed (by kernel_rfl) (Nat.le_of_ble_eq_true (by kernel_rfl)) (by kernel_rfl) h
def F_spec_MemBelow (t0 t1 : Value) (w : World) (K : Value → World → Prop) : Prop :=
 jn (fun s1 u1 w1 =>
 pu P (oBuiltin .len #[T.string] T.int #[false] #[t0]) fun t10 =>
 pu P (oBuiltin .len #[T.string] T.int #[false] #[t1]) fun t12 =>
 pu P (oBin .gtr T.int false false t10 t12) fun t13 =>
 gd t13 true w1 (fun K1 => K1 t0 w1) fun t15 w2 =>
 gd t13 true w2 (fun K2 => K2 t1 w2) fun t16 w3 =>
 gd t13 true w3 (fun K3 => pu P (oBuiltin .len #[T.string] T.int #[false] #[t16]) fun v => K3 v w3) fun t17 w4 =>
 gd t13 true w4 (fun K4 => pu P (oSlice T.string t15 none (some t17) none) fun v => K4 v w4) fun t18 w5 =>
 gd t13 true w5 (fun K5 => K5 t1 w5) fun t19 w6 =>
 gd t13 true w6 (fun K6 => pu P (oBin .eql T.string false false t18 t19) fun v => K6 v w6) fun t20 w7 =>
 pu P (oPick t13 t20 (.bool false)) fun t21 =>
 gd t21 true w7 (fun K7 => K7 t0 w7) fun t23 w8 =>
 gd t21 true w8 (fun K8 => K8 t1 w8) fun t24 w9 =>
 gd t21 true w9 (fun K9 => pu P (oBuiltin .len #[T.string] T.int #[false] #[t24]) fun v => K9 v w9) fun t25 w10 =>
 gd t21 true w10 (fun K10 => pu P (oIdx T.string t23 t25) fun v => K10 v w10) fun t26 w11 =>
 gd t21 true w11 (fun K11 => pu P (oBin .eql T.uint8 false true t26 (.int .u8 47)) fun v => K11 v w11) fun t27 w12 =>
 pu P (oPick t21 t27 (.bool false)) fun t28 =>
 K (tup [t28]) w12) fun k1 =>
 pu P (oBin .eql T.string false true t1 (S [47])) fun t6 =>
 cd t6 (
 pu P (oBin .neq T.string false true t0 (S [47])) fun t8 =>
 K (tup [t8]) w) (
 k1 [] w)
def Tb_spec_MemBelow : Tab := { join := fun n => match n with | _ => [], loop := fun n => match n with | _ => [] }
theorem S_spec_MemBelow {t0 t1 : Value} {w : World} {K : Value → World → Prop} (h : F_spec_MemBelow t0 t1 w K) : Cl P Fn.spec_MemBelow #[t0, t1] w K :=
  cl_of_eq (T := Tb_spec_MemBelow) (args := [t0, t1]) Tryd.func77 rfl follows_mixed (by kernel_rfl) (Nat.le_of_ble_eq_true (by kernel_rfl)) (by kernel_rfl) h
def F_spec_Mem_parents (t0 t1 t2 : Value) (w : World) (K : Value → World → Prop) : Prop :=
 st P (oCall Fn.spec_MemParent #[t1]) w fun t10 w1 =>
 st P (oCall Fn.spec_Mem_Find #[t0, t10]) w1 fun t14 w2 =>
 pu P (oExtract t14 0) fun t15 =>
 pu P (oExtract t14 1) fun t16 =>
 pu P (oUn .not t16) fun t18 =>
 cd t18 (
 st P (oCall Fn.spec_Mem_parents #[t0, t10, t2]) w2 fun t22 w3 =>
 pu P (oBin .or T.int true false (.int .i64 2147483648) t2) fun t26 =>
 pu P (oBuild T.spec_MemNode #[(0, (.bool true)), (1, t26)]) fun t27 =>
 st P (oCall Fn.spec_Mem_add #[t0, t10, t27]) w3 fun t28 w4 =>
 K (tup []) w4) (
 K (tup []) w2)
def Tb_spec_Mem_parents : Tab := { join := fun n => match n with | _ => [], loop := fun n => match n with | _ => [] }
theorem S_spec_Mem_parents {t0 t1 t2 : Value} {w : World} {K : Value → World → Prop} (h : F_spec_Mem_parents t0 t1 t2 w K) : Cl P Fn.spec_Mem_parents #[t0, t1, t2] w K :=
  cl_of_eq (T := Tb_spec_Mem_parents) (args := [t0, t1, t2]) Tryd.func78 rfl follows_mixed (by kernel_rfl) (Nat.le_of_ble_eq_true (by kernel_rfl)) (by kernel_rfl) h
def J_spec_Mem_info_1 (t6 : Value) (t4 : Value) (K : Value → World → Prop) (s1 : List Value) (u1 : Env) (w9 : World) : Prop :=
 st P (oLoad T.impl_Info t6) w9 fun t30 w10 =>
 st P (oStore T.impl_Info t4 t30) w10 fun _ w11 =>
 rsl P T.impl_Info t4 w11 fun r1 =>
 K (tup [r1]) w11
def F_spec_Mem_info (t0 t1 : Value) (w : World) (K : Value → World → Prop) : Prop :=
 st P (oAlloc T.impl_Info) w fun t4 w1 =>
 pu P (oNil t0) fun t8 =>
 pu P (oFldA T.spec_Mem t8 2) fun t9 =>
 st P (oLoad T.sl_spec_MemNode t9) w1 fun t10 w2 =>
 pu P (oIdxA T.sl_spec_MemNode t10 t1) fun t12 =>
 st P (oLoad T.spec_MemNode t12) w2 fun t13 w3 =>
 st P (oAlloc T.spec_MemNode) w3 fun t5 w4 =>
 st P (oStore T.spec_MemNode t5 t13) w4 fun _ w5 =>
 pu P (oFldA T.spec_MemNode t5 4) fun t14 =>
 rd P (oLoad T.string t14) w5.drew fun t15 =>
 pu P (oFldA T.spec_MemNode t5 1) fun t17 =>
 rd P (oLoad T.int t17) w5.drew fun t18 =>
 pu P (oFldA T.spec_MemNode t5 0) fun t19 =>
 rd P (oLoad T.bool t19) w5.drew fun t20 =>
 pu P (oFldA T.spec_MemNode t5 2) fun t21 =>
 rd P (oLoad T.sl_uint8 t21) w5.drew fun t22 =>
 pu P (oBuiltin .len #[T.sl_uint8] T.int #[false] #[t22]) fun t23 =>
 pu P (oFldA T.spec_MemNode t5 3) fun t24 =>
 rd P (oLoad T.int64 t24) w5.drew fun t25 =>
 (st P (oCall Fn.spec_MemBase #[t15]) w5.drew fun t16 w6 =>
 hold P (oLoad T.int64 t24) t25 w6 ∧ hold P (oLoad T.sl_uint8 t21) t22 w6 ∧ hold P (oLoad T.bool t19) t20 w6 ∧ hold P (oLoad T.int t17) t18 w6 ∧ pu P (oBuild T.impl_Info #[(0, t16), (2, t18), (3, t20), (1, t23), (4, t25)]) fun t26 =>
 st P (oAlloc T.impl_Info) w6 fun t6 w7 =>
 hold P (oLoad T.int64 t24) t25 w7 ∧ hold P (oLoad T.sl_uint8 t21) t22 w7 ∧ hold P (oLoad T.bool t19) t20 w7 ∧ hold P (oLoad T.int t17) t18 w7 ∧ st P (oStore T.impl_Info t6 t26) w7 fun _ w8 =>
 jn (J_spec_Mem_info_1 t6 t4 K) fun k1 =>
 pu P (oFldA T.spec_MemNode t5 0) fun t27 =>
 st P (oLoad T.bool t27) w8 fun t28 w12 =>
 cd t28 (
 pu P (oFldA T.impl_Info t6 1) fun t29 =>
 st P (oStore T.int64 t29 (.int .i64 42)) w12 fun _ w13 =>
 k1 [] w13) (
 k1 [] w12)) ∧ (st P (oAlloc T.impl_Info) w5.drew fun t6_2 w14 =>
 hold P (oLoad T.int64 t24) t25 w14 ∧ hold P (oLoad T.sl_uint8 t21) t22 w14 ∧ hold P (oLoad T.bool t19) t20 w14 ∧ hold P (oLoad T.int t17) t18 w14 ∧ hold P (oLoad T.string t14) t15 w14 ∧ st P (oCall Fn.spec_MemBase #[t15]) w14 fun t16_2 w15 =>
 hold P (oLoad T.int64 t24) t25 w15 ∧ hold P (oLoad T.sl_uint8 t21) t22 w15 ∧ hold P (oLoad T.bool t19) t20 w15 ∧ hold P (oLoad T.int t17) t18 w15 ∧ pu P (oBuild T.impl_Info #[(0, t16_2), (2, t18), (3, t20), (1, t23), (4, t25)]) fun t26_2 =>
 st P (oStore T.impl_Info t6_2 t26_2) w15 fun _ w16 =>
 jn (J_spec_Mem_info_1 t6_2 t4 K) fun k2 =>
 pu P (oFldA T.spec_MemNode t5 0) fun t27_2 =>
 st P (oLoad T.bool t27_2) w16 fun t28_2 w20 =>
 cd t28_2 (
 pu P (oFldA T.impl_Info t6_2 1) fun t29_2 =>
 st P (oStore T.int64 t29_2 (.int .i64 42)) w20 fun _ w21 =>
 k2 [] w21) (
 k2 [] w20))
def Tb_spec_Mem_info : Tab := { join := fun n => match n with | _ => [], loop := fun n => match n with | _ => [] }
theorem S_spec_Mem_info {t0 t1 : Value} {w : World} {K : Value → World → Prop} (h : F_spec_Mem_info t0 t1 w K) : Cl P Fn.spec_Mem_info #[t0, t1] w K :=
  cl_of_eq (T := Tb_spec_Mem_info) (args := [t0, t1]) Tryd.func81 rfl follows_mixed (by kernel_rfl) (Nat.le_of_ble_eq_true (by kernel_rfl)) (by kernel_rfl) h
def J_spec_Mem_list_1 (t10 : Value) (t6 : Value) (K : Value → World → Prop) (s3 : List Value) (u3 : Env) (w14 : World) : Prop :=
 st P (oLoad T.impl_Answer t10) w14 fun t97 w15 =>
 st P (oStore T.impl_Answer t6 t97) w15 fun _ w16 =>
 rsl P T.impl_Answer t6 w16 fun r1 =>
 K (tup [r1]) w16
def J_spec_Mem_list_3 (t10 : Value) (w22 : World) (t71 : Value) (k5 : List Value → World → Prop) : Prop :=
 pu P (oFldA T.impl_Answer t10 4) fun t81 =>
 rd P (oLoad T.sl_string t81) w22.drew fun t82 =>
 st P (oCall Fn.spec_MemBase #[t71]) w22.drew fun t84 w23 =>
 hold P (oLoad T.sl_string t81) t82 w23 ∧ st P (oBuildSlice T.sl_string 1 #[(0, t84)]) w23 fun t85 w24 =>
 hold P (oLoad T.sl_string t81) t82 w24 ∧ st P (oBuiltin .append #[T.sl_string, T.sl_string] T.sl_string #[false, false] #[t82, t85]) w24 fun t86 w25 =>
 pu P (oFldA T.impl_Answer t10 4) fun t87 =>
 st P (oStore T.sl_string t87 t86) w25 fun _ w26 =>
 k5 [] w26
def J_spec_Mem_list_4 (t10 : Value) (w22 : World) (t0 : Value) (t76 : Value) (k5 : List Value → World → Prop) : Prop :=
 pu P (oFldA T.impl_Answer t10 5) fun t88 =>
 rd P (oLoad T.sl_impl_Info t88) w22.drew fun t89 =>
 st P (oCall Fn.spec_Mem_info #[t0, t76]) w22.drew fun t92 w27 =>
 hold P (oLoad T.sl_impl_Info t88) t89 w27 ∧ st P (oBuildSlice T.sl_impl_Info 1 #[(0, t92)]) w27 fun t93 w28 =>
 hold P (oLoad T.sl_impl_Info t88) t89 w28 ∧ st P (oBuiltin .append #[T.sl_impl_Info, T.sl_impl_Info] T.sl_impl_Info #[false, false] #[t89, t93]) w28 fun t94 w29 =>
 pu P (oFldA T.impl_Answer t10 5) fun t95 =>
 st P (oStore T.sl_impl_Info t95 t94) w29 fun _ w30 =>
 k5 [] w30
def J_spec_Mem_list_5 (s4 : List Value) (C1 : List Value → World → Prop) (s2 : List Value) (t0 : Value) (t5 : Value) (t10 : Value) (s5 : List Value) (u5 : Env) (w18 : World) : Prop :=
 jn (J_laws_FnBytesAreBytes_2 s4 C1) fun k5 =>
 pu P (oIdxA T.sl_string (gs s2 0) (gs s4 0)) fun t70 =>
 st P (oLoad T.string t70) w18 fun t71 w20 =>
 st P (oCall Fn.spec_Mem_Find #[t0, t71]) w20 fun t75 w21 =>
 pu P (oExtract t75 0) fun t76 =>
 pu P (oExtract t75 1) fun t77 =>
 pu P (oFldA T.impl_Step t5 0) fun t78 =>
 st P (oLoad T.int t78) w21 fun t79 w22 =>
 pu P (oBin .eql T.int false true t79 (.int .i64 20)) fun t80 =>
 cd t80 (J_spec_Mem_list_3 t10 w22 t71 k5) (J_spec_Mem_list_4 t10 w22 t0 t76 k5)
def J_spec_Mem_list_6 (t1 : Value) (t6 : Value) (K : Value → World → Prop) (t0 : Value) (t5 : Value) (s2 : List Value) (u2 : Env) (w9 : World) : Prop :=
 pu P (oNil t1) fun t56 =>
 pu P (oFldA T.spec_MemHandle t56 2) fun t57 =>
 st P (oLoad T.int t57) w9 fun t58 w10 =>
 pu P (oBuiltin .len #[T.sl_string] T.int #[false] #[(gs s2 0)]) fun t60 =>
 pu P (oBin .add T.int false false t58 t60) fun t61 =>
 pu P (oNil t1) fun t62 =>
 pu P (oFldA T.spec_MemHandle t62 2) fun t63 =>
 st P (oStore T.int t63 t61) w10 fun _ w11 =>
 pu P (oBuild T.impl_Answer #[(0, (gs s2 1))]) fun t65 =>
 st P (oAlloc T.impl_Answer) w11 fun t10 w12 =>
 st P (oStore T.impl_Answer t10 t65) w12 fun _ w13 =>
 jn (J_spec_Mem_list_1 t10 t6 K) fun k3 =>
 pu P (oBuiltin .len #[T.sl_string] T.int #[false] #[(gs s2 0)]) fun t67 =>
 lp [(.int .i64 0)] w13 fun s4 u4 w17 C1 =>
 pu P (oBin .lss T.int false false (gs s4 0) t67) fun t69 =>
 jn (J_spec_Mem_list_5 s4 C1 s2 t0 t5 t10) fun k4 =>
 cd t69 (
 k4 [] w17) (
 k3 [] w17)
def J_spec_Mem_list_7 (t5 : Value) (t41 : Value) (k2 : List Value → World → Prop) (s7 : List Value) (u7 : Env) (w32 : World) : Prop :=
 pu P (oFldA T.impl_Step t5 9) fun t49 =>
 st P (oLoad T.int t49) w32 fun t50 w33 =>
 pu P (oBuiltin .len #[T.sl_string] T.int #[false] #[t41]) fun t52 =>
 pu P (oBuiltin .min #[T.int, T.int] T.int #[false, false] #[t50, t52]) fun t53 =>
 pu P (oSlice T.sl_string t41 none (some t53) none) fun t54 =>
 k2 [t54, (gs s7 0)] w33
def J_spec_Mem_list_8 (t5 : Value) (t41 : Value) (k2 : List Value → World → Prop) (w31 : World) : Prop :=
 jn (J_spec_Mem_list_7 t5 t41 k2) fun k6 =>
 pu P (oBuiltin .len #[T.sl_string] T.int #[false] #[t41]) fun t46 =>
 pu P (oBin .eql T.int false true t46 (.int .i64 0)) fun t47 =>
 cd t47 (
 k6 [(.int .i64 4)] w31) (
 k6 [(.int .i64 0)] w31)
def J_spec_Mem_list_9 (t7 : Value) (t0 : Value) (t1 : Value) (t6 : Value) (K : Value → World → Prop) (t5 : Value) (s1 : List Value) (u1 : Env) (w5 : World) : Prop :=
 pu P (oFldA T.spec_MemNode t7 4) fun t30 =>
 st P (oLoad T.string t30) w5 fun t31 w6 =>
 st P (oCall Fn.spec_Mem_Children #[t0, t31]) w6 fun t32 w7 =>
 pu P (oNil t1) fun t35 =>
 pu P (oFldA T.spec_MemHandle t35 2) fun t36 =>
 st P (oLoad T.int t36) w7 fun t37 w8 =>
 pu P (oBuiltin .len #[T.sl_string] T.int #[false] #[t32]) fun t39 =>
 pu P (oBuiltin .min #[T.int, T.int] T.int #[false, false] #[t37, t39]) fun t40 =>
 pu P (oSlice T.sl_string t32 (some t40) none none) fun t41 =>
 jn (J_spec_Mem_list_6 t1 t6 K t0 t5) fun k2 =>
 pu P (oFldA T.impl_Step t5 9) fun t42 =>
 st P (oLoad T.int t42) w8 fun t43 w31 =>
 pu P (oBin .gtr T.int false true t43 (.int .i64 0)) fun t44 =>
 cd t44 (J_spec_Mem_list_8 t5 t41 k2 w31) (
 k2 [t41, (.int .i64 0)] w31)
def F_spec_Mem_list (t0 t1 t2 : Value) (w : World) (K : Value → World → Prop) : Prop :=
 st P (oBox T.impl_Step t2) w fun t5 w1 =>
 st P (oAlloc T.impl_Answer) w1 fun t6 w2 =>
 pu P (oNil t0) fun t16 =>
 pu P (oFldA T.spec_Mem t16 2) fun t17 =>
 rd P (oLoad T.sl_spec_MemNode t17) w2.drew fun t18 =>
 pu P (oNil t1) fun t20 =>
 pu P (oFldA T.spec_MemHandle t20 0) fun t21 =>
 rd P (oLoad T.int t21) w2.drew fun t22 =>
 pu P (oIdxA T.sl_spec_MemNode t18 t22) fun t23 =>
 rd P (oLoad T.spec_MemNode t23) w2.drew fun t24 =>
 st P (oAlloc T.spec_MemNode) w2.drew fun t7 w3 =>
 hold P (oLoad T.spec_MemNode t23) t24 w3 ∧ hold P (oLoad T.int t21) t22 w3 ∧ hold P (oLoad T.sl_spec_MemNode t17) t18 w3 ∧ st P (oStore T.spec_MemNode t7 t24) w3 fun _ w4 =>
 jn (J_spec_Mem_list_9 t7 t0 t1 t6 K t5) fun k1 =>
 pu P (oFldA T.spec_MemNode t7 0) fun t25 =>
 st P (oLoad T.bool t25) w4 fun t26 w34 =>
 pu P (oUn .not t26) fun t27 =>
 cd t27 (
 pu P (oBuild T.impl_Answer #[(0, (.int .i64 8))]) fun t28 =>
 st P (oStore T.impl_Answer t6 t28) w34 fun _ w35 =>
 rsl P T.impl_Answer t6 w35 fun r2 =>
 K (tup [r2]) w35) (
 k1 [] w34)
def Tb_spec_Mem_list : Tab := { join := fun n => match n with | 9 => [9] | 10 => [8, 9] | _ => [], loop := fun n => match n with | 13 => [68] | _ => [] }
theorem S_spec_Mem_list {t0 t1 t2 : Value} {w : World} {K : Value → World → Prop} (h : F_spec_Mem_list t0 t1 t2 w K) : Cl P Fn.spec_Mem_list #[t0, t1, t2] w K :=
  cl_of_eq (T := Tb_spec_Mem_list) (args := [t0, t1, t2]) Tryd.func82 rfl follows_mixed (by kernel_rfl) (Nat.le_of_ble_eq_true (by kernel_rfl)) (by kernel_rfl) h
def F_spec_readFrom (t0 t1 t2 : Value) (w : World) (K : Value → World → Prop) : Prop :=
 pu P (oBuiltin .max #[T.int, T.int] T.int #[false, true] #[t2, (.int .i64 0)]) fun t9 =>
 jn (fun s1 u1 w1 =>
 st P (oBuildSlice T.sl_uint8 0 #[]) w1 fun t27 w2 =>
 pu P (oBuiltin .len #[T.sl_uint8] T.int #[false] #[t0]) fun t31 =>
 pu P (oBin .add T.int64 false false t1 t9) fun t34 =>
 pu P (oBuiltin .min #[T.int64, T.int64] T.int64 #[false, false] #[t31, t34]) fun t35 =>
 pu P (oSlice T.sl_uint8 t0 (some t1) (some t35) none) fun t36 =>
 st P (oBuiltin .append #[T.sl_uint8, T.sl_uint8] T.sl_uint8 #[false, false] #[t27, t36]) w2 fun t37 w3 =>
 K (tup [t37, (.int .i64 0)]) w3) fun k1 =>
 pu P (oBin .lss T.int64 false true t1 (.int .i64 0)) fun t12 =>
 cd t12 (
 K (tup [(.slice none 0 0), (.int .i64 13)]) w) (
 pu P (oBin .gtr T.int false true t9 (.int .i64 0)) fun t15 =>
 gd t15 true w (fun K1 => K1 t1 w) fun t17 w4 =>
 gd t15 true w4 (fun K2 => K2 t0 w4) fun t18 w5 =>
 gd t15 true w5 (fun K3 => pu P (oBuiltin .len #[T.sl_uint8] T.int #[false] #[t18]) fun v => K3 v w5) fun t19 w6 =>
 gd t15 true w6 (fun K4 => pu P (oBin .eql T.int64 false false t17 t19) fun v => K4 v w6) fun t20 w7 =>
 pu P (oPick t15 t20 (.bool false)) fun t21 =>
 cd t21 (
 K (tup [(.slice none 0 0), (.int .i64 4)]) w7) (
 pu P (oBuiltin .len #[T.sl_uint8] T.int #[false] #[t0]) fun t25 =>
 pu P (oBin .gtr T.int64 false false t1 t25) fun t26 =>
 cd t26 (
 K (tup [(.slice none 0 0), (.int .i64 5)]) w7) (
 k1 [] w7)))
def Tb_spec_readFrom : Tab := { join := fun n => match n with | _ => [], loop := fun n => match n with | _ => [] }
theorem S_spec_readFrom {t0 t1 t2 : Value} {w : World} {K : Value → World → Prop} (h : F_spec_readFrom t0 t1 t2 w K) : Cl P Fn.spec_readFrom #[t0, t1, t2] w K :=
  cl_of_eq (T := Tb_spec_readFrom) (args := [t0, t1, t2]) Tryd.func83 rfl follows_mixed (by kernel_rfl) (Nat.le_of_ble_eq_true (by kernel_rfl)) (by kernel_rfl) h
def F_spec_grown (t0 t1 : Value) (w : World) (K : Value → World → Prop) : Prop :=
 st P (oBuildSlice T.sl_uint8 0 #[]) w fun t6 w1 =>
 st P (oBuiltin .append #[T.sl_uint8, T.sl_uint8] T.sl_uint8 #[false, false] #[t6, t0]) w1 fun t8 w2 =>
 jn (fun s1 u1 w3 =>
 K (tup [(gs s1 0)]) w3) fun k1 =>
 lp [t8] w2 fun s2 u2 w4 C1 =>
 jn (fun s3 u3 w5 =>
 st P (oBuildSlice T.sl_uint8 1 #[(0, (.int .u8 0))]) w5 fun t14 w6 =>
 st P (oBuiltin .append #[T.sl_uint8, T.sl_uint8] T.sl_uint8 #[false, false] #[(gs s2 0), t14]) w6 fun t15 w7 =>
 C1 [t15] w7) fun k2 =>
 pu P (oBuiltin .len #[T.sl_uint8] T.int #[false] #[(gs s2 0)]) fun t10 =>
 pu P (oBin .lss T.int64 false false t10 t1) fun t12 =>
 cd t12 (
 k2 [] w4) (
 k1 [(gs s2 0)] w4)
def Tb_spec_grown : Tab := { join := fun n => match n with | 4 => [5] | _ => [], loop := fun n => match n with | 2 => [5] | _ => [] }
theorem S_spec_grown {t0 t1 : Value} {w : World} {K : Value → World → Prop} (h : F_spec_grown t0 t1 w K) : Cl P Fn.spec_grown #[t0, t1] w K :=
  cl_of_eq (T := Tb_spec_grown) (args := [t0, t1]) Tryd.func84 rfl follows_mixed (by kernel_rfl) (Nat.le_of_ble_eq_true (by kernel_rfl)) (by kernel_rfl) h
def F_spec_overwritten (t0 t1 t2 : Value) (w : World) (K : Value → World → Prop) : Prop :=
 pu P (oBuiltin .len #[T.sl_uint8] T.int #[false] #[t2]) fun t11 =>
 pu P (oBin .add T.int64 false false t1 t11) fun t12 =>
 st P (oCall Fn.spec_grown #[t0, t12]) w fun t13 w1 =>
 pu P (oSlice T.sl_uint8 t13 (some t1) none none) fun t16 =>
 st P (oBuiltin .copy #[T.sl_uint8, T.sl_uint8] T.int #[false, false] #[t16, t2]) w1 fun t18 w2 =>
 K (tup [t13]) w2
def Tb_spec_overwritten : Tab := { join := fun n => match n with | _ => [], loop := fun n => match n with | _ => [] }
theorem S_spec_overwritten {t0 t1 t2 : Value} {w : World} {K : Value → World → Prop} (h : F_spec_overwritten t0 t1 t2 w K) : Cl P Fn.spec_overwritten #[t0, t1, t2] w K :=
  cl_of_eq (T := Tb_spec_overwritten) (args := [t0, t1, t2]) Tryd.func85 rfl follows_mixed (by kernel_rfl) (Nat.le_of_ble_eq_true (by kernel_rfl)) (by kernel_rfl) h
def F_errors_New (t0 : Value) (w : World) (K : Value → World → Prop) : Prop :=
 pu P (oBuild T.errors_errorString #[(0, t0)]) fun t4 =>
 st P (oBox T.errors_errorString t4) w fun t5 w1 =>
 pu P (oMkIface T.p_errors_errorString t5) fun t6 =>
 K (tup [t6]) w1
def Tb_errors_New : Tab := { join := fun n => match n with | _ => [], loop := fun n => match n with | _ => [] }
theorem S_errors_New {t0 : Value} {w : World} {K : Value → World → Prop} (h : F_errors_New t0 w K) : Cl P Fn.errors_New #[t0] w K :=
  cl_of_eq (T := Tb_errors_New) (args := [t0]) Tryd.func86 rfl follows_mixed (by kernel_rfl) (Nat.le_of_ble_eq_true (by kernel_rfl)) (by kernel_rfl) h
def F_mem_setModTime (t0 t1 : Value) (w : World) (K : Value → World → Prop) : Prop :=
 pu P (oNil t0) fun t6 =>
 pu P (oFldA T.mem_FileData t6 5) fun t7 =>
 st P (oStore T.int64 t7 t1) w fun _ w1 =>
 K (tup []) w1
def Tb_mem_setModTime : Tab := { join := fun n => match n with | _ => [], loop := fun n => match n with | _ => [] }
theorem S_mem_setModTime {t0 t1 : Value} {w : World} {K : Value → World → Prop} (h : F_mem_setModTime t0 t1 w K) : Cl P Fn.mem_setModTime #[t0, t1] w K :=
  cl_of_eq (T := Tb_mem_setModTime) (args := [t0, t1]) Tryd.func87 rfl follows_mixed (by kernel_rfl) (Nat.le_of_ble_eq_true (by kernel_rfl)) (by kernel_rfl) h
def F_path_Split (t0 : Value) (w : World) (K : Value → World → Prop) : Prop :=
 st P (oCall Fn.bytealg_LastIndexByteString #[t0, (.int .u8 47)]) w fun t6 w1 =>
 pu P (oBin .add T.int false true t6 (.int .i64 1)) fun t9 =>
 pu P (oSlice T.string t0 none (some t9) none) fun t10 =>
 pu P (oBin .add T.int false true t6 (.int .i64 1)) fun t13 =>
 pu P (oSlice T.string t0 (some t13) none none) fun t14 =>
 K (tup [t10, t14]) w1.drew
def Tb_path_Split : Tab := { join := fun n => match n with | _ => [], loop := fun n => match n with | _ => [] }
theorem S_path_Split {t0 : Value} {w : World} {K : Value → World → Prop} (h : F_path_Split t0 w K) : Cl P Fn.path_Split #[t0] w K :=
  cl_of_eq (T := Tb_path_Split) (args := [t0]) Tryd.func89 rfl follows_mixed (by kernel_rfl) (Nat.le_of_ble_eq_true (by kernel_rfl)) (by kernel_rfl) h
def F_mem_FileInfo_Name (t0 : Value) (w : World) (K : Value → World → Prop) : Prop :=
 pu P (oNil t0) fun t7 =>
 pu P (oFldA T.mem_FileInfo t7 0) fun t8 =>
 st P (oLoad T.p_mem_FileData t8) w fun t9 w1 =>
 pu P (oNil t9) fun t10 =>
 pu P (oFldA T.mem_FileData t10 0) fun t11 =>
 st P (oLoad T.string t11) w1 fun t12 w2 =>
 st P (oCall Fn.path_Split #[t12]) w2 fun t13 w3 =>
 pu P (oExtract t13 0) fun t14 =>
 pu P (oExtract t13 1) fun t15 =>
 K (tup [t15]) w3
def Tb_mem_FileInfo_Name : Tab := { join := fun n => match n with | _ => [], loop := fun n => match n with | _ => [] }
theorem S_mem_FileInfo_Name {t0 : Value} {w : World} {K : Value → World → Prop} (h : F_mem_FileInfo_Name t0 w K) : Cl P Fn.mem_FileInfo_Name #[t0] w K :=
  cl_of_eq (T := Tb_mem_FileInfo_Name) (args := [t0]) Tryd.func90 rfl follows_mixed (by kernel_rfl) (Nat.le_of_ble_eq_true (by kernel_rfl)) (by kernel_rfl) h
def F_mem_FileData_Name (t0 : Value) (w : World) (K : Value → World → Prop) : Prop :=
 pu P (oNil t0) fun t4 =>
 pu P (oFldA T.mem_FileData t4 0) fun t5 =>
 st P (oLoad T.string t5) w fun t6 w1 =>
 K (tup [t6]) w1
def Tb_mem_FileData_Name : Tab := { join := fun n => match n with | _ => [], loop := fun n => match n with | _ => [] }
theorem S_mem_FileData_Name {t0 : Value} {w : World} {K : Value → World → Prop} (h : F_mem_FileData_Name t0 w K) : Cl P Fn.mem_FileData_Name #[t0] w K :=
  cl_of_eq (T := Tb_mem_FileData_Name) (args := [t0]) Tryd.func91 rfl follows_mixed (by kernel_rfl) (Nat.le_of_ble_eq_true (by kernel_rfl)) (by kernel_rfl) h
def F_spec_Mem_put (t0 t1 t2 : Value) (w : World) (K : Value → World → Prop) : Prop :=
 st P (oCall Fn.spec_Mem_place #[t0, t1]) w fun t11 w1 =>
 pu P (oExtract t11 0) fun t12 =>
 pu P (oExtract t11 1) fun t13 =>
 jn (fun s1 u1 w2 =>
 pu P (oNil t0) fun t24 =>
 pu P (oFldA T.spec_Mem t24 0) fun t25 =>
 rd P (oLoad T.sl_string t25) w2.drew fun t26 =>
 pu P (oSlice T.sl_string t26 none (some t12) none) fun t28 =>
 pu P (oNil t0) fun t32 =>
 pu P (oFldA T.spec_Mem t32 0) fun t33 =>
 rd P (oLoad T.sl_string t33) w2.drew fun t34 =>
 pu P (oSlice T.sl_string t34 (some t12) none none) fun t36 =>
 st P (oBuildSlice T.sl_string 1 #[(0, t1)]) w2.drew fun t30 w3 =>
 hold P (oLoad T.sl_string t33) t34 w3 ∧ hold P (oLoad T.sl_string t25) t26 w3 ∧ st P (oBuiltin .append #[T.sl_string, T.sl_string] T.sl_string #[false, false] #[t30, t36]) w3 fun t37 w4 =>
 hold P (oLoad T.sl_string t25) t26 w4 ∧ st P (oBuiltin .append #[T.sl_string, T.sl_string] T.sl_string #[false, false] #[t28, t37]) w4 fun t38 w5 =>
 pu P (oNil t0) fun t39 =>
 pu P (oFldA T.spec_Mem t39 0) fun t40 =>
 st P (oStore T.sl_string t40 t38) w5 fun _ w6 =>
 pu P (oNil t0) fun t43 =>
 pu P (oFldA T.spec_Mem t43 1) fun t44 =>
 rd P (oLoad T.sl_int t44) w6.drew fun t45 =>
 pu P (oSlice T.sl_int t45 none (some t12) none) fun t47 =>
 pu P (oNil t0) fun t51 =>
 pu P (oFldA T.spec_Mem t51 1) fun t52 =>
 rd P (oLoad T.sl_int t52) w6.drew fun t53 =>
 pu P (oSlice T.sl_int t53 (some t12) none none) fun t55 =>
 st P (oBuildSlice T.sl_int 1 #[(0, t2)]) w6.drew fun t49 w7 =>
 hold P (oLoad T.sl_int t52) t53 w7 ∧ hold P (oLoad T.sl_int t44) t45 w7 ∧ st P (oBuiltin .append #[T.sl_int, T.sl_int] T.sl_int #[false, false] #[t49, t55]) w7 fun t56 w8 =>
 hold P (oLoad T.sl_int t44) t45 w8 ∧ st P (oBuiltin .append #[T.sl_int, T.sl_int] T.sl_int #[false, false] #[t47, t56]) w8 fun t57 w9 =>
 pu P (oNil t0) fun t58 =>
 pu P (oFldA T.spec_Mem t58 1) fun t59 =>
 st P (oStore T.sl_int t59 t57) w9 fun _ w10 =>
 K (tup []) w10) fun k1 =>
 cd t13 (
 pu P (oNil t0) fun t16 =>
 pu P (oFldA T.spec_Mem t16 1) fun t17 =>
 st P (oLoad T.sl_int t17) w1 fun t18 w11 =>
 pu P (oIdxA T.sl_int t18 t12) fun t21 =>
 st P (oStore T.int t21 t2) w11 fun _ w12 =>
 K (tup []) w12) (
 k1 [] w1)
def Tb_spec_Mem_put : Tab := { join := fun n => match n with | _ => [], loop := fun n => match n with | _ => [] }
theorem S_spec_Mem_put {t0 t1 t2 : Value} {w : World} {K : Value → World → Prop} (h : F_spec_Mem_put t0 t1 t2 w K) : Cl P Fn.spec_Mem_put #[t0, t1, t2] w K :=
  cl_of_eq (T := Tb_spec_Mem_put) (args := [t0, t1, t2]) Tryd.func92 rfl follows_mixed (by kernel_rfl) (Nat.le_of_ble_eq_true (by kernel_rfl)) (by kernel_rfl) h
end Go.Proofs.YteblpejgenehfaaDoor.X
end
section
namespace Go.Proofs.YteblpejgenehfaaDoor.X
open Go Go.X Go.Proofs
def F_mem_FileInfo_Size (t0 : Value) (w : World) (K : Value → World → Prop) : Prop :=
 jn (fun s1 u1 w1 =>
 pu P (oNil t0) fun t6 =>
 pu P (oFldA T.mem_FileInfo t6 0) fun t7 =>
 st P (oLoad T.p_mem_FileData t7) w1 fun t8 w2 =>
 pu P (oNil t8) fun t9 =>
 pu P (oFldA T.mem_FileData t9 1) fun t10 =>
 st P (oLoad T.sl_uint8 t10) w2 fun t11 w3 =>
 pu P (oBuiltin .len #[T.sl_uint8] T.int #[false] #[t11]) fun t12 =>
 K (tup [t12]) w3) fun k1 =>
 st P (oCall Fn.mem_FileInfo_IsDir #[t0]) w fun t4 w4 =>
 cd t4 (
 K (tup [(.int .i64 42)]) w4) (
 k1 [] w4)
def Tb_mem_FileInfo_Size : Tab := { join := fun n => match n with | _ => [], loop := fun n => match n with | _ => [] }
theorem S_mem_FileInfo_Size {t0 : Value} {w : World} {K : Value → World → Prop} (h : F_mem_FileInfo_Size t0 w K) : Cl P Fn.mem_FileInfo_Size #[t0] w K :=
  cl_of_eq (T := Tb_mem_FileInfo_Size) (args := [t0]) Tryd.func96 rfl follows_mixed (by kernel_rfl) (Nat.le_of_ble_eq_true (by kernel_rfl)) (by kernel_rfl) h
def F_mem_FileInfo_Mode (t0 : Value) (w : World) (K : Value → World → Prop) : Prop :=
 pu P (oNil t0) fun t4 =>
 pu P (oFldA T.mem_FileInfo t4 0) fun t5 =>
 st P (oLoad T.p_mem_FileData t5) w fun t6 w1 =>
 pu P (oNil t6) fun t7 =>
 pu P (oFldA T.mem_FileData t7 4) fun t8 =>
 st P (oLoad T.os_FileMode t8) w1 fun t9 w2 =>
 K (tup [t9]) w2
def Tb_mem_FileInfo_Mode : Tab := { join := fun n => match n with | _ => [], loop := fun n => match n with | _ => [] }
theorem S_mem_FileInfo_Mode {t0 : Value} {w : World} {K : Value → World → Prop} (h : F_mem_FileInfo_Mode t0 w K) : Cl P Fn.mem_FileInfo_Mode #[t0] w K :=
  cl_of_eq (T := Tb_mem_FileInfo_Mode) (args := [t0]) Tryd.func97 rfl follows_mixed (by kernel_rfl) (Nat.le_of_ble_eq_true (by kernel_rfl)) (by kernel_rfl) h
def F_mem_FileInfo_IsDir (t0 : Value) (w : World) (K : Value → World → Prop) : Prop :=
 pu P (oNil t0) fun t4 =>
 pu P (oFldA T.mem_FileInfo t4 0) fun t5 =>
 st P (oLoad T.p_mem_FileData t5) w fun t6 w1 =>
 pu P (oNil t6) fun t7 =>
 pu P (oFldA T.mem_FileData t7 3) fun t8 =>
 st P (oLoad T.bool t8) w1 fun t9 w2 =>
 K (tup [t9]) w2
def Tb_mem_FileInfo_IsDir : Tab := { join := fun n => match n with | _ => [], loop := fun n => match n with | _ => [] }
theorem S_mem_FileInfo_IsDir {t0 : Value} {w : World} {K : Value → World → Prop} (h : F_mem_FileInfo_IsDir t0 w K) : Cl P Fn.mem_FileInfo_IsDir #[t0] w K :=
  cl_of_eq (T := Tb_mem_FileInfo_IsDir) (args := [t0]) Tryd.func98 rfl follows_mixed (by kernel_rfl) (Nat.le_of_ble_eq_true (by kernel_rfl)) (by kernel_rfl) h
def F_mem_FileInfo_ModTime (t0 : Value) (w : World) (K : Value → World → Prop) : Prop :=
 pu P (oNil t0) fun t4 =>
 pu P (oFldA T.mem_FileInfo t4 0) fun t5 =>
 st P (oLoad T.p_mem_FileData t5) w fun t6 w1 =>
 pu P (oNil t6) fun t7 =>
 pu P (oFldA T.mem_FileData t7 5) fun t8 =>
 st P (oLoad T.int64 t8) w1 fun t9 w2 =>
 K (tup [t9]) w2
def Tb_mem_FileInfo_ModTime : Tab := { join := fun n => match n with | _ => [], loop := fun n => match n with | _ => [] }
theorem S_mem_FileInfo_ModTime {t0 : Value} {w : World} {K : Value → World → Prop} (h : F_mem_FileInfo_ModTime t0 w K) : Cl P Fn.mem_FileInfo_ModTime #[t0] w K :=
  cl_of_eq (T := Tb_mem_FileInfo_ModTime) (args := [t0]) Tryd.func99 rfl follows_mixed (by kernel_rfl) (Nat.le_of_ble_eq_true (by kernel_rfl)) (by kernel_rfl) h
def F_spec_Mem_place (t0 t1 : Value) (w : World) (K : Value → World → Prop) : Prop :=
 jn (fun s1 u1 w1 =>
 pu P (oNil t0) fun t27 =>
 pu P (oFldA T.spec_Mem t27 0) fun t28 =>
 st P (oLoad T.sl_string t28) w1 fun t29 w2 =>
 pu P (oBuiltin .len #[T.sl_string] T.int #[false] #[t29]) fun t30 =>
 K (tup [t30, (.bool false)]) w2) fun k1 =>
 pu P (oNil t0) fun t9 =>
 pu P (oFldA T.spec_Mem t9 0) fun t10 =>
 st P (oLoad T.sl_string t10) w fun t11 w3 =>
 pu P (oBuiltin .len #[T.sl_string] T.int #[false] #[t11]) fun t12 =>
 lp [(.int .i64 0)] w3 fun s2 u2 w4 C1 =>
 pu P (oBin .lss T.int false false (gs s2 0) t12) fun t14 =>
 jn (fun s3 u3 w5 =>
 jn (fun s4 u4 w6 =>
 pu P (oBin .add T.int false true (gs s2 0) (.int .i64 1)) fun t25 =>
 C1 [t25] w6) fun k3 =>
 pu P (oIdxA T.sl_string t11 (gs s2 0)) fun t16 =>
 st P (oLoad T.string t16) w5 fun t17 w7 =>
 pu P (oBin .geq T.string false false t17 t1) fun t20 =>
 cd t20 (
 pu P (oBin .eql T.string false false t17 t1) fun t24 =>
 K (tup [(gs s2 0), t24]) w7) (
 k3 [] w7)) fun k2 =>
 cd t14 (
 k2 [] w4) (
 k1 [] w4)
def Tb_spec_Mem_place : Tab := { join := fun n => match n with | _ => [], loop := fun n => match n with | 2 => [13] | _ => [] }
theorem S_spec_Mem_place {t0 t1 : Value} {w : World} {K : Value → World → Prop} (h : F_spec_Mem_place t0 t1 w K) : Cl P Fn.spec_Mem_place #[t0, t1] w K :=
  cl_of_eq (T := Tb_spec_Mem_place) (args := [t0, t1]) Tryd.func100 rfl follows_mixed (by kernel_rfl) (Nat.le_of_ble_eq_true (by kernel_rfl)) (by kernel_rfl) h
def F_spec_MemParent (t0 : Value) (w : World) (K : Value → World → Prop) : Prop :=
 jn (fun s1 u1 w1 =>
 K (tup [(S [47])]) w1) fun k1 =>
 pu P (oBuiltin .len #[T.string] T.int #[false] #[t0]) fun t5 =>
 pu P (oBin .sub T.int false true t5 (.int .i64 1)) fun t6 =>
 lp [t6] w fun s2 u2 w2 C1 =>
 jn (fun s3 u3 w3 =>
 jn (fun s4 u4 w4 =>
 pu P (oBin .sub T.int false true (gs s2 0) (.int .i64 1)) fun t10 =>
 C1 [t10] w4) fun k3 =>
 pu P (oIdx T.string t0 (gs s2 0)) fun t13 =>
 pu P (oBin .eql T.uint8 false true t13 (.int .u8 47)) fun t14 =>
 cd t14 (
 pu P (oSlice T.string t0 none (some (gs s2 0)) none) fun t17 =>
 K (tup [t17]) w3) (
 k3 [] w3)) fun k2 =>
 pu P (oBin .gtr T.int false true (gs s2 0) (.int .i64 0)) fun t8 =>
 cd t8 (
 k2 [] w2) (
 k1 [] w2)
def Tb_spec_MemParent : Tab := { join := fun n => match n with | _ => [], loop := fun n => match n with | 2 => [3] | _ => [] }
theorem S_spec_MemParent {t0 : Value} {w : World} {K : Value → World → Prop} (h : F_spec_MemParent t0 w K) : Cl P Fn.spec_MemParent #[t0] w K :=
  cl_of_eq (T := Tb_spec_MemParent) (args := [t0]) Tryd.func101 rfl follows_mixed (by kernel_rfl) (Nat.le_of_ble_eq_true (by kernel_rfl)) (by kernel_rfl) h
def F_spec_MemBase (t0 : Value) (w : World) (K : Value → World → Prop) : Prop :=
 jn (fun s1 u1 w1 =>
 K (tup [t0]) w1) fun k1 =>
 pu P (oBuiltin .len #[T.string] T.int #[false] #[t0]) fun t5 =>
 pu P (oBin .sub T.int false true t5 (.int .i64 1)) fun t6 =>
 lp [t6] w fun s2 u2 w2 C1 =>
 jn (fun s3 u3 w3 =>
 jn (fun s4 u4 w4 =>
 pu P (oBin .sub T.int false true (gs s2 0) (.int .i64 1)) fun t10 =>
 C1 [t10] w4) fun k3 =>
 pu P (oIdx T.string t0 (gs s2 0)) fun t13 =>
 pu P (oBin .eql T.uint8 false true t13 (.int .u8 47)) fun t14 =>
 cd t14 (
 pu P (oBin .add T.int false true (gs s2 0) (.int .i64 1)) fun t17 =>
 pu P (oSlice T.string t0 (some t17) none none) fun t18 =>
 K (tup [t18]) w3) (
 k3 [] w3)) fun k2 =>
 pu P (oBin .geq T.int false true (gs s2 0) (.int .i64 0)) fun t8 =>
 cd t8 (
 k2 [] w2) (
 k1 [] w2)
def Tb_spec_MemBase : Tab := { join := fun n => match n with | _ => [], loop := fun n => match n with | 2 => [3] | _ => [] }
theorem S_spec_MemBase {t0 : Value} {w : World} {K : Value → World → Prop} (h : F_spec_MemBase t0 w K) : Cl P Fn.spec_MemBase #[t0] w K :=
  cl_of_eq (T := Tb_spec_MemBase) (args := [t0]) Tryd.func102 rfl follows_mixed (by kernel_rfl) (Nat.le_of_ble_eq_true (by kernel_rfl)) (by kernel_rfl) h
def F_bytealg_LastIndexByteString (t0 t1 : Value) (w : World) (K : Value → World → Prop) : Prop :=
 jn (fun s1 u1 w1 =>
 K (tup [(.int .i64 (-1))]) w1) fun k1 =>
 pu P (oBuiltin .len #[T.string] T.int #[false] #[t0]) fun t7 =>
 pu P (oBin .sub T.int false true t7 (.int .i64 1)) fun t8 =>
 lp [t8] w fun s2 u2 w2 C1 =>
 jn (fun s3 u3 w3 =>
 jn (fun s4 u4 w4 =>
 pu P (oBin .sub T.int false true (gs s2 0) (.int .i64 1)) fun t12 =>
 C1 [t12] w4) fun k3 =>
 pu P (oIdx T.string t0 (gs s2 0)) fun t15 =>
 pu P (oBin .eql T.uint8 false false t15 t1) fun t17 =>
 cd t17 (
 K (tup [(gs s2 0)]) w3) (
 k3 [] w3)) fun k2 =>
 pu P (oBin .geq T.int false true (gs s2 0) (.int .i64 0)) fun t10 =>
 cd t10 (
 k2 [] w2) (
 k1 [] w2)
def Tb_bytealg_LastIndexByteString : Tab := { join := fun n => match n with | _ => [], loop := fun n => match n with | 2 => [5] | _ => [] }
theorem S_bytealg_LastIndexByteString {t0 t1 : Value} {w : World} {K : Value → World → Prop} (h : F_bytealg_LastIndexByteString t0 t1 w K) : Cl P Fn.bytealg_LastIndexByteString #[t0, t1] w K :=
  cl_of_eq (T := Tb_bytealg_LastIndexByteString) (args := [t0, t1]) Tryd.func103 rfl follows_mixed (by kernel_rfl) (Nat.le_of_ble_eq_true (by kernel_rfl)) (by kernel_rfl) h
end Go.Proofs.YteblpejgenehfaaDoor.X
end
section
namespace Go.Proofs.YteblpejgenehfaaDoor.X
open Go Go.X Go.Proofs Go.RowKit
theorem take_get {α : Type} {cur xs : List α} {m j : Nat} (h : cur.take m = xs) (hj : j < m) : cur[j]? = xs[j]? := by
  rw [← h, List.getElem?_take_of_lt hj]
theorem parent_spec {l : Str} {w : World} {K : Value → World → Prop} (hl : l.length ≤ 140737488355328) (h : K (S (SM.parent l)) w) : Cl P Fn.spec_MemParent #[S l] w K := by
  apply S_spec_MemParent
  unfold F_spec_MemParent
  refine jn_with (fun t w' => w' = w ∧ SM.parent l = [47]) ?_ ?_
  · rintro t e w1 ⟨rfl, e1⟩
    simp (disch := first | omega | (simp only [sZb, sZa, sZd] <;> omega) | (simp (disch := first | omega | (simp only [sZb, sZa, sZd] <;> omega) | fail) only [go_sem]; done) | fail) only [go_sem, dec_t, dec_f, w_u32, w_u64, w_u16, w_u8, w_i64, Int.reduceToNat, Int.reducePow, Nat.reducePow]
    rw [e1] at h
    exact h
  · rw [V.len_string]
    simp (disch := first | omega | (simp only [sZb, sZa, sZd] <;> omega) | (simp (disch := first | omega | (simp only [sZb, sZa, sZd] <;> omega) | fail) only [go_sem]; done) | fail) only [go_sem, dec_t, dec_f, w_u32, w_u64, w_u16, w_u8, w_i64, Int.reduceToNat, Int.reducePow, Nat.reducePow]
    refine lp_intro (fun s w' => w' = w ∧ ∃ i : Nat, s = [.int .i64 ((i : Int) - 1)] ∧ i ≤ l.length ∧ SM.ls l i = SM.ls l l.length) (fun s w' => ((intOf (gs s 0)) + 1).toNat) ?_ ?_
    · exact ⟨rfl, l.length, rfl, Nat.le_refl _, rfl⟩
    · rintro s u w1 ⟨rfl, i, rfl, hi, hs⟩
      refine jn_with (fun t w' => w' = w1 ∧ 1 < i) ?_ ?_
      · rintro t e w2 ⟨rfl, hi1⟩
        obtain ⟨j, rfl⟩ : ∃ j, i = j + 1 := ⟨i - 1, by omega⟩
        have ej : ((j + 1 : Nat) : Int) - 1 = (j : Int) := by omega
        refine jn_with (fun t w' => w' = w2 ∧ l.getD j 0 ≠ 47) ?_ ?_
        · rintro t e w3 ⟨rfl, hne⟩
          simp (disch := first | omega | (simp only [sZb, sZa, sZd] <;> omega) | (simp (disch := first | omega | (simp only [sZb, sZa, sZd] <;> omega) | fail) only [go_sem, ej]; done) | fail) only [go_sem, dec_t, dec_f, w_u32, w_u64, w_u16, w_u8, w_i64, Int.reduceToNat, Int.reducePow, Nat.reducePow, ej]
          refine ⟨⟨trivial, j, rfl, by omega, ?_⟩, ?_⟩
          · rw [← hs]; simp only [SM.ls]; rw [if_neg hne]
          · simp only [gs0, intOf]; omega
        · rw [gs0, ej, oIdxS _ _ _ _ _ U.string (by omega) (by omega)]
          rw [Int.toNat_natCast]
          by_cases hc : l.getD j 0 = 47
          · have e1 : ((l.getD j 0).toNat : Int) = 47 := by rw [hc]; rfl
            rw [oSliceS_hi _ _ _ _ _ U.string (by omega) (by omega)]
            simp (disch := first | omega | (simp only [sZb, sZa, sZd] <;> omega) | (simp (disch := first | omega | (simp only [sZb, sZa, sZd] <;> omega) | fail) only [go_sem, e1, decide_true]; done) | fail) only [go_sem, dec_t, dec_f, w_u32, w_u64, w_u16, w_u8, w_i64, Int.reduceToNat, Int.reducePow, Nat.reducePow, e1, decide_true]
            have e2 : SM.parent l = l.take j := by
              unfold SM.parent SM.lastSlash
              rw [← hs]
              simp only [SM.ls, if_pos hc]
              cases j with
              | zero => omega
              | succ j => rfl
            rw [e2] at h
            exact h
          · have e1 : ¬ ((l.getD j 0).toNat : Int) = 47 := fun e => hc (UInt8.toNat_inj.1 (by rw [show (47 : UInt8).toNat = 47 from rfl]; omega))
            simp (disch := first | omega | (simp only [sZb, sZa, sZd] <;> omega) | (simp (disch := first | omega | (simp only [sZb, sZa, sZd] <;> omega) | fail) only [go_sem, e1, decide_false]; done) | fail) only [go_sem, dec_t, dec_f, w_u32, w_u64, w_u16, w_u8, w_i64, Int.reduceToNat, Int.reducePow, Nat.reducePow, e1, decide_false]
            exact ⟨trivial, hc⟩
      · rw [gs0]
        by_cases hi1 : 1 < i
        · simp (disch := first | omega | (simp only [sZb, sZa, sZd] <;> omega) | (simp (disch := first | omega | (simp only [sZb, sZa, sZd] <;> omega) | fail) only [go_sem]; done) | fail) only [go_sem, dec_t, dec_f, w_u32, w_u64, w_u16, w_u8, w_i64, Int.reduceToNat, Int.reducePow, Nat.reducePow]
          exact ⟨trivial, hi1⟩
        · simp (disch := first | omega | (simp only [sZb, sZa, sZd] <;> omega) | (simp (disch := first | omega | (simp only [sZb, sZa, sZd] <;> omega) | fail) only [go_sem]; done) | fail) only [go_sem, dec_t, dec_f, w_u32, w_u64, w_u16, w_u8, w_i64, Int.reduceToNat, Int.reducePow, Nat.reducePow]
          refine ⟨trivial, ?_⟩
          unfold SM.parent SM.lastSlash
          rw [← hs]
          have : i = 0 ∨ i = 1 := by omega
          rcases this with rfl | rfl
          · rfl
          · simp only [SM.ls]
            split <;> simp_all
theorem base_spec {l : Str} {w : World} {K : Value → World → Prop} (hl : l.length ≤ 140737488355328) (h : K (S (SM.base l)) w) : Cl P Fn.spec_MemBase #[S l] w K := by
  apply S_spec_MemBase
  unfold F_spec_MemBase
  refine jn_with (fun t w' => w' = w ∧ SM.base l = l) ?_ ?_
  · rintro t e w1 ⟨rfl, e1⟩
    simp (disch := first | omega | (simp only [sZb, sZa, sZd] <;> omega) | (simp (disch := first | omega | (simp only [sZb, sZa, sZd] <;> omega) | fail) only [go_sem]; done) | fail) only [go_sem, dec_t, dec_f, w_u32, w_u64, w_u16, w_u8, w_i64, Int.reduceToNat, Int.reducePow, Nat.reducePow]
    rw [e1] at h
    exact h
  · rw [V.len_string]
    simp (disch := first | omega | (simp only [sZb, sZa, sZd] <;> omega) | (simp (disch := first | omega | (simp only [sZb, sZa, sZd] <;> omega) | fail) only [go_sem]; done) | fail) only [go_sem, dec_t, dec_f, w_u32, w_u64, w_u16, w_u8, w_i64, Int.reduceToNat, Int.reducePow, Nat.reducePow]
    refine lp_intro (fun s w' => w' = w ∧ ∃ i : Nat, s = [.int .i64 ((i : Int) - 1)] ∧ i ≤ l.length ∧ SM.ls l i = SM.ls l l.length) (fun s w' => ((intOf (gs s 0)) + 1).toNat) ?_ ?_
    · exact ⟨rfl, l.length, rfl, Nat.le_refl _, rfl⟩
    · rintro s u w1 ⟨rfl, i, rfl, hi, hs⟩
      refine jn_with (fun t w' => w' = w1 ∧ 0 < i) ?_ ?_
      · rintro t e w2 ⟨rfl, hi1⟩
        obtain ⟨j, rfl⟩ : ∃ j, i = j + 1 := ⟨i - 1, by omega⟩
        have ej : ((j + 1 : Nat) : Int) - 1 = (j : Int) := by omega
        refine jn_with (fun t w' => w' = w2 ∧ l.getD j 0 ≠ 47) ?_ ?_
        · rintro t e w3 ⟨rfl, hne⟩
          simp (disch := first | omega | (simp only [sZb, sZa, sZd] <;> omega) | (simp (disch := first | omega | (simp only [sZb, sZa, sZd] <;> omega) | fail) only [go_sem, ej]; done) | fail) only [go_sem, dec_t, dec_f, w_u32, w_u64, w_u16, w_u8, w_i64, Int.reduceToNat, Int.reducePow, Nat.reducePow, ej]
          refine ⟨⟨trivial, j, rfl, by omega, ?_⟩, ?_⟩
          · rw [← hs]; simp only [SM.ls]; rw [if_neg hne]
          · simp only [gs0, intOf]; omega
        · rw [gs0, ej, oIdxS _ _ _ _ _ U.string (by omega) (by omega)]
          rw [Int.toNat_natCast]
          by_cases hc : l.getD j 0 = 47
          · have e1 : ((l.getD j 0).toNat : Int) = 47 := by rw [hc]; rfl
            simp (disch := first | omega | (simp only [sZb, sZa, sZd] <;> omega) | (simp (disch := first | omega | (simp only [sZb, sZa, sZd] <;> omega) | fail) only [go_sem, e1, decide_true]; done) | fail) only [go_sem, dec_t, dec_f, w_u32, w_u64, w_u16, w_u8, w_i64, Int.reduceToNat, Int.reducePow, Nat.reducePow, e1, decide_true]
            rw [oSliceS_lo _ _ _ _ _ U.string (by omega) (by omega)]
            have e2 : SM.base l = l.drop (j + 1) := by
              unfold SM.base SM.lastSlash
              rw [← hs]
              simp only [SM.ls, if_pos hc]
            rw [e2] at h
            exact h
          · have e1 : ¬ ((l.getD j 0).toNat : Int) = 47 := fun e => hc (UInt8.toNat_inj.1 (by rw [show (47 : UInt8).toNat = 47 from rfl]; omega))
            simp (disch := first | omega | (simp only [sZb, sZa, sZd] <;> omega) | (simp (disch := first | omega | (simp only [sZb, sZa, sZd] <;> omega) | fail) only [go_sem, e1, decide_false]; done) | fail) only [go_sem, dec_t, dec_f, w_u32, w_u64, w_u16, w_u8, w_i64, Int.reduceToNat, Int.reducePow, Nat.reducePow, e1, decide_false]
            exact ⟨trivial, hc⟩
      · rw [gs0]
        by_cases hi1 : 0 < i
        · simp (disch := first | omega | (simp only [sZb, sZa, sZd] <;> omega) | (simp (disch := first | omega | (simp only [sZb, sZa, sZd] <;> omega) | fail) only [go_sem]; done) | fail) only [go_sem, dec_t, dec_f, w_u32, w_u64, w_u16, w_u8, w_i64, Int.reduceToNat, Int.reducePow, Nat.reducePow]
          exact ⟨trivial, hi1⟩
        · simp (disch := first | omega | (simp only [sZb, sZa, sZd] <;> omega) | (simp (disch := first | omega | (simp only [sZb, sZa, sZd] <;> omega) | fail) only [go_sem]; done) | fail) only [go_sem, dec_t, dec_f, w_u32, w_u64, w_u16, w_u8, w_i64, Int.reduceToNat, Int.reducePow, Nat.reducePow]
          refine ⟨trivial, ?_⟩
          have : i = 0 := by omega
          subst this
          unfold SM.base SM.lastSlash
          rw [← hs]
          rfl
theorem below_spec {l d : Str} {w : World} {K : Value → World → Prop} (hl : l.length ≤ 140737488355328) (hd : d.length ≤ 140737488355328) (h : K (.bool (SM.below l d)) w) : Cl P Fn.spec_MemBelow #[S l, S d] w K := by
  apply S_spec_MemBelow
  unfold F_spec_MemBelow
  unfold SM.below at h
  refine jn_with (fun t w' => w' = w ∧ d ≠ [47]) ?_ ?_
  · rintro t e w1 ⟨rfl, e1⟩
    rw [if_neg e1] at h
    rw [V.len_string, V.len_string]
    by_cases c1 : d.length < l.length
    · have g1 : (d.length : Int) < l.length := by omega
      simp (disch := first | omega | (simp only [sZb, sZa, sZd] <;> omega) | (simp (disch := first | omega | (simp only [sZb, sZa, sZd] <;> omega) | fail) only [go_sem, g1, decide_true]; done) | fail) only [go_sem, dec_t, dec_f, w_u32, w_u64, w_u16, w_u8, w_i64, Int.reduceToNat, Int.reducePow, Nat.reducePow, g1, decide_true]
      rw [oSliceS_hi _ _ _ _ _ U.string (by omega) (by omega), Int.toNat_natCast]
      by_cases c2 : l.take d.length = d
      · simp (disch := first | omega | (simp only [sZb, sZa, sZd] <;> omega) | (simp (disch := first | omega | (simp only [sZb, sZa, sZd] <;> omega) | fail) only [go_sem, c2, decide_true]; done) | fail) only [go_sem, dec_t, dec_f, w_u32, w_u64, w_u16, w_u8, w_i64, Int.reduceToNat, Int.reducePow, Nat.reducePow, c2, decide_true]
        rw [oIdxS _ _ _ _ _ U.string (by omega) (by omega), Int.toNat_natCast]
        simp (disch := first | omega | (simp only [sZb, sZa, sZd] <;> omega) | (simp (disch := first | omega | (simp only [sZb, sZa, sZd] <;> omega) | fail) only [go_sem]; done) | fail) only [go_sem, dec_t, dec_f, w_u32, w_u64, w_u16, w_u8, w_i64, Int.reduceToNat, Int.reducePow, Nat.reducePow]
        have e3 : decide (((l.getD d.length 0).toNat : Int) = 47) = decide (l.getD d.length 0 = 47) := decide_eq_decide.2 ⟨fun e => UInt8.toNat_inj.1 (by rw [show (47 : UInt8).toNat = 47 from rfl]; omega), fun e => by rw [e]; rfl⟩
        rw [e3]
        simpa [c1, c2] using h
      · simp (disch := first | omega | (simp only [sZb, sZa, sZd] <;> omega) | (simp (disch := first | omega | (simp only [sZb, sZa, sZd] <;> omega) | fail) only [go_sem, c2, decide_false]; done) | fail) only [go_sem, dec_t, dec_f, w_u32, w_u64, w_u16, w_u8, w_i64, Int.reduceToNat, Int.reducePow, Nat.reducePow, c2, decide_false]
        simpa [c1, c2] using h
    · have g1 : ¬ (d.length : Int) < l.length := by omega
      simp (disch := first | omega | (simp only [sZb, sZa, sZd] <;> omega) | (simp (disch := first | omega | (simp only [sZb, sZa, sZd] <;> omega) | fail) only [go_sem, g1, decide_false]; done) | fail) only [go_sem, dec_t, dec_f, w_u32, w_u64, w_u16, w_u8, w_i64, Int.reduceToNat, Int.reducePow, Nat.reducePow, g1, decide_false]
      simpa [c1] using h
  · by_cases c : d = [47]
    · rw [if_pos c] at h
      simp (disch := first | omega | (simp only [sZb, sZa, sZd] <;> omega) | (simp (disch := first | omega | (simp only [sZb, sZa, sZd] <;> omega) | fail) only [go_sem, c, decide_true]; done) | fail) only [go_sem, dec_t, dec_f, w_u32, w_u64, w_u16, w_u8, w_i64, Int.reduceToNat, Int.reducePow, Nat.reducePow, c, decide_true]
      exact h
    · simp (disch := first | omega | (simp only [sZb, sZa, sZd] <;> omega) | (simp (disch := first | omega | (simp only [sZb, sZa, sZd] <;> omega) | fail) only [go_sem, c, decide_false]; done) | fail) only [go_sem, dec_t, dec_f, w_u32, w_u64, w_u16, w_u8, w_i64, Int.reduceToNat, Int.reducePow, Nat.reducePow, c, decide_false]
      exact ⟨trivial, c⟩
end Go.Proofs.YteblpejgenehfaaDoor.X
end
section
namespace Go.X
open Go
section
variable {P : Program} {L : Value → Prop} {t te : TypeId}
theorem rp_eqPd {d : Nat} (h : P.underlying t = some (.pointer te)) (a : Option Addr) : rp P (Op.equalIn (d + 1) t (.pointer a) (.pointer none)) = some a.isNone := by
  cases a with
  | none => simp [Op.equalIn, rp_bind, rp_underlying h]
  | some b => simp [Op.equalIn, rp_bind, rp_underlying h]
theorem rp_eqP (h : P.underlying t = some (.pointer te)) (a : Option Addr) : rp P (Op.equal t (.pointer a) (.pointer none)) = some a.isNone := rp_eqPd h a
theorem oEqlP (h : P.underlying t = some (.pointer te)) (cx cy : Bool) (a : Option Addr) : pu P (oBin .eql t cx cy (.pointer a) (.pointer none)) L = L (.bool a.isNone) :=
  pu_v' (by
    rw [rp_bind]
    have g : rp P (eqGuard .eql t (fl cx) (fl cy) (.pointer a) (.pointer none)) = some () := by unfold eqGuard; rfl
    rw [g]
    simp only [Option.bind_some]
    have e2 : binOp .eql t (.pointer a) (.pointer none) = (do pure (.bool (← Op.equal t (.pointer a) (.pointer none)))) := rfl
    rw [e2, rp_bind, rp_eqP h]
    rfl)
theorem oNeqP (h : P.underlying t = some (.pointer te)) (cx cy : Bool) (a : Option Addr) : pu P (oBin .neq t cx cy (.pointer a) (.pointer none)) L = L (.bool a.isSome) :=
  pu_v' (by
    rw [rp_bind]
    have g : rp P (eqGuard .neq t (fl cx) (fl cy) (.pointer a) (.pointer none)) = some () := by unfold eqGuard; rfl
    rw [g]
    simp only [Option.bind_some]
    have e2 : binOp .neq t (.pointer a) (.pointer none) = (do pure (.bool (!(← Op.equal t (.pointer a) (.pointer none))))) := rfl
    rw [e2, rp_bind, rp_eqP h]
    cases a <;> rfl)
end
end Go.X
end
