/- What a component of the memory owns and looks at; how steps on one leave the others. No condition. -/
import Derived.Test.YtfiepdikejoeeaaDoorXWr
set_option linter.unusedVariables false
set_option linter.unusedSimpArgs false
namespace Go.X
open Go Go.RowKit

/-- The blocks that a component may turn, and those that it looks at (its own among them). -/
structure Fp where
  own : Nat → Prop
  use : Nat → Prop
/-- Old blocks are not newly taken. -/
def Fp.step (n : Nat) (F G : Fp) : Prop := ∀ b, b < n → (G.own b → F.own b) ∧ (G.use b → F.use b)
theorem Fp.step_refl (n : Nat) (F : Fp) : Fp.step n F F := fun _ _ => ⟨id, id⟩
theorem Fp.step_trans {n m : Nat} {F G H : Fp} (h : Fp.step n F G) (k : Fp.step m G H) (hnm : n ≤ m) : Fp.step n F H := fun b hb =>
  ⟨fun x => (h b hb).1 ((k b (by omega)).1 x), fun x => (h b hb).2 ((k b (by omega)).2 x)⟩
def Fp.sep (F G : Fp) : Prop := ∀ b, (F.own b → ¬ G.use b) ∧ (G.own b → ¬ F.use b)
theorem Fp.sep.symm {F G : Fp} (h : Fp.sep F G) : Fp.sep G F := fun b => ⟨(h b).2, (h b).1⟩
/-- All that a component looks at is there. -/
def Fp.in_ (F : Fp) (n : Nat) : Prop := ∀ b, F.use b → b < n
theorem Fp.sep.step {F F' G : Fp} {n : Nat} (h : Fp.sep F G) (k : Fp.step n F F') (hs : ∀ b, G.own b → G.use b) (hG : G.in_ n) : Fp.sep F' G := fun b => by
  refine ⟨fun x y => ?_, fun x y => ?_⟩
  · have := hG b y
    exact (h b).1 ((k b this).1 x) y
  · have := hG b (hs b x)
    exact (h b).2 x ((k b this).2 y)
/-- What one step on a component does to the rest. -/
structure Tr (w w' : World) (F F' : Fp) : Prop where
  kp : Kp w w' F.own
  st : Fp.step w.heap.size F F'
theorem Tr.refl (w : World) (F : Fp) : Tr w w F F := ⟨Kp.refl w _, Fp.step_refl _ _⟩
theorem Tr.trans {a b c : World} {F G H : Fp} (h : Tr a b F G) (k : Tr b c G H) : Tr a c F H :=
  ⟨h.kp.trans k.kp fun x hx hG => (h.st x hx).1 hG, Fp.step_trans h.st k.st h.kp.size⟩
theorem Tr.of_below {w w' : World} (h : Below w.heap.size w w') (F : Fp) : Tr w w' F F := ⟨Kp.of_below h _, Fp.step_refl _ _⟩
theorem Tr.after {a b c : World} {F G : Fp} (h : Tr a b F G) (k : Below b.heap.size b c) : Tr a c F G := h.trans (Tr.of_below k G)
theorem Tr.before {a b c : World} {F G : Fp} (k : Below a.heap.size a b) (h : Tr b c F G) : Tr a c F G := (Tr.of_below k F).trans h
theorem Kp_sub {a b : World} {S T : Nat → Prop} (h : Kp a b S) (hS : ∀ x, x < a.heap.size → S x → T x) : Kp a b T := ⟨h.os, h.tape, h.output, h.size, fun k hk hn => h.block k hk fun hs => hn (hS k hk hs)⟩

/-! ### Slices that are owned: part of one, with something behind it -/
section
variable {P : Program} {L : Value → World → Prop} {w : World}
theorem own_kp2 {w w' : World} {S : Nat → Prop} {B : Nat} {e : TypeId} {size : Nat} {v : Value} {n : Nat} {xs : List Value} (h : w.ownsRow B e size v n xs) (hb : Kp w w' S) (hS : ∀ k, v.ownBlock = some k → ¬ S k) : w'.ownsRow B e size v n xs := own_kp h hb hS
/-- An owned slice's front part, by its length. -/
theorem own_front {tB tE : TypeId} {size : Nat} (h2 : P.underlying tB = some (.slice tE)) (hs : (P.info? tE).map (·.size) = some size) {B : Nat} {v : Value} {n : Nat} {xs : List Value} (h : w.ownsRow B tE size v n xs) {p : Nat} (hp : p ≤ n) :
    ∃ v', w.ownsRow B tE size v' p (xs.take (p * size)) ∧ v'.ownBlock = v.ownBlock ∧ ∀ (k : IntKind) (M : Value → Prop), pu P (oSlice tB v none (some (.int k p)) none) M = M v' := by
  rcases h.2 with ⟨rfl, rfl⟩ | ⟨g, cap, cur, rfl, h3, h4, h5, h6, h7, h8⟩
  · have hp0 : p = 0 := by omega
    subst hp0
    refine ⟨.slice none 0 0, ⟨by simp, .inl ⟨rfl, rfl⟩⟩, rfl, fun k M => ?_⟩
    have hx : rp P (sizeOf tE) = some size := by
      cases hi : P.info? tE with
      | none => rw [hi] at hs; cases hs
      | some i => rw [hi] at hs; simp at hs; simp [sizeOf, typeInfo, rp_bind, hi, hs]
    exact pu_v' (by
      simp only [Instr.sliceAt, Instr.slice, Instr.sliceBounds]
      simp [rp_bind, rp_map, rp_underlying h2, rp_sliceBound k 0 0 _ (by omega) (by omega), hx])
  · refine ⟨sl g 0 p cap, ⟨?_, .inr ⟨g, cap, cur, rfl, h3, h4, by omega, h6, h7, ?_⟩⟩, rfl, fun k M => ?_⟩
    · have e := h.1
      rw [List.length_take, e]
      exact Nat.min_eq_left (Nat.mul_le_mul_right _ hp)
    · rw [← h8, List.take_take, Nat.min_eq_left (Nat.mul_le_mul_right _ hp)]
    · rw [oSlice_hi (size := size) M h2 hs (by omega) (by omega), Int.toNat_natCast]
theorem own_in {w : World} {B n size : Nat} {e : TypeId} {v : Value} {xs : List Value} (h : w.ownsRow B e size v n xs) : ∀ k, v.ownBlock = some k → B ≤ k ∧ k < w.heap.size := fun k hk => by
  rcases h.2 with ⟨rfl, _⟩ | ⟨g, cap, cur, rfl, h1, h2, h3⟩
  · cases hk
  · injection hk with hk
    subst hk
    exact ⟨h1, (Array.getElem?_eq_some_iff.1 h2).1⟩
/-- A slice that is read as a row. -/
def RowS (w : World) (x : Value) (m : Nat) (news : List Value) : Prop := (∃ b o c, x = sl b o m c ∧ rowOf (bk w b) o news.length = some news) ∨ (m = 0 ∧ news = [] ∧ ∃ a c, x = .slice a 0 c)
theorem RowS.old {w w' : World} {x : Value} {m : Nat} {news : List Value} (h : RowS w x m news) (hb : Below w.heap.size w w') : RowS w' x m news := by
  rcases h with ⟨b, o, c, e, r⟩ | h
  · refine .inl ⟨b, o, c, e, ?_⟩
    have : b < w.heap.size := by
      obtain ⟨c', t', fz, e1, _, _⟩ := rowOf_inv r
      exact bk_lt e1
    rw [bel_bk hb this]; exact r
  · exact .inr h
theorem RowS.kp {w w' : World} {x : Value} {m : Nat} {news : List Value} {S : Nat → Prop} (h : RowS w x m news) (k : Kp w w' S) (hS : ∀ b, x.ownBlock = some b → ¬ S b) : RowS w' x m news := by
  rcases h with ⟨b, o, c, e, r⟩ | h
  · refine .inl ⟨b, o, c, e, ?_⟩
    have : b < w.heap.size := by
      obtain ⟨c', t', fz, e1, _, _⟩ := rowOf_inv r
      exact bk_lt e1
    rw [k.block b this (hS b (by rw [e]; rfl))]; exact r
  · exact .inr h
/-- An owned slice's back part. -/
theorem own_back {tB tE : TypeId} {size : Nat} (h2 : P.underlying tB = some (.slice tE)) (hs : (P.info? tE).map (·.size) = some size) {B : Nat} {v : Value} {n : Nat} {xs : List Value} (h : w.ownsRow B tE size v n xs) {p : Nat} (hp : p ≤ n) :
    ∃ x, RowS w x (n - p) (xs.drop (p * size)) ∧ x.ownBlock = v.ownBlock ∧ ∀ (k : IntKind) (M : Value → Prop), pu P (oSlice tB v (some (.int k p)) none none) M = M x := by
  rcases h.2 with ⟨rfl, rfl⟩ | ⟨g, cap, cur, rfl, h3, h4, h5, h6, h7, h8⟩
  · have hp0 : p = 0 := by omega
    subst hp0
    have hx : xs = [] := by have := h.1; simpa using this
    subst hx
    refine ⟨.slice none 0 0, .inr ⟨rfl, by simp, _, _, rfl⟩, rfl, fun k M => ?_⟩
    have hx : rp P (sizeOf tE) = some size := by
      cases hi : P.info? tE with
      | none => rw [hi] at hs; cases hs
      | some i => rw [hi] at hs; simp at hs; simp [sizeOf, typeInfo, rp_bind, hi, hs]
    exact pu_v' (by
      simp only [Instr.sliceAt, Instr.slice, Instr.sliceBounds]
      simp [rp_bind, rp_map, rp_underlying h2, rp_sliceBound k 0 0 _ (by omega) (by omega), hx])
  · have e := h.1
    have hlen : (xs.drop (p * size)).length = (n - p) * size := by rw [List.length_drop, e, Nat.sub_mul]
    have hcs : cur.toList.length = cap * size := by simpa using h7
    refine ⟨sl g (if cap = p then 0 else p * size) (n - p) (cap - p), .inl ⟨g, _, _, rfl, ?_⟩, rfl, fun k M => ?_⟩
    · have hb : bk w g = some (.cells cur tE (0, 0)) := h4
      rw [hb]
      simp only [rowOf, hlen]
      by_cases hc : cap = p
      · have hn : n - p = 0 := by omega
        rw [if_pos hc, hn]
        simp
        have : n * size ≤ p * size := Nat.mul_le_mul_right _ (by omega)
        omega
      · rw [if_neg hc]
        have h9 : p * size + (n - p) * size = n * size := by rw [← Nat.add_mul]; congr 1; omega
        have h10 : n * size ≤ cap * size := Nat.mul_le_mul_right _ h5
        rw [if_pos (by rw [h9]; omega)]
        rw [← h8]
        congr 1
        rw [List.drop_take]
        congr 1
        omega
    · rw [oSlice_lo (size := size) M h2 hs (by omega) (by omega) h5, Int.toNat_natCast, Nat.zero_add]
theorem oAppendR {t e : TypeId} {z : Value} {size bytes : Nat} {cs : Array Bool} {ty : TypeId} (ht : P.underlying t = some (.slice e)) (hi : (P.info? e).map (fun i => (i.zero, i.size, i.bytes)) = some (some z, size, bytes)) (hzs : z.cells.size = size) (hsz : 0 < size)
    {B : Nat} {v : Value} {n : Nat} {xs : List Value} (hown : w.ownsRow B e size v n xs) {x : Value} {m : Nat} {news : List Value} (hx : RowS w x m news) (hl : news.length = m * size) (h1 : ∀ u ∈ news, u.oneCell' = true)
    (h63 : n + m ≤ maxLen) (hbytes : (n + m) * bytes ≤ 140737488355328) (hbase : B ≤ w.heap.size)
    (h : ∀ v' w', w'.ownsRow B e size v' (n + m) (xs ++ news) → w.grownBy w' v.ownBlock → (v'.ownBlock = v.ownBlock ∨ v'.ownBlock = some w.heap.size) → L v' w') : st P (oBuiltin .append #[t, t] ty cs #[v, x]) w L := by
  rcases hx with ⟨b, o, c, rfl, r⟩ | ⟨rfl, rfl, a, c, rfl⟩
  · exact oAppend_own_at ht hi hzs hsz hown hl r h1 h63 hbytes hbase h
  · obtain ⟨a', cap, rfl⟩ := own_slice hown
    cases hie : P.info? e with
    | none => rw [hie] at hi; cases hi
    | some ie =>
    have hle : n ≤ cap := by
      rcases hown.2 with ⟨e1, rfl⟩ | ⟨g, cap', cur, e1, h3, h4, h5, h6, h7, h8⟩
      · exact Nat.zero_le _
      · injection e1 with _ _ e3; omega
    have hs : Src P ie.size t (.slice a 0 c) 0 [] w := by
      cases a with
      | none => exact Src.ofNil w ht c
      | some ad => exact Src.ofSlice w ht ad 0 c [] (by simp) (fun j u hj => by simp at hj) (fun u hu => by cases hu)
    have hr := run_append_nothing w t t ty e ie ht hie a' n cap hle (.slice a 0 c) hs
    have := st_eq_value (K := L) (run_v' hr)
    rw [show st P (oBuiltin .append #[t, t] ty cs #[.slice a' n cap, .slice a 0 c]) w L = L (.slice a' n cap) w from this]
    exact h _ _ (by simpa using hown) (grown_refl w _) (.inl rfl)
/-- An element of an owned slice: where it lies. -/
theorem own_idx {tB tE : TypeId} {size : Nat} (h2 : P.underlying tB = some (.slice tE)) (hs : (P.info? tE).map (·.size) = some size) {B : Nat} {v : Value} {n : Nat} {xs : List Value} (h : w.ownsRow B tE size v n xs) {i : Nat} (hi : i < n) :
    ∃ g cur, v.ownBlock = some g ∧ B ≤ g ∧ bk w g = some (CB cur tE) ∧ n * size ≤ cur.length ∧ cur.take (n * size) = xs ∧ ∀ (k : IntKind) (M : Value → Prop), pu P (oIdxA tB v (.int k i)) M = M (pt g (i * size)) := by
  obtain ⟨b, cap, cur, rfl, h3, h4, h5, h6, h7, h8⟩ := own_row h (by omega)
  refine ⟨b, cur, rfl, h4, h6, by rw [h7]; exact Nat.mul_le_mul_right _ h3, h8, fun k M => ?_⟩
  rw [oIdxA_sl (size := size) M h2 hs (by omega) (by omega), Int.toNat_natCast, Nat.zero_add]
/-- An element turned. -/
theorem own_set {tE : TypeId} {size : Nat} {B : Nat} {v : Value} {n : Nat} {xs : List Value} (h : w.ownsRow B tE size v n xs) {g : Nat} {cur cur' : List Value} (hg : v.ownBlock = some g) (hb : bk w g = some (CB cur tE)) (hl : cur'.length = cur.length) (o : Obj) (ho : o = CB cur' tE) :
    (setb w g o).ownsRow B tE size v n (cur'.take (n * size)) := by
  subst ho
  rcases h.2 with ⟨rfl, rfl⟩ | ⟨g', cap, c0, rfl, h3, h4, h5, h6, h7, h8⟩
  · cases hg
  · have e : g' = g := Option.some.inj hg
    subst e
    have hb2 : bk w g' = some (.cells c0 tE (0, 0)) := h4
    rw [hb] at hb2
    injection hb2 with hb2
    injection hb2 with hb2
    subst hb2
    have h9 : n * size ≤ cap * size := Nat.mul_le_mul_right _ h5
    simp only [List.size_toArray] at h7
    refine ⟨by rw [List.length_take, hl, h7]; omega, .inr ⟨g', cap, cur'.toArray, rfl, h3, ?_, h5, h6, by simp [hl, h7], rfl⟩⟩
    exact bk_setb_eq _ _ _ _ rfl (bk_lt hb)
end
/-! ### Slices of one-cell elements, read -/
section
variable {α : Type} {emb : α → Value} {P : Program} {w w' : World}
/-- A slice of these. -/
def VS (emb : α → Value) (w : World) (v : Value) (l : List α) : Prop :=
  (l = [] ∧ ∃ a cap, v = .slice a 0 cap) ∨ ∃ b o cap, v = sl b o l.length cap ∧ l.length ≤ cap ∧ rowOf (bk w b) o l.length = some (l.map emb) ∧ b < w.heap.size
theorem VS.kp {v : Value} {l : List α} {S : Nat → Prop} (h : VS emb w v l) (k : Kp w w' S) (hS : ∀ b, v.ownBlock = some b → ¬ S b) : VS emb w' v l := by
  rcases h with h | ⟨b, o, cap, rfl, h2, h3, h4⟩
  · exact .inl h
  · exact .inr ⟨b, o, cap, rfl, h2, by rw [k.block b h4 (hS b rfl)]; exact h3, Nat.lt_of_lt_of_le h4 k.size⟩
theorem VS.old {v : Value} {l : List α} (h : VS emb w v l) (k : Below w.heap.size w w') : VS emb w' v l := by
  rcases h with h | ⟨b, o, cap, rfl, h2, h3, h4⟩
  · exact .inl h
  · exact .inr ⟨b, o, cap, rfl, h2, by rw [bel_bk k h4]; exact h3, Nat.lt_of_lt_of_le h4 k.size⟩
theorem VS.slice {v : Value} {l : List α} (h : VS emb w v l) : ∃ a cap, v = .slice a l.length cap := by
  rcases h with ⟨rfl, a, cap, h⟩ | ⟨b, o, cap, h1, _⟩
  · exact ⟨a, cap, h⟩
  · exact ⟨_, cap, h1⟩
theorem VS.row {v : Value} {l : List α} (h : VS emb w v l) : RowS w v l.length (l.map emb) := by
  rcases h with ⟨rfl, a, cap, h⟩ | ⟨b, o, cap, rfl, h2, h3, h4⟩
  · exact .inr ⟨rfl, rfl, a, cap, h⟩
  · exact .inl ⟨b, o, cap, rfl, by rw [List.length_map]; exact h3⟩
theorem VS.own {B : Nat} {e : TypeId} {v : Value} {l : List α} (h : w.ownsRow B e 1 v l.length (l.map emb)) : VS emb w v l := by
  by_cases h0 : l.length = 0
  · obtain ⟨a, cap, rfl⟩ := own_slice h
    exact .inl ⟨List.length_eq_zero_iff.1 h0, a, cap, by rw [h0]⟩
  · obtain ⟨b, cap, cur, rfl, h1, h2, h3, h4, h5, h6⟩ := own_row h h0
    refine .inr ⟨b, 0, cap, rfl, h1, ?_, h3⟩
    rw [h4]
    simp only [rowOf]
    rw [Nat.mul_one] at h5 h6
    rw [if_pos (by simp only [List.size_toArray]; omega)]
    simpa using h6
theorem VS.lo {tB tE : TypeId} (h2 : P.underlying tB = some (.slice tE)) (hs : (P.info? tE).map (·.size) = some 1) {v : Value} {l : List α} (h : VS emb w v l) {p : Nat} (hp : p ≤ l.length) :
    ∃ v', VS emb w v' (l.drop p) ∧ (∀ b, v'.ownBlock = some b → v.ownBlock = some b) ∧ ∀ (k : IntKind) (L : Value → Prop), pu P (oSlice tB v (some (.int k p)) none none) L = L v' := by
  rcases h with ⟨rfl, a, cap, rfl⟩ | ⟨b, o, cap, rfl, h3, h4, h5⟩
  · have hp0 : p = 0 := by simpa using hp
    subst hp0
    have hx : rp P (sizeOf tE) = some 1 := rp_size hs
    cases a with
    | none =>
      refine ⟨.slice none 0 cap, .inl ⟨rfl, _, _, rfl⟩, fun b hb => hb, fun k L => ?_⟩
      exact pu_v' (by
        simp only [Instr.sliceAt, Instr.slice, Instr.sliceBounds]
        simp [rp_bind, rp_map, rp_underlying h2, rp_sliceBound k 0 0 _ (by omega) (by omega), hx])
    | some ad =>
      refine ⟨.slice (some ad) 0 cap, .inl ⟨rfl, _, _, rfl⟩, fun b hb => hb, fun k L => ?_⟩
      exact pu_v' (by
        simp only [Instr.sliceAt, Instr.slice, Instr.sliceBounds]
        simp [rp_bind, rp_map, rp_underlying h2, rp_sliceBound k 0 0 _ (by omega) (by omega), hx]
        intro h
        simp [Addr.add])
  · refine ⟨sl b (if cap = p then o else o + p * 1) (l.length - p) (cap - p), ?_, fun b hb => hb, fun k L => ?_⟩
    · by_cases e : l.length - p = 0
      · exact .inl ⟨List.drop_eq_nil_of_le (by omega), some ⟨b, if cap = p then o else o + p * 1, none⟩, cap - p, by rw [e]⟩
      · refine .inr ⟨b, _, _, by rw [List.length_drop], by rw [List.length_drop]; omega, ?_, h5⟩
        rw [if_neg (by omega), Nat.mul_one]
        obtain ⟨c', t', fz, e1, e2, e3⟩ := rowOf_inv h4
        rw [e1]
        simp only [rowOf, List.length_drop]
        rw [if_pos (by omega)]
        congr 1
        rw [List.map_drop, ← e3]
        apply List.ext_getElem?
        intro i
        by_cases hi : i < l.length - p
        · rw [List.getElem?_take_of_lt hi, List.getElem?_drop, List.getElem?_drop, List.getElem?_take_of_lt (by omega), List.getElem?_drop]
          congr 1; omega
        · rw [List.getElem?_eq_none (by simp; omega), List.getElem?_eq_none (by simp; omega)]
    · rw [oSlice_lo (size := 1) L h2 hs (by omega) (by omega) (by omega), Int.toNat_natCast]
theorem VS.hi {tB tE : TypeId} (h2 : P.underlying tB = some (.slice tE)) (hs : (P.info? tE).map (·.size) = some 1) {v : Value} {l : List α} (h : VS emb w v l) {q : Nat} (hq : q ≤ l.length) :
    ∃ v', VS emb w v' (l.take q) ∧ (∀ b, v'.ownBlock = some b → v.ownBlock = some b) ∧ ∀ (j : IntKind) (L : Value → Prop), pu P (oSlice tB v none (some (.int j q)) none) L = L v' := by
  rcases h with ⟨rfl, a, cap, rfl⟩ | ⟨b, o, cap, rfl, h3, h4, h5⟩
  · have hq0 : q = 0 := by simpa using hq
    subst hq0
    have hx : rp P (sizeOf tE) = some 1 := rp_size hs
    refine ⟨.slice a 0 cap, .inl ⟨rfl, _, _, rfl⟩, fun b hb => hb, fun j L => ?_⟩
    cases a with
    | none =>
      exact pu_v' (by
        simp only [Instr.sliceAt, Instr.slice, Instr.sliceBounds]
        simp [rp_bind, rp_map, rp_underlying h2, rp_sliceBound j 0 cap _ (by omega) (by omega), hx])
    | some ad =>
      exact pu_v' (by
        simp only [Instr.sliceAt, Instr.slice, Instr.sliceBounds]
        simp [rp_bind, rp_map, rp_underlying h2, rp_sliceBound j 0 cap _ (by omega) (by omega), hx]
        intro h
        simp [Addr.add])
  · refine ⟨sl b o q cap, ?_, fun b hb => hb, fun j L => ?_⟩
    · by_cases e : q = 0
      · subst e
        exact .inl ⟨by simp, some ⟨b, o, none⟩, cap, rfl⟩
      · have el : (l.take q).length = q := by simp; omega
        refine .inr ⟨b, o, cap, by rw [el], by rw [el]; omega, ?_, h5⟩
        obtain ⟨c', t', fz, e1, e2, e3⟩ := rowOf_inv h4
        rw [e1]
        simp only [rowOf, el]
        rw [if_pos (by omega)]
        congr 1
        rw [List.map_take, ← e3, List.take_take, Nat.min_eq_left hq]
    · rw [oSlice_hi (size := 1) L h2 hs (by omega) (by omega), Int.toNat_natCast]
/-- An element, where it lies. -/
theorem VS.idx {tB tE : TypeId} (h2 : P.underlying tB = some (.slice tE)) (hs : (P.info? tE).map (·.size) = some 1) {v : Value} {l : List α} (h : VS emb w v l) {i : Nat} (hi : i < l.length) :
    ∃ b o, v.ownBlock = some b ∧ b < w.heap.size ∧ cellOf (bk w b) o = some (emb l[i]) ∧ ∀ (k : IntKind) (L : Value → Prop), pu P (oIdxA tB v (.int k i)) L = L (pt b o) := by
  rcases h with ⟨rfl, _⟩ | ⟨b, o, cap, rfl, h3, h4, h5⟩
  · simp at hi
  · refine ⟨b, o + i, rfl, h5, ?_, fun k L => ?_⟩
    · obtain ⟨c', t', fz, e1, e2, e3⟩ := rowOf_inv h4
      rw [e1]
      show c'[o + i]? = _
      have : ((c'.toList.drop o).take l.length)[i]? = (l.map emb)[i]? := by rw [e3]
      rw [List.getElem?_take_of_lt hi, List.getElem?_drop] at this
      simpa [hi] using this
    · rw [oIdxA_sl (size := 1) L h2 hs (by omega) (by omega), Int.toNat_natCast, Nat.mul_one]
end
section
variable {P : Program} {L : Value → World → Prop} {w : World}
/-- make([]T, n) of elements of one cell. -/
theorem oMkRow {tB tE : TypeId} {z : Value} {bytes : Nat} (h2 : P.underlying tB = some (.slice tE)) (hi : (P.info? tE).map (fun i => (i.zero, i.size, i.bytes)) = some (some z, 1, bytes)) (hz : z.cells = #[z]) (n : Nat) (hn : bytes * n ≤ 281474976710656) (hn2 : n ≤ 281474976710656) :
    st P (oMkSlice tB (.int .i64 n) (.int .i64 n)) w L = L (sl w.heap.size 0 n n) (w.alloc (CB (List.replicate n z) tE)) := by
  have h := run_make_row' (P := P) tB tE z bytes h2 hi hz .i64 .i64 n (by omega) (by omega) w
  have e : madeCells #[z] n = (List.replicate n z).toArray := by
    apply Array.toList_inj.1
    apply List.ext_getElem
    · simp [madeCells]
    · intro i h1 h2
      simp [madeCells, Nat.mod_one]
  rw [e] at h
  exact st_eq_value (run_v' h)
end
end Go.X
