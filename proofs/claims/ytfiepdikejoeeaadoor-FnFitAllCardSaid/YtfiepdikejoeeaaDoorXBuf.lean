/- Slices of bytes made, and appended to in place. No condition. -/
import Derived.Test.YtfiepdikejoeeaaDoorXErr
import Derived.Deep.OwnRows
import Derived.Maps.AppendAt
set_option linter.unusedVariables false
set_option linter.unusedSimpArgs false
namespace Go.X
open Go Go.RowKit
section
variable {P : Program} {L : Value → World → Prop} {w : World}
theorem oMkB {tB tE : TypeId} (h2 : P.underlying tB = some (.slice tE)) (hi : (P.info? tE).map (fun i => (i.zero, i.size, i.bytes)) = some (some (.int .u8 0), 1, 1)) (n : Nat) (hn : n ≤ 281474976710656) :
    st P (oMkSlice tB (.int .i64 n) (.int .i64 n)) w L = L (sl w.heap.size 0 n n) (w.alloc (CB (List.replicate n (.int .u8 0)) tE)) := by
  have h := run_make_row' (P := P) tB tE (.int .u8 0) 1 h2 hi rfl .i64 .i64 n (by omega) (by omega) w
  have e : madeCells #[Value.int .u8 0] n = (List.replicate n (Value.int .u8 0)).toArray := by
    apply Array.toList_inj.1
    apply List.ext_getElem
    · simp [madeCells]
    · intro i h1 h2
      simp [madeCells, Nat.mod_one]
  rw [e] at h
  exact st_eq_value (run_v' h)
theorem src_row {tx te : TypeId} {b o m c : Nat} {news : List Value} (hk : P.underlying tx = some (.slice te)) (r : rowOf (bk w b) o news.length = some news) (hm : m = news.length) (h1 : ∀ u ∈ news, u.oneCell' = true) : Src P 1 tx (sl b o m c) m news w := by
  subst hm
  obtain ⟨c', t', fz, e1, e2, e3⟩ := rowOf_inv r
  refine Src.ofSlice w hk ⟨b, o, none⟩ news.length c news (by simp) (fun j u hj => ?_) h1
  have hjl := (List.getElem?_eq_some_iff.1 hj).1
  rw [Addr.add_lit, cell?_eq, e1]
  show c'[o + j]? = _
  rw [← e3, List.getElem?_take_of_lt hjl, List.getElem?_drop, Array.getElem?_toList] at hj
  exact hj
theorem oAppend_room {tB tx tE ty : TypeId} {cs : Array Bool} (h2 : P.underlying tB = some (.slice tE)) (hi : (P.info? tE).map (·.size) = some 1) {b o n cap m : Nat} {cur news : List Value} {x : Value} (hs : Src P 1 tx x m news w) (hb : bk w b = some (CB cur tE)) (hroom : n + m ≤ cap) (hlen : o + n + m ≤ cur.length) :
    st P (oBuiltin .append #[tB, tx] ty cs #[sl b o n cap, x]) w L = L (sl b o (n + m) cap) (setb w b (CB (cur.take (o + n) ++ news ++ cur.drop (o + n + m)) tE)) := by
  cases hie : P.info? tE with
  | none => rw [hie] at hi; cases hi
  | some ie =>
  rw [hie] at hi
  simp only [Option.map_some, Option.some.injEq] at hi
  have hnl : news.length = m := by have := hs.newsLen; omega
  have hr := run_append_room_src (P := P) w tB tx ty tE ie h2 hie b o n cap x m news (by rw [hi]; exact hs) hroom (fun j hj => by
    rw [cell?_eq, hb]
    show (cur.toArray[o + n * ie.size + j]?).isSome = true
    rw [hi, Nat.mul_one]
    simp; omega) (fun j hj => by
    unfold World.frozen?
    have h3 : w.heap[b]? = some (CB cur tE) := hb
    simp [h3])
  rw [hi, Nat.mul_one, setCells_eq b news (o + n) w cur hb (by omega), hnl] at hr
  exact st_eq_value (run_v' hr)
theorem oAppend_none {tB tx tE ty : TypeId} {cs : Array Bool} (h2 : P.underlying tB = some (.slice tE)) (hi : (P.info? tE).map (·.size) = some 1) {a : Option Addr} {n cap : Nat} {x : Value} (hs : Src P 1 tx x 0 [] w) (hle : n ≤ cap) :
    st P (oBuiltin .append #[tB, tx] ty cs #[.slice a n cap, x]) w L = L (.slice a n cap) w := by
  cases hie : P.info? tE with
  | none => rw [hie] at hi; cases hi
  | some ie =>
  rw [hie] at hi
  simp only [Option.map_some, Option.some.injEq] at hi
  exact st_eq_value (run_v' (run_append_nothing w tB tx ty tE ie h2 hie a n cap hle x (by rw [hi]; exact hs)))
/-- Appending to what is one's own, and where that lies then. -/
theorem oAppend_own_at {t e : TypeId} {z : Value} {size bytes : Nat} {cs : Array Bool} {ty : TypeId} (ht : P.underlying t = some (.slice e)) (hi : (P.info? e).map (fun i => (i.zero, i.size, i.bytes)) = some (some z, size, bytes)) (hzs : z.cells.size = size) (hsz : 0 < size)
    {B : Nat} {v : Value} {n : Nat} {xs : List Value} (hown : w.ownsRow B e size v n xs) {b o m c : Nat} {news : List Value} (hl : news.length = m * size) (r : rowOf (bk w b) o news.length = some news) (h1 : ∀ u ∈ news, u.oneCell' = true)
    (h63 : n + m ≤ maxLen) (hbytes : (n + m) * bytes ≤ 140737488355328) (hbase : B ≤ w.heap.size)
    (h : ∀ v' w', w'.ownsRow B e size v' (n + m) (xs ++ news) → w.grownBy w' v.ownBlock → (v'.ownBlock = v.ownBlock ∨ v'.ownBlock = some w.heap.size) → L v' w') : st P (oBuiltin .append #[t, t] ty cs #[v, sl b o m c]) w L := by
  cases hie : P.info? e with
  | none => rw [hie] at hi; cases hi
  | some i =>
  rw [hie] at hi
  simp only [Option.map_some, Option.some.injEq, Prod.mk.injEq] at hi
  obtain ⟨hz, hs, hb⟩ := hi
  obtain ⟨c', t', fz, e1, e2, e3⟩ := rowOf_inv r
  have hnews : ∀ j u, news[j]? = some u → w.cell? ((⟨b, o, none⟩ : Addr).add j) = some u := fun j u hj => by
    have hjl := (List.getElem?_eq_some_iff.1 hj).1
    rw [Addr.add_lit, cell?_eq, e1]
    show c'[o + j]? = _
    rw [← e3, List.getElem?_take_of_lt hjl, List.getElem?_drop, Array.getElem?_toList] at hj
    exact hj
  obtain ⟨v', w', hr, hown', hg, _, ha⟩ := run_append_own_at (P := P) w B t ty e i z size bytes ht hie hz hs hb hzs hsz v n xs hown ⟨b, o, none⟩ m c news hl hnews h1 h63 hbytes hbase
  have := st_eq_value (K := L) (run_v' hr)
  rw [show st P (oBuiltin .append #[t, t] ty cs #[v, sl b o m c]) w L = L v' w' from this]
  exact h _ _ hown' hg ha

/-! ### What is kept but for some blocks -/
structure Kp (w w' : World) (S : Nat → Prop) : Prop where
  os : w'.os = w.os
  tape : w'.tape = w.tape
  output : w'.output = w.output
  size : w.heap.size ≤ w'.heap.size
  block : ∀ k, k < w.heap.size → ¬ S k → bk w' k = bk w k
theorem Kp.refl (w : World) (S : Nat → Prop) : Kp w w S := ⟨rfl, rfl, rfl, Nat.le_refl _, fun _ _ _ => rfl⟩
theorem Kp.trans {a b c : World} {S T : Nat → Prop} (h : Kp a b S) (k : Kp b c T) (hT : ∀ x, x < a.heap.size → T x → S x) : Kp a c S :=
  ⟨k.os.trans h.os, k.tape.trans h.tape, k.output.trans h.output, Nat.le_trans h.size k.size, fun x hx hs => (k.block x (Nat.lt_of_lt_of_le hx h.size) fun ht => hs (hT x hx ht)).trans (h.block x hx hs)⟩
theorem Kp.of_below {w w' : World} (h : Below w.heap.size w w') (S : Nat → Prop) : Kp w w' S := ⟨h.os, h.tape, h.output, h.size, fun k hk _ => h.block k hk⟩
theorem Kp.of_grown {w w' : World} {row : Option Nat} (h : w.grownBy w' row) : Kp w w' fun k => row = some k := ⟨h.os, h.tape, h.output, h.size, fun k hk hn => h.block k hk fun e => hn e.symm⟩
theorem Kp.setb (w : World) (b : Nat) (o : Obj) : Kp w (setb w b o) fun k => k = b := ⟨rfl, rfl, rfl, by simp only [go_sem]; exact Nat.le_refl _, fun k hk hn => bk_setb_ne _ _ _ _ hn⟩
theorem Kp.drew (w : World) (S : Nat → Prop) : Kp w w.drew S := ⟨rfl, rfl, rfl, Nat.le_refl _, fun _ _ _ => rfl⟩
theorem Kp.below {w w' : World} {S : Nat → Prop} {B : Nat} (h : Kp w w' S) (hS : ∀ k, k < B → ¬ S k) (hB : B ≤ w.heap.size) : Below B w w' := ⟨h.os, h.tape, h.output, h.size, fun k hk => h.block k (by omega) (hS k hk)⟩
theorem own_kp {w w' : World} {S : Nat → Prop} {B : Nat} {e : TypeId} {size : Nat} {v : Value} {n : Nat} {xs : List Value} (h : w.ownsRow B e size v n xs) (hb : Kp w w' S) (hS : ∀ k, v.ownBlock = some k → ¬ S k) : w'.ownsRow B e size v n xs := by
  refine ⟨h.1, ?_⟩
  rcases h.2 with h | ⟨g, cap, cur, rfl, h1, h2, h3, h4, h5, h6⟩
  · exact .inl h
  · have hlt := (Array.getElem?_eq_some_iff.1 h2).1
    have e1 := hb.block g hlt (hS g rfl)
    exact .inr ⟨g, cap, cur, rfl, h1, by unfold bk at e1; rw [e1, h2], h3, h4, h5, h6⟩
theorem BS_kp {w w' : World} {S : Nat → Prop} {v : Value} {l : List UInt8} (h : BS w v l) (hb : Kp w w' S) (hS : ∀ k, v.ownBlock = some k → ¬ S k) : BS w' v l := by
  rcases h with h | ⟨b, o, cap, rfl, h2, h3, h4⟩
  · exact .inl h
  · refine .inr ⟨b, o, cap, rfl, h2, ?_, Nat.lt_of_lt_of_le h4 hb.size⟩
    unfold rowB at h3 ⊢
    rw [hb.block b h4 (hS b rfl)]
    exact h3
theorem setb_same {b : Nat} {o : Obj} (h : bk w b = some o) : setb w b o = w := by
  unfold setb
  have e : w.heap.setIfInBounds b o = w.heap := by
    apply Array.ext_getElem?
    intro i
    by_cases hi : i = b
    · subst hi
      have := bk_lt h
      rw [Array.getElem?_setIfInBounds_self_of_lt this]
      exact h.symm
    · rw [Array.getElem?_setIfInBounds_ne (Ne.symm hi)]
  rw [e]
theorem oSlice_00 {M : Value → Prop} {tB tE : TypeId} {size : Nat} (h2 : P.underlying tB = some (.slice tE)) (hs : (P.info? tE).map (·.size) = some size) {a : Option Addr} {n m : Nat} {k j : IntKind} :
    pu P (oSlice tB (.slice a n m) (some (.int k 0)) (some (.int j 0)) none) M = M (.slice a 0 m) :=
  pu_v' (by
    have e : a.map (·.add 0) = a := by
      cases a with
      | none => rfl
      | some a => rfl
    simp only [Instr.sliceAt, Instr.slice, Instr.sliceBounds]
    simp [rp_bind, rp_underlying h2, rp_sliceBound j 0 m _ (by omega) (by omega), rp_sliceBound k 0 0 _ (by omega) (by omega), rp_size hs, rp_map]
    exact fun _ => e)
theorem oCopy0 {tB tE : TypeId} {cs : Array Bool} {ty : TypeId} (h2 : P.underlying tB = some (.slice tE)) (hs : (P.info? tE).map (·.size) = some 1) {b o n m cap : Nat} {a : Option Addr} :
    st P (oBuiltin .copy #[tB, tB] ty cs #[sl b o n m, .slice a 0 cap]) w L = L (.int .i64 0) w := by
  refine st_eq_value (run_v' ?_)
  cases hie : P.info? tE with
  | none => rw [hie] at hs; cases hs
  | some ie =>
  cases a <;> simp [Builtin.copy_, run_underlying h2, sizeOf, typeInfo, hie, Builtin.lenOf, Builtin.firstCells, loadCells, loadCellsFrom, storeCells, goInt]
/-- A part of what a slice of bytes holds. -/
theorem part_at {b cap : Nat} {cur : List Value} {e : TypeId} {l : List UInt8} (hb : bk w b = some (CB cur e)) (hc : cur.length = cap) (ht : cur.take l.length = l.map byt) (hl : l.length ≤ cap) (p m : Nat) (hp : p + m ≤ l.length) :
    ∃ o, (if cap = p then 0 else 0 + p * 1) = o ∧ rowB w b o ((l.drop p).take m) := by
  have key : ∀ p m, p + m ≤ l.length → rowB w b p ((l.drop p).take m) := fun p m hp => by
    unfold rowB
    rw [hb]
    simp only [rowOf]
    rw [if_pos (by simp; omega)]
    congr 1
    have hlen : ((l.drop p).take m).length = m := by simp; omega
    rw [hlen, List.map_take, List.map_drop, ← ht, List.drop_take, List.take_take, Nat.min_eq_left (by omega)]
  by_cases h : cap = p
  · refine ⟨0, if_pos h, ?_⟩
    have hm : m = 0 := by omega
    subst hm
    have := key 0 0 (by omega)
    simpa using this
  · exact ⟨p, by rw [if_neg h]; omega, key p m hp⟩
theorem oCopyOf {tB tE : TypeId} {cs : Array Bool} {ty : TypeId} (h2 : P.underlying tB = some (.slice tE)) (hi : (P.info? tE).map (fun i => (i.zero, i.size, i.bytes)) = some (some (.int .u8 0), 1, 1)) {v1 : Value} {l : List UInt8} (hv : BS w v1 l) (hl : l.length ≤ 140737488355328)
    (h : ∀ v' w', w'.ownsRow w.heap.size tE 1 v' l.length (l.map byt) → Below w.heap.size w w' → L v' w') : st P (oBuiltin .append #[tB, tB] ty cs #[.slice none 0 0, v1]) w L := by
  have hi2 : (P.info? tE).map (·.size) = some 1 := by
    cases e : P.info? tE with
    | none => rw [e] at hi; cases hi
    | some i => rw [e] at hi; simp only [Option.map_some, Option.some.injEq, Prod.mk.injEq] at hi; simp [hi.2.1]
  by_cases he : l = []
  · subst he
    obtain ⟨a, cap, rfl⟩ := BS_slice hv
    have hs : Src P 1 tB (.slice a 0 cap) 0 [] w := by
      cases a with
      | none => exact Src.ofNil w h2 cap
      | some a => exact Src.ofSlice w h2 a 0 cap [] (by simp) (fun j u hj => by simp at hj) (fun _ h => by cases h)
    rw [show (([] : List UInt8).length) = 0 from rfl, oAppend_none h2 hi2 hs (Nat.le_refl _)]
    exact h _ _ ⟨rfl, .inl ⟨rfl, rfl⟩⟩ (Below.refl _ _)
  · rcases hv with ⟨e, _⟩ | ⟨b, o, cap, rfl, h3, h4, h5⟩
    · exact absurd e he
    · refine oAppend_own_at (size := 1) (z := .int .u8 0) (B := w.heap.size) (n := 0) (xs := []) (news := l.map byt) h2 hi rfl (by omega) ⟨rfl, .inl ⟨rfl, rfl⟩⟩ (by simp) ?_ (fun u hu => by obtain ⟨x, _, rfl⟩ := List.mem_map.1 hu; rfl) (by simp only [maxLen]; omega) (by omega) (Nat.le_refl _) fun v' w' g1 g2 _ => ?_
      · rw [List.length_map]; exact h4
      · rw [Nat.zero_add, List.nil_append] at g1
        exact h v' w' g1 ⟨g2.os, g2.tape, g2.output, g2.size, fun k hk => g2.block k hk (by simp [Value.ownBlock])⟩
theorem BS_own {B : Nat} {e : TypeId} {v : Value} {l : List UInt8} (h : w.ownsRow B e 1 v l.length (l.map byt)) : BS w v l := by
  by_cases he : l.length = 0
  · obtain ⟨a, cap, rfl⟩ := own_slice h
    rw [he]
    exact .inl ⟨List.length_eq_zero_iff.1 he, a, cap, rfl⟩
  · obtain ⟨b, cap, cur, rfl, q1, q2, q3, q4, q5, q6⟩ := own_row h he
    refine .inr ⟨b, 0, cap, rfl, q1, ?_, q3⟩
    unfold rowB
    rw [q4]
    simp only [rowOf]
    rw [if_pos (by simp; omega)]
    rw [Nat.mul_one] at q6
    simpa using q6
theorem run_convBS0 {tS tB tE : TypeId} (h1 : P.underlying tS = some .string) (h2 : P.underlying tB = some (.slice tE)) (h3 : P.underlying tE = some (.int .u8)) {v : Value} {l : List UInt8} (h : BS w v l) : (convert tB tS v).run P w = .ok (S l) w := by
  rcases h with ⟨rfl, a, cap, rfl⟩ | ⟨b, o, cap, rfl, _, h4, _⟩
  · have e : (Conv.bytesToString (.slice a 0 cap)).run P w = .ok (S []) w := by
      cases a with
      | none => rfl
      | some a =>
        have hl : (loadCells a 0).run P w = .ok (([] : List Int).map (Value.int .u8)).toArray w := by simp [loadCells, loadCellsFrom]
        rw [run_bytesToString w a 0 cap _ hl]
        rfl
    simp only [convert, Sem.run_bind, run_underlying h1, run_underlying h2, Result.andThen_ok, run_underlying h3, e]
  · exact run_convBS w h1 h2 h3 h4 rfl
theorem stConvBS {tS tB tE : TypeId} (h1 : P.underlying tS = some .string) (h2 : P.underlying tB = some (.slice tE)) (h3 : P.underlying tE = some (.int .u8)) {v : Value} {l : List UInt8} (h : BS w v l) : st P (oConv tB tS v) w L = L (S l) w := st_eq_value (run_v' (run_convBS0 h1 h2 h3 h))
theorem rdConvBS {M : Value → Prop} {tS tB tE : TypeId} (h1 : P.underlying tS = some .string) (h2 : P.underlying tB = some (.slice tE)) (h3 : P.underlying tE = some (.int .u8)) {v : Value} {l : List UInt8} (h : BS w v l) : rd P (oConv tB tS v) w M = M (S l) := rd_eq (run_v' (run_convBS0 h1 h2 h3 h))
end
end Go.X
