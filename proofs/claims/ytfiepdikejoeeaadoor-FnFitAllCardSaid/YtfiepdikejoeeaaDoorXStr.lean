/- Laws on strings gone through letter by letter, and on bytes. No condition. -/
import Derived.Test.YtfiepdikejoeeaaDoorXBel
import Derived.Laws.RangeAny
import Derived.Laws.BytesString
import Derived.Deep.AppendSrc
import Derived.Lib.ConvBytes
import Derived.Great.BuildSlice
set_option linter.unusedVariables false
set_option linter.unusedSimpArgs false
namespace Go.X
open Go Go.RowKit
section
variable {P : Program} (K : Value → World → Prop) (w : World)

/-- The letter at a place, and how many bytes it has. -/
def dec (l : List UInt8) (pos : Nat) : Nat × Nat := Utf8.decode ⟨l.toArray⟩ pos
abbrev itr (l : List UInt8) (pos : Nat) : Obj := .stringIter ⟨l.toArray⟩ pos
def iterP (o : Option Obj) : Nat :=
  match o with
  | some (.stringIter _ p) => p
  | _ => 0
theorem oRangeS {t : TypeId} (h : P.underlying t = some .string) (l : List UInt8) : st P (oRange t (S l)) w K = K (pt w.heap.size 0) (w.alloc (itr l 0)) :=
  st_eq_value (run_v' (by simp [S, Instr.range, run_underlying h]))
theorem oNextS {b : Nat} {l : List UInt8} {pos : Nat} (ty : TypeId) (h : bk w b = some (itr l pos)) (hp : pos < l.length) :
    st P (oNext (pt b 0) true ty) w K = K (tup [.bool true, .int .i64 pos, .int .i32 (dec l pos).1]) (setb w b (itr l (pos + (dec l pos).2))) :=
  st_eq_value (run_v' (by
    unfold bk at h
    have hp' : pos < (ByteArray.mk l.toArray).size := by rw [size_S]; exact hp
    simp only [Instr.next, getObj, setObj, Sem.run_bind, Sem.run, h, Result.andThen, hp', if_true]
    simp [goInt, Sem.run, h, dec, setb, tup]))
theorem oNextE {b : Nat} {l : List UInt8} {pos : Nat} (ty : TypeId) (h : bk w b = some (itr l pos)) (hp : ¬ pos < l.length) :
    st P (oNext (pt b 0) true ty) w K = K (.tuple #[.bool false]) w :=
  st_eq_value (run_v' (by
    unfold bk at h
    have hp' : ¬ pos < (ByteArray.mk l.toArray).size := by rw [size_S]; exact hp
    simp only [Instr.next, getObj, setObj, Sem.run_bind, Sem.run, h, Result.andThen, hp', if_false]
    simp [goInt, Sem.run, h]))
@[go_sem] theorem oExtract1_0 (L : Value → Prop) (a : Value) : pu P (oExtract (.tuple #[a]) 0) L = L a := pu_eq rfl

theorem get_S (l : List UInt8) (i : Nat) (h : i < l.length) : (ByteArray.mk l.toArray).get! i = l[i] := by
  show (l.toArray)[i]! = _
  simp [h]
theorem dec_low {l : List UInt8} {pos : Nat} (h : pos < l.length) (ha : l[pos].toNat < 128) : dec l pos = (l[pos].toNat, 1) := by
  have e : (ByteArray.mk l.toArray).get! (pos + 0) = l[pos] := get_S l pos h
  simp only [dec, Utf8.decode, e, ha, if_true]
theorem dec_high {l : List UInt8} {pos : Nat} (h : pos < l.length) (ha : 128 ≤ l[pos].toNat) :
    128 ≤ (dec l pos).1 ∧ 1 ≤ (dec l pos).2 ∧ pos + (dec l pos).2 ≤ l.length ∧ ∀ j (hj : j < l.length), pos < j → j < pos + (dec l pos).2 → 128 ≤ l[j].toNat := by
  have e : (ByteArray.mk l.toArray).get! (pos + 0) = l[pos] := get_S l pos h
  have hn : ¬ l[pos].toNat < 128 := by omega
  have g : ∀ k, (hk : pos + k < l.length) → ((ByteArray.mk l.toArray).get! (pos + k)).toNat / 64 = 2 → 128 ≤ (l[pos + k]).toNat := fun k hk hh => by
    rw [get_S l _ hk] at hh; omega
  simp only [dec, Utf8.decode, e, hn, if_false, size_S]
  split
  · rename_i c
    simp only [Bool.and_eq_true, decide_eq_true_eq, beq_iff_eq] at c
    split
    · rename_i c2
      refine ⟨c2, by omega, by omega, fun j hj h1 h2 => ?_⟩
      obtain rfl : j = pos + 1 := by omega
      exact g 1 hj c.2.2
    · exact ⟨by decide, by omega, by omega, fun j hj h1 h2 => by omega⟩
  · split
    · rename_i c
      simp only [Bool.and_eq_true, decide_eq_true_eq, beq_iff_eq] at c
      split
      · rename_i c2
        simp only [Bool.and_eq_true, decide_eq_true_eq] at c2
        refine ⟨by omega, by omega, by omega, fun j hj h1 h2 => ?_⟩
        have hj : j = pos + 1 ∨ j = pos + 2 := by omega
        rcases hj with rfl | rfl
        · exact g 1 hj c.1.2.2
        · exact g 2 hj c.2.2
      · exact ⟨by decide, by omega, by omega, fun j hj h1 h2 => by omega⟩
    · split
      · rename_i c
        simp only [Bool.and_eq_true, decide_eq_true_eq, beq_iff_eq] at c
        split
        · rename_i c2
          simp only [Bool.and_eq_true, decide_eq_true_eq] at c2
          refine ⟨by omega, by omega, by omega, fun j hj h1 h2 => ?_⟩
          have hj : j = pos + 1 ∨ j = pos + 2 ∨ j = pos + 3 := by omega
          rcases hj with rfl | rfl | rfl
          · exact g 1 hj c.1.1.2.2
          · exact g 2 hj c.1.2.2
          · exact g 3 hj c.2.2
        · exact ⟨by decide, by omega, by omega, fun j hj h1 h2 => by omega⟩
      · exact ⟨by decide, by omega, by omega, fun j hj h1 h2 => by omega⟩
theorem dec_next {l : List UInt8} {pos : Nat} (h : pos < l.length) : 1 ≤ (dec l pos).2 ∧ pos + (dec l pos).2 ≤ l.length := by
  by_cases ha : l[pos].toNat < 128
  · rw [dec_low h ha]; exact ⟨Nat.le_refl _, h⟩
  · have := dec_high h (by omega)
    exact ⟨this.2.1, this.2.2.1⟩

/-! ### Bytes -/
def byt (b : UInt8) : Value := .int .u8 b.toNat
/-- What stands from a place on, as many bytes as are listed. -/
def rowB (w : World) (b o : Nat) (l : List UInt8) : Prop := rowOf (bk w b) o l.length = some (l.map byt)
abbrev sl (b o n m : Nat) : Value := .slice (some ⟨b, o, none⟩) n m

theorem rowB_old {w w' : World} {b o B : Nat} {l : List UInt8} (h : rowB w b o l) (hb : Below B w w') (hB : b < B) : rowB w' b o l := by
  unfold rowB at h ⊢; rw [bel_bk hb hB]; exact h
theorem rowOf_inv {ob : Option Obj} {o n : Nat} {l : List Value} (h : rowOf ob o n = some l) : ∃ c t fz, ob = some (.cells c t fz) ∧ o + n ≤ c.size ∧ (c.toList.drop o).take n = l := by
  unfold rowOf at h
  split at h
  · rename_i c t fz
    by_cases hle : o + n ≤ c.size
    · rw [if_pos hle] at h
      exact ⟨c, t, fz, rfl, hle, by injection h⟩
    · rw [if_neg hle] at h; cases h
  · cases h
theorem rowB_part {w : World} {b o : Nat} {l : List UInt8} (h : rowB w b o l) (i j : Nat) (hj : i + j ≤ l.length) : rowB w b (o + i) ((l.drop i).take j) := by
  obtain ⟨c, t, fz, h1, h2, h3⟩ := rowOf_inv h
  unfold rowB
  rw [h1]
  have hlen : ((l.drop i).take j).length = j := by simp; omega
  rw [hlen]
  simp only [rowOf]
  rw [if_pos (by omega)]
  congr 1
  rw [List.map_take, List.map_drop, ← h3, List.drop_take, List.take_take, List.drop_drop]
  congr 1
  omega
theorem rowB_cell {w : World} {b o : Nat} {l : List UInt8} (h : rowB w b o l) {i : Nat} (hi : i < l.length) : cellOf (bk w b) (o + i) = some (byt l[i]) := by
  obtain ⟨c, t, fz, h1, h2, h3⟩ := rowOf_inv h
  rw [h1]
  show c[o + i]? = _
  have e : ((c.toList.drop o).take l.length)[i]? = (l.map byt)[i]? := by rw [h3]
  rw [List.getElem?_take_of_lt hi, List.getElem?_drop] at e
  simp only [Array.getElem?_toList] at e
  rw [e]; simp [hi]

theorem oConvSB {tS tB tE : TypeId} (h1 : P.underlying tS = some .string) (h2 : P.underlying tB = some (.slice tE)) (h3 : P.underlying tE = some (.int .u8)) (l : List UInt8)
    (h : ∀ cap w', l.length ≤ cap → rowB w' w.heap.size 0 l → w'.heap.size = w.heap.size + 1 → Below w.heap.size w w' → K (sl w.heap.size 0 l.length cap) w') : st P (oConv tS tB (S l)) w K := by
  have hr := Go.Lib.run_convert_string_bytes (P := P) w tS tB tE ⟨l.toArray⟩ h1 h2 h3
  have e := st_eq_value (K := K) (run_v' hr)
  have hs : (ByteArray.mk l.toArray).size = l.length := size_S l
  have e' : st P (oConv tS tB (S l)) w K = K (sl w.heap.size 0 l.length (grownCap w l.length 0 tE)) (Go.Lib.bytesWorld w tE ⟨l.toArray⟩) := by
    rw [← hs]; exact e
  rw [e']
  refine h _ _ (grownCap_ge w _ _ _) ?_ (Go.Lib.bytesWorld_size w tE _) ?_
  · unfold rowB
    have hb : bk (Go.Lib.bytesWorld w tE ⟨l.toArray⟩) w.heap.size = _ := Go.Lib.bytesWorld_at_new w tE ⟨l.toArray⟩
    rw [hb]
    simp only [rowOf]
    rw [if_pos (by simp [Go.Lib.bytesCells])]
    congr 1
    simp [Go.Lib.bytesCells, List.take_append_of_le_length, List.take_of_length_le]
    intro a _; rfl
  · exact ⟨rfl, rfl, rfl, by rw [Go.Lib.bytesWorld_size]; omega, fun k hk => Go.Lib.bytesWorld_at_old w tE _ k hk⟩

theorem foldl_push : ∀ (l : List UInt8) (acc : List UInt8), (l.map fun b => (b.toNat : Int)).foldl (fun r n => ByteArray.push r (UInt8.ofNat n.toNat)) ⟨acc.toArray⟩ = ⟨(acc ++ l).toArray⟩
  | [], acc => by simp
  | b :: l, acc => by
    simp only [List.map_cons, List.foldl_cons]
    have e : ByteArray.push ⟨acc.toArray⟩ (UInt8.ofNat (b.toNat : Int).toNat) = ⟨(acc ++ [b]).toArray⟩ := by
      show ByteArray.mk _ = _
      simp
    rw [e, foldl_push l (acc ++ [b])]
    simp
theorem run_bytes {b o n m : Nat} {l : List UInt8} (h : rowB w b o l) (hn : n = l.length) : (Conv.bytesToString (sl b o n m)).run P w = .ok (S l) w := by
  subst hn
  obtain ⟨c, t, fz, h1, h2, h3⟩ := rowOf_inv h
  have hl : (loadCells ⟨b, o, none⟩ l.length).run P w = .ok ((l.map fun b => (b.toNat : Int)).map (Value.int .u8)).toArray w := by
    have := run_firstCells_some (P := P) w 1 l.length ⟨b, o, none⟩ l.length m (l.map byt) (by simp) (fun j u hj => by
      have hjl : j < l.length := by have := (List.getElem?_eq_some_iff.1 hj).1; simpa using this
      have hc := rowB_cell h hjl
      rw [Addr.add_lit, cell?_eq, hc]
      simp [hjl] at hj; rw [← hj])
    simp only [Builtin.firstCells, Nat.mul_one] at this
    rw [this]
    simp [byt, Function.comp_def]
  rw [run_bytesToString w ⟨b, o, none⟩ l.length m _ hl]
  have := foldl_push l []
  simp only [List.nil_append] at this
  rw [show ByteArray.empty = ⟨([] : List UInt8).toArray⟩ from rfl, this]; rfl
theorem run_convBS {tS tB tE : TypeId} (h1 : P.underlying tS = some .string) (h2 : P.underlying tB = some (.slice tE)) (h3 : P.underlying tE = some (.int .u8)) {b o n m : Nat} {l : List UInt8} (h : rowB w b o l) (hn : n = l.length) :
    (convert tB tS (sl b o n m)).run P w = .ok (S l) w := by
  have := run_bytes (P := P) w (m := m) h hn
  simp only [convert, Sem.run_bind, run_underlying h1, run_underlying h2, Result.andThen_ok, run_underlying h3, this]
theorem rdBytes (L : Value → Prop) {tS tB tE : TypeId} (h1 : P.underlying tS = some .string) (h2 : P.underlying tB = some (.slice tE)) (h3 : P.underlying tE = some (.int .u8)) {b o n m : Nat} {l : List UInt8} (h : rowB w b o l) (hn : n = l.length) :
    rd P (oConv tB tS (sl b o n m)) w L = L (S l) := rd_eq (run_v' (run_convBS w h1 h2 h3 h hn))
theorem stBytes {tS tB tE : TypeId} (h1 : P.underlying tS = some .string) (h2 : P.underlying tB = some (.slice tE)) (h3 : P.underlying tE = some (.int .u8)) {b o n m : Nat} {l : List UInt8} (h : rowB w b o l) (hn : n = l.length) :
    st P (oConv tB tS (sl b o n m)) w K = K (S l) w := st_eq_value (run_v' (run_convBS w h1 h2 h3 h hn))
theorem rp_size {e : TypeId} {n : Nat} (h : (P.info? e).map (·.size) = some n) : rp P (sizeOf e) = some n := by
  cases hi : P.info? e with
  | none => rw [hi] at h; cases h
  | some i => rw [hi] at h; injection h with h; simp [sizeOf, typeInfo, rp_bind, hi, h]
theorem oSlice_sl (L : Value → Prop) {tB tE : TypeId} {size : Nat} (h2 : P.underlying tB = some (.slice tE)) (hs : (P.info? tE).map (·.size) = some size) {b o n m : Nat} {k j : IntKind} {lo hi : Int} (a0 : 0 ≤ lo) (a1 : lo ≤ hi) (a2 : hi ≤ m) :
    pu P (oSlice tB (sl b o n m) (some (.int k lo)) (some (.int j hi)) none) L = L (sl b (if m = lo.toNat then o else o + lo.toNat * size) (hi.toNat - lo.toNat) (m - lo.toNat)) :=
  pu_v' (by
    have h4 : 0 ≤ hi := by omega
    simp only [Instr.sliceAt, Instr.slice, Instr.sliceBounds]
    simp [rp_bind, rp_underlying h2, rp_sliceBound j hi m _ h4 a2, rp_sliceBound k lo hi.toNat _ a0 (by omega), rp_size hs, rp_map]
    split <;> simp [Addr.add_lit, rp_map, rp_size hs])
theorem oIdxA_sl (L : Value → Prop) {tB tE : TypeId} {size : Nat} (h2 : P.underlying tB = some (.slice tE)) (hs : (P.info? tE).map (·.size) = some size) {b o n m : Nat} {k : IntKind} {i : Int} (a0 : 0 ≤ i) (a1 : i < n) :
    pu P (oIdxA tB (sl b o n m) (.int k i)) L = L (pt b (o + i.toNat * size)) :=
  pu_v' (by
    simp only [Instr.indexAt]
    simp [rp_bind, rp_underlying h2, asIntOf, a0, a1, rp_size hs, Addr.add_lit, rp_map])
theorem oBuildSlice1 {tB tE : TypeId} {z : Value} (h2 : P.underlying tB = some (.slice tE)) (hi : (P.info? tE).map (fun i => (i.zero, i.size)) = some (some z, 1)) {x : Value} (hx : x.oneCell' = true) :
    st P (oBuildSlice tB 1 #[(0, x)]) w K = K (sl w.heap.size 0 1 1) (w.alloc (CB [x] tE)) := by
  cases hie : P.info? tE with
  | none => rw [hie] at hi; cases hi
  | some ie =>
  rw [hie] at hi
  simp only [Option.map_some, Option.some.injEq, Prod.mk.injEq] at hi
  obtain ⟨hz, hs⟩ := hi
  exact st_eq_value (run_v' (run_buildSlice w tB tE 1 _ #[x] ie z h2 hie hz (by simp [hs]) (by simp [hs]) (by
    have hcells : x.cells = #[x] := by cases x <;> first | rfl | (simp [Value.oneCell'] at hx)
    have hr : Array.range 1 = #[0] := rfl
    simp [hs, Instr.fill, hcells, hr])))
end
end Go.X
