/- Slices of bytes of one's own: appended to, cut, filled up with zeros. No condition. -/
import Derived.Test.YtfiepdikejoeeaaDoorXBuf
import Derived.Lib.AppendZerosOnto
set_option linter.unusedVariables false
set_option linter.unusedSimpArgs false
namespace Go.X
open Go Go.RowKit
section
variable {P : Program} {L : Value → World → Prop} {w : World}
theorem grown_refl (w : World) (r : Option Nat) : w.grownBy w r := ⟨rfl, rfl, rfl, Nat.le_refl _, fun _ _ _ => rfl⟩
theorem info_size {tE : TypeId} (hi : (P.info? tE).map (fun i => (i.zero, i.size, i.bytes)) = some (some (.int .u8 0), 1, 1)) : (P.info? tE).map (·.size) = some 1 := by
  cases e : P.info? tE with
  | none => rw [e] at hi; cases hi
  | some i => rw [e] at hi; simp only [Option.map_some, Option.some.injEq, Prod.mk.injEq] at hi; simp [hi.2.1]
theorem BS_src {tB tE : TypeId} (h2 : P.underlying tB = some (.slice tE)) {x : Value} {l : List UInt8} (hx : BS w x l) : Src P 1 tB x l.length (l.map byt) w := by
  rcases hx with ⟨rfl, a, cap, rfl⟩ | ⟨b, o, cap, rfl, h3, h4, h5⟩
  · cases a with
    | none => exact Src.ofNil w h2 cap
    | some a => exact Src.ofSlice w h2 a 0 cap [] (by simp) (fun j u hj => by simp at hj) (fun _ h => by cases h)
  · exact src_row (news := l.map byt) h2 (by rw [List.length_map]; exact h4) (by simp) fun u hu => by obtain ⟨y, _, rfl⟩ := List.mem_map.1 hu; rfl
theorem own_cap {B : Nat} {e : TypeId} {v : Value} {n : Nat} {xs : List Value} (h : w.ownsRow B e 1 v n xs) : ∃ a cap, v = .slice a n cap ∧ n ≤ cap := by
  rcases h.2 with ⟨rfl, rfl⟩ | ⟨g, cap, cur, rfl, h1, h2, h3, _⟩
  · exact ⟨none, 0, rfl, Nat.le_refl _⟩
  · exact ⟨_, cap, rfl, h3⟩
/-- Bytes put behind those of one's own. -/
theorem oAppendBS {tB tE : TypeId} {cs : Array Bool} {ty : TypeId} (h2 : P.underlying tB = some (.slice tE)) (hi : (P.info? tE).map (fun i => (i.zero, i.size, i.bytes)) = some (some (.int .u8 0), 1, 1)) {B : Nat} {v x : Value} {n : Nat} {xs : List Value} {l : List UInt8} (hown : w.ownsRow B tE 1 v n xs) (hx : BS w x l) (hb : n + l.length ≤ 140737488355328) (hB : B ≤ w.heap.size)
    (h : ∀ v' w', w'.ownsRow B tE 1 v' (n + l.length) (xs ++ l.map byt) → w.grownBy w' v.ownBlock → (v'.ownBlock = v.ownBlock ∨ v'.ownBlock = some w.heap.size) → L v' w') : st P (oBuiltin .append #[tB, tB] ty cs #[v, x]) w L := by
  have hi2 := info_size hi
  by_cases he : l = []
  · subst he
    obtain ⟨a', cap', rfl⟩ := BS_slice hx
    obtain ⟨a, cap, rfl, hc⟩ := own_cap hown
    have hs := BS_src (P := P) h2 hx
    rw [show (([] : List UInt8).length) = 0 from rfl] at hs ⊢
    rw [oAppend_none h2 hi2 hs hc]
    exact h _ _ (by simpa using hown) (grown_refl _ _) (.inl rfl)
  · rcases hx with ⟨e, _⟩ | ⟨b, o, cap, rfl, h3, h4, h5⟩
    · exact absurd e he
    · exact oAppend_own_at (size := 1) (z := .int .u8 0) (news := l.map byt) h2 hi rfl (by omega) hown (by simp) (by rw [List.length_map]; exact h4) (fun u hu => by obtain ⟨x, _, rfl⟩ := List.mem_map.1 hu; rfl) (by simp only [maxLen]; omega) (by omega) hB h
/-- The first so many of one's own. -/
theorem own_hi {tB tE : TypeId} (h2 : P.underlying tB = some (.slice tE)) (hs : (P.info? tE).map (·.size) = some 1) {B : Nat} {v : Value} {n p : Nat} {xs : List Value} (hown : w.ownsRow B tE 1 v n xs) (hp : p ≤ n) :
    ∃ v', w.ownsRow B tE 1 v' p (xs.take p) ∧ v'.ownBlock = v.ownBlock ∧ (∀ k (M : Value → Prop), pu P (oSlice tB v none (some (.int k p)) none) M = M v') ∧ (∀ k j (M : Value → Prop), pu P (oSlice tB v (some (.int j 0)) (some (.int k p)) none) M = M v') := by
  rcases hown.2 with ⟨rfl, rfl⟩ | ⟨g, cap, cur, rfl, h3, h4, h5, h6, h7, h8⟩
  · have hp0 : p = 0 := by omega
    subst hp0
    have hx : xs = [] := by have := hown.1; simpa using this
    subst hx
    refine ⟨_, hown, rfl, fun k M => ?_, fun k j M => oSlice_00 h2 hs⟩
    exact pu_v' (by
      simp only [Instr.sliceAt, Instr.slice, Instr.sliceBounds]
      simp [rp_bind, rp_underlying h2, rp_sliceBound k 0 0 _ (by omega) (by omega), rp_size hs, rp_map])
  · refine ⟨.slice (some ⟨g, 0, none⟩) p cap, ⟨?_, .inr ⟨g, cap, cur, rfl, h3, h4, by omega, h6, h7, ?_⟩⟩, rfl, fun k M => ?_, fun k j M => ?_⟩
    · have := hown.1; simp only [List.length_take]; omega
    · rw [← h8, List.take_take, Nat.mul_one, Nat.mul_one, Nat.min_eq_left hp]
    · have := oSlice_hi (P := P) (b := g) (o := 0) (n := n) (m := cap) (j := k) (hi := p) M h2 hs (by omega) (by omega)
      rw [Int.toNat_natCast] at this
      exact this
    · have := oSlice_sl (P := P) (b := g) (o := 0) (n := n) (m := cap) (k := j) (j := k) (lo := 0) (hi := p) M h2 hs (by omega) (by omega) (by omega)
      rw [this]
      simp
theorem zeroCells_u8 (k : Nat) : Builtin.zeroCells (Value.int .u8 0).cells k = (List.replicate k (Value.int .u8 0)).toArray := by
  apply Array.toList_inj.1
  apply List.ext_getElem
  · simp [Builtin.zeroCells, Value.cells]
  · intro i h1 h2
    simp [Builtin.zeroCells, Value.cells, Nat.mod_one]
/-- Zeros put behind one's own. -/
theorem oAppendZ {tB tE tn : TypeId} {cs : Array Bool} {ty : TypeId} (h2 : P.underlying tB = some (.slice tE)) (hi : (P.info? tE).map (fun i => (i.zero, i.size, i.bytes)) = some (some (.int .u8 0), 1, 1)) (htn : P.underlying tn = some (.int .i64)) {B : Nat} {v : Value} {n m : Nat} {xs : List Value} (hown : w.ownsRow B tE 1 v n xs) (hm : 0 < m) (hb : n + m ≤ 140737488355328) (hB : B ≤ w.heap.size)
    (h : ∀ v' w', w'.ownsRow B tE 1 v' (n + m) (xs ++ List.replicate m (.int .u8 0)) → w.grownBy w' v.ownBlock → (v'.ownBlock = v.ownBlock ∨ v'.ownBlock = some w.heap.size) → L v' w') : st P (oBuiltin .append #[tB, tn] ty cs #[v, .int .i64 m]) w L := by
  cases hie : P.info? tE with
  | none => rw [hie] at hi; cases hi
  | some ie =>
  rw [hie] at hi
  simp only [Option.map_some, Option.some.injEq, Prod.mk.injEq] at hi
  obtain ⟨hz, hs, hby⟩ := hi
  obtain ⟨a, cap, rfl, hc⟩ := own_cap hown
  by_cases g : n + m ≤ cap
  · rcases hown.2 with ⟨e, e2⟩ | ⟨gb, cap', cur, e, h3, h4, h5, h6, h7, h8⟩
    · injection e with _ _ e3
      omega
    · injection e with ea _ ec
      subst ea ec
      have hw : IntKind.i64.wrap (m : Int) = m := by rw [IntKind.wrap_i64]; omega
      have h48i : ¬ (281474976710656 < (m : Int) * (ie.bytes : Int)) := by rw [hby]; omega
      have hneg : ¬ ((m : Int) < 0) := by omega
      have hns : ¬ m = 0 := by omega
      have hst := run_storeCells_cells (P := P) gb n (List.replicate m (Value.int .u8 0)) 0 w (fun j hj => by
        rw [List.length_replicate] at hj
        rw [cell?_eq]
        show (cellOf (w.heap[gb]?) _).isSome = true
        rw [h4]
        show (cur[n + 0 + j]?).isSome = true
        simp
        omega) (fun j hj => by unfold World.frozen?; simp [h4]) (fun u hu => by rw [(List.mem_replicate.1 hu).2]; rfl)
      simp only [Nat.add_zero] at hst
      have hr : (Builtin.append_ #[tB, tn] ty #[.slice (some ⟨gb, 0, none⟩) n cap, .int .i64 m]).run P w = .ok (.slice (some ⟨gb, 0, none⟩) (n + m) cap) (w.setCells gb n (List.replicate m (.int .u8 0))) := by
        simp [Builtin.append_, run_underlying h2, run_underlying htn, sizeOf, typeInfo, zeroValue, hie, hz, asInt, asIntOf, hw, hneg, hns, hs, hby, h48i, g, zeroCells_u8, Addr.add_lit, hst]
        exact fun q => absurd q (by omega)
      have hbk : bk w gb = some (CB cur.toList tE) := by unfold bk; rw [h4]
      have hcl : cur.toList.length = cap := by simpa using h7
      rw [setCells_eq gb _ n w cur.toList hbk (by rw [List.length_replicate]; omega), List.length_replicate] at hr
      have hlt := bk_lt hbk
      rw [show st P (oBuiltin .append #[tB, tn] ty cs #[.slice (some ⟨gb, 0, none⟩) n cap, .int .i64 m]) w L = _ from st_eq_value (run_v' hr)]
      refine h _ _ ⟨?_, .inr ⟨gb, cap, _, rfl, h3, bk_setb_eq _ _ _ _ rfl hlt, g, h6, ?_, ?_⟩⟩ ⟨rfl, rfl, rfl, by simp only [go_sem]; exact Nat.le_refl _, fun k hk hn => bk_setb_ne _ _ _ _ (fun e => hn (by rw [e]; rfl))⟩ (.inl rfl)
      · have := hown.1
        simp only [List.length_append, List.length_replicate]; omega
      · simp only [List.size_toArray, List.length_append, List.length_take, List.length_replicate, List.length_drop]; omega
      · have hxl := hown.1
        rw [Nat.mul_one] at h8 hxl
        simp only [Nat.mul_one, h8]
        rw [List.take_append_of_le_length (by simp only [List.length_append, List.length_replicate]; omega), List.take_of_length_le (by simp only [List.length_append, List.length_replicate]; omega)]
  · have hold : (Builtin.firstCells ie.size n (.slice a n cap)).run P w.drew = .ok xs.toArray w.drew := by
      rw [hs]
      rcases hown.2 with ⟨e, rfl⟩ | ⟨gb, cap', cur, e, h3, h4, h5, h6, h7, h8⟩
      · injection e with ea
        subst ea
        have hx : xs = [] := by have := hown.1; simpa using this
        subst hx
        rfl
      · injection e with ea _ ec
        subst ea ec
        refine run_firstCells_some w.drew 1 n _ n cap xs hown.1 fun j u hj => ?_
        have := World.ownsRow.cells hown (g := gb) rfl j u hj
        simpa using this
    have hr := Lib.run_append_grow_zeros (P := P) w tB tn ty tE ie (.int .u8 0) .i64 .i64 h2 htn hie hz a n cap xs hold m hm (by omega) (by omega) (by omega) (by rw [hby]; omega) (by
      rw [hby]
      have := nextslicecap_le (need := n + m) (old := cap) (by omega)
      omega)
    rw [show st P (oBuiltin .append #[tB, tn] ty cs #[.slice a n cap, .int .i64 m]) w L = _ from st_eq_value (run_v' hr)]
    have hge := grownCap_ge w (n + m) cap tE
    have hcm : grownCap w (n + m) cap tE ≤ maxLen := grownCap_le_maxLen w (n + m) cap tE (by simp only [maxLen]; omega)
    have hxl := hown.1
    refine h _ _ ⟨?_, .inr ⟨w.heap.size, _, _, rfl, hB, heap_alloc_new w.drew _, hge, hcm, ?_, ?_⟩⟩ ⟨rfl, rfl, rfl, by simp, fun k hk _ => heap_alloc_old w.drew _ hk⟩ (.inr rfl)
    · simp only [List.length_append, List.length_replicate]; omega
    · simp only [zeroCells_u8, Array.size_append, List.size_toArray, List.length_replicate]; omega
    · simp only [zeroCells_u8, Array.toList_append, Nat.mul_one]
      rw [List.take_append_of_le_length (by simp only [List.length_append, List.length_replicate]; omega), List.take_of_length_le (by simp only [List.length_append, List.length_replicate]; omega)]
end
end Go.X
