/- What the claim needs of the texts on it, laid together. No condition. -/
import Derived.Test.YteblpejgenehfaaDoorZUnionCopies1
import Derived.ChangeArms
import Derived.LaidMore
import Derived.OpenShut
import Derived.Stop.LaidErr
set_option linter.unusedVariables false
set_option linter.unusedSimpArgs false
set_option maxRecDepth 100000
section
namespace Go.Proofs.YteblpejgenehfaaDoor.X
open Go Go.X Go.Proofs Go.RowKit
section
variable {w W : World} {K : Value → World → Prop} {B p : Nat} {m : SM.Mem} {F : Fp} {vn va vd : Value} {q : Nat} {ds : List Value} {hl : ML Int} {c : Nat} {hb : Int → Nat} {ρ : Nat → Rl} {k : Int} {hd : SM.Hnd} {s : SM.Stp} {v : Value}
theorem Fc.setData {w2 : World} {i g : Nat} {cur : List Value} {l : Str} {v2 : Value} (f : Fc w W B p m F vn va vd q ds hl c hb ρ s v) (hi : i < m.nodes.length) (na : NodeAt W vd m i (ds[i]'(by rw [f.h.dl]; exact hi)) g cur)
    (b2 : Below W.heap.size W w2) (o2 : w2.ownsRow W.heap.size T.uint8 1 v2 l.length (l.map byt)) :
    ∃ F', MemX (setb (setb w2 g (CB (cur.set (i * 5 + 2) v2) T.spec_MemNode)) g (CB ((cur.set (i * 5 + 2) v2).set (i * 5 + 3) (.int .i64 0)) T.spec_MemNode)) B p (m.setNode i { m.node i with data := l, time := 0 }) F' vn va vd q ((ds.set i v2).set i v2) hl c hb ρ ∧
      Tr w (setb (setb w2 g (CB (cur.set (i * 5 + 2) v2) T.spec_MemNode)) g (CB ((cur.set (i * 5 + 2) v2).set (i * 5 + 3) (.int .i64 0)) T.spec_MemNode)) F F' ∧
      bk (setb (setb w2 g (CB (cur.set (i * 5 + 2) v2) T.spec_MemNode)) g (CB ((cur.set (i * 5 + 2) v2).set (i * 5 + 3) (.int .i64 0)) T.spec_MemNode)) w.heap.size = some (CB (stepC s v) T.impl_Step) ∧
      bk (setb (setb w2 g (CB (cur.set (i * 5 + 2) v2) T.spec_MemNode)) g (CB ((cur.set (i * 5 + 2) v2).set (i * 5 + 3) (.int .i64 0)) T.spec_MemNode)) (w.heap.size + 1) = some (CB ansZ T.impl_Answer) ∧ ¬ F'.use (w.heap.size + 1) := by
  have f2 := f.below b2
  have lA := f.lA
  have fr : ∀ b, v2.ownBlock = some b → W.heap.size ≤ b ∧ b < w2.heap.size := own_in o2
  have hm := f2.h.more (U := fun b => v2.ownBlock = some b) fun b hb => (fr b hb).2
  obtain ⟨g2, cur2, n2, n3, n4⟩ := hm.node hi
  have eg : g2 = g := Option.some.inj (n2.ob.symm.trans na.ob)
  subst eg
  have lg : g2 < W.heap.size := bk_lt na.bg
  have ec : cur2 = cur := by
    have e1 := n2.bg
    rw [bel_bk b2 lg, na.bg] at e1
    injection e1 with e1
    injection e1 with e1
    simpa using e1.symm
  subst ec
  have hnr : ∀ b, v2.ownBlock = some b → ρ b = .no := fun b hb => by
    have h1 := (fr b hb).1
    refine Decidable.byContradiction fun hn => ?_
    have := f.h.in_ hn
    omega
  obtain ⟨h3, n5, t3, q1, q2⟩ := hm.store (j := 2) (x := v2) (n' := { m.node i with data := l }) (d' := v2) hi n2 rfl n3 n4 (by omega) rfl ⟨BS_own o2, fun b hb => ⟨.inr hb, hnr b hb⟩⟩
  have hi3 : i < (m.setNode i { m.node i with data := l }).nodes.length := by simpa [SM.Mem.setNode] using hi
  have en : (m.setNode i { m.node i with data := l }).node i = { m.node i with data := l } := by
    rw [node_get hi3]; simp [SM.Mem.setNode]
  have ed : ((ds.set i v2)[i]'(by rw [h3.dl]; exact hi3)) = v2 := by simp
  obtain ⟨h4, n6, t4, q3, q4⟩ := h3.store (j := 3) (x := .int .i64 0) (n' := { m.node i with data := l, time := 0 }) (d' := v2) hi3 n5 ed.symm q1 q2 (by omega) (by rw [en]; rfl) (by
    have := h3.data hi3
    rw [en, ed] at this
    exact this)
  have em : (m.setNode i { m.node i with data := l }).setNode i { m.node i with data := l, time := 0 } = m.setNode i { m.node i with data := l, time := 0 } := by
    unfold SM.Mem.setNode
    simp
  rw [em] at h4
  have T2 : Tr w w2 F ⟨F.own, fun b => F.use b ∨ v2.ownBlock = some b⟩ := ⟨f2.t.kp, fun b hb => ⟨fun x => x, fun x => x.elim id fun e => by have := (fr b e).1; omega⟩⟩
  have ng : ∀ b, w.heap.size ≤ b → b ≠ g2 := fun b hb e => by
    have := f.lt g2 (f.h.sub _ ((f.h.own _).2 (by rw [f.h.rd _ na.ob]; decide)))
    omega
  refine ⟨_, h4, (T2.trans t3).trans t4, ?_, ?_, fun e => e.elim f.nA fun e => by have := (fr _ e).1; omega⟩
  · rw [bk_setb_ne _ _ _ _ (ng _ (Nat.le_refl _)), bk_setb_ne _ _ _ _ (ng _ (Nat.le_refl _))]; exact f2.S
  · rw [bk_setb_ne _ _ _ _ (ng _ (by omega)), bk_setb_ne _ _ _ _ (ng _ (by omega))]; exact f2.A
end
end Go.Proofs.YteblpejgenehfaaDoor.X
end
section
namespace Go.Proofs.YteblpejgenehfaaDoor.X
open Go Go.X Go.Proofs Go.RowKit
structure MB (m : SM.Mem) : Prop where
  nn : m.names.length ≤ 999990000
  dn : m.nodes.length ≤ 999990000
  la : m.ats.length = m.names.length
  lt : ∀ a ∈ m.ats, a < m.nodes.length
  nl : ∀ x ∈ m.names, x.length ≤ 1000000000
  dl : ∀ n ∈ m.nodes, n.name.length ≤ 1000000000
theorem MB.node {m : SM.Mem} (h : MB m) {i : Nat} (hi : i < m.nodes.length) : (m.node i).name.length ≤ 1000000000 := by
  rw [node_get hi]; exact h.dl _ (List.getElem_mem hi)
theorem MB.find {m : SM.Mem} (h : MB m) (h0 : 0 < m.nodes.length) (l : Str) : (m.find l).getD 0 < m.nodes.length := by
  cases hf : m.find l with
  | none => exact h0
  | some x => exact find_lt h.la h.lt hf
theorem infosC_snoc (l : List SM.Info) (i : SM.Info) : infosC (l ++ [i]) = infosC l ++ infoC i := by simp [infosC]
theorem oneC_infos (l : List SM.Info) : ∀ u ∈ infosC l, u.oneCell' = true := fun u hu => by
  obtain ⟨c, hc, hu⟩ := List.mem_flatten.1 hu
  obtain ⟨i, _, rfl⟩ := List.mem_map.1 hc
  simp at hu
  rcases hu with rfl | rfl | rfl | rfl | rfl <;> rfl
theorem RowS_own {w : World} {B n size : Nat} {e : TypeId} {v : Value} {xs : List Value} (h : w.ownsRow B e size v n xs) : RowS w v n xs := by
  by_cases h0 : n = 0
  · subst h0
    obtain ⟨a, cap, rfl⟩ := own_slice h
    exact .inr ⟨rfl, by have := h.1; simpa using this, a, cap, rfl⟩
  · obtain ⟨b, cap, cur, rfl, h1, h2, h3, h4, h5, h6⟩ := own_row h h0
    refine .inl ⟨b, 0, cap, rfl, ?_⟩
    have := h.1
    rw [h4, this]
    simp only [rowOf]
    have h7 : n * size ≤ cap * size := Nat.mul_le_mul_right _ h1
    rw [if_pos (by simp only [List.size_toArray]; omega)]
    simpa using h6
theorem zInfo : (P.info? T.impl_Info).map (fun i => (i.zero, i.size, i.bytes)) = some (some (AG (infoC ⟨[], 0, 0, false, 0⟩)), 5, 48) := by kernel_rfl
end Go.Proofs.YteblpejgenehfaaDoor.X
end
section
namespace Go.Proofs.YteblpejgenehfaaDoor.X
open Go Go.X Go.Proofs Go.RowKit
theorem lastIdx_spec {l : Str} {w : World} {K : Value → World → Prop} (hl : l.length ≤ 140737488355328) (h : K (.int .i64 (match SM.lastSlash l with | some i => (i : Int) | none => -1)) w) : Cl P Fn.bytealg_LastIndexByteString #[S l, .int .u8 47] w K := by
  apply S_bytealg_LastIndexByteString
  unfold F_bytealg_LastIndexByteString
  refine jn_with (fun t w' => w' = w ∧ SM.lastSlash l = none) ?_ ?_
  · rintro t e w1 ⟨rfl, e1⟩
    rw [e1] at h
    exact h
  · rw [V.len_string]
    simp (disch := first | omega | (simp only [sZb, sZa, sZd] <;> omega) | (simp (disch := first | omega | (simp only [sZb, sZa, sZd] <;> omega) | fail) only [go_sem]; done) | fail) only [go_sem, dec_t, dec_f, w_u32, w_u64, w_u16, w_u8, w_i64, Int.reduceToNat, Int.reducePow, Nat.reducePow]
    refine lp_intro (fun s w' => w' = w ∧ ∃ i : Nat, s = [.int .i64 ((i : Int) - 1)] ∧ i ≤ l.length ∧ SM.ls l i = SM.lastSlash l) (fun s w' => ((intOf (gs s 0)) + 1).toNat) ?_ ?_
    · exact ⟨rfl, l.length, rfl, Nat.le_refl _, rfl⟩
    · rintro s u w1 ⟨rfl, i, rfl, hi, hs⟩
      refine jn_with (fun t w' => w' = w1 ∧ 0 < i) ?_ ?_
      · rintro t e w2 ⟨rfl, hi1⟩
        obtain ⟨j, rfl⟩ : ∃ j, i = j + 1 := ⟨i - 1, by omega⟩
        have ej : ((j + 1 : Nat) : Int) - 1 = (j : Int) := by omega
        refine jn_with (fun t w' => w' = w2 ∧ l.getD j 0 ≠ 47) ?_ ?_
        · rintro t e w3 ⟨rfl, hne⟩
          simp (disch := first | omega | (simp only [sZb, sZa, sZd] <;> omega) | (simp (disch := first | omega | (simp only [sZb, sZa, sZd] <;> omega) | fail) only [go_sem, ej]; done) | fail) only [go_sem, dec_t, dec_f, w_u32, w_u64, w_u16, w_u8, w_i64, Int.reduceToNat, Int.reducePow, Nat.reducePow, ej]
          refine ⟨⟨trivial, j, rfl, by omega, ?_⟩, ?_⟩
          · rw [← hs]; simp only [SM.ls]; rw [if_neg hne]
          · simp only [gs0, intOf]; omega
        · rw [gs0, ej, oIdxS _ _ _ _ _ U.string (by omega) (by omega)]
          rw [Int.toNat_natCast]
          by_cases hc : l.getD j 0 = 47
          · have e1 : ((l.getD j 0).toNat : Int) = 47 := by rw [hc]; rfl
            simp (disch := first | omega | (simp only [sZb, sZa, sZd] <;> omega) | (simp (disch := first | omega | (simp only [sZb, sZa, sZd] <;> omega) | fail) only [go_sem, e1, decide_true]; done) | fail) only [go_sem, dec_t, dec_f, w_u32, w_u64, w_u16, w_u8, w_i64, Int.reduceToNat, Int.reducePow, Nat.reducePow, e1, decide_true]
            have e2 : SM.lastSlash l = some j := by
              rw [← hs]
              simp only [SM.ls, if_pos hc]
            rw [e2] at h
            exact h
          · have e1 : ¬ ((l.getD j 0).toNat : Int) = 47 := fun e => hc (UInt8.toNat_inj.1 (by rw [show (47 : UInt8).toNat = 47 from rfl]; omega))
            simp (disch := first | omega | (simp only [sZb, sZa, sZd] <;> omega) | (simp (disch := first | omega | (simp only [sZb, sZa, sZd] <;> omega) | fail) only [go_sem, e1, decide_false]; done) | fail) only [go_sem, dec_t, dec_f, w_u32, w_u64, w_u16, w_u8, w_i64, Int.reduceToNat, Int.reducePow, Nat.reducePow, e1, decide_false]
            exact ⟨trivial, hc⟩
      · rw [gs0]
        by_cases hi1 : 0 < i
        · simp (disch := first | omega | (simp only [sZb, sZa, sZd] <;> omega) | (simp (disch := first | omega | (simp only [sZb, sZa, sZd] <;> omega) | fail) only [go_sem]; done) | fail) only [go_sem, dec_t, dec_f, w_u32, w_u64, w_u16, w_u8, w_i64, Int.reduceToNat, Int.reducePow, Nat.reducePow]
          exact ⟨trivial, hi1⟩
        · simp (disch := first | omega | (simp only [sZb, sZa, sZd] <;> omega) | (simp (disch := first | omega | (simp only [sZb, sZa, sZd] <;> omega) | fail) only [go_sem]; done) | fail) only [go_sem, dec_t, dec_f, w_u32, w_u64, w_u16, w_u8, w_i64, Int.reduceToNat, Int.reducePow, Nat.reducePow]
          refine ⟨trivial, ?_⟩
          have : i = 0 := by omega
          subst this
          rw [← hs]
          rfl
def dirPart (l : Str) : Str := match SM.lastSlash l with | some i => l.take (i + 1) | none => []
theorem split_spec {l : Str} {w : World} {K : Value → World → Prop} (hl : l.length ≤ 140737488355328) (h : K (tup [S (dirPart l), S (SM.base l)]) w.drew) : Cl P Fn.path_Split #[S l] w K := by
  apply S_path_Split
  unfold F_path_Split
  rw [C.bytealg_LastIndexByteString]
  refine lastIdx_spec hl ?_
  cases hs : SM.lastSlash l with
  | none =>
    have e1 : dirPart l = [] := by unfold dirPart; rw [hs]
    have e2 : SM.base l = l := by unfold SM.base; rw [hs]
    have e0 : (-1 : Int) + 1 = 0 := rfl
    simp only
    simp (disch := first | omega | (simp only [sZb, sZa, sZd] <;> omega) | (simp (disch := first | omega | (simp only [sZb, sZa, sZd] <;> omega) | fail) only [go_sem, e0]; done) | fail) only [go_sem, dec_t, dec_f, w_u32, w_u64, w_u16, w_u8, w_i64, Int.reduceToNat, Int.reducePow, Nat.reducePow, e0]
    rw [oSliceS_hi _ _ _ _ _ U.string (by omega) (by omega)]
    rw [oSliceS_lo _ _ _ _ _ U.string (by omega) (by omega)]
    rw [e1, e2] at h
    simpa using h
  | some i =>
    have hi := SM.lastSlash_lt hs
    have e1 : dirPart l = l.take (i + 1) := by unfold dirPart; rw [hs]
    have e2 : SM.base l = l.drop (i + 1) := by unfold SM.base; rw [hs]
    simp only
    simp (disch := first | omega | (simp only [sZb, sZa, sZd] <;> omega) | (simp (disch := first | omega | (simp only [sZb, sZa, sZd] <;> omega) | fail) only [go_sem]; done) | fail) only [go_sem, dec_t, dec_f, w_u32, w_u64, w_u16, w_u8, w_i64, Int.reduceToNat, Int.reducePow, Nat.reducePow]
    rw [oSliceS_hi _ _ _ _ _ U.string (by omega) (by omega)]
    rw [oSliceS_lo _ _ _ _ _ U.string (by omega) (by omega)]
    rw [e1, e2] at h
    have e3 : ((i : Int) + 1).toNat = i + 1 := by omega
    rw [e3]
    exact h
def InfoAt (w : World) (fi : Nat) (i : SM.Info) : Prop := ∃ d nm a n c md dir mode mt uid gid, bk w fi = some (CB [pt d 0] T.mem_FileInfo) ∧ bk w d = some (CB [S nm, .slice a n c, md, .bool dir, .int .u32 mode, .int .i64 mt, .int .i64 uid, .int .i64 gid] T.mem_FileData) ∧
  0 ≤ mode ∧ mode ≤ 4294967295 ∧ nm.length ≤ 140737488355328 ∧ i = ⟨SM.base nm, if dir = true then 42 else (n : Int), mode, dir, mt⟩
theorem InfoAt.old {w w' : World} {fi : Nat} {i : SM.Info} (h : InfoAt w fi i) (k : Below w.heap.size w w') : InfoAt w' fi i := by
  obtain ⟨d, nm, a, n, c, md, dir, mode, mt, uid, gid, h1, h2, h3⟩ := h
  exact ⟨d, nm, a, n, c, md, dir, mode, mt, uid, gid, (bel_bk k (bk_lt h1)).trans h1, (bel_bk k (bk_lt h2)).trans h2, h3⟩
set_option maxHeartbeats 1000000 in
theorem fromInfo_spec {w : World} {K : Value → World → Prop} {fi : Nat} {i : SM.Info} (h : InfoAt w fi i) (hk : ∀ w', Below w.heap.size w w' → K (AG (infoC i)) w') : Cl P Fn.impl_fromInfo #[pt fi 0] w K := by
  obtain ⟨d, nm, a, n, c, md, dir, mode, mt, uid, gid, h1, h2, h3, h4, h5, rfl⟩ := h
  apply S_impl_fromInfo
  unfold F_impl_fromInfo
  rw [M.al_impl_Info]
  have l1 := bk_lt h1
  have l2 := bk_lt h2
  have B1 : Below w.heap.size w (w.alloc (CB (infoC ⟨[], 0, 0, false, 0⟩) T.impl_Info)) := by repeat (first | exact Below.refl _ _ | assumption | refine bel_setb ?_ (by first | exact Nat.le_refl _ | omega | (simp only [go_sem] <;> omega)) _ | refine Below.alloc ?_ (by first | exact Nat.le_refl _ | omega | (simp only [go_sem]; omega)) _ | refine Below.drew ?_)
  have bI : bk (w.alloc (CB (infoC ⟨[], 0, 0, false, 0⟩) T.impl_Info)) w.heap.size = some (CB (infoC ⟨[], 0, 0, false, 0⟩) T.impl_Info) := bk_alloc_eq _ _ _ rfl
  generalize w.alloc (CB (infoC ⟨[], 0, 0, false, 0⟩) T.impl_Info) = w1 at *
  have h1' := (bel_bk B1 l1).trans h1
  have h2' := (bel_bk B1 l2).trans h2
  rw [C.mem_FileInfo_Name]
  apply S_mem_FileInfo_Name
  unfold F_mem_FileInfo_Name
  simp (disch := first | omega | (simp only [sZb, sZa, sZd] <;> omega) | (simp (disch := first | omega | (simp only [sZb, sZa, sZd] <;> omega) | fail) only [go_sem, h1', h2']; done) | fail) only [go_sem, dec_t, dec_f, w_u32, w_u64, w_u16, w_u8, w_i64, Int.reduceToNat, Int.reducePow, Nat.reducePow, h1', h2']
  refine split_spec h5 ?_
  rw [oExtract2_0, oExtract2_1]
  apply S_mem_FileInfo_Size
  unfold F_mem_FileInfo_Size
  have lI := bk_lt bI
  have isd : ∀ (w9 : World) (L : Value → World → Prop), bk w9 fi = some (CB [pt d 0] T.mem_FileInfo) → bk w9 d = some (CB [S nm, .slice a n c, md, .bool dir, .int .u32 mode, .int .i64 mt, .int .i64 uid, .int .i64 gid] T.mem_FileData) → L (.bool dir) w9 → Cl P Fn.mem_FileInfo_IsDir #[pt fi 0] w9 L := fun w9 L q1 q2 q3 => by
    apply S_mem_FileInfo_IsDir
    unfold F_mem_FileInfo_IsDir
    simp (disch := first | omega | (simp only [sZb, sZa, sZd] <;> omega) | (simp (disch := first | omega | (simp only [sZb, sZa, sZd] <;> omega) | fail) only [go_sem, q1, q2]; done) | fail) only [go_sem, dec_t, dec_f, w_u32, w_u64, w_u16, w_u8, w_i64, Int.reduceToNat, Int.reducePow, Nat.reducePow, q1, q2]
    exact q3
  have rest : (fun t6 w3 => Cl P Fn.mem_FileInfo_Mode #[pt fi 0] w3 fun t8 w4 =>
      pu P (oConv T.os_FileMode T.int t8) fun t9 =>
      Cl P Fn.mem_FileInfo_IsDir #[pt fi 0] w4 fun t11 w5 =>
      Cl P Fn.mem_FileInfo_ModTime #[pt fi 0] w5 fun t13 w6 =>
      pu P (oBuild T.impl_Info #[(0, S (SM.base nm)), (1, t6), (2, t9), (3, t11), (4, t13)]) fun t14 =>
      st P (oStore T.impl_Info (pt w.heap.size 0) t14) w6 fun _ w7 =>
      rsl P T.impl_Info (pt w.heap.size 0) w7 fun r1 =>
      K (tup [r1]) w7) (.int .i64 (if dir = true then 42 else (n : Int))) w1.drew := by
    show Cl P Fn.mem_FileInfo_Mode #[pt fi 0] w1.drew _
    apply S_mem_FileInfo_Mode
    unfold F_mem_FileInfo_Mode
    simp (disch := first | omega | (simp only [sZb, sZa, sZd] <;> omega) | (simp (disch := first | omega | (simp only [sZb, sZa, sZd] <;> omega) | fail) only [go_sem, h1', h2']; done) | fail) only [go_sem, dec_t, dec_f, w_u32, w_u64, w_u16, w_u8, w_i64, Int.reduceToNat, Int.reducePow, Nat.reducePow, h1', h2']
    refine isd _ _ h1' h2' ?_
    apply S_mem_FileInfo_ModTime
    unfold F_mem_FileInfo_ModTime
    simp (disch := first | omega | (simp only [sZb, sZa, sZd] <;> omega) | (simp (disch := first | omega | (simp only [sZb, sZa, sZd] <;> omega) | fail) only [go_sem, h1', h2', bI]; done) | fail) only [go_sem, dec_t, dec_f, w_u32, w_u64, w_u16, w_u8, w_i64, Int.reduceToNat, Int.reducePow, Nat.reducePow, h1', h2', bI]
    exact hk _ (bel_setb B1.drew (Nat.le_refl _) _)
  by_cases hd : dir = true
  · refine jn_with (fun _ _ => False) (fun _ _ _ h => h.elim) ?_
    rw [C.mem_FileInfo_IsDir]
    refine isd _ _ h1' h2' ?_
    rw [if_pos hd] at rest
    rw [hd, cd_t]
    exact rest
  · have hd' : dir = false := by simpa using hd
    rw [if_neg hd] at rest
    refine jn_with (fun t w' => w' = w1.drew) ?_ ?_
    · rintro t e w2 rfl
      rw [oNil_ptr, A.mem_FileInfo_0, Nat.add_zero]
      have r := rest
      simp (disch := first | omega | (simp only [sZb, sZa, sZd] <;> omega) | (simp (disch := first | omega | (simp only [sZb, sZa, sZd] <;> omega) | fail) only [go_sem, h1', h2']; done) | fail) only [go_sem, dec_t, dec_f, w_u32, w_u64, w_u16, w_u8, w_i64, Int.reduceToNat, Int.reducePow, Nat.reducePow, h1', h2']
      simp (disch := first | omega | (simp only [sZb, sZa, sZd] <;> omega) | (simp (disch := first | omega | (simp only [sZb, sZa, sZd] <;> omega) | fail) only [go_sem, h1', h2']; done) | fail) only [go_sem, dec_t, dec_f, w_u32, w_u64, w_u16, w_u8, w_i64, Int.reduceToNat, Int.reducePow, Nat.reducePow, h1', h2'] at r
      exact r
    · rw [C.mem_FileInfo_IsDir]
      refine isd _ _ h1' h2' ?_
      rw [hd', cd_f]
end Go.Proofs.YteblpejgenehfaaDoor.X
end
section
namespace Go.Proofs.YteblpejgenehfaaDoor.X
open Go Go.X Go.Proofs Go.RowKit
abbrev ptV (b : Nat) : Value := pt b 0
theorem fromInfos_spec {w : World} {K : Value → World → Prop} {x : Value} {fs : List Nat} {is : List SM.Info} (hx : VS ptV w x fs) (hn : fs.length ≤ 999990000) (hl : is.length = fs.length) (hi : ∀ i (h1 : i < fs.length) (h2 : i < is.length), InfoAt w fs[i] is[i])
    (hk : ∀ w' v, w'.ownsRow w.heap.size T.impl_Info 5 v is.length (infosC is) → Below w.heap.size w w' → K v w') : Cl P Fn.impl_fromInfos #[x] w K := by
  apply S_impl_fromInfos
  unfold F_impl_fromInfos
  obtain ⟨a, c, ex⟩ := hx.slice
  refine jn_with (fun t w' => ∃ v, t = [v] ∧ w'.ownsRow w.heap.size T.impl_Info 5 v is.length (infosC is) ∧ Below w.heap.size w w') ?_ ?_
  · rintro t e w1 ⟨v, rfl, o1, B1⟩
    exact hk w1 v o1 B1
  · rw [ex]
    simp (disch := first | omega | (simp only [sZb, sZa, sZd] <;> omega) | (simp (disch := first | omega | (simp only [sZb, sZa, sZd] <;> omega) | fail) only [go_sem]; done) | fail) only [go_sem, dec_t, dec_f, w_u32, w_u64, w_u16, w_u8, w_i64, Int.reduceToNat, Int.reducePow, Nat.reducePow]
    rw [← ex]
    refine lp_intro (fun t w' => ∃ v, ∃ i : Nat, t = [v, .int .i64 i] ∧ i ≤ fs.length ∧ w'.ownsRow w.heap.size T.impl_Info 5 v i (infosC (is.take i)) ∧ Below w.heap.size w w') (fun t w' => (fs.length - (intOf (gs t 1))).toNat) ⟨_, 0, rfl, Nat.zero_le _, own_nil _ _ _ _, Below.refl _ _⟩ ?_
    rintro t u w1 ⟨v, i, rfl, hi1, o1, B1⟩
    rw [gs1, oLss]
    refine jn_with (fun t w' => w' = w1 ∧ i < fs.length) ?_ ?_
    · rintro t e w2 ⟨rfl, hlt⟩
      obtain ⟨bx, ox, x1, x2, x3, x4⟩ := (hx.old B1).idx U.sl_p_mem_FileInfo (by kernel_rfl) hlt
      rw [x4]
      have ld : ∀ (L : Value → World → Prop), st P (oLoad T.p_mem_FileInfo (pt bx ox)) w2 L = L (pt fs[i] 0) w2 := fun L => by
        rw [M.ld_p_mem_FileInfo _ _ _ _ (by rw [x3]; rfl), x3]; rfl
      rw [ld]
      simp (disch := first | omega | (simp only [sZb, sZa, sZd] <;> omega) | (simp (disch := first | omega | (simp only [sZb, sZa, sZd] <;> omega) | fail) only [go_sem]; done) | fail) only [go_sem, dec_t, dec_f, w_u32, w_u64, w_u16, w_u8, w_i64, Int.reduceToNat, Int.reducePow, Nat.reducePow]
      refine fromInfo_spec ((hi i hlt (by omega)).old B1) fun w3 B3 => ?_
      rw [oBuildSliceN (z := AG (infoC ⟨[], 0, 0, false, 0⟩)) (size := 5) _ _ U.sl_impl_Info (by kernel_rfl) (by omega) (by omega) rfl]
      have B4 : Below w3.heap.size w3 (w3.alloc (CB (infoC (is[i]'(by omega))) T.impl_Info)) := by repeat (first | exact Below.refl _ _ | assumption | refine bel_setb ?_ (by first | exact Nat.le_refl _ | omega | (simp only [go_sem] <;> omega)) _ | refine Below.alloc ?_ (by first | exact Nat.le_refl _ | omega | (simp only [go_sem]; omega)) _ | refine Below.drew ?_)
      have r4 : rowOf (bk (w3.alloc (CB (infoC (is[i]'(by omega))) T.impl_Info)) w3.heap.size) 0 5 = some (infoC (is[i]'(by omega))) := by rw [bk_alloc_eq _ _ _ rfl]; rfl
      generalize w3.alloc (CB (infoC (is[i]'(by omega))) T.impl_Info) = w4 at *
      have z3 := B3.size
      have z4 := B4.size
      have z1 := B1.size
      have o4 := own_old (own_old o1 B3 (Nat.le_refl _)) B4 (Nat.le_refl _)
      refine oAppendR (size := 5) (bytes := 48) (news := infoC (is[i]'(by omega))) U.sl_impl_Info zInfo rfl (by omega) o4 (.inl ⟨_, _, _, rfl, r4⟩) rfl (fun u hu => oneC_infos [is[i]'(by omega)] u (by simpa [infosC] using hu)) (by simp only [maxLen]; omega) (by omega) (by omega) fun z9 w9 o9 g9 a9 => ?_
      refine ⟨⟨z9, i + 1, rfl, by omega, ?_, B1.trans ((B3.mono z1).trans ((B4.mono (by omega)).trans (own_bel o4 g9 (by omega))))⟩, ?_⟩
      · rw [List.take_succ_eq_append_getElem (by omega), infosC_snoc]
        exact o9
      · simp only [gs1, intOf]; omega
    · by_cases hlt : i < fs.length
      · simp (disch := first | omega | (simp only [sZb, sZa, sZd] <;> omega) | (simp (disch := first | omega | (simp only [sZb, sZa, sZd] <;> omega) | fail) only [go_sem]; done) | fail) only [go_sem, dec_t, dec_f, w_u32, w_u64, w_u16, w_u8, w_i64, Int.reduceToNat, Int.reducePow, Nat.reducePow]
        exact ⟨trivial, hlt⟩
      · simp (disch := first | omega | (simp only [sZb, sZa, sZd] <;> omega) | (simp (disch := first | omega | (simp only [sZb, sZa, sZd] <;> omega) | fail) only [go_sem]; done) | fail) only [go_sem, dec_t, dec_f, w_u32, w_u64, w_u16, w_u8, w_i64, Int.reduceToNat, Int.reducePow, Nat.reducePow]
        have : i = is.length := by omega
        subst this
        rw [List.take_length] at o1
        exact ⟨v, rfl, o1, B1⟩
section
variable {w : World} {K : Value → World → Prop} {B f d : Nat} {v x : Value} {s : FX} {m : Nat → Nat × Nat} {l : List UInt8}
theorem sent_closed (w : World) (C : Nat) (m : Nat → Nat × Nat) : ErrV w C m 3 (er (m G.mem_ErrFileClosed)) := .inr (.inl ⟨G.mem_ErrFileClosed, by decide, rfl, (by decide : (3 : Int) = codeOf G.mem_ErrFileClosed)⟩)
def skR (s : FX) (off wh : Int) : FX × Int × Int := if s.cl = true then (s, 3, 0) else ({ s with pos := seekX s off wh }, 0, seekX s off wh)
theorem seek_any {off wh : Int} (h : FH w B f d v s) (hs : Sn w B m) (h1 : -4611686018427387904 ≤ off ∧ off ≤ 4611686018427387903) (h2 : -4611686018427387904 ≤ s.pos ∧ s.pos ≤ 4611686018427387903) (h3 : s.bytes.length ≤ 4611686018427387903)
    (hk : ∀ w' y, FH w' B f d v (skR s off wh).1 → Kp w w' (Of f d v) → ErrV w' w.heap.size m (skR s off wh).2.1 y → K (tup [.int .i64 (skR s off wh).2.2, y]) w') : Cl P Fn.mem_File_Seek #[pt f 0, .int .i64 off, .int .i64 wh] w K := by
  unfold skR at hk
  by_cases hc : s.cl = true
  · rw [if_pos hc] at hk
    apply S_mem_File_Seek
    unfold F_mem_File_Seek
    have hf := h.bf
    refine jn_with (fun _ _ => False) (fun _ _ _ h => h.elim) ?_
    obtain ⟨q1, t1, e1⟩ := hs.at_ G.mem_ErrFileClosed (by decide)
    simp (disch := first | omega | (simp only [sZb, sZa, sZd] <;> omega) | (simp (disch := first | omega | (simp only [sZb, sZa, sZd] <;> omega) | fail) only [go_sem, hf, hc, e1]; done) | fail) only [go_sem, dec_t, dec_f, w_u32, w_u64, w_u16, w_u8, w_i64, Int.reduceToNat, Int.reducePow, Nat.reducePow, hf, hc, e1]
    exact hk _ _ (h.old (by repeat (first | exact Below.refl _ _ | assumption | refine bel_setb ?_ (by first | exact Nat.le_refl _ | omega | (simp only [go_sem] <;> omega)) _ | refine Below.alloc ?_ (by first | exact Nat.le_refl _ | omega | (simp only [go_sem]; omega)) _ | refine Below.drew ?_))) (Kp.drew w _) (sent_closed _ _ _)
  · rw [if_neg hc] at hk
    exact seek_fx h (by simpa using hc) h1 h2 h3 fun w' F' K' => hk w' _ F' K' (.inl ⟨rfl, rfl⟩)
def rdR (s : FX) (n : Nat) : FX × List UInt8 × Int := if s.cl = true then (s, [], 3) else ({ s with pos := s.pos + (rdX s n).1.length }, (rdX s n).1, ((rdX s n).2 : Int))
def raR (s : FX) (off : Int) (n : Nat) : List UInt8 × Int := if s.cl = true then ([], 3) else ((rdX { s with pos := off } n).1, ((rdX { s with pos := off } n).2 : Int))
theorem read_any {b n : Nat} (h : FH w B f d v s) (hs : Sn w B m) (h2 : s.cl = false → 0 ≤ s.pos ∧ s.pos ≤ 4611686018427387903) (h3 : s.bytes.length ≤ 281474976710656) (hn : n ≤ 281474976710656)
    (hb : bk w b = some (CB (List.replicate n (.int .u8 0)) T.uint8)) (hbf : b ≠ f) (hbd : b ≠ d) (hbv : v.ownBlock ≠ some b)
    (hk : ∀ w' y, FH w' B f d v (rdR s n).1 → Kp w w' (fun k => k = f ∨ k = b) → bk w' b = some (CB ((rdR s n).2.1.map byt ++ List.replicate (n - (rdR s n).2.1.length) (.int .u8 0)) T.uint8) → ErrV w' w.heap.size m (rdR s n).2.2 y → K (tup [.int .i64 (rdR s n).2.1.length, y]) w') :
    Cl P Fn.mem_File_Read #[pt f 0, sl b 0 n n] w K := by
  unfold rdR at hk
  by_cases hc : s.cl = true
  · rw [if_pos hc] at hk
    apply S_mem_File_Read
    unfold F_mem_File_Read
    have hf := h.bf
    refine jn_with (fun _ _ => False) (fun _ _ _ h => h.elim) ?_
    obtain ⟨q1, t1, e1⟩ := hs.at_ G.mem_ErrFileClosed (by decide)
    simp (disch := first | omega | (simp only [sZb, sZa, sZd] <;> omega) | (simp (disch := first | omega | (simp only [sZb, sZa, sZd] <;> omega) | fail) only [go_sem, hf, hc, e1]; done) | fail) only [go_sem, dec_t, dec_f, w_u32, w_u64, w_u16, w_u8, w_i64, Int.reduceToNat, Int.reducePow, Nat.reducePow, hf, hc, e1]
    exact hk _ _ (h.old (by repeat (first | exact Below.refl _ _ | assumption | refine bel_setb ?_ (by first | exact Nat.le_refl _ | omega | (simp only [go_sem] <;> omega)) _ | refine Below.alloc ?_ (by first | exact Nat.le_refl _ | omega | (simp only [go_sem]; omega)) _ | refine Below.drew ?_))) (Kp.drew w _) (by show bk w b = _; simpa using hb) (sent_closed _ _ _)
  · rw [if_neg hc] at hk
    have hc' : s.cl = false := by simpa using hc
    exact read_fx h hs hc' (h2 hc') h3 hn hb hbf hbd hbv fun w' F' K' b' => hk w' _ F' K' b' (errV_ok _ _ _ (rdX_err s n))
theorem readdir_file {n : Int} (h : FH w B f d v s) (hd0 : s.dir = false) (hk : ∀ w' y, Below w.heap.size w w' → ErrV w' w.heap.size m 8 y → K (tup [.slice none 0 0, y]) w') : Cl P Fn.mem_File_Readdir #[pt f 0, .int .i64 n] w K := by
  apply S_mem_File_Readdir
  unfold F_mem_File_Readdir
  have hf := h.bf
  have hd := h.bd
  obtain ⟨lf, ld⟩ := h.lt
  refine jn_with (fun _ _ => False) (fun _ _ _ h => h.elim) ?_
  simp (disch := first | omega | (simp only [sZb, sZa, sZd] <;> omega) | (simp (disch := first | omega | (simp only [sZb, sZa, sZd] <;> omega) | fail) only [go_sem, hf, hd, hd0]; done) | fail) only [go_sem, dec_t, dec_f, w_u32, w_u64, w_u16, w_u8, w_i64, Int.reduceToNat, Int.reducePow, Nat.reducePow, hf, hd, hd0]
  unfold J_mem_File_Readdir_7
  simp (disch := first | omega | (simp only [sZb, sZa, sZd] <;> omega) | (simp (disch := first | omega | (simp only [sZb, sZa, sZd] <;> omega) | fail) only [go_sem, hf, hd]; done) | fail) only [go_sem, dec_t, dec_f, w_u32, w_u64, w_u16, w_u8, w_i64, Int.reduceToNat, Int.reducePow, Nat.reducePow, hf, hd]
  refine new_spec ?_
  simp (disch := first | omega | (simp only [sZb, sZa, sZd] <;> omega) | (simp (disch := first | omega | (simp only [sZb, sZa, sZd] <;> omega) | fail) only [go_sem, hf, hd, mkPath]; done) | fail) only [go_sem, dec_t, dec_f, w_u32, w_u64, w_u16, w_u8, w_i64, Int.reduceToNat, Int.reducePow, Nat.reducePow, hf, hd, mkPath]
  refine ⟨trivial, trivial, ?_⟩
  obtain ⟨W2, e2⟩ : ∃ W2, W2 = (w.drew.alloc (CB [S [110, 111, 116, 32, 97, 32, 100, 105, 114]] T.errors_errorString)).alloc (CB [S [114, 101, 97, 100, 100, 105, 114], S s.nm, er (w.heap.size, 0)] T.os_PathError) := ⟨_, rfl⟩
  have b1 : bk W2 w.heap.size = some (CB [S [110, 111, 116, 32, 97, 32, 100, 105, 114]] T.errors_errorString) := by
    rw [e2, bk_alloc_ne _ _ _ (by simp only [go_sem]; omega)]; exact bk_alloc_eq _ _ _ rfl
  have b2 : bk W2 (w.heap.size + 1) = some (CB [S [114, 101, 97, 100, 100, 105, 114], S s.nm, er (w.heap.size, 0)] T.os_PathError) := by
    rw [e2]; exact bk_alloc_eq _ _ _ (by simp only [go_sem])
  have BB : Below w.heap.size w W2 := by rw [e2]; repeat (first | exact Below.refl _ _ | assumption | refine bel_setb ?_ (by first | exact Nat.le_refl _ | omega | (simp only [go_sem] <;> omega)) _ | refine Below.alloc ?_ (by first | exact Nat.le_refl _ | omega | (simp only [go_sem]; omega)) _ | refine Below.drew ?_)
  have := hk W2 _ BB (pe_new b1 b2)
  rw [e2] at this
  exact this
end
end Go.Proofs.YteblpejgenehfaaDoor.X
end
section
namespace Go.Proofs.YteblpejgenehfaaDoor.X
open Go Go.X Go.Proofs Go.RowKit
def want (n : Int) : Nat := (max 0 (min n 1048576)).toNat
def infoX (s : FX) : SM.Info := ⟨SM.base s.nm, if s.dir = true then 42 else (s.bytes.length : Int), s.mode, s.dir, s.mt⟩
def onX (s : FX) (q : SM.Stp) : FX × SM.Ans :=
  if q.op = 12 then ((rdR s (want q.n)).1, ⟨(rdR s (want q.n)).2.2, 0, 0, (rdR s (want q.n)).2.1, [], []⟩)
  else if q.op = 13 then (s, ⟨(raR s q.off (want q.n)).2, 0, 0, (raR s q.off (want q.n)).1, [], []⟩)
  else if q.op = 14 then ((wrR s q.data).1, ⟨(wrR s q.data).2.1, (wrR s q.data).2.2, 0, [], [], []⟩)
  else if q.op = 15 then ((wrR { s with pos := q.off } q.data).1, ⟨(wrR { s with pos := q.off } q.data).2.1, (wrR { s with pos := q.off } q.data).2.2, 0, [], [], []⟩)
  else if q.op = 16 then ((skR s q.off q.wh).1, ⟨(skR s q.off q.wh).2.1, 0, (skR s q.off q.wh).2.2, [], [], []⟩)
  else if q.op = 17 then ((trR s q.off).1, ⟨(trR s q.off).2, 0, 0, [], [], []⟩)
  else if q.op = 18 then (clR s, SM.Ans.z)
  else if q.op = 19 then (s, SM.Ans.err 8)
  else if q.op = 20 then (s, SM.Ans.err 8)
  else if q.op = 21 then (s, ⟨0, 0, 0, [], [], [infoX s]⟩)
  else if q.op = 22 then (s, ⟨0, 0, 0, [], [s.nm], []⟩)
  else (s, SM.Ans.z)
structure OkX (s : FX) (q : SM.Stp) : Prop where
  op : 12 ≤ q.op ∧ q.op ≤ 23
  dir : s.dir = false
  len : s.bytes.length ≤ 281474976710
  nm : s.nm.length ≤ 140737488355328
  mode : 0 ≤ s.mode ∧ s.mode ≤ 4294967295
  dat : q.data.length ≤ 281474976710
  off : q.op < 18 → -4611686018427387904 ≤ q.off ∧ q.off ≤ 4611686018427387903
  pos : -4611686018427387904 ≤ s.pos ∧ s.pos ≤ 4611686018427387903
  rd : q.op = 12 → s.cl = false → 0 ≤ s.pos
  ra : q.op = 13 → 0 ≤ q.off
  wr : q.op = 14 → s.cl = false → s.ro = false → 0 ≤ s.pos ∧ s.pos ≤ 281474976710
  wa : q.op = 15 → s.cl = false → s.ro = false → 0 ≤ q.off ∧ q.off ≤ 281474976710
  tr : q.op = 17 → q.off ≤ 281474976710
structure AnsP (w : World) (lo : Nat) (U : Nat → Prop) (a : SM.Ans) (x y z : Value) : Prop where
  hx : BS w x a.data
  hy : RowS w y a.names.length (a.names.map S)
  hz : RowS w z a.infos.length (infosC a.infos)
  ho : ∀ b, (x.ownBlock = some b ∨ y.ownBlock = some b ∨ z.ownBlock = some b) → lo ≤ b ∧ b < w.heap.size ∧ ¬ U b
theorem AnsP.n {w : World} {lo : Nat} {U : Nat → Prop} {a : SM.Ans} {x y z : Value} (h : AnsP w lo U a x y z) : AnsN w lo U a (answC a x y z) := ⟨_, _, _, rfl, h.hx, h.hy, h.hz, h.ho⟩
theorem AnsP.kp {w w' : World} {lo : Nat} {U : Nat → Prop} {a : SM.Ans} {x y z : Value} {R : Nat → Prop} (h : AnsP w lo U a x y z) (k : Kp w w' R) (hR : ∀ b, lo ≤ b → b < w.heap.size → ¬ U b → ¬ R b) : AnsP w' lo U a x y z := by
  have g : ∀ b, (x.ownBlock = some b ∨ y.ownBlock = some b ∨ z.ownBlock = some b) → ¬ R b := fun b hb => hR b (h.ho b hb).1 (h.ho b hb).2.1 (h.ho b hb).2.2
  exact ⟨BS_kp h.hx k fun b hb => g b (.inl hb), h.hy.kp k fun b hb => g b (.inr (.inl hb)), h.hz.kp k fun b hb => g b (.inr (.inr hb)), fun b hb => ⟨(h.ho b hb).1, Nat.lt_of_lt_of_le (h.ho b hb).2.1 k.size, (h.ho b hb).2.2⟩⟩
theorem AnsP.plain (w : World) (lo : Nat) (U : Nat → Prop) {a : SM.Ans} (h1 : a.data = []) (h2 : a.names = []) (h3 : a.infos = []) : AnsP w lo U a (.slice none 0 0) (.slice none 0 0) (.slice none 0 0) :=
  ⟨by rw [h1]; exact BS_nil w, by rw [h2]; exact RowS_nil w, by rw [h3]; exact RowS_nil w, fun b hb => by rcases hb with h | h | h <;> cases h⟩
theorem RowS_slice {w : World} {x : Value} {m : Nat} {l : List Value} (h : RowS w x m l) : ∃ a c, x = .slice a m c := by
  rcases h with ⟨b, o, c, rfl, _⟩ | ⟨rfl, _, a, c, rfl⟩
  · exact ⟨_, _, rfl⟩
  · exact ⟨_, _, rfl⟩
structure OnS (w w1 : World) (B f d : Nat) (v : Value) (m : Nat → Nat × Nat) (s : FX) (q : SM.Stp) (x : Value) : Prop where
  h : FH w1 B f d v s
  sn : Sn w1 B m
  b0 : Below w.heap.size w w1
  sz : w1.heap.size = w.heap.size + 3
  bs : bk w1 w.heap.size = some (CB (stepC q x) T.impl_Step)
  b4 : bk w1 (w.heap.size + 1) = some (CB ansZ T.impl_Answer)
  b5 : bk w1 (w.heap.size + 1 + 1) = some (CB ansZ T.impl_Answer)
  lf : f < w.heap.size
  ld : d < w.heap.size
  lv : ∀ k, v.ownBlock = some k → k < w.heap.size
def OnJ (w : World) (B f d : Nat) (v : Value) (m : Nat → Nat × Nat) (s' : FX) (a : SM.Ans) (t : List Value) (w' : World) : Prop :=
  ∃ y x1 x2 x3 v', t = [y] ∧ FH w' B f d v' s' ∧ Kp w w' (Of f d v) ∧ (v'.ownBlock = v.ownBlock ∨ ∀ k, v'.ownBlock = some k → w.heap.size + 3 ≤ k) ∧
    bk w' (w.heap.size + 1 + 1) = some (CB (answC { a with e := 0 } x1 x2 x3) T.impl_Answer) ∧ bk w' (w.heap.size + 1) = some (CB ansZ T.impl_Answer) ∧ AnsP w' (w.heap.size + 3) (Of f d v') a x1 x2 x3 ∧ ErrV w' (w.heap.size + 3) m a.e y ∧ Sn w' B m
section
variable {w w1 : World} {K : Value → World → Prop} {B f d : Nat} {v : Value} {m : Nat → Nat × Nat} {s : FX} {q : SM.Stp} {x : Value}
theorem OnS.nOf (o : OnS w w1 B f d v m s q x) {k : Nat} (hk : w.heap.size ≤ k) : ¬ Of f d v k := by
  rintro (e | e | e)
  · have := o.lf; omega
  · have := o.ld; omega
  · have := o.lv k e; omega
theorem OnS.hB (o : OnS w w1 B f d v m s q x) : B ≤ w.heap.size := by have := o.h.hf; have := o.lf; omega
theorem OnS.kb (o : OnS w w1 B f d v m s q x) {w2 : World} {R : Nat → Prop} (k2 : Kp w1 w2 R) (hR : ∀ x, x < w1.heap.size → R x → Of f d v x) :
    bk w2 w.heap.size = some (CB (stepC q x) T.impl_Step) ∧ bk w2 (w.heap.size + 1) = some (CB ansZ T.impl_Answer) ∧ bk w2 (w.heap.size + 1 + 1) = some (CB ansZ T.impl_Answer) := by
  have z := o.sz
  refine ⟨?_, ?_, ?_⟩
  · rw [k2.block _ (by omega) fun e => o.nOf (by omega) (hR _ (by omega) e)]; exact o.bs
  · rw [k2.block _ (by omega) fun e => o.nOf (by omega) (hR _ (by omega) e)]; exact o.b4
  · rw [k2.block _ (by omega) fun e => o.nOf (by omega) (hR _ (by omega) e)]; exact o.b5
theorem OnS.put (o : OnS w w1 B f d v m s q x) {w2 : World} {R : Nat → Prop} {v' : Value} {s' : FX} {a : SM.Ans} {y x1 x2 x3 : Value} (F2 : FH w2 B f d v' s') (k2 : Kp w1 w2 R) (hR : ∀ x, x < w1.heap.size → R x → Of f d v x)
    (O2 : OwnOk w1 v v') (e2 : ErrV w2 w1.heap.size m a.e y) (a2 : AnsP w2 w1.heap.size (Of f d v') a x1 x2 x3) :
    OnJ w B f d v m s' a [y] (setb w2 (w.heap.size + 1 + 1) (CB (answC { a with e := 0 } x1 x2 x3) T.impl_Answer)) := by
  obtain ⟨g1, g2, g3⟩ := o.kb k2 hR
  have z := o.sz
  have hB := o.hB
  have ks := Kp.setb w2 (w.heap.size + 1 + 1) (CB (answC { a with e := 0 } x1 x2 x3) T.impl_Answer)
  have kk : Kp w w2 (Of f d v) := (Kp.of_below o.b0 _).trans k2 fun x hx e => hR x (by omega) e
  have n5 : v'.ownBlock ≠ some (w.heap.size + 1 + 1) := fun e => by
    rcases O2 with h | h
    · rw [h] at e; have := o.lv _ e; omega
    · have := h _ e; omega
  refine ⟨y, x1, x2, x3, v', rfl, F2.kept ks fun x hx e => ?_, kk.trans ks fun x hx e => by omega, ?_, bk_setb_eq _ _ _ _ rfl (bk_lt g3), ?_, ?_, ?_, ?_⟩
  · subst e
    rcases hx with e | e | e
    · have := o.lf; omega
    · have := o.ld; omega
    · exact n5 e
  · rcases O2 with h | h
    · exact .inl h
    · exact .inr fun k hk => by have := h k hk; omega
  · rw [bk_setb_ne _ _ _ _ (by omega)]; exact g2
  · rw [← z]; exact a2.kp ks fun b h1 h2 _ e => by omega
  · rw [← z]; exact e2.kp ks fun b h1 h2 e => by omega
  · refine o.sn.below ?_
    have q1 := k2.below (B := B) (fun x hx e => ?_) (by omega)
    · exact bel_setb q1 (by omega) _
    · rcases hR x (by omega) e with h | h | h
      · have := o.h.hf; omega
      · have := o.h.hd; omega
      · have := (own_lt o.h.own x h).1; omega
end
end Go.Proofs.YteblpejgenehfaaDoor.X
end
section
namespace Go.Proofs.YteblpejgenehfaaDoor.X
open Go Go.X Go.Proofs Go.RowKit
section
variable {w w1 : World} {K : Value → World → Prop} {B f d : Nat} {v : Value} {m : Nat → Nat × Nat} {s : FX} {q : SM.Stp} {x : Value} {k1 : List Value → World → Prop}
theorem rd_row {w2 : World} {b n : Nat} {l : List UInt8} (hb : bk w2 b = some (CB (l.map byt ++ List.replicate (n - l.length) (.int .u8 0)) T.uint8)) (hl : l.length ≤ n) : BS w2 (sl b 0 l.length n) l := by
  refine .inr ⟨b, 0, n, rfl, hl, ?_, bk_lt hb⟩
  unfold rowB
  rw [hb]
  simp only [rowOf]
  rw [if_pos (by simp only [List.size_toArray, List.length_append, List.length_map, List.length_replicate]; omega)]
  simp
theorem rdR_len (s : FX) (n : Nat) : (rdR s n).2.1.length ≤ n := by
  unfold rdR
  split
  · simp
  · exact (rdX_len s n).1
theorem sync_any (hk : K .nilIface w) : Cl P Fn.mem_File_Sync #[pt f 0] w K := by
  apply S_mem_File_Sync
  unfold F_mem_File_Sync
  simp (disch := first | omega | (simp only [sZb, sZa, sZd] <;> omega) | (simp (disch := first | omega | (simp only [sZb, sZa, sZd] <;> omega) | fail) only [go_sem]; done) | fail) only [go_sem, dec_t, dec_f, w_u32, w_u64, w_u16, w_u8, w_i64, Int.reduceToNat, Int.reducePow, Nat.reducePow]
  exact hk
theorem OnS.still (o : OnS w w1 B f d v m s q x) {w2 : World} {v2 : Value} {s2 : FX} {a : SM.Ans} {y : Value} (F2 : FH w2 B f d v2 s2) (k2 : Kp w1 w2 (Of f d v)) (O2 : OwnOk w1 v v2) (h1 : a.data = []) (h2 : a.names = []) (h3 : a.infos = []) (h4 : a.n = 0) (h5 : a.off = 0) (e2 : ErrV w2 w1.heap.size m a.e y) : OnJ w B f d v m s2 a [y] w2 := by
  obtain ⟨g1, g2, g3⟩ := o.kb k2 fun _ _ h => h
  have j := o.put F2 k2 (fun _ _ h => h) O2 e2 (AnsP.plain _ _ _ h1 h2 h3)
  have e : (CB (answC { a with e := 0 } (.slice none 0 0) (.slice none 0 0) (.slice none 0 0)) T.impl_Answer) = CB ansZ T.impl_Answer := by
    show CB [.int .i64 0, .int .i64 a.n, .int .i64 a.off, _, _, _] _ = _
    rw [h4, h5]
  rw [e, setb_same g3] at j
  exact j
end
end Go.Proofs.YteblpejgenehfaaDoor.X
end
section
namespace Go.Proofs.YteblpejgenehfaaDoor.X
open Go Go.X Go.Proofs Go.RowKit
structure UU (w : World) (B u f1 d1 : Nat) (v1 : Value) (s1 : FX) (f2 d2 : Nat) (v2 : Value) (s2 : FX) : Prop where
  l : FH w B f1 d1 v1 s1
  b : FH w B f2 d2 v2 s2
  sep : ∀ k, Of f1 d1 v1 k → ¬ Of f2 d2 v2 k
  hu : B ≤ u
  bu : bk w u = some (CB [pt f2 0, pt f1 0, .int .i64 0, .slice none 0 0] T.afero_UnionFile)
  n1 : ¬ Of f1 d1 v1 u
  n2 : ¬ Of f2 d2 v2 u
section
variable {w w' : World} {K : Value → World → Prop} {B u f1 d1 f2 d2 : Nat} {v1 v2 x : Value} {s1 s2 : FX} {m : Nat → Nat × Nat} {l : List UInt8}
theorem UU.lt (h : UU w B u f1 d1 v1 s1 f2 d2 v2 s2) : u < w.heap.size ∧ (∀ k, Of f1 d1 v1 k → B ≤ k ∧ k < w.heap.size) ∧ (∀ k, Of f2 d2 v2 k → B ≤ k ∧ k < w.heap.size) := by
  refine ⟨bk_lt h.bu, fun k hk => ?_, fun k hk => ?_⟩
  · obtain ⟨a, b⟩ := h.l.lt
    have := h.l.hf
    have := h.l.hd
    rcases hk with rfl | rfl | hk
    · exact ⟨this, a⟩
    · exact ⟨this, b⟩
    · exact own_lt h.l.own k hk
  · obtain ⟨a, b⟩ := h.b.lt
    have := h.b.hf
    have := h.b.hd
    rcases hk with rfl | rfl | hk
    · exact ⟨this, a⟩
    · exact ⟨this, b⟩
    · exact own_lt h.b.own k hk
theorem Of_new {f d : Nat} {v v' : Value} (O : OwnOk w v v') {k : Nat} (h : Of f d v' k) : Of f d v k ∨ w.heap.size ≤ k := by
  rcases h with h | h | h
  · exact .inl (.inl h)
  · exact .inl (.inr (.inl h))
  · rcases O with e | e
    · exact .inl (.inr (.inr (by rw [← e]; exact h)))
    · exact .inr (e k h)
theorem UU.old (h : UU w B u f1 d1 v1 s1 f2 d2 v2 s2) (k : Below w.heap.size w w') : UU w' B u f1 d1 v1 s1 f2 d2 v2 s2 :=
  ⟨h.l.old k, h.b.old k, h.sep, h.hu, (bel_bk k h.lt.1).trans h.bu, h.n1, h.n2⟩
theorem UU.setL (h : UU w B u f1 d1 v1 s1 f2 d2 v2 s2) {v1' : Value} {s1' : FX} (F : FH w' B f1 d1 v1' s1') (k : Kp w w' (Of f1 d1 v1)) (O : OwnOk w v1 v1') : UU w' B u f1 d1 v1' s1' f2 d2 v2 s2 := by
  obtain ⟨a, b, c⟩ := h.lt
  refine ⟨F, h.b.kept k fun x hx e => h.sep x e hx, fun x hx e => ?_, h.hu, (k.block u a h.n1).trans h.bu, fun e => ?_, h.n2⟩
  · rcases Of_new O hx with h1 | h1
    · exact h.sep x h1 e
    · have := (c x e).2; omega
  · rcases Of_new O e with h1 | h1
    · exact h.n1 h1
    · omega
theorem UU.setB (h : UU w B u f1 d1 v1 s1 f2 d2 v2 s2) {v2' : Value} {s2' : FX} (F : FH w' B f2 d2 v2' s2') (k : Kp w w' (Of f2 d2 v2)) (O : OwnOk w v2 v2') : UU w' B u f1 d1 v1 s1 f2 d2 v2' s2' := by
  obtain ⟨a, b, c⟩ := h.lt
  refine ⟨h.l.kept k fun x hx e => h.sep x hx e, F, fun x hx e => ?_, h.hu, (k.block u a h.n2).trans h.bu, h.n1, fun e => ?_⟩
  · rcases Of_new O e with h1 | h1
    · exact h.sep x hx h1
    · have := (b x hx).2; omega
  · rcases Of_new O e with h1 | h1
    · exact h.n2 h1
    · omega
abbrev Of2 (f1 d1 : Nat) (v1 : Value) (f2 d2 : Nat) (v2 : Value) : Nat → Prop := fun k => Of f1 d1 v1 k ∨ Of f2 d2 v2 k
theorem fileNe (L : Value → Prop) (f : Nat) : pu P (oBin .neq T.p_mem_File false true (pt f 0) (.pointer none)) L = L (.bool true) := oNeqP U.p_mem_File _ _ _
theorem errNeN (L : Value → Prop) : pu P (oBin .neq T.error false true .nilIface .nilIface) L = L (.bool false) := oNeqNil Tryd.underlying99 _
theorem errEqN (L : Value → Prop) : pu P (oBin .eql T.error false true .nilIface .nilIface) L = L (.bool true) := oEqlNil Tryd.underlying99 _
theorem errEqI (L : Value → Prop) (t : TypeId) (y : Value) : pu P (oBin .eql T.error false true (.iface t y) .nilIface) L = L (.bool false) := oEqlNil2 Tryd.underlying99 _ _ _ _
theorem errNeI (L : Value → Prop) (t : TypeId) (y : Value) : pu P (oBin .neq T.error false true (.iface t y) .nilIface) L = L (.bool true) := oNeqNil2 Tryd.underlying99 _ _ _ _
def wrU (s1 s2 : FX) (l : List UInt8) : FX × FX × Int × Int :=
  if (wrR s1 l).2.1 = 0 then ((wrR s1 l).1, (wrR s2 l).1, (wrR s2 l).2.1, (wrR s1 l).2.2) else ((wrR s1 l).1, s2, (wrR s1 l).2.1, (wrR s1 l).2.2)
abbrev WrOk (s : FX) (p : Int) (l : List UInt8) : Prop := s.cl = false → s.ro = false → 0 ≤ p ∧ p + l.length ≤ 140737488355328 ∧ s.bytes.length ≤ 140737488355328
abbrev UK (w : World) (B u f1 d1 : Nat) (v1 : Value) (f2 d2 : Nat) (v2 : Value) (s1' s2' : FX) (X : World → Prop) : Prop := ∀ w' v1' v2', UU w' B u f1 d1 v1' s1' f2 d2 v2' s2' → Kp w w' (Of2 f1 d1 v1 f2 d2 v2) → OwnOk w v1 v1' → OwnOk w v2 v2' → X w'
theorem writeU (h : UU w B u f1 d1 v1 s1 f2 d2 v2 s2) (hs : Sn w B m) (hx : BS w x l) (hx1 : ∀ k, x.ownBlock = some k → ¬ Of f1 d1 v1 k) (hx2 : ∀ k, x.ownBlock = some k → ¬ Of f2 d2 v2 k) (o1 : WrOk s1 s1.pos l) (o2 : WrOk s2 s2.pos l)
    (hk : UK w B u f1 d1 v1 f2 d2 v2 (wrU s1 s2 l).1 (wrU s1 s2 l).2.1 fun w' => ∀ y, ErrV w' w.heap.size m (wrU s1 s2 l).2.2.1 y → K (tup [.int .i64 (wrU s1 s2 l).2.2.2, y]) w') : Cl P Fn.afero_UnionFile_Write #[pt u 0, x] w K := by
  apply S_afero_UnionFile_Write
  unfold F_afero_UnionFile_Write
  have bu := h.bu
  obtain ⟨lu, lt1, lt2⟩ := h.lt
  refine jn_with (fun _ _ => False) (fun _ _ _ h => h.elim) ?_
  simp (disch := first | omega | (simp only [sZb, sZa, sZd] <;> omega) | (simp (disch := first | omega | (simp only [sZb, sZa, sZd] <;> omega) | fail) only [go_sem, bu, fileNe]; done) | fail) only [go_sem, dec_t, dec_f, w_u32, w_u64, w_u16, w_u8, w_i64, Int.reduceToNat, Int.reducePow, Nat.reducePow, bu, fileNe]
  refine write_any (m := m) h.l hs hx (fun e => hx1 _ e (.inl rfl)) (fun e => hx1 _ e (.inr (.inl rfl))) o1 fun w1 v1' y U1 K1 O1 e1 => ?_
  have h1 := h.setL U1 K1 O1
  have z1 := K1.size
  simp (disch := first | omega | (simp only [sZb, sZa, sZd] <;> omega) | (simp (disch := first | omega | (simp only [sZb, sZa, sZd] <;> omega) | fail) only [go_sem]; done) | fail) only [go_sem, dec_t, dec_f, w_u32, w_u64, w_u16, w_u8, w_i64, Int.reduceToNat, Int.reducePow, Nat.reducePow]
  refine jn_with (fun t w' => ∃ y v2', t = [y] ∧ UU w' B u f1 d1 v1' (wrU s1 s2 l).1 f2 d2 v2' (wrU s1 s2 l).2.1 ∧ Kp w w' (Of2 f1 d1 v1 f2 d2 v2) ∧ OwnOk w v2 v2' ∧ ErrV w' w.heap.size m (wrU s1 s2 l).2.2.1 y ∧ (wrR s1 l).2.2 = (wrU s1 s2 l).2.2.2) ?_ ?_
  · rintro t e w2 ⟨y, v2', rfl, U2, K2, O2, e2, en⟩
    rw [gs0, en]
    exact hk w2 v1' v2' U2 K2 O1 O2 y e2
  · rcases e1.nil_iff with ⟨he, rfl⟩ | ⟨he, t, z, rfl⟩
    · have bu1 := h1.bu
      simp (disch := first | omega | (simp only [sZb, sZa, sZd] <;> omega) | (simp (disch := first | omega | (simp only [sZb, sZa, sZd] <;> omega) | fail) only [go_sem, bu1, errEqN, fileNe]; done) | fail) only [go_sem, dec_t, dec_f, w_u32, w_u64, w_u16, w_u8, w_i64, Int.reduceToNat, Int.reducePow, Nat.reducePow, bu1, errEqN, fileNe]
      refine write_any (m := m) h1.b (hs.below (h.l.below K1)) (BS_kp hx K1 hx1) (fun e => hx2 _ e (.inl rfl)) (fun e => hx2 _ e (.inr (.inl rfl))) o2 fun w2 v2' y U2 K2 O2 e2 => ?_
      simp (disch := first | omega | (simp only [sZb, sZa, sZd] <;> omega) | (simp (disch := first | omega | (simp only [sZb, sZa, sZd] <;> omega) | fail) only [go_sem]; done) | fail) only [go_sem, dec_t, dec_f, w_u32, w_u64, w_u16, w_u8, w_i64, Int.reduceToNat, Int.reducePow, Nat.reducePow]
      have h2 := h1.setB U2 K2 (by
        rcases O2 with e | e
        · exact .inl e
        · exact .inr e)
      refine ⟨y, v2', rfl, ?_, (Kp_mono K1 fun _ h => .inl h).trans (Kp_mono K2 fun _ h => .inr h) fun _ _ h => h, ?_, ?_, ?_⟩
      · unfold wrU; rw [if_pos he]; exact h2
      · rcases O2 with e | e
        · exact .inl e
        · exact .inr fun k hk => by have := e k hk; omega
      · unfold wrU; rw [if_pos he]; exact e2.less z1
      · unfold wrU; rw [if_pos he]
    · simp (disch := first | omega | (simp only [sZb, sZa, sZd] <;> omega) | (simp (disch := first | omega | (simp only [sZb, sZa, sZd] <;> omega) | fail) only [go_sem, errEqI, fileNe]; done) | fail) only [go_sem, dec_t, dec_f, w_u32, w_u64, w_u16, w_u8, w_i64, Int.reduceToNat, Int.reducePow, Nat.reducePow, errEqI, fileNe]
      refine ⟨_, v2, rfl, ?_, Kp_mono K1 fun _ h => .inl h, .inl rfl, ?_, ?_⟩
      · unfold wrU; rw [if_neg he]; exact h1
      · unfold wrU; rw [if_neg he]; exact e1
      · unfold wrU; rw [if_neg he]
def waU (s1 s2 : FX) (off : Int) (l : List UInt8) : FX × FX × Int × Int :=
  if (wrR { s1 with pos := off } l).2.1 = 0 then ((wrR { s1 with pos := off } l).1, (wrR { s2 with pos := off } l).1, (wrR { s2 with pos := off } l).2.1, (wrR { s1 with pos := off } l).2.2) else ((wrR { s1 with pos := off } l).1, s2, (wrR { s1 with pos := off } l).2.1, (wrR { s1 with pos := off } l).2.2)
theorem writeAtU {off : Int} (h : UU w B u f1 d1 v1 s1 f2 d2 v2 s2) (hs : Sn w B m) (hx : BS w x l) (hx1 : ∀ k, x.ownBlock = some k → ¬ Of f1 d1 v1 k) (hx2 : ∀ k, x.ownBlock = some k → ¬ Of f2 d2 v2 k) (o1 : WrOk s1 off l) (o2 : WrOk s2 off l)
    (hk : UK w B u f1 d1 v1 f2 d2 v2 (waU s1 s2 off l).1 (waU s1 s2 off l).2.1 fun w' => ∀ y, ErrV w' w.heap.size m (waU s1 s2 off l).2.2.1 y → K (tup [.int .i64 (waU s1 s2 off l).2.2.2, y]) w') : Cl P Fn.afero_UnionFile_WriteAt #[pt u 0, x, .int .i64 off] w K := by
  apply S_afero_UnionFile_WriteAt
  unfold F_afero_UnionFile_WriteAt
  have bu := h.bu
  obtain ⟨lu, lt1, lt2⟩ := h.lt
  refine jn_with (fun _ _ => False) (fun _ _ _ h => h.elim) ?_
  simp (disch := first | omega | (simp only [sZb, sZa, sZd] <;> omega) | (simp (disch := first | omega | (simp only [sZb, sZa, sZd] <;> omega) | fail) only [go_sem, bu, fileNe]; done) | fail) only [go_sem, dec_t, dec_f, w_u32, w_u64, w_u16, w_u8, w_i64, Int.reduceToNat, Int.reducePow, Nat.reducePow, bu, fileNe]
  refine writeAt_any (m := m) h.l hs hx (fun e => hx1 _ e (.inl rfl)) (fun e => hx1 _ e (.inr (.inl rfl))) o1 fun w1 v1' y U1 K1 O1 e1 => ?_
  have h1 := h.setL U1 K1 O1
  have z1 := K1.size
  simp (disch := first | omega | (simp only [sZb, sZa, sZd] <;> omega) | (simp (disch := first | omega | (simp only [sZb, sZa, sZd] <;> omega) | fail) only [go_sem]; done) | fail) only [go_sem, dec_t, dec_f, w_u32, w_u64, w_u16, w_u8, w_i64, Int.reduceToNat, Int.reducePow, Nat.reducePow]
  refine jn_with (fun t w' => ∃ y v2', t = [y] ∧ UU w' B u f1 d1 v1' (waU s1 s2 off l).1 f2 d2 v2' (waU s1 s2 off l).2.1 ∧ Kp w w' (Of2 f1 d1 v1 f2 d2 v2) ∧ OwnOk w v2 v2' ∧ ErrV w' w.heap.size m (waU s1 s2 off l).2.2.1 y ∧ (wrR { s1 with pos := off } l).2.2 = (waU s1 s2 off l).2.2.2) ?_ ?_
  · rintro t e w2 ⟨y, v2', rfl, U2, K2, O2, e2, en⟩
    rw [gs0, en]
    exact hk w2 v1' v2' U2 K2 O1 O2 y e2
  · rcases e1.nil_iff with ⟨he, rfl⟩ | ⟨he, t, z, rfl⟩
    · have bu1 := h1.bu
      simp (disch := first | omega | (simp only [sZb, sZa, sZd] <;> omega) | (simp (disch := first | omega | (simp only [sZb, sZa, sZd] <;> omega) | fail) only [go_sem, bu1, errEqN, fileNe]; done) | fail) only [go_sem, dec_t, dec_f, w_u32, w_u64, w_u16, w_u8, w_i64, Int.reduceToNat, Int.reducePow, Nat.reducePow, bu1, errEqN, fileNe]
      refine writeAt_any (m := m) h1.b (hs.below (h.l.below K1)) (BS_kp hx K1 hx1) (fun e => hx2 _ e (.inl rfl)) (fun e => hx2 _ e (.inr (.inl rfl))) o2 fun w2 v2' y U2 K2 O2 e2 => ?_
      simp (disch := first | omega | (simp only [sZb, sZa, sZd] <;> omega) | (simp (disch := first | omega | (simp only [sZb, sZa, sZd] <;> omega) | fail) only [go_sem]; done) | fail) only [go_sem, dec_t, dec_f, w_u32, w_u64, w_u16, w_u8, w_i64, Int.reduceToNat, Int.reducePow, Nat.reducePow]
      have h2 := h1.setB U2 K2 (by
        rcases O2 with e | e
        · exact .inl e
        · exact .inr e)
      refine ⟨y, v2', rfl, ?_, (Kp_mono K1 fun _ h => .inl h).trans (Kp_mono K2 fun _ h => .inr h) fun _ _ h => h, ?_, ?_, ?_⟩
      · unfold waU; rw [if_pos he]; exact h2
      · rcases O2 with e | e
        · exact .inl e
        · exact .inr fun k hk => by have := e k hk; omega
      · unfold waU; rw [if_pos he]; exact e2.less z1
      · unfold waU; rw [if_pos he]
    · simp (disch := first | omega | (simp only [sZb, sZa, sZd] <;> omega) | (simp (disch := first | omega | (simp only [sZb, sZa, sZd] <;> omega) | fail) only [go_sem, errEqI, fileNe]; done) | fail) only [go_sem, dec_t, dec_f, w_u32, w_u64, w_u16, w_u8, w_i64, Int.reduceToNat, Int.reducePow, Nat.reducePow, errEqI, fileNe]
      refine ⟨_, v2, rfl, ?_, Kp_mono K1 fun _ h => .inl h, .inl rfl, ?_, ?_⟩
      · unfold waU; rw [if_neg he]; exact h1
      · unfold waU; rw [if_neg he]; exact e1
      · unfold waU; rw [if_neg he]
def trU (s1 s2 : FX) (n : Int) : FX × FX × Int :=
  if (trR s1 n).2 = 0 then ((trR s1 n).1, (trR s2 n).1, (trR s2 n).2) else ((trR s1 n).1, s2, (trR s1 n).2)
theorem truncU {n : Int} (h : UU w B u f1 d1 v1 s1 f2 d2 v2 s2) (hs : Sn w B m) (hn : n ≤ 281474976710) (b1 : s1.bytes.length ≤ 281474976710) (b2 : s2.bytes.length ≤ 281474976710)
    (hk : UK w B u f1 d1 v1 f2 d2 v2 (trU s1 s2 n).1 (trU s1 s2 n).2.1 fun w' => ∀ y, ErrV w' w.heap.size m (trU s1 s2 n).2.2 y → K y w') : Cl P Fn.afero_UnionFile_Truncate #[pt u 0, .int .i64 n] w K := by
  apply S_afero_UnionFile_Truncate
  unfold F_afero_UnionFile_Truncate
  have bu := h.bu
  obtain ⟨lu, lt1, lt2⟩ := h.lt
  refine jn_with (fun _ _ => False) (fun _ _ _ h => h.elim) ?_
  simp (disch := first | omega | (simp only [sZb, sZa, sZd] <;> omega) | (simp (disch := first | omega | (simp only [sZb, sZa, sZd] <;> omega) | fail) only [go_sem, bu, fileNe]; done) | fail) only [go_sem, dec_t, dec_f, w_u32, w_u64, w_u16, w_u8, w_i64, Int.reduceToNat, Int.reducePow, Nat.reducePow, bu, fileNe]
  refine trunc_any (m := m) h.l hs hn b1 fun w1 v1' y U1 K1 O1 e1 => ?_
  have h1 := h.setL U1 K1 O1
  have z1 := K1.size
  refine jn_with (fun t w' => ∃ y v2', t = [y] ∧ UU w' B u f1 d1 v1' (trU s1 s2 n).1 f2 d2 v2' (trU s1 s2 n).2.1 ∧ Kp w w' (Of2 f1 d1 v1 f2 d2 v2) ∧ OwnOk w v2 v2' ∧ ErrV w' w.heap.size m (trU s1 s2 n).2.2 y) ?_ ?_
  · rintro t e w2 ⟨y, v2', rfl, U2, K2, O2, e2⟩
    rw [gs0]
    exact hk w2 v1' v2' U2 K2 O1 O2 y e2
  · rcases e1.nil_iff with ⟨he, rfl⟩ | ⟨he, t, z, rfl⟩
    · have bu1 := h1.bu
      simp (disch := first | omega | (simp only [sZb, sZa, sZd] <;> omega) | (simp (disch := first | omega | (simp only [sZb, sZa, sZd] <;> omega) | fail) only [go_sem, bu1, errEqN, fileNe]; done) | fail) only [go_sem, dec_t, dec_f, w_u32, w_u64, w_u16, w_u8, w_i64, Int.reduceToNat, Int.reducePow, Nat.reducePow, bu1, errEqN, fileNe]
      refine trunc_any (m := m) h1.b (hs.below (h.l.below K1)) hn b2 fun w2 v2' y U2 K2 O2 e2 => ?_
      have h2 := h1.setB U2 K2 (by
        rcases O2 with e | e
        · exact .inl e
        · exact .inr e)
      refine ⟨y, v2', rfl, ?_, (Kp_mono K1 fun _ h => .inl h).trans (Kp_mono K2 fun _ h => .inr h) fun _ _ h => h, ?_, ?_⟩
      · unfold trU; rw [if_pos he]; exact h2
      · rcases O2 with e | e
        · exact .inl e
        · exact .inr fun k hk => by have := e k hk; omega
      · unfold trU; rw [if_pos he]; exact e2.less z1
    · simp (disch := first | omega | (simp only [sZb, sZa, sZd] <;> omega) | (simp (disch := first | omega | (simp only [sZb, sZa, sZd] <;> omega) | fail) only [go_sem, errEqI, fileNe]; done) | fail) only [go_sem, dec_t, dec_f, w_u32, w_u64, w_u16, w_u8, w_i64, Int.reduceToNat, Int.reducePow, Nat.reducePow, errEqI, fileNe]
      refine ⟨_, v2, rfl, ?_, Kp_mono K1 fun _ h => .inl h, .inl rfl, ?_⟩
      · unfold trU; rw [if_neg he]; exact h1
      · unfold trU; rw [if_neg he]; exact e1
theorem closeU (h : UU w B u f1 d1 v1 s1 f2 d2 v2 s2) (hk : UK w B u f1 d1 v1 f2 d2 v2 (clR s1) (clR s2) fun w' => K .nilIface w') : Cl P Fn.afero_UnionFile_Close #[pt u 0] w K := by
  apply S_afero_UnionFile_Close
  unfold F_afero_UnionFile_Close
  have bu := h.bu
  obtain ⟨lu, lt1, lt2⟩ := h.lt
  refine jn_with (fun t w' => UU w' B u f1 d1 v1 s1 f2 d2 v2 (clR s2) ∧ Kp w w' (Of f2 d2 v2)) ?_ ?_
  · rintro t e w1 ⟨h1, K1⟩
    have bu1 := h1.bu
    obtain ⟨lu1, _, _⟩ := h1.lt
    refine jn_with (fun _ _ => False) (fun _ _ _ h => h.elim) ?_
    simp (disch := first | omega | (simp only [sZb, sZa, sZd] <;> omega) | (simp (disch := first | omega | (simp only [sZb, sZa, sZd] <;> omega) | fail) only [go_sem, bu1, fileNe]; done) | fail) only [go_sem, dec_t, dec_f, w_u32, w_u64, w_u16, w_u8, w_i64, Int.reduceToNat, Int.reducePow, Nat.reducePow, bu1, fileNe]
    refine close_any h1.l fun w2 U2 K2 => ?_
    have h2 := h1.setL U2 K2 (.inl rfl)
    exact hk w2 v1 v2 h2 ((Kp_mono K1 fun _ h => .inr h).trans (Kp_mono K2 fun _ h => .inl h) fun _ _ h => h) (.inl rfl) (.inl rfl)
  · simp (disch := first | omega | (simp only [sZb, sZa, sZd] <;> omega) | (simp (disch := first | omega | (simp only [sZb, sZa, sZd] <;> omega) | fail) only [go_sem, bu, fileNe]; done) | fail) only [go_sem, dec_t, dec_f, w_u32, w_u64, w_u16, w_u8, w_i64, Int.reduceToNat, Int.reducePow, Nat.reducePow, bu, fileNe]
    refine close_any h.b fun w1 U1 K1 => ?_
    exact ⟨h.setB U1 K1 (.inl rfl), K1⟩
theorem syncU (h : UU w B u f1 d1 v1 s1 f2 d2 v2 s2) (hk : K .nilIface w) : Cl P Fn.afero_UnionFile_Sync #[pt u 0] w K := by
  apply S_afero_UnionFile_Sync
  unfold F_afero_UnionFile_Sync
  have bu := h.bu
  obtain ⟨lu, lt1, lt2⟩ := h.lt
  refine jn_with (fun _ _ => False) (fun _ _ _ h => h.elim) ?_
  simp (disch := first | omega | (simp only [sZb, sZa, sZd] <;> omega) | (simp (disch := first | omega | (simp only [sZb, sZa, sZd] <;> omega) | fail) only [go_sem, bu, fileNe]; done) | fail) only [go_sem, dec_t, dec_f, w_u32, w_u64, w_u16, w_u8, w_i64, Int.reduceToNat, Int.reducePow, Nat.reducePow, bu, fileNe]
  refine sync_any ?_
  refine jn_with (fun t w' => t = [.nilIface] ∧ w' = w) ?_ ?_
  · rintro t e w2 ⟨rfl, rfl⟩
    exact hk
  · simp (disch := first | omega | (simp only [sZb, sZa, sZd] <;> omega) | (simp (disch := first | omega | (simp only [sZb, sZa, sZd] <;> omega) | fail) only [go_sem, bu, errEqN, fileNe]; done) | fail) only [go_sem, dec_t, dec_f, w_u32, w_u64, w_u16, w_u8, w_i64, Int.reduceToNat, Int.reducePow, Nat.reducePow, bu, errEqN, fileNe]
    refine sync_any ?_
    exact ⟨rfl, rfl⟩
theorem statU (h : UU w B u f1 d1 v1 s1 f2 d2 v2 s2) (hk : K (tup [pt w.heap.size 0, .nilIface]) (w.alloc (CB [pt d1 0] T.mem_FileInfo))) : Cl P Fn.afero_UnionFile_Stat #[pt u 0] w K := by
  apply S_afero_UnionFile_Stat
  unfold F_afero_UnionFile_Stat
  have bu := h.bu
  obtain ⟨lu, lt1, lt2⟩ := h.lt
  refine jn_with (fun _ _ => False) (fun _ _ _ h => h.elim) ?_
  simp (disch := first | omega | (simp only [sZb, sZa, sZd] <;> omega) | (simp (disch := first | omega | (simp only [sZb, sZa, sZd] <;> omega) | fail) only [go_sem, bu, fileNe]; done) | fail) only [go_sem, dec_t, dec_f, w_u32, w_u64, w_u16, w_u8, w_i64, Int.reduceToNat, Int.reducePow, Nat.reducePow, bu, fileNe]
  refine stat_any h.l ?_
  simp (disch := first | omega | (simp only [sZb, sZa, sZd] <;> omega) | (simp (disch := first | omega | (simp only [sZb, sZa, sZd] <;> omega) | fail) only [go_sem]; done) | fail) only [go_sem, dec_t, dec_f, w_u32, w_u64, w_u16, w_u8, w_i64, Int.reduceToNat, Int.reducePow, Nat.reducePow]
  exact hk
theorem nameU (h : UU w B u f1 d1 v1 s1 f2 d2 v2 s2) (hk : K (S s1.nm) w) : Cl P Fn.afero_UnionFile_Name #[pt u 0] w K := by
  apply S_afero_UnionFile_Name
  unfold F_afero_UnionFile_Name
  have bu := h.bu
  obtain ⟨lu, lt1, lt2⟩ := h.lt
  refine jn_with (fun _ _ => False) (fun _ _ _ h => h.elim) ?_
  simp (disch := first | omega | (simp only [sZb, sZa, sZd] <;> omega) | (simp (disch := first | omega | (simp only [sZb, sZa, sZd] <;> omega) | fail) only [go_sem, bu, fileNe]; done) | fail) only [go_sem, dec_t, dec_f, w_u32, w_u64, w_u16, w_u8, w_i64, Int.reduceToNat, Int.reducePow, Nat.reducePow, bu, fileNe]
  exact name_any h.l hk
theorem readdirU {n : Int} (h : UU w B u f1 d1 v1 s1 f2 d2 v2 s2) (hd : s1.dir = false) (hk : ∀ w' y, Below w.heap.size w w' → ErrV w' w.heap.size m 8 y → K (tup [.slice none 0 0, y]) w') : Cl P Fn.afero_UnionFile_Readdir #[pt u 0, .int .i64 n] w K := by
  apply S_afero_UnionFile_Readdir
  unfold F_afero_UnionFile_Readdir
  have bu := h.bu
  obtain ⟨lu, lt1, lt2⟩ := h.lt
  refine jn_with (fun _ _ => False) (fun _ _ _ h => h.elim) ?_
  simp (disch := first | omega | (simp only [sZb, sZa, sZd] <;> omega) | (simp (disch := first | omega | (simp only [sZb, sZa, sZd] <;> omega) | fail) only [go_sem, bu]; done) | fail) only [go_sem, dec_t, dec_f, w_u32, w_u64, w_u16, w_u8, w_i64, Int.reduceToNat, Int.reducePow, Nat.reducePow, bu]
  refine jn_with (fun _ _ => False) (fun _ _ _ h => h.elim) ?_
  simp (disch := first | omega | (simp only [sZb, sZa, sZd] <;> omega) | (simp (disch := first | omega | (simp only [sZb, sZa, sZd] <;> omega) | fail) only [go_sem, bu, fileNe]; done) | fail) only [go_sem, dec_t, dec_f, w_u32, w_u64, w_u16, w_u8, w_i64, Int.reduceToNat, Int.reducePow, Nat.reducePow, bu, fileNe]
  refine readdir_file (m := m) h.l hd fun w1 y B1 e1 => ?_
  rcases e1.nil_iff with ⟨he, _⟩ | ⟨he, t, z, rfl⟩
  · cases he
  · simp (disch := first | omega | (simp only [sZb, sZa, sZd] <;> omega) | (simp (disch := first | omega | (simp only [sZb, sZa, sZd] <;> omega) | fail) only [go_sem, errNeI]; done) | fail) only [go_sem, dec_t, dec_f, w_u32, w_u64, w_u16, w_u8, w_i64, Int.reduceToNat, Int.reducePow, Nat.reducePow, errNeI]
    exact hk w1 _ B1 e1
theorem namesU {n : Int} (h : UU w B u f1 d1 v1 s1 f2 d2 v2 s2) (hd : s1.dir = false) (hk : ∀ w' y, Below w.heap.size w w' → ErrV w' w.heap.size m 8 y → K (tup [.slice none 0 0, y]) w') : Cl P Fn.afero_UnionFile_Readdirnames #[pt u 0, .int .i64 n] w K := by
  apply S_afero_UnionFile_Readdirnames
  unfold F_afero_UnionFile_Readdirnames
  rw [C.afero_UnionFile_Readdir]
  refine readdirU (m := m) h hd fun w1 y B1 e1 => ?_
  rcases e1.nil_iff with ⟨he, _⟩ | ⟨he, t, z, rfl⟩
  · cases he
  · simp (disch := first | omega | (simp only [sZb, sZa, sZd] <;> omega) | (simp (disch := first | omega | (simp only [sZb, sZa, sZd] <;> omega) | fail) only [go_sem]; done) | fail) only [go_sem, dec_t, dec_f, w_u32, w_u64, w_u16, w_u8, w_i64, Int.reduceToNat, Int.reducePow, Nat.reducePow]
    refine jn_with (fun _ _ => False) (fun _ _ _ h => h.elim) ?_
    simp (disch := first | omega | (simp only [sZb, sZa, sZd] <;> omega) | (simp (disch := first | omega | (simp only [sZb, sZa, sZd] <;> omega) | fail) only [go_sem, errNeI]; done) | fail) only [go_sem, dec_t, dec_f, w_u32, w_u64, w_u16, w_u8, w_i64, Int.reduceToNat, Int.reducePow, Nat.reducePow, errNeI]
    exact hk w1 _ B1 e1
theorem ErrV.few {w : World} {C : Nat} {e : Int} {x : Value} (h : ErrV w C m e x) (he : e = 3 ∨ e = 4 ∨ e = 5) : ∃ g ∈ sents, x = er (m g) ∧ (decide (g = G.io_EOF) = decide (e = 4)) := by
  rcases h with ⟨h, _⟩ | ⟨g, hg, hx, h⟩ | ⟨g, hg, op, hp, h⟩ | ⟨op, q, hp, hq, h⟩
  · omega
  · refine ⟨g, hg, hx, ?_⟩
    subst h
    simp only [sents, List.mem_cons, List.not_mem_nil, or_false] at hg
    rcases hg with h | h | h | h | h | h | h | h | h | h | h <;> (subst h; decide)
  · subst h
    exfalso
    simp only [four, List.mem_cons, List.not_mem_nil, or_false] at hg
    rcases hg with h | h | h | h <;> (subst h; revert he; decide)
  · subst h
    exfalso
    unfold opCode at he
    split at he
    · omega
    · split at he <;> omega
def skU (s1 s2 : FX) (off wh : Int) : FX × FX × Int × Int :=
  if (skR s1 off wh).2.1 = 0 then ((skR s1 off wh).1, (skR s2 off wh).1, (skR s2 off wh).2.1, (skR s1 off wh).2.2) else ((skR s1 off wh).1, s2, (skR s1 off wh).2.1, (skR s1 off wh).2.2)
abbrev I62 (x : Int) : Prop := -4611686018427387904 ≤ x ∧ x ≤ 4611686018427387903
theorem skR_err (s : FX) (off wh : Int) : (skR s off wh).2.1 = 0 ∨ (skR s off wh).2.1 = 3 := by
  unfold skR
  split
  · exact .inr rfl
  · exact .inl rfl
theorem seekU {off wh : Int} (h : UU w B u f1 d1 v1 s1 f2 d2 v2 s2) (hs : Sn w B m) (ho : I62 off) (p1 : I62 s1.pos) (p2 : I62 s2.pos) (b1 : s1.bytes.length ≤ 4611686018427387903) (b2 : s2.bytes.length ≤ 4611686018427387903)
    (hk : UK w B u f1 d1 v1 f2 d2 v2 (skU s1 s2 off wh).1 (skU s1 s2 off wh).2.1 fun w' => ∀ y, ErrV w' w.heap.size m (skU s1 s2 off wh).2.2.1 y → K (tup [.int .i64 (skU s1 s2 off wh).2.2.2, y]) w') : Cl P Fn.afero_UnionFile_Seek #[pt u 0, .int .i64 off, .int .i64 wh] w K := by
  apply S_afero_UnionFile_Seek
  unfold F_afero_UnionFile_Seek
  have bu := h.bu
  obtain ⟨lu, lt1, lt2⟩ := h.lt
  refine jn_with (fun _ _ => False) (fun _ _ _ h => h.elim) ?_
  simp (disch := first | omega | (simp only [sZb, sZa, sZd] <;> omega) | (simp (disch := first | omega | (simp only [sZb, sZa, sZd] <;> omega) | fail) only [go_sem, bu, fileNe]; done) | fail) only [go_sem, dec_t, dec_f, w_u32, w_u64, w_u16, w_u8, w_i64, Int.reduceToNat, Int.reducePow, Nat.reducePow, bu, fileNe]
  refine seek_any (m := m) h.l hs ho p1 b1 fun w1 y U1 K1 e1 => ?_
  have h1 := h.setL U1 K1 (.inl rfl)
  have z1 := K1.size
  have hs1 : Sn w1 B m := hs.below (h.l.below K1)
  simp (disch := first | omega | (simp only [sZb, sZa, sZd] <;> omega) | (simp (disch := first | omega | (simp only [sZb, sZa, sZd] <;> omega) | fail) only [go_sem]; done) | fail) only [go_sem, dec_t, dec_f, w_u32, w_u64, w_u16, w_u8, w_i64, Int.reduceToNat, Int.reducePow, Nat.reducePow]
  refine jn_with (fun t w' => ∃ y, t = [y] ∧ UU w' B u f1 d1 v1 (skU s1 s2 off wh).1 f2 d2 v2 (skU s1 s2 off wh).2.1 ∧ Kp w w' (Of2 f1 d1 v1 f2 d2 v2) ∧ ErrV w' w.heap.size m (skU s1 s2 off wh).2.2.1 y ∧ (skR s1 off wh).2.2 = (skU s1 s2 off wh).2.2.2) ?_ ?_
  · rintro t e w2 ⟨y, rfl, U2, K2, e2, en⟩
    rw [gs0, en]
    exact hk w2 v1 v2 U2 K2 (.inl rfl) (.inl rfl) y e2
  · by_cases he : (skR s1 off wh).2.1 = 0
    · rcases e1.nil_iff with ⟨_, rfl⟩ | ⟨he', _⟩
      · have bu1 := h1.bu
        simp (disch := first | omega | (simp only [sZb, sZa, sZd] <;> omega) | (simp (disch := first | omega | (simp only [sZb, sZa, sZd] <;> omega) | fail) only [go_sem, bu1, errEqN, fileNe]; done) | fail) only [go_sem, dec_t, dec_f, w_u32, w_u64, w_u16, w_u8, w_i64, Int.reduceToNat, Int.reducePow, Nat.reducePow, bu1, errEqN, fileNe]
        refine seek_any (m := m) h1.b hs1 ho p2 b2 fun w2 y U2 K2 e2 => ?_
        simp (disch := first | omega | (simp only [sZb, sZa, sZd] <;> omega) | (simp (disch := first | omega | (simp only [sZb, sZa, sZd] <;> omega) | fail) only [go_sem]; done) | fail) only [go_sem, dec_t, dec_f, w_u32, w_u64, w_u16, w_u8, w_i64, Int.reduceToNat, Int.reducePow, Nat.reducePow]
        have h2 := h1.setB U2 K2 (.inl rfl)
        refine ⟨y, rfl, ?_, (Kp_mono K1 fun _ h => .inl h).trans (Kp_mono K2 fun _ h => .inr h) fun _ _ h => h, ?_, ?_⟩
        · unfold skU; rw [if_pos he]; exact h2
        · unfold skU; rw [if_pos he]; exact e2.less z1
        · unfold skU; rw [if_pos he]
      · exact absurd he he'
    · have he3 := (skR_err s1 off wh).resolve_left he
      obtain ⟨g, hg, rfl, hq⟩ := e1.few (.inl he3)
      have ldE : ∀ L : Value → World → Prop, st P (oLoad T.error (.pointer (some ⟨G.io_EOF, 0, none⟩))) w1 L = L (er (m G.io_EOF)) w1 := fun L => hs1.load (by decide) L
      have eqE : ∀ L : Value → World → Prop, st P (oBin .eql T.error false false (er (m g)) (er (m G.io_EOF))) w1 L = L (.bool false) w1 := fun L => by
        rw [hs1.eql hg (by decide), hq, he3]; rfl
      simp (disch := first | omega | (simp only [sZb, sZa, sZd] <;> omega) | (simp (disch := first | omega | (simp only [sZb, sZa, sZd] <;> omega) | fail) only [go_sem, errEqI, fileNe, ldE, eqE]; done) | fail) only [go_sem, dec_t, dec_f, w_u32, w_u64, w_u16, w_u8, w_i64, Int.reduceToNat, Int.reducePow, Nat.reducePow, errEqI, fileNe, ldE, eqE]
      refine ⟨_, rfl, ?_, Kp_mono K1 fun _ h => .inl h, ?_, ?_⟩
      · unfold skU; rw [if_neg he]; exact h1
      · unfold skU; rw [if_neg he]; exact e1
      · unfold skU; rw [if_neg he]
theorem rdR_err (s : FX) (n : Nat) : (rdR s n).2.2 = 0 ∨ (rdR s n).2.2 = 3 ∨ (rdR s n).2.2 = 4 ∨ (rdR s n).2.2 = 5 := by
  unfold rdR
  split
  · exact .inr (.inl rfl)
  · rcases rdX_err s n with h | h | h <;> rw [h] <;> simp
def rdU (s1 s2 : FX) (n : Nat) : FX × FX × List UInt8 × Int :=
  if (rdR s1 n).2.2 = 0 ∨ (rdR s1 n).2.2 = 4 then ((rdR s1 n).1, (skR s2 (rdR s1 n).2.1.length 1).1, (rdR s1 n).2.1, if (skR s2 (rdR s1 n).2.1.length 1).2.1 = 0 then (rdR s1 n).2.2 else (skR s2 (rdR s1 n).2.1.length 1).2.1)
  else ((rdR s1 n).1, s2, (rdR s1 n).2.1, (rdR s1 n).2.2)
set_option maxHeartbeats 1000000 in
theorem readU {b n : Nat} (h : UU w B u f1 d1 v1 s1 f2 d2 v2 s2) (hs : Sn w B m) (q1 : s1.cl = false → 0 ≤ s1.pos ∧ s1.pos ≤ 4611686018427387903) (p2 : I62 s2.pos) (b1 : s1.bytes.length ≤ 281474976710656) (b2 : s2.bytes.length ≤ 4611686018427387903) (hn : n ≤ 281474976710656)
    (hb : bk w b = some (CB (List.replicate n (.int .u8 0)) T.uint8)) (hb1 : ¬ Of f1 d1 v1 b) (hb2 : ¬ Of f2 d2 v2 b) (hbu : b ≠ u) (hbB : B ≤ b)
    (hk : ∀ w' y, UU w' B u f1 d1 v1 (rdU s1 s2 n).1 f2 d2 v2 (rdU s1 s2 n).2.1 → Kp w w' (fun k => Of2 f1 d1 v1 f2 d2 v2 k ∨ k = b) → bk w' b = some (CB ((rdU s1 s2 n).2.2.1.map byt ++ List.replicate (n - (rdU s1 s2 n).2.2.1.length) (.int .u8 0)) T.uint8) → ErrV w' w.heap.size m (rdU s1 s2 n).2.2.2 y → K (tup [.int .i64 (rdU s1 s2 n).2.2.1.length, y]) w') :
    Cl P Fn.afero_UnionFile_Read #[pt u 0, sl b 0 n n] w K := by
  apply S_afero_UnionFile_Read
  unfold F_afero_UnionFile_Read
  have bu := h.bu
  obtain ⟨lu, lt1, lt2⟩ := h.lt
  have hbl := bk_lt hb
  refine jn_with (fun _ _ => False) (fun _ _ _ h => h.elim) ?_
  simp (disch := first | omega | (simp only [sZb, sZa, sZd] <;> omega) | (simp (disch := first | omega | (simp only [sZb, sZa, sZd] <;> omega) | fail) only [go_sem, bu, fileNe]; done) | fail) only [go_sem, dec_t, dec_f, w_u32, w_u64, w_u16, w_u8, w_i64, Int.reduceToNat, Int.reducePow, Nat.reducePow, bu, fileNe]
  refine read_any (m := m) h.l hs q1 b1 hn hb (fun e => hb1 (.inl e)) (fun e => hb1 (.inr (.inl e))) (fun e => hb1 (.inr (.inr e))) fun w1 y U1 K1 c1 e1 => ?_
  have K1' : Kp w w1 (fun k => Of2 f1 d1 v1 f2 d2 v2 k ∨ k = b) := Kp_mono K1 fun x e => by
    rcases e with e | e
    · exact .inl (.inl (.inl e))
    · exact .inr e
  have hB2 : FH w1 B f2 d2 v2 s2 := h.b.kept K1 fun x hx e => by
    rcases e with e | e
    · exact h.sep x (.inl e) hx
    · exact hb2 (by rw [← e]; exact hx)
  have h1 : UU w1 B u f1 d1 v1 (rdR s1 n).1 f2 d2 v2 s2 := ⟨U1, hB2, h.sep, h.hu, (K1.block u lu fun e => by
    rcases e with e | e
    · exact h.n1 (.inl e)
    · exact hbu e.symm).trans h.bu, h.n1, h.n2⟩
  have z1 := K1.size
  have hle : (rdR s1 n).2.1.length ≤ n := rdR_len s1 n
  have hs1 : Sn w1 B m := hs.below (K1.below (fun x hx e => by
    rcases e with e | e
    · have := h.l.hf; omega
    · omega) (by have := h.l.hf; have := h.l.lt.1; omega))
  simp (disch := first | omega | (simp only [sZb, sZa, sZd] <;> omega) | (simp (disch := first | omega | (simp only [sZb, sZa, sZd] <;> omega) | fail) only [go_sem]; done) | fail) only [go_sem, dec_t, dec_f, w_u32, w_u64, w_u16, w_u8, w_i64, Int.reduceToNat, Int.reducePow, Nat.reducePow]
  refine jn_with (fun t w' => ∃ y, t = [y] ∧ UU w' B u f1 d1 v1 (rdU s1 s2 n).1 f2 d2 v2 (rdU s1 s2 n).2.1 ∧ Kp w w' (fun k => Of2 f1 d1 v1 f2 d2 v2 k ∨ k = b) ∧ bk w' b = some (CB ((rdU s1 s2 n).2.2.1.map byt ++ List.replicate (n - (rdU s1 s2 n).2.2.1.length) (.int .u8 0)) T.uint8) ∧ ErrV w' w.heap.size m (rdU s1 s2 n).2.2.2 y ∧ (rdR s1 n).2.1 = (rdU s1 s2 n).2.2.1) ?_ ?_
  · rintro t e w2 ⟨y, rfl, U2, K2, c2, e2, en⟩
    rw [gs0, en]
    exact hk w2 y U2 K2 c2 e2
  · have bu1 := h1.bu
    -- what the base's seeking comes to
    have fin : ((rdR s1 n).2.2 = 0 ∨ (rdR s1 n).2.2 = 4) → ∀ w2 z, FH w2 B f2 d2 v2 (skR s2 (rdR s1 n).2.1.length 1).1 → Kp w1 w2 (Of f2 d2 v2) → ErrV w2 w1.heap.size m (skR s2 (rdR s1 n).2.1.length 1).2.1 z →
        UU w2 B u f1 d1 v1 (rdU s1 s2 n).1 f2 d2 v2 (rdU s1 s2 n).2.1 ∧ Kp w w2 (fun k => Of2 f1 d1 v1 f2 d2 v2 k ∨ k = b) ∧ bk w2 b = some (CB ((rdU s1 s2 n).2.2.1.map byt ++ List.replicate (n - (rdU s1 s2 n).2.2.1.length) (.int .u8 0)) T.uint8) ∧ ErrV w2 w.heap.size m (rdU s1 s2 n).2.2.2 (if (skR s2 (rdR s1 n).2.1.length 1).2.1 = 0 then y else z) ∧ (rdR s1 n).2.1 = (rdU s1 s2 n).2.2.1 := by
      intro he w2 z U2 K2 e2
      have h2 := h1.setB U2 K2 (.inl rfl)
      unfold rdU
      rw [if_pos he]
      refine ⟨h2, K1'.trans (Kp_mono K2 fun _ h => .inl (.inr h)) fun _ _ h => h, ?_, ?_, rfl⟩
      · rw [K2.block b (by omega) hb2]; exact c1
      · show ErrV w2 w.heap.size m (if _ then _ else _) _
        by_cases hz : (skR s2 (rdR s1 n).2.1.length 1).2.1 = 0
        · rw [if_pos hz, if_pos hz]
          exact e1.kp (Kp_sub K2 fun x _ h => h) fun k hk1 hk2 e => by
            have := (lt2 k e).2; omega
        · rw [if_neg hz, if_neg hz]
          exact e2.less z1
    have len62 : I62 ((rdR s1 n).2.1.length : Int) := ⟨by omega, by omega⟩
    by_cases he0 : (rdR s1 n).2.2 = 0
    · rcases e1.nil_iff with ⟨_, rfl⟩ | ⟨he', _⟩
      · simp (disch := first | omega | (simp only [sZb, sZa, sZd] <;> omega) | (simp (disch := first | omega | (simp only [sZb, sZa, sZd] <;> omega) | fail) only [go_sem, bu1, errEqN, fileNe]; done) | fail) only [go_sem, dec_t, dec_f, w_u32, w_u64, w_u16, w_u8, w_i64, Int.reduceToNat, Int.reducePow, Nat.reducePow, bu1, errEqN, fileNe]
        refine seek_any (m := m) h1.b hs1 len62 p2 b2 fun w2 z U2 K2 e2 => ?_
        have g := fin (.inl he0) w2 z U2 K2 e2
        rcases e2.nil_iff with ⟨hz, rfl⟩ | ⟨hz, t, z', rfl⟩
        · simp (disch := first | omega | (simp only [sZb, sZa, sZd] <;> omega) | (simp (disch := first | omega | (simp only [sZb, sZa, sZd] <;> omega) | fail) only [go_sem, errNeN]; done) | fail) only [go_sem, dec_t, dec_f, w_u32, w_u64, w_u16, w_u8, w_i64, Int.reduceToNat, Int.reducePow, Nat.reducePow, errNeN]
          rw [if_pos hz] at g
          exact ⟨_, rfl, g⟩
        · simp (disch := first | omega | (simp only [sZb, sZa, sZd] <;> omega) | (simp (disch := first | omega | (simp only [sZb, sZa, sZd] <;> omega) | fail) only [go_sem, errNeI]; done) | fail) only [go_sem, dec_t, dec_f, w_u32, w_u64, w_u16, w_u8, w_i64, Int.reduceToNat, Int.reducePow, Nat.reducePow, errNeI]
          rw [if_neg hz] at g
          exact ⟨_, rfl, g⟩
      · exact absurd he0 he'
    · have he3 := (rdR_err s1 n).resolve_left he0
      obtain ⟨g, hg, rfl, hq⟩ := e1.few he3
      have ldE : ∀ L : Value → World → Prop, st P (oLoad T.error (.pointer (some ⟨G.io_EOF, 0, none⟩))) w1 L = L (er (m G.io_EOF)) w1 := fun L => hs1.load (by decide) L
      have eqE : ∀ L : Value → World → Prop, st P (oBin .eql T.error false false (er (m g)) (er (m G.io_EOF))) w1 L = L (.bool (decide ((rdR s1 n).2.2 = 4))) w1 := fun L => by
        rw [hs1.eql hg (by decide), hq]
      by_cases he4 : (rdR s1 n).2.2 = 4
      · have eqE' : ∀ L : Value → World → Prop, st P (oBin .eql T.error false false (er (m g)) (er (m G.io_EOF))) w1 L = L (.bool true) w1 := fun L => by rw [eqE, he4]; rfl
        simp (disch := first | omega | (simp only [sZb, sZa, sZd] <;> omega) | (simp (disch := first | omega | (simp only [sZb, sZa, sZd] <;> omega) | fail) only [go_sem, errEqI, fileNe, ldE, eqE', bu1]; done) | fail) only [go_sem, dec_t, dec_f, w_u32, w_u64, w_u16, w_u8, w_i64, Int.reduceToNat, Int.reducePow, Nat.reducePow, errEqI, fileNe, ldE, eqE', bu1]
        refine seek_any (m := m) h1.b hs1 len62 p2 b2 fun w2 z U2 K2 e2 => ?_
        have g := fin (.inr he4) w2 z U2 K2 e2
        rcases e2.nil_iff with ⟨hz, rfl⟩ | ⟨hz, t, z', rfl⟩
        · simp (disch := first | omega | (simp only [sZb, sZa, sZd] <;> omega) | (simp (disch := first | omega | (simp only [sZb, sZa, sZd] <;> omega) | fail) only [go_sem, errNeN]; done) | fail) only [go_sem, dec_t, dec_f, w_u32, w_u64, w_u16, w_u8, w_i64, Int.reduceToNat, Int.reducePow, Nat.reducePow, errNeN]
          rw [if_pos hz] at g
          exact ⟨_, rfl, g⟩
        · simp (disch := first | omega | (simp only [sZb, sZa, sZd] <;> omega) | (simp (disch := first | omega | (simp only [sZb, sZa, sZd] <;> omega) | fail) only [go_sem, errNeI]; done) | fail) only [go_sem, dec_t, dec_f, w_u32, w_u64, w_u16, w_u8, w_i64, Int.reduceToNat, Int.reducePow, Nat.reducePow, errNeI]
          rw [if_neg hz] at g
          exact ⟨_, rfl, g⟩
      · have eqE' : ∀ L : Value → World → Prop, st P (oBin .eql T.error false false (er (m g)) (er (m G.io_EOF))) w1 L = L (.bool false) w1 := fun L => by rw [eqE, decide_eq_false he4]
        simp (disch := first | omega | (simp only [sZb, sZa, sZd] <;> omega) | (simp (disch := first | omega | (simp only [sZb, sZa, sZd] <;> omega) | fail) only [go_sem, errEqI, fileNe, ldE, eqE', bu1]; done) | fail) only [go_sem, dec_t, dec_f, w_u32, w_u64, w_u16, w_u8, w_i64, Int.reduceToNat, Int.reducePow, Nat.reducePow, errEqI, fileNe, ldE, eqE', bu1]
        have hno : ¬ ((rdR s1 n).2.2 = 0 ∨ (rdR s1 n).2.2 = 4) := fun h => by rcases h with h | h; exact he0 h; exact he4 h
        unfold rdU
        rw [if_neg hno]
        exact ⟨_, rfl, h1, K1', c1, e1, rfl⟩
end
end Go.Proofs.YteblpejgenehfaaDoor.X
end
section
namespace Go.Proofs.YteblpejgenehfaaDoor.X
open Go Go.X Go.Proofs Go.RowKit
structure AnS (w w1 : World) (B : Nat) (R : Nat → Prop) (m : Nat → Nat × Nat) (q : SM.Stp) (x : Value) : Prop where
  sn : Sn w1 B m
  hB : B ≤ w.heap.size
  b0 : Below w.heap.size w w1
  sz : w1.heap.size = w.heap.size + 3
  bs : bk w1 w.heap.size = some (CB (stepC q x) T.impl_Step)
  b4 : bk w1 (w.heap.size + 1) = some (CB ansZ T.impl_Answer)
  b5 : bk w1 (w.heap.size + 1 + 1) = some (CB ansZ T.impl_Answer)
  lR : ∀ k, R k → B ≤ k ∧ k < w.heap.size
def Loc (X : World → (Nat → Prop) → Prop) : Prop := ∀ w w' U k, X w U → Kp w w' (fun b => b = k) → ¬ U k → X w' U
def AnJ (w : World) (B : Nat) (R : Nat → Prop) (m : Nat → Nat × Nat) (X : World → (Nat → Prop) → Prop) (a : SM.Ans) (t : List Value) (w' : World) : Prop :=
  ∃ y x1 x2 x3 U, t = [y] ∧ X w' U ∧ Kp w w' R ∧ (∀ k, U k → R k ∨ w.heap.size + 3 ≤ k) ∧
    bk w' (w.heap.size + 1 + 1) = some (CB (answC { a with e := 0 } x1 x2 x3) T.impl_Answer) ∧ bk w' (w.heap.size + 1) = some (CB ansZ T.impl_Answer) ∧ AnsP w' (w.heap.size + 3) U a x1 x2 x3 ∧ ErrV w' (w.heap.size + 3) m a.e y ∧ Sn w' B m
abbrev AnK (w : World) (R : Nat → Prop) (X : World → (Nat → Prop) → Prop) (a : SM.Ans) (K : Value → World → Prop) : Prop := ∀ w' U c, X w' U → Kp w w' R → (∀ k, U k → R k ∨ w.heap.size ≤ k) → AnsN w' w.heap.size U a c → K (AG c) w'
section
variable {w w1 : World} {K : Value → World → Prop} {B : Nat} {R : Nat → Prop} {X : World → (Nat → Prop) → Prop} {m : Nat → Nat × Nat} {q : SM.Stp} {x : Value}
theorem AnS.nR (o : AnS w w1 B R m q x) {k : Nat} (hk : w.heap.size ≤ k) : ¬ R k := fun e => by have := (o.lR k e).2; omega
theorem AnS.kb (o : AnS w w1 B R m q x) {w2 : World} {R' : Nat → Prop} (k2 : Kp w1 w2 R') (hR : ∀ x, x < w1.heap.size → R' x → R x) :
    bk w2 w.heap.size = some (CB (stepC q x) T.impl_Step) ∧ bk w2 (w.heap.size + 1) = some (CB ansZ T.impl_Answer) ∧ bk w2 (w.heap.size + 1 + 1) = some (CB ansZ T.impl_Answer) := by
  have z := o.sz
  refine ⟨?_, ?_, ?_⟩
  · rw [k2.block _ (by omega) fun e => o.nR (by omega) (hR _ (by omega) e)]; exact o.bs
  · rw [k2.block _ (by omega) fun e => o.nR (by omega) (hR _ (by omega) e)]; exact o.b4
  · rw [k2.block _ (by omega) fun e => o.nR (by omega) (hR _ (by omega) e)]; exact o.b5
theorem AnS.put (o : AnS w w1 B R m q x) (hX : Loc X) {w2 : World} {R' U : Nat → Prop} {a : SM.Ans} {y x1 x2 x3 : Value} (X2 : X w2 U) (k2 : Kp w1 w2 R') (hR : ∀ x, x < w1.heap.size → R' x → R x)
    (hU : ∀ k, U k → R k ∨ w1.heap.size ≤ k) (e2 : ErrV w2 w1.heap.size m a.e y) (a2 : AnsP w2 w1.heap.size U a x1 x2 x3) :
    AnJ w B R m X a [y] (setb w2 (w.heap.size + 1 + 1) (CB (answC { a with e := 0 } x1 x2 x3) T.impl_Answer)) := by
  obtain ⟨g1, g2, g3⟩ := o.kb k2 hR
  have z := o.sz
  have hB := o.hB
  have ks := Kp.setb w2 (w.heap.size + 1 + 1) (CB (answC { a with e := 0 } x1 x2 x3) T.impl_Answer)
  have kk : Kp w w2 R := (Kp.of_below o.b0 _).trans k2 fun x hx e => hR x (by omega) e
  have n5 : ¬ U (w.heap.size + 1 + 1) := fun e => by
    rcases hU _ e with h | h
    · exact o.nR (by omega) h
    · omega
  refine ⟨y, x1, x2, x3, U, rfl, hX _ _ _ _ X2 ks n5, kk.trans ks fun x hx e => by omega, fun k hk => ?_, bk_setb_eq _ _ _ _ rfl (bk_lt g3), ?_, ?_, ?_, ?_⟩
  · rcases hU k hk with h | h
    · exact .inl h
    · exact .inr (by omega)
  · rw [bk_setb_ne _ _ _ _ (by omega)]; exact g2
  · rw [← z]; exact a2.kp ks fun b h1 h2 _ e => by omega
  · rw [← z]; exact e2.kp ks fun b h1 h2 e => by omega
  · refine o.sn.below ?_
    have q1 := k2.below (B := B) (fun x hx e => ?_) (by omega)
    · exact bel_setb q1 (by omega) _
    · have := (o.lR x (hR x (by omega) e)).1; omega
theorem AnS.still (o : AnS w w1 B R m q x) (hX : Loc X) {w2 : World} {R' U : Nat → Prop} {a : SM.Ans} {y : Value} (X2 : X w2 U) (k2 : Kp w1 w2 R') (hR : ∀ x, x < w1.heap.size → R' x → R x) (hU : ∀ k, U k → R k ∨ w1.heap.size ≤ k)
    (h1 : a.data = []) (h2 : a.names = []) (h3 : a.infos = []) (h4 : a.n = 0) (h5 : a.off = 0) (e2 : ErrV w2 w1.heap.size m a.e y) : AnJ w B R m X a [y] w2 := by
  obtain ⟨g1, g2, g3⟩ := o.kb k2 hR
  have j := o.put hX X2 k2 hR hU e2 (AnsP.plain _ _ _ h1 h2 h3)
  have e : (CB (answC { a with e := 0 } (.slice none 0 0) (.slice none 0 0) (.slice none 0 0)) T.impl_Answer) = CB ansZ T.impl_Answer := by
    show CB [.int .i64 0, .int .i64 a.n, .int .i64 a.off, _, _, _] _ = _
    rw [h4, h5]
  rw [e, setb_same g3] at j
  exact j
theorem an_start (sn : Sn w B m) (hB : B ≤ w.heap.size) (lR : ∀ k, R k → B ≤ k ∧ k < w.heap.size) : ∃ w1, w1 = ((w.alloc (CB (stepC q x) T.impl_Step)).alloc (CB ansZ T.impl_Answer)).alloc (CB ansZ T.impl_Answer) ∧ AnS w w1 B R m q x := by
  obtain ⟨w1, ew1⟩ : ∃ w1, w1 = ((w.alloc (CB (stepC q x) T.impl_Step)).alloc (CB ansZ T.impl_Answer)).alloc (CB ansZ T.impl_Answer) := ⟨_, rfl⟩
  have b0 : Below w.heap.size w w1 := by rw [ew1]; repeat (first | exact Below.refl _ _ | assumption | refine bel_setb ?_ (by first | exact Nat.le_refl _ | omega | (simp only [go_sem] <;> omega)) _ | refine Below.alloc ?_ (by first | exact Nat.le_refl _ | omega | (simp only [go_sem]; omega)) _ | refine Below.drew ?_)
  refine ⟨w1, ew1, sn.below (b0.mono hB), hB, b0, by rw [ew1]; simp only [go_sem], ?_, ?_, ?_, lR⟩
  · rw [ew1, bk_alloc_ne _ _ _ (by simp only [go_sem]; omega), bk_alloc_ne _ _ _ (by simp only [go_sem]; omega), bk_alloc_eq _ _ _ rfl]
  · rw [ew1, bk_alloc_ne _ _ _ (by simp only [go_sem]; omega), bk_alloc_eq _ _ _ (by simp only [go_sem])]
  · rw [ew1, bk_alloc_eq _ _ _ (by simp only [go_sem])]
theorem woven_tail {a : SM.Ans} {t : List Value} {u : Env} {w' : World} (o : AnS w w1 B R m q x) (hX : Loc X) (j : AnJ w B R m X a t w') (hk : AnK w R X a K) : J_impl_woven_1 (pt (w.heap.size + 1 + 1) 0) (pt (w.heap.size + 1) 0) K t u w' := by
  obtain ⟨y, x1, x2, x3, U, rfl, X2, K2, hU, k5, k4, a2, e2, sn⟩ := j
  unfold J_impl_woven_1
  rw [gs0, C.impl_kind]
  refine kind_err sn (by have := o.hB; omega) e2 ?_
  obtain ⟨p1, c1, rfl⟩ := BS_slice a2.hx
  obtain ⟨p2, c2, rfl⟩ := RowS_slice a2.hy
  obtain ⟨p3, c3, rfl⟩ := RowS_slice a2.hz
  have l5 := bk_lt k5
  have l4 := bk_lt k4
  simp (disch := first | omega | (simp only [sZb, sZa, sZd] <;> omega) | (simp (disch := first | omega | (simp only [sZb, sZa, sZd] <;> omega) | fail) only [go_sem, k5, k4]; done) | fail) only [go_sem, dec_t, dec_f, w_u32, w_u64, w_u16, w_u8, w_i64, Int.reduceToNat, Int.reducePow, Nat.reducePow, k5, k4]
  generalize hO5 : CB [.int .i64 a.e, _, _, _, _, _] T.impl_Answer = O5
  have s1 := Kp.setb w' (w.heap.size + 1 + 1) O5
  have s2 := Kp.setb (setb w' (w.heap.size + 1 + 1) O5) (w.heap.size + 1) O5
  have nU : ∀ k, w.heap.size ≤ k → k < w.heap.size + 3 → ¬ U k := fun k h1 h2 e => by
    rcases hU k e with h | h
    · exact o.nR h1 h
    · omega
  refine hk _ U _ (hX _ _ _ _ (hX _ _ _ _ X2 s1 (nU _ (by omega) (by omega))) s2 (nU _ (by omega) (by omega))) ((K2.trans s1 fun x hx e => by omega).trans s2 fun x hx e => by omega) (fun k hk => ?_) ?_
  · rcases hU k hk with h | h
    · exact .inl h
    · exact .inr (by omega)
  · exact (((a2.kp s1 fun b h1 h2 _ e => by omega).kp s2 fun b h1 h2 _ e => by omega).n).less (by omega)
end
def wovX (s1 s2 : FX) (q : SM.Stp) : FX × FX × SM.Ans :=
  if q.op = 12 then ((rdU s1 s2 (want q.n)).1, (rdU s1 s2 (want q.n)).2.1, ⟨(rdU s1 s2 (want q.n)).2.2.2, 0, 0, (rdU s1 s2 (want q.n)).2.2.1, [], []⟩)
  else if q.op = 14 then ((wrU s1 s2 q.data).1, (wrU s1 s2 q.data).2.1, ⟨(wrU s1 s2 q.data).2.2.1, (wrU s1 s2 q.data).2.2.2, 0, [], [], []⟩)
  else if q.op = 15 then ((waU s1 s2 q.off q.data).1, (waU s1 s2 q.off q.data).2.1, ⟨(waU s1 s2 q.off q.data).2.2.1, (waU s1 s2 q.off q.data).2.2.2, 0, [], [], []⟩)
  else if q.op = 16 then ((skU s1 s2 q.off q.wh).1, (skU s1 s2 q.off q.wh).2.1, ⟨(skU s1 s2 q.off q.wh).2.2.1, 0, (skU s1 s2 q.off q.wh).2.2.2, [], [], []⟩)
  else if q.op = 17 then ((trU s1 s2 q.off).1, (trU s1 s2 q.off).2.1, ⟨(trU s1 s2 q.off).2.2, 0, 0, [], [], []⟩)
  else if q.op = 18 then (clR s1, clR s2, SM.Ans.z)
  else if q.op = 19 then (s1, s2, SM.Ans.err 8)
  else if q.op = 20 then (s1, s2, SM.Ans.err 8)
  else if q.op = 21 then (s1, s2, ⟨0, 0, 0, [], [], [infoX s1]⟩)
  else if q.op = 22 then (s1, s2, ⟨0, 0, 0, [], [s1.nm], []⟩)
  else (s1, s2, SM.Ans.z)
structure OkU (s1 s2 : FX) (q : SM.Stp) : Prop where
  l : OkX s1 q
  b : OkX s2 q
  n13 : q.op ≠ 13
abbrev Ou (u f1 d1 : Nat) (v1 : Value) (f2 d2 : Nat) (v2 : Value) : Nat → Prop := fun k => k = u ∨ Of2 f1 d1 v1 f2 d2 v2 k
abbrev XU (B u f1 d1 f2 d2 : Nat) (s1 s2 : FX) (w : World) (U : Nat → Prop) : Prop := ∃ v1 v2, UU w B u f1 d1 v1 s1 f2 d2 v2 s2 ∧ U = Ou u f1 d1 v1 f2 d2 v2
theorem XU_loc (B u f1 d1 f2 d2 : Nat) (s1 s2 : FX) : Loc (XU B u f1 d1 f2 d2 s1 s2) := by
  rintro w w' U k ⟨v1, v2, h, rfl⟩ K hn
  have hb := h.lt
  refine ⟨v1, v2, ⟨h.l.kept K fun x hx e => hn (.inr (.inl (by rw [← e]; exact hx))), h.b.kept K fun x hx e => hn (.inr (.inr (by rw [← e]; exact hx))), h.sep, h.hu, ?_, h.n1, h.n2⟩, rfl⟩
  rw [K.block u hb.1 fun e => hn (.inl e.symm)]
  exact h.bu
section
variable {w w1 : World} {K : Value → World → Prop} {B u f1 d1 f2 d2 : Nat} {v1 v2 x : Value} {s1 s2 : FX} {m : Nat → Nat × Nat} {q : SM.Stp} {k1 : List Value → World → Prop}
abbrev WvS (w w1 : World) (B u f1 d1 : Nat) (v1 : Value) (f2 d2 : Nat) (v2 : Value) (m : Nat → Nat × Nat) (q : SM.Stp) (x : Value) : Prop := AnS w w1 B (Ou u f1 d1 v1 f2 d2 v2) m q x
abbrev WvJ (w : World) (B u f1 d1 : Nat) (v1 : Value) (f2 d2 : Nat) (v2 : Value) (m : Nat → Nat × Nat) (r : FX × FX × SM.Ans) : List Value → World → Prop := AnJ w B (Ou u f1 d1 v1 f2 d2 v2) m (XU B u f1 d1 f2 d2 r.1 r.2.1) r.2.2
theorem Ou_new {v1' v2' : Value} (O1 : OwnOk w1 v1 v1') (O2 : OwnOk w1 v2 v2') : ∀ k, Ou u f1 d1 v1' f2 d2 v2' k → Ou u f1 d1 v1 f2 d2 v2 k ∨ w1.heap.size ≤ k := by
  rintro k (h | h | h)
  · exact .inl (.inl h)
  · rcases Of_new O1 h with h | h
    · exact .inl (.inr (.inl h))
    · exact .inr h
  · rcases Of_new O2 h with h | h
    · exact .inl (.inr (.inr h))
    · exact .inr h
theorem wv2 (o : WvS w w1 B u f1 d1 v1 f2 d2 v2 m q x) (h : UU w1 B u f1 d1 v1 s1 f2 d2 v2 s2) (g : OkU s1 s2 q) (hop : q.op = 12) (hk : ∀ t w', WvJ w B u f1 d1 v1 f2 d2 v2 m ((rdU s1 s2 (want q.n)).1, (rdU s1 s2 (want q.n)).2.1, ⟨(rdU s1 s2 (want q.n)).2.2.2, 0, 0, (rdU s1 s2 (want q.n)).2.2.1, [], []⟩) t w' → k1 t w') : J_impl_woven_2 (pt w.heap.size 0) w1 (pt u 0) (pt (w.heap.size + 1 + 1) 0) k1 := by
  unfold J_impl_woven_2
  have ew : (max 0 (min q.n 1048576) : Int) = (want q.n : Nat) := by unfold want; omega
  have hwl : want q.n ≤ 1048576 := by unfold want; omega
  have hbs := o.bs
  have hz := o.sz
  have hB := o.hB
  have hrl : (rdU s1 s2 (want q.n)).2.2.1.length ≤ want q.n := by
    unfold rdU
    split <;> exact rdR_len s1 (want q.n)
  generalize want q.n = N at *
  simp (disch := first | omega | (simp only [sZb, sZa, sZd] <;> omega) | (simp (disch := first | omega | (simp only [sZb, sZa, sZd] <;> omega) | fail) only [go_sem, hbs, ew]; done) | fail) only [go_sem, dec_t, dec_f, w_u32, w_u64, w_u16, w_u8, w_i64, Int.reduceToNat, Int.reducePow, Nat.reducePow, hbs, ew]
  rw [oMkB U.sl_uint8 (by kernel_rfl) N (by omega)]
  have B2 : Below w1.heap.size w1 (w1.alloc (CB (List.replicate N (.int .u8 0)) T.uint8)) := by repeat (first | exact Below.refl _ _ | assumption | refine bel_setb ?_ (by first | exact Nat.le_refl _ | omega | (simp only [go_sem] <;> omega)) _ | refine Below.alloc ?_ (by first | exact Nat.le_refl _ | omega | (simp only [go_sem]; omega)) _ | refine Below.drew ?_)
  have e2 : bk (w1.alloc (CB (List.replicate N (.int .u8 0)) T.uint8)) w1.heap.size = some (CB (List.replicate N (.int .u8 0)) T.uint8) := bk_alloc_eq _ _ _ rfl
  have z2 : (w1.alloc (CB (List.replicate N (.int .u8 0)) T.uint8)).heap.size = w1.heap.size + 1 := by simp only [go_sem]
  generalize w1.alloc (CB (List.replicate N (.int .u8 0)) T.uint8) = w2 at *
  have sn2 : Sn w2 B m := o.sn.below (B2.mono (by omega))
  have nR : ∀ k, w.heap.size ≤ k → ¬ Ou u f1 d1 v1 f2 d2 v2 k := fun k hk => o.nR hk
  refine readU (m := m) (h.old B2) sn2 (fun e => ⟨g.l.rd hop e, g.l.pos.2⟩) g.b.pos (by have := g.l.len; omega) (by have := g.b.len; omega) (by omega) e2 (fun e => nR w1.heap.size (by omega) (.inr (.inl e))) (fun e => nR w1.heap.size (by omega) (.inr (.inr e))) (fun e => nR w1.heap.size (by omega) (.inl e)) (by omega) fun w3 y U3 K3 b3 e3 => ?_
  have hR : ∀ y, y < w1.heap.size → (Of2 f1 d1 v1 f2 d2 v2 y ∨ y = w1.heap.size) → Ou u f1 d1 v1 f2 d2 v2 y := fun y hy h => by
    rcases h with h | h
    · exact .inr h
    · omega
  have K13 : Kp w1 w3 (fun k => Of2 f1 d1 v1 f2 d2 v2 k ∨ k = w1.heap.size) := (Kp.of_below B2 _).trans K3 fun _ _ h => h
  obtain ⟨_, _, k5⟩ := o.kb K13 hR
  have l5 := bk_lt k5
  have sh : ∀ (L : Value → Prop), pu P (oSlice T.sl_uint8 (sl w1.heap.size 0 N N) none (some (.int .i64 (rdU s1 s2 N).2.2.1.length)) none) L = L (sl w1.heap.size 0 (rdU s1 s2 N).2.2.1.length N) := fun L => by
    rw [oSlice_hi (size := 1) L U.sl_uint8 (by kernel_rfl) (by omega) (by omega)]
    rw [Int.toNat_natCast]
  simp (disch := first | omega | (simp only [sZb, sZa, sZd] <;> omega) | (simp (disch := first | omega | (simp only [sZb, sZa, sZd] <;> omega) | fail) only [go_sem, k5, sh]; done) | fail) only [go_sem, dec_t, dec_f, w_u32, w_u64, w_u16, w_u8, w_i64, Int.reduceToNat, Int.reducePow, Nat.reducePow, k5, sh]
  refine hk _ _ (o.put (XU_loc _ _ _ _ _ _ _ _) ⟨v1, v2, U3, rfl⟩ K13 hR (fun k h => .inl h) (e3.less (by omega)) ⟨rd_row b3 hrl, RowS_nil _, RowS_nil _, fun b hb => ?_⟩)
  rcases hb with h | h | h
  · have h9 : w1.heap.size = b := Option.some.inj h
    subst h9
    exact ⟨Nat.le_refl _, bk_lt b3, nR _ (by omega)⟩
  · cases h
  · cases h
theorem wv4 (o : WvS w w1 B u f1 d1 v1 f2 d2 v2 m q x) (h : UU w1 B u f1 d1 v1 s1 f2 d2 v2 s2) (g : OkU s1 s2 q) (hop : q.op = 14) (hx : BS w1 x q.data) (hk : ∀ t w', WvJ w B u f1 d1 v1 f2 d2 v2 m ((wrU s1 s2 q.data).1, (wrU s1 s2 q.data).2.1, ⟨(wrU s1 s2 q.data).2.2.1, (wrU s1 s2 q.data).2.2.2, 0, [], [], []⟩) t w' → k1 t w') : J_impl_woven_4 (pt w.heap.size 0) w1 (pt u 0) (pt (w.heap.size + 1 + 1) 0) k1 := by
  unfold J_impl_woven_4
  have hbs := o.bs
  have hz := o.sz
  have hB := o.hB
  have hq : q.data.length ≤ 281474976710 := g.l.dat
  have nR : ∀ k, w.heap.size ≤ k → ¬ Ou u f1 d1 v1 f2 d2 v2 k := fun k hk => o.nR hk
  simp (disch := first | omega | (simp only [sZb, sZa, sZd] <;> omega) | (simp (disch := first | omega | (simp only [sZb, sZa, sZd] <;> omega) | fail) only [go_sem, hbs]; done) | fail) only [go_sem, dec_t, dec_f, w_u32, w_u64, w_u16, w_u8, w_i64, Int.reduceToNat, Int.reducePow, Nat.reducePow, hbs]
  refine oCopyOf U.sl_uint8 (by kernel_rfl) hx (by omega) fun x2 w2 o2 b2 => ?_
  have z2 := b2.size
  have nx : ∀ k, x2.ownBlock = some k → w.heap.size ≤ k := fun k e => by have := (own_lt o2 k e).1; omega
  refine writeU (m := m) (h.old b2) (o.sn.below (b2.mono (by omega))) (BS_own o2) (fun k e hk => nR k (nx k e) (.inr (.inl hk))) (fun k e hk => nR k (nx k e) (.inr (.inr hk))) (fun h1 h2 => ?_) (fun h1 h2 => ?_) fun w3 v1' v2' U3 K3 O1 O2 y e3 => ?_
  · have := g.l.wr hop h1 h2
    have := g.l.len
    omega
  · have := g.b.wr hop h1 h2
    have := g.b.len
    omega
  have hR : ∀ y, y < w1.heap.size → Of2 f1 d1 v1 f2 d2 v2 y → Ou u f1 d1 v1 f2 d2 v2 y := fun _ _ h => .inr h
  have K13 : Kp w1 w3 (Of2 f1 d1 v1 f2 d2 v2) := (Kp.of_below b2 _).trans K3 fun _ _ h => h
  obtain ⟨_, _, k5⟩ := o.kb K13 hR
  have l5 := bk_lt k5
  simp (disch := first | omega | (simp only [sZb, sZa, sZd] <;> omega) | (simp (disch := first | omega | (simp only [sZb, sZa, sZd] <;> omega) | fail) only [go_sem, k5]; done) | fail) only [go_sem, dec_t, dec_f, w_u32, w_u64, w_u16, w_u8, w_i64, Int.reduceToNat, Int.reducePow, Nat.reducePow, k5]
  refine hk _ _ (o.put (a := ⟨(wrU s1 s2 q.data).2.2.1, (wrU s1 s2 q.data).2.2.2, 0, [], [], []⟩) (XU_loc _ _ _ _ _ _ _ _) ⟨v1', v2', U3, rfl⟩ K13 hR (fun k hk => ?_) (e3.less (by omega)) (AnsP.plain _ _ _ rfl rfl rfl))
  exact (Ou_new O1 O2 k hk).imp id fun h => by omega
theorem wv5 (o : WvS w w1 B u f1 d1 v1 f2 d2 v2 m q x) (h : UU w1 B u f1 d1 v1 s1 f2 d2 v2 s2) (g : OkU s1 s2 q) (hop : q.op = 15) (hx : BS w1 x q.data) (hk : ∀ t w', WvJ w B u f1 d1 v1 f2 d2 v2 m ((waU s1 s2 q.off q.data).1, (waU s1 s2 q.off q.data).2.1, ⟨(waU s1 s2 q.off q.data).2.2.1, (waU s1 s2 q.off q.data).2.2.2, 0, [], [], []⟩) t w' → k1 t w') : J_impl_woven_5 (pt w.heap.size 0) w1 (pt u 0) (pt (w.heap.size + 1 + 1) 0) k1 := by
  unfold J_impl_woven_5
  have hbs := o.bs
  have hz := o.sz
  have hB := o.hB
  have hq : q.data.length ≤ 281474976710 := g.l.dat
  have nR : ∀ k, w.heap.size ≤ k → ¬ Ou u f1 d1 v1 f2 d2 v2 k := fun k hk => o.nR hk
  simp (disch := first | omega | (simp only [sZb, sZa, sZd] <;> omega) | (simp (disch := first | omega | (simp only [sZb, sZa, sZd] <;> omega) | fail) only [go_sem, hbs]; done) | fail) only [go_sem, dec_t, dec_f, w_u32, w_u64, w_u16, w_u8, w_i64, Int.reduceToNat, Int.reducePow, Nat.reducePow, hbs]
  refine oCopyOf U.sl_uint8 (by kernel_rfl) (show BS w1.drew x q.data from hx) (by omega) fun x2 w2 o2 b2' => ?_
  have b2 : Below w1.heap.size w1 w2 := ((Below.refl _ w1).drew).trans b2'
  have z2 := b2.size
  have z2' : w1.drew.heap.size = w1.heap.size := rfl
  have hbs2 := (bel_bk b2 (by omega : w.heap.size < w1.heap.size)).trans hbs
  have nx : ∀ k, x2.ownBlock = some k → w.heap.size ≤ k := fun k e => by have := (own_lt o2 k e).1; omega
  simp (disch := first | omega | (simp only [sZb, sZa, sZd] <;> omega) | (simp (disch := first | omega | (simp only [sZb, sZa, sZd] <;> omega) | fail) only [go_sem, hbs2]; done) | fail) only [go_sem, dec_t, dec_f, w_u32, w_u64, w_u16, w_u8, w_i64, Int.reduceToNat, Int.reducePow, Nat.reducePow, hbs2]
  refine ⟨trivial, writeAtU (m := m) (h.old b2) (o.sn.below (b2.mono (by omega))) (BS_own o2) (fun k e hk => nR k (nx k e) (.inr (.inl hk))) (fun k e hk => nR k (nx k e) (.inr (.inr hk))) (fun h1 h2 => ?_) (fun h1 h2 => ?_) fun w3 v1' v2' U3 K3 O1 O2 y e3 => ?_⟩
  · have := g.l.wa hop h1 h2
    have := g.l.len
    omega
  · have := g.b.wa hop h1 h2
    have := g.b.len
    omega
  have hR : ∀ y, y < w1.heap.size → Of2 f1 d1 v1 f2 d2 v2 y → Ou u f1 d1 v1 f2 d2 v2 y := fun _ _ h => .inr h
  have K13 : Kp w1 w3 (Of2 f1 d1 v1 f2 d2 v2) := (Kp.of_below b2 _).trans K3 fun _ _ h => h
  obtain ⟨_, _, k5⟩ := o.kb K13 hR
  have l5 := bk_lt k5
  simp (disch := first | omega | (simp only [sZb, sZa, sZd] <;> omega) | (simp (disch := first | omega | (simp only [sZb, sZa, sZd] <;> omega) | fail) only [go_sem, k5]; done) | fail) only [go_sem, dec_t, dec_f, w_u32, w_u64, w_u16, w_u8, w_i64, Int.reduceToNat, Int.reducePow, Nat.reducePow, k5]
  refine hk _ _ (o.put (a := ⟨(waU s1 s2 q.off q.data).2.2.1, (waU s1 s2 q.off q.data).2.2.2, 0, [], [], []⟩) (XU_loc _ _ _ _ _ _ _ _) ⟨v1', v2', U3, rfl⟩ K13 hR (fun k hk => ?_) (e3.less (by omega)) (AnsP.plain _ _ _ rfl rfl rfl))
  exact (Ou_new O1 O2 k hk).imp id fun h => by omega
theorem wv6 (o : WvS w w1 B u f1 d1 v1 f2 d2 v2 m q x) (h : UU w1 B u f1 d1 v1 s1 f2 d2 v2 s2) (g : OkU s1 s2 q) (hop : q.op = 16) (hk : ∀ t w', WvJ w B u f1 d1 v1 f2 d2 v2 m ((skU s1 s2 q.off q.wh).1, (skU s1 s2 q.off q.wh).2.1, ⟨(skU s1 s2 q.off q.wh).2.2.1, 0, (skU s1 s2 q.off q.wh).2.2.2, [], [], []⟩) t w' → k1 t w') : J_impl_woven_6 (pt w.heap.size 0) w1 (pt u 0) (pt (w.heap.size + 1 + 1) 0) k1 := by
  unfold J_impl_woven_6
  have hbs := o.bs
  have hz := o.sz
  simp (disch := first | omega | (simp only [sZb, sZa, sZd] <;> omega) | (simp (disch := first | omega | (simp only [sZb, sZa, sZd] <;> omega) | fail) only [go_sem, hbs]; done) | fail) only [go_sem, dec_t, dec_f, w_u32, w_u64, w_u16, w_u8, w_i64, Int.reduceToNat, Int.reducePow, Nat.reducePow, hbs]
  refine seekU (m := m) h o.sn (g.l.off (by omega)) g.l.pos g.b.pos (by have := g.l.len; omega) (by have := g.b.len; omega) fun w3 v1' v2' U3 K3 O1 O2 y e3 => ?_
  have hR : ∀ y, y < w1.heap.size → Of2 f1 d1 v1 f2 d2 v2 y → Ou u f1 d1 v1 f2 d2 v2 y := fun _ _ h => .inr h
  obtain ⟨_, _, k5⟩ := o.kb K3 hR
  have l5 := bk_lt k5
  simp (disch := first | omega | (simp only [sZb, sZa, sZd] <;> omega) | (simp (disch := first | omega | (simp only [sZb, sZa, sZd] <;> omega) | fail) only [go_sem, k5]; done) | fail) only [go_sem, dec_t, dec_f, w_u32, w_u64, w_u16, w_u8, w_i64, Int.reduceToNat, Int.reducePow, Nat.reducePow, k5]
  exact hk _ _ (o.put (a := ⟨(skU s1 s2 q.off q.wh).2.2.1, 0, (skU s1 s2 q.off q.wh).2.2.2, [], [], []⟩) (XU_loc _ _ _ _ _ _ _ _) ⟨v1', v2', U3, rfl⟩ K3 hR (Ou_new O1 O2) e3 (AnsP.plain _ _ _ rfl rfl rfl))
theorem wv7 (o : WvS w w1 B u f1 d1 v1 f2 d2 v2 m q x) (h : UU w1 B u f1 d1 v1 s1 f2 d2 v2 s2) (g : OkU s1 s2 q) (hk : ∀ t w', WvJ w B u f1 d1 v1 f2 d2 v2 m (s1, s2, SM.Ans.err 8) t w' → k1 t w') : J_impl_woven_7 (pt w.heap.size 0) w1 (pt u 0) (pt (w.heap.size + 1 + 1) 0) k1 := by
  unfold J_impl_woven_7
  have hbs := o.bs
  have hz := o.sz
  simp (disch := first | omega | (simp only [sZb, sZa, sZd] <;> omega) | (simp (disch := first | omega | (simp only [sZb, sZa, sZd] <;> omega) | fail) only [go_sem, hbs]; done) | fail) only [go_sem, dec_t, dec_f, w_u32, w_u64, w_u16, w_u8, w_i64, Int.reduceToNat, Int.reducePow, Nat.reducePow, hbs]
  refine readdirU (m := m) h g.l.dir fun w2 y b2 e2 => ?_
  simp (disch := first | omega | (simp only [sZb, sZa, sZd] <;> omega) | (simp (disch := first | omega | (simp only [sZb, sZa, sZd] <;> omega) | fail) only [go_sem]; done) | fail) only [go_sem, dec_t, dec_f, w_u32, w_u64, w_u16, w_u8, w_i64, Int.reduceToNat, Int.reducePow, Nat.reducePow]
  refine fromInfos_spec (fs := []) (is := []) (.inl ⟨rfl, _, _, rfl⟩) (by simp) rfl (fun i h1 => by simp at h1) fun w3 z o3 b3 => ?_
  have z2 := b2.size
  have b13 : Below w1.heap.size w1 w3 := b2.trans (b3.mono z2)
  have hR : ∀ y, y < w1.heap.size → Ou u f1 d1 v1 f2 d2 v2 y → Ou u f1 d1 v1 f2 d2 v2 y := fun _ _ h => h
  have K3 : Kp w1 w3 (Ou u f1 d1 v1 f2 d2 v2) := Kp.of_below b13 _
  obtain ⟨_, _, k5⟩ := o.kb K3 hR
  have l5 := bk_lt k5
  have hz1 : z.oneCell' = true := by
    obtain ⟨p, c, rfl⟩ := own_slice o3
    rfl
  simp (disch := first | omega | (simp only [sZb, sZa, sZd] <;> omega) | (simp (disch := first | omega | (simp only [sZb, sZa, sZd] <;> omega) | fail) only [go_sem, k5, hz1]; done) | fail) only [go_sem, dec_t, dec_f, w_u32, w_u64, w_u16, w_u8, w_i64, Int.reduceToNat, Int.reducePow, Nat.reducePow, k5, hz1]
  refine hk _ _ (o.put (a := SM.Ans.err 8) (XU_loc _ _ _ _ _ _ _ _) ⟨v1, v2, h.old b13, rfl⟩ K3 hR (fun k h => .inl h) (e2.old b3) ⟨BS_nil _, RowS_nil _, RowS_own o3, fun b hb => ?_⟩)
  rcases hb with h | h | h
  · cases h
  · cases h
  · have h1 := own_lt o3 b h
    exact ⟨by omega, h1.2, o.nR (by omega)⟩
theorem wv8 (o : WvS w w1 B u f1 d1 v1 f2 d2 v2 m q x) (h : UU w1 B u f1 d1 v1 s1 f2 d2 v2 s2) (g : OkU s1 s2 q) (hk : ∀ t w', WvJ w B u f1 d1 v1 f2 d2 v2 m (s1, s2, SM.Ans.err 8) t w' → k1 t w') : J_impl_woven_8 (pt w.heap.size 0) w1 (pt u 0) (pt (w.heap.size + 1 + 1) 0) k1 := by
  unfold J_impl_woven_8
  have hbs := o.bs
  have hz := o.sz
  simp (disch := first | omega | (simp only [sZb, sZa, sZd] <;> omega) | (simp (disch := first | omega | (simp only [sZb, sZa, sZd] <;> omega) | fail) only [go_sem, hbs]; done) | fail) only [go_sem, dec_t, dec_f, w_u32, w_u64, w_u16, w_u8, w_i64, Int.reduceToNat, Int.reducePow, Nat.reducePow, hbs]
  refine namesU (m := m) h g.l.dir fun w3 y b13 e2 => ?_
  have hR : ∀ y, y < w1.heap.size → Ou u f1 d1 v1 f2 d2 v2 y → Ou u f1 d1 v1 f2 d2 v2 y := fun _ _ h => h
  have K3 : Kp w1 w3 (Ou u f1 d1 v1 f2 d2 v2) := Kp.of_below b13 _
  obtain ⟨_, _, k5⟩ := o.kb K3 hR
  have l5 := bk_lt k5
  simp (disch := first | omega | (simp only [sZb, sZa, sZd] <;> omega) | (simp (disch := first | omega | (simp only [sZb, sZa, sZd] <;> omega) | fail) only [go_sem, k5]; done) | fail) only [go_sem, dec_t, dec_f, w_u32, w_u64, w_u16, w_u8, w_i64, Int.reduceToNat, Int.reducePow, Nat.reducePow, k5]
  exact hk _ _ (o.put (a := SM.Ans.err 8) (XU_loc _ _ _ _ _ _ _ _) ⟨v1, v2, h.old b13, rfl⟩ K3 hR (fun k h => .inl h) e2 (AnsP.plain _ _ _ rfl rfl rfl))
theorem infoNe (L : Value → Prop) (f : Nat) : pu P (oBin .neq T.p_mem_FileInfo false true (pt f 0) (.pointer none)) L = L (.bool true) := oNeqP U.p_mem_FileInfo _ _ _
theorem wv10 (o : WvS w w1 B u f1 d1 v1 f2 d2 v2 m q x) (h : UU w1 B u f1 d1 v1 s1 f2 d2 v2 s2) (g : OkU s1 s2 q) (hk : ∀ t w', WvJ w B u f1 d1 v1 f2 d2 v2 m (s1, s2, ⟨0, 0, 0, [], [], [infoX s1]⟩) t w' → k1 t w') : J_impl_woven_10 (pt u 0) w1 k1 (pt (w.heap.size + 1 + 1) 0) := by
  unfold J_impl_woven_10
  have hz := o.sz
  simp (disch := first | omega | (simp only [sZb, sZa, sZd] <;> omega) | (simp (disch := first | omega | (simp only [sZb, sZa, sZd] <;> omega) | fail) only [go_sem]; done) | fail) only [go_sem, dec_t, dec_f, w_u32, w_u64, w_u16, w_u8, w_i64, Int.reduceToNat, Int.reducePow, Nat.reducePow]
  refine statU h ?_
  simp (disch := first | omega | (simp only [sZb, sZa, sZd] <;> omega) | (simp (disch := first | omega | (simp only [sZb, sZa, sZd] <;> omega) | fail) only [go_sem]; done) | fail) only [go_sem, dec_t, dec_f, w_u32, w_u64, w_u16, w_u8, w_i64, Int.reduceToNat, Int.reducePow, Nat.reducePow]
  have B2 : Below w1.heap.size w1 (w1.alloc (CB [pt d1 0] T.mem_FileInfo)) := by repeat (first | exact Below.refl _ _ | assumption | refine bel_setb ?_ (by first | exact Nat.le_refl _ | omega | (simp only [go_sem] <;> omega)) _ | refine Below.alloc ?_ (by first | exact Nat.le_refl _ | omega | (simp only [go_sem]; omega)) _ | refine Below.drew ?_)
  have e2 : bk (w1.alloc (CB [pt d1 0] T.mem_FileInfo)) w1.heap.size = some (CB [pt d1 0] T.mem_FileInfo) := bk_alloc_eq _ _ _ rfl
  have z2 : (w1.alloc (CB [pt d1 0] T.mem_FileInfo)).heap.size = w1.heap.size + 1 := by simp only [go_sem]
  generalize w1.alloc (CB [pt d1 0] T.mem_FileInfo) = w2 at *
  refine jn_with (fun t w' => WvJ w B u f1 d1 v1 f2 d2 v2 m (s1, s2, ⟨0, 0, 0, [], [], [infoX s1]⟩) [.nilIface] w') (fun t e w' j => ?_) ?_
  · unfold J_impl_woven_9
    exact hk _ _ j
  simp (disch := first | omega | (simp only [sZb, sZa, sZd] <;> omega) | (simp (disch := first | omega | (simp only [sZb, sZa, sZd] <;> omega) | fail) only [go_sem, errEqN, infoNe]; done) | fail) only [go_sem, dec_t, dec_f, w_u32, w_u64, w_u16, w_u8, w_i64, Int.reduceToNat, Int.reducePow, Nat.reducePow, errEqN, infoNe]
  have h2 := h.old B2
  have ia : InfoAt w2 w1.heap.size (infoX s1) := by
    obtain ⟨p, c, ev, hc⟩ := own_cap h2.l.own
    refine ⟨d1, s1.nm, p, s1.bytes.length, c, s1.md, s1.dir, s1.mode, s1.mt, s1.uid, s1.gid, e2, ?_, g.l.mode.1, g.l.mode.2, g.l.nm, rfl⟩
    rw [← ev]; exact h2.l.bd
  refine fromInfo_spec ia fun w3 b3 => ?_
  rw [oBuildSliceN (z := AG (infoC ⟨[], 0, 0, false, 0⟩)) (size := 5) _ _ U.sl_impl_Info (by kernel_rfl) (by omega) (by omega) rfl]
  have z3 := b3.size
  have B4 : Below w3.heap.size w3 (w3.alloc (CB (infoC (infoX s1)) T.impl_Info)) := by repeat (first | exact Below.refl _ _ | assumption | refine bel_setb ?_ (by first | exact Nat.le_refl _ | omega | (simp only [go_sem] <;> omega)) _ | refine Below.alloc ?_ (by first | exact Nat.le_refl _ | omega | (simp only [go_sem]; omega)) _ | refine Below.drew ?_)
  have r4 : bk (w3.alloc (CB (infoC (infoX s1)) T.impl_Info)) w3.heap.size = some (CB (infoC (infoX s1)) T.impl_Info) := bk_alloc_eq _ _ _ rfl
  generalize w3.alloc (CB (infoC (infoX s1)) T.impl_Info) = w4 at *
  have b14 : Below w1.heap.size w1 w4 := (B2.trans (b3.mono (by omega))).trans (B4.mono (by omega))
  have hR : ∀ y, y < w1.heap.size → Ou u f1 d1 v1 f2 d2 v2 y → Ou u f1 d1 v1 f2 d2 v2 y := fun _ _ h => h
  have K4 : Kp w1 w4 (Ou u f1 d1 v1 f2 d2 v2) := Kp.of_below b14 _
  obtain ⟨_, _, k5⟩ := o.kb K4 hR
  have l5 := bk_lt k5
  simp (disch := first | omega | (simp only [sZb, sZa, sZd] <;> omega) | (simp (disch := first | omega | (simp only [sZb, sZa, sZd] <;> omega) | fail) only [go_sem, k5]; done) | fail) only [go_sem, dec_t, dec_f, w_u32, w_u64, w_u16, w_u8, w_i64, Int.reduceToNat, Int.reducePow, Nat.reducePow, k5]
  refine o.put (a := ⟨0, 0, 0, [], [], [infoX s1]⟩) (XU_loc _ _ _ _ _ _ _ _) ⟨v1, v2, h.old b14, rfl⟩ K4 hR (fun k h => .inl h) (ErrV.nil _ _ _) ⟨BS_nil _, RowS_nil _, .inl ⟨_, _, _, rfl, by rw [r4]; rfl⟩, fun b hb => ?_⟩
  rcases hb with h | h | h
  · cases h
  · cases h
  · have h9 : w3.heap.size = b := Option.some.inj h
    subst h9
    exact ⟨by omega, bk_lt r4, o.nR (by omega)⟩
theorem wv12 {t4 : Value} (o : WvS w w1 B u f1 d1 v1 f2 d2 v2 m q x) (h : UU w1 B u f1 d1 v1 s1 f2 d2 v2 s2) (hop : q.op = 22) (hk : ∀ t w', WvJ w B u f1 d1 v1 f2 d2 v2 m (s1, s2, ⟨0, 0, 0, [], [s1.nm], []⟩) t w' → k1 t w') : J_impl_woven_12 (.int .i64 q.op) (pt u 0) w1 (pt (w.heap.size + 1 + 1) 0) k1 t4 K := by
  unfold J_impl_woven_12
  have hz := o.sz
  simp (disch := first | omega | (simp only [sZb, sZa, sZd] <;> omega) | (simp (disch := first | omega | (simp only [sZb, sZa, sZd] <;> omega) | fail) only [go_sem, hop]; done) | fail) only [go_sem, dec_t, dec_f, w_u32, w_u64, w_u16, w_u8, w_i64, Int.reduceToNat, Int.reducePow, Nat.reducePow, hop]
  refine nameU h ?_
  rw [oBuildSlice1 (z := S []) _ _ U.sl_string (by kernel_rfl) rfl]
  have B3 : Below w1.heap.size w1 (w1.alloc (CB [S s1.nm] T.string)) := by repeat (first | exact Below.refl _ _ | assumption | refine bel_setb ?_ (by first | exact Nat.le_refl _ | omega | (simp only [go_sem] <;> omega)) _ | refine Below.alloc ?_ (by first | exact Nat.le_refl _ | omega | (simp only [go_sem]; omega)) _ | refine Below.drew ?_)
  have r3 : bk (w1.alloc (CB [S s1.nm] T.string)) w1.heap.size = some (CB [S s1.nm] T.string) := bk_alloc_eq _ _ _ rfl
  have hR : ∀ y, y < w1.heap.size → Ou u f1 d1 v1 f2 d2 v2 y → Ou u f1 d1 v1 f2 d2 v2 y := fun _ _ h => h
  generalize w1.alloc (CB [S s1.nm] T.string) = w3 at *
  have K3 : Kp w1 w3 (Ou u f1 d1 v1 f2 d2 v2) := Kp.of_below B3 _
  obtain ⟨_, _, k5⟩ := o.kb K3 hR
  have l5 := bk_lt k5
  simp (disch := first | omega | (simp only [sZb, sZa, sZd] <;> omega) | (simp (disch := first | omega | (simp only [sZb, sZa, sZd] <;> omega) | fail) only [go_sem, k5]; done) | fail) only [go_sem, dec_t, dec_f, w_u32, w_u64, w_u16, w_u8, w_i64, Int.reduceToNat, Int.reducePow, Nat.reducePow, k5]
  refine hk _ _ (o.put (a := ⟨0, 0, 0, [], [s1.nm], []⟩) (XU_loc _ _ _ _ _ _ _ _) ⟨v1, v2, h.old B3, rfl⟩ K3 hR (fun k h => .inl h) (ErrV.nil _ _ _) ⟨BS_nil _, .inl ⟨_, _, _, rfl, by rw [r3]; rfl⟩, RowS_nil _, fun b hb => ?_⟩)
  rcases hb with h | h | h
  · cases h
  · have h9 : w1.heap.size = b := Option.some.inj h
    subst h9
    exact ⟨Nat.le_refl _, bk_lt r3, o.nR (by omega)⟩
  · cases h
abbrev WvK (w : World) (B u f1 d1 : Nat) (v1 : Value) (f2 d2 : Nat) (v2 : Value) (r : FX × FX × SM.Ans) (K : Value → World → Prop) : Prop := AnK w (Ou u f1 d1 v1 f2 d2 v2) (XU B u f1 d1 f2 d2 r.1 r.2.1) r.2.2 K
set_option maxHeartbeats 4000000 in
theorem woven_any (h : UU w B u f1 d1 v1 s1 f2 d2 v2 s2) (sn : Sn w B m) (g : OkU s1 s2 q) (hx : BS w x q.data) (hk : WvK w B u f1 d1 v1 f2 d2 v2 (wovX s1 s2 q) K) : Cl P Fn.impl_woven #[pt u 0, AG (stepC q x)] w K := by
  apply S_impl_woven
  unfold F_impl_woven
  have hv := BS_one' hx
  simp (disch := first | omega | (simp only [sZb, sZa, sZd] <;> omega) | (simp (disch := first | omega | (simp only [sZb, sZa, sZd] <;> omega) | fail) only [go_sem, hv]; done) | fail) only [go_sem, dec_t, dec_f, w_u32, w_u64, w_u16, w_u8, w_i64, Int.reduceToNat, Int.reducePow, Nat.reducePow, hv]
  obtain ⟨l0, l1, l2⟩ := h.lt
  have hu := h.hu
  obtain ⟨w1, ew1, o⟩ := an_start (q := q) (x := x) (R := Ou u f1 d1 v1 f2 d2 v2) sn (by omega) (fun k hk => by
    rcases hk with e | e | e
    · omega
    · exact l1 k e
    · exact l2 k e)
  have b0 := o.b0
  have hx1 : BS w1 x q.data := BS_old hx b0 (Nat.le_refl _)
  have h1 := h.old b0
  rw [setb_same (by rw [← ew1]; exact o.b5), ← ew1]
  clear ew1
  refine jn_with (fun t w' => WvJ w B u f1 d1 v1 f2 d2 v2 m (wovX s1 s2 q) t w') (fun t e w' j => woven_tail o (XU_loc _ _ _ _ _ _ _ _) j hk) ?_
  have hbs := o.bs
  have g1 := g.l.op.1
  have g2 := g.l.op.2
  have c13 := g.n13
  have hR : ∀ y, y < w1.heap.size → Of2 f1 d1 v1 f2 d2 v2 y → Ou u f1 d1 v1 f2 d2 v2 y := fun _ _ h => .inr h
  by_cases c12 : q.op = 12
  · simp (disch := first | omega | (simp only [sZb, sZa, sZd] <;> omega) | (simp (disch := first | omega | (simp only [sZb, sZa, sZd] <;> omega) | fail) only [go_sem, hbs]; done) | fail) only [go_sem, dec_t, dec_f, w_u32, w_u64, w_u16, w_u8, w_i64, Int.reduceToNat, Int.reducePow, Nat.reducePow, hbs]
    refine wv2 o h1 g c12 fun t w' j => ?_
    rw [wovX, if_pos c12]
    exact j
  simp (disch := first | omega | (simp only [sZb, sZa, sZd] <;> omega) | (simp (disch := first | omega | (simp only [sZb, sZa, sZd] <;> omega) | fail) only [go_sem, hbs]; done) | fail) only [go_sem, dec_t, dec_f, w_u32, w_u64, w_u16, w_u8, w_i64, Int.reduceToNat, Int.reducePow, Nat.reducePow, hbs]
  unfold J_impl_woven_21
  simp (disch := first | omega | (simp only [sZb, sZa, sZd] <;> omega) | (simp (disch := first | omega | (simp only [sZb, sZa, sZd] <;> omega) | fail) only [go_sem]; done) | fail) only [go_sem, dec_t, dec_f, w_u32, w_u64, w_u16, w_u8, w_i64, Int.reduceToNat, Int.reducePow, Nat.reducePow]
  unfold J_impl_woven_20
  by_cases c14 : q.op = 14
  · simp (disch := first | omega | (simp only [sZb, sZa, sZd] <;> omega) | (simp (disch := first | omega | (simp only [sZb, sZa, sZd] <;> omega) | fail) only [go_sem]; done) | fail) only [go_sem, dec_t, dec_f, w_u32, w_u64, w_u16, w_u8, w_i64, Int.reduceToNat, Int.reducePow, Nat.reducePow]
    refine wv4 o h1 g c14 hx1 fun t w' j => ?_
    rw [wovX, if_neg c12, if_pos c14]
    exact j
  simp (disch := first | omega | (simp only [sZb, sZa, sZd] <;> omega) | (simp (disch := first | omega | (simp only [sZb, sZa, sZd] <;> omega) | fail) only [go_sem]; done) | fail) only [go_sem, dec_t, dec_f, w_u32, w_u64, w_u16, w_u8, w_i64, Int.reduceToNat, Int.reducePow, Nat.reducePow]
  unfold J_impl_woven_19
  by_cases c15 : q.op = 15
  · simp (disch := first | omega | (simp only [sZb, sZa, sZd] <;> omega) | (simp (disch := first | omega | (simp only [sZb, sZa, sZd] <;> omega) | fail) only [go_sem]; done) | fail) only [go_sem, dec_t, dec_f, w_u32, w_u64, w_u16, w_u8, w_i64, Int.reduceToNat, Int.reducePow, Nat.reducePow]
    refine wv5 o h1 g c15 hx1 fun t w' j => ?_
    rw [wovX, if_neg c12, if_neg c14, if_pos c15]
    exact j
  simp (disch := first | omega | (simp only [sZb, sZa, sZd] <;> omega) | (simp (disch := first | omega | (simp only [sZb, sZa, sZd] <;> omega) | fail) only [go_sem]; done) | fail) only [go_sem, dec_t, dec_f, w_u32, w_u64, w_u16, w_u8, w_i64, Int.reduceToNat, Int.reducePow, Nat.reducePow]
  unfold J_impl_woven_18
  by_cases c16 : q.op = 16
  · simp (disch := first | omega | (simp only [sZb, sZa, sZd] <;> omega) | (simp (disch := first | omega | (simp only [sZb, sZa, sZd] <;> omega) | fail) only [go_sem]; done) | fail) only [go_sem, dec_t, dec_f, w_u32, w_u64, w_u16, w_u8, w_i64, Int.reduceToNat, Int.reducePow, Nat.reducePow]
    refine wv6 o h1 g c16 fun t w' j => ?_
    rw [wovX, if_neg c12, if_neg c14, if_neg c15, if_pos c16]
    exact j
  simp (disch := first | omega | (simp only [sZb, sZa, sZd] <;> omega) | (simp (disch := first | omega | (simp only [sZb, sZa, sZd] <;> omega) | fail) only [go_sem]; done) | fail) only [go_sem, dec_t, dec_f, w_u32, w_u64, w_u16, w_u8, w_i64, Int.reduceToNat, Int.reducePow, Nat.reducePow]
  unfold J_impl_woven_17
  by_cases c17 : q.op = 17
  · simp (disch := first | omega | (simp only [sZb, sZa, sZd] <;> omega) | (simp (disch := first | omega | (simp only [sZb, sZa, sZd] <;> omega) | fail) only [go_sem, hbs]; done) | fail) only [go_sem, dec_t, dec_f, w_u32, w_u64, w_u16, w_u8, w_i64, Int.reduceToNat, Int.reducePow, Nat.reducePow, hbs]
    refine truncU (m := m) h1 o.sn (g.l.tr c17) g.l.len g.b.len fun w3 v1' v2' U3 K3 O1 O2 y e3 => ?_
    rw [wovX, if_neg c12, if_neg c14, if_neg c15, if_neg c16, if_pos c17]
    exact o.still (a := ⟨(trU s1 s2 q.off).2.2, 0, 0, [], [], []⟩) (XU_loc _ _ _ _ _ _ _ _) ⟨v1', v2', U3, rfl⟩ K3 hR (Ou_new O1 O2) rfl rfl rfl rfl rfl e3
  simp (disch := first | omega | (simp only [sZb, sZa, sZd] <;> omega) | (simp (disch := first | omega | (simp only [sZb, sZa, sZd] <;> omega) | fail) only [go_sem]; done) | fail) only [go_sem, dec_t, dec_f, w_u32, w_u64, w_u16, w_u8, w_i64, Int.reduceToNat, Int.reducePow, Nat.reducePow]
  unfold J_impl_woven_16
  by_cases c18 : q.op = 18
  · simp (disch := first | omega | (simp only [sZb, sZa, sZd] <;> omega) | (simp (disch := first | omega | (simp only [sZb, sZa, sZd] <;> omega) | fail) only [go_sem]; done) | fail) only [go_sem, dec_t, dec_f, w_u32, w_u64, w_u16, w_u8, w_i64, Int.reduceToNat, Int.reducePow, Nat.reducePow]
    refine closeU h1 fun w3 v1' v2' U3 K3 O1 O2 => ?_
    rw [wovX, if_neg c12, if_neg c14, if_neg c15, if_neg c16, if_neg c17, if_pos c18]
    exact o.still (a := SM.Ans.z) (XU_loc _ _ _ _ _ _ _ _) ⟨v1', v2', U3, rfl⟩ K3 hR (Ou_new O1 O2) rfl rfl rfl rfl rfl (ErrV.nil _ _ _)
  simp (disch := first | omega | (simp only [sZb, sZa, sZd] <;> omega) | (simp (disch := first | omega | (simp only [sZb, sZa, sZd] <;> omega) | fail) only [go_sem]; done) | fail) only [go_sem, dec_t, dec_f, w_u32, w_u64, w_u16, w_u8, w_i64, Int.reduceToNat, Int.reducePow, Nat.reducePow]
  unfold J_impl_woven_15
  by_cases c19 : q.op = 19
  · simp (disch := first | omega | (simp only [sZb, sZa, sZd] <;> omega) | (simp (disch := first | omega | (simp only [sZb, sZa, sZd] <;> omega) | fail) only [go_sem]; done) | fail) only [go_sem, dec_t, dec_f, w_u32, w_u64, w_u16, w_u8, w_i64, Int.reduceToNat, Int.reducePow, Nat.reducePow]
    refine wv7 o h1 g fun t w' j => ?_
    rw [wovX, if_neg c12, if_neg c14, if_neg c15, if_neg c16, if_neg c17, if_neg c18, if_pos c19]
    exact j
  simp (disch := first | omega | (simp only [sZb, sZa, sZd] <;> omega) | (simp (disch := first | omega | (simp only [sZb, sZa, sZd] <;> omega) | fail) only [go_sem]; done) | fail) only [go_sem, dec_t, dec_f, w_u32, w_u64, w_u16, w_u8, w_i64, Int.reduceToNat, Int.reducePow, Nat.reducePow]
  unfold J_impl_woven_14
  by_cases c20 : q.op = 20
  · simp (disch := first | omega | (simp only [sZb, sZa, sZd] <;> omega) | (simp (disch := first | omega | (simp only [sZb, sZa, sZd] <;> omega) | fail) only [go_sem]; done) | fail) only [go_sem, dec_t, dec_f, w_u32, w_u64, w_u16, w_u8, w_i64, Int.reduceToNat, Int.reducePow, Nat.reducePow]
    refine wv8 o h1 g fun t w' j => ?_
    rw [wovX, if_neg c12, if_neg c14, if_neg c15, if_neg c16, if_neg c17, if_neg c18, if_neg c19, if_pos c20]
    exact j
  simp (disch := first | omega | (simp only [sZb, sZa, sZd] <;> omega) | (simp (disch := first | omega | (simp only [sZb, sZa, sZd] <;> omega) | fail) only [go_sem]; done) | fail) only [go_sem, dec_t, dec_f, w_u32, w_u64, w_u16, w_u8, w_i64, Int.reduceToNat, Int.reducePow, Nat.reducePow]
  unfold J_impl_woven_13
  by_cases c21 : q.op = 21
  · simp (disch := first | omega | (simp only [sZb, sZa, sZd] <;> omega) | (simp (disch := first | omega | (simp only [sZb, sZa, sZd] <;> omega) | fail) only [go_sem]; done) | fail) only [go_sem, dec_t, dec_f, w_u32, w_u64, w_u16, w_u8, w_i64, Int.reduceToNat, Int.reducePow, Nat.reducePow]
    refine wv10 o h1 g fun t w' j => ?_
    rw [wovX, if_neg c12, if_neg c14, if_neg c15, if_neg c16, if_neg c17, if_neg c18, if_neg c19, if_neg c20, if_pos c21]
    exact j
  simp (disch := first | omega | (simp only [sZb, sZa, sZd] <;> omega) | (simp (disch := first | omega | (simp only [sZb, sZa, sZd] <;> omega) | fail) only [go_sem]; done) | fail) only [go_sem, dec_t, dec_f, w_u32, w_u64, w_u16, w_u8, w_i64, Int.reduceToNat, Int.reducePow, Nat.reducePow]
  by_cases c22 : q.op = 22
  · refine wv12 o h1 c22 fun t w' j => ?_
    rw [wovX, if_neg c12, if_neg c14, if_neg c15, if_neg c16, if_neg c17, if_neg c18, if_neg c19, if_neg c20, if_neg c21, if_pos c22]
    exact j
  unfold J_impl_woven_12
  simp (disch := first | omega | (simp only [sZb, sZa, sZd] <;> omega) | (simp (disch := first | omega | (simp only [sZb, sZa, sZd] <;> omega) | fail) only [go_sem]; done) | fail) only [go_sem, dec_t, dec_f, w_u32, w_u64, w_u16, w_u8, w_i64, Int.reduceToNat, Int.reducePow, Nat.reducePow]
  unfold J_impl_woven_11
  simp (disch := first | omega | (simp only [sZb, sZa, sZd] <;> omega) | (simp (disch := first | omega | (simp only [sZb, sZa, sZd] <;> omega) | fail) only [go_sem]; done) | fail) only [go_sem, dec_t, dec_f, w_u32, w_u64, w_u16, w_u8, w_i64, Int.reduceToNat, Int.reducePow, Nat.reducePow]
  refine syncU h1 ?_
  rw [wovX, if_neg c12, if_neg c14, if_neg c15, if_neg c16, if_neg c17, if_neg c18, if_neg c19, if_neg c20, if_neg c21, if_neg c22]
  exact o.still (a := SM.Ans.z) (XU_loc _ _ _ _ _ _ _ _) ⟨v1, v2, h1, rfl⟩ (Kp.refl w1 (Of2 f1 d1 v1 f2 d2 v2)) hR (fun k h => .inl h) rfl rfl rfl rfl rfl (ErrV.nil _ _ _)
end
end Go.Proofs.YteblpejgenehfaaDoor.X
end
section
namespace Go.Proofs.YteblpejgenehfaaDoor.X
open Go Go.X Go.Proofs Go.RowKit
def StepsAt (w : World) (v : Value) (qs : List SM.Stp) (vs : List Value) : Prop :=
  vs.length = qs.length ∧ (∀ i (h1 : i < qs.length) (h2 : i < vs.length), BS w vs[i] qs[i].data) ∧ ((qs = [] ∧ ∃ a cap, v = .slice a 0 cap) ∨ ∃ b o cap, v = sl b o qs.length cap ∧ b < w.heap.size ∧ ∀ i (h1 : i < qs.length) (h2 : i < vs.length), rowOf (bk w b) (o + i * 10) 10 = some (stepC qs[i] vs[i]))
theorem StepsAt.old {w w' : World} {v : Value} {qs : List SM.Stp} {vs : List Value} (h : StepsAt w v qs vs) (hb : Below w.heap.size w w') : StepsAt w' v qs vs := by
  refine ⟨h.1, fun i h1 h2 => BS_old (h.2.1 i h1 h2) hb (Nat.le_refl _), ?_⟩
  rcases h.2.2 with h | ⟨b, o, cap, h1, h2, h3⟩
  · exact .inl h
  · exact .inr ⟨b, o, cap, h1, Nat.lt_of_lt_of_le h2 hb.size, fun i g1 g2 => by rw [bel_bk hb h2]; exact h3 i g1 g2⟩
theorem StepsAt.slice {w : World} {v : Value} {qs : List SM.Stp} {vs : List Value} (h : StepsAt w v qs vs) : ∃ a cap, v = .slice a qs.length cap := by
  rcases h.2.2 with ⟨h, a, cap, e⟩ | ⟨b, o, cap, e, _⟩
  · exact ⟨a, cap, by rw [e, h]; rfl⟩
  · exact ⟨_, _, e⟩
theorem StepsAt.idx {w : World} {v : Value} {qs : List SM.Stp} {vs : List Value} (h : StepsAt w v qs vs) {i : Nat} (hi : i < qs.length) (hv : i < vs.length) :
    ∃ b o, rowOf (bk w b) o 10 = some (stepC qs[i] vs[i]) ∧ b < w.heap.size ∧ ∀ L : Value → Prop, pu P (oIdxA T.sl_impl_Step v (.int .i64 i)) L = L (pt b o) := by
  rcases h.2.2 with ⟨h, _⟩ | ⟨b, o, cap, rfl, hb, hr⟩
  · rw [h] at hi; exact absurd hi (by simp)
  · refine ⟨b, o + i * 10, hr i hi hv, hb, fun L => ?_⟩
    rw [oIdxA_sl (size := 10) L U.sl_impl_Step (by kernel_rfl) (by omega) (by omega), Int.toNat_natCast]
section
variable {σ : Type}
def runX (stp : σ → SM.Stp → σ × SM.Ans) : σ → List SM.Stp → σ × List SM.Ans
  | s, [] => (s, [])
  | s, q :: qs => ((runX stp (stp s q).1 qs).1, (stp s q).2 :: (runX stp (stp s q).1 qs).2)
def okX (stp : σ → SM.Stp → σ × SM.Ans) (ok : σ → SM.Stp → Prop) : σ → List SM.Stp → Prop
  | _, [] => True
  | s, q :: qs => ok s q ∧ okX stp ok (stp s q).1 qs
theorem runX_len (stp : σ → SM.Stp → σ × SM.Ans) : ∀ (s : σ) (qs : List SM.Stp), (runX stp s qs).2.length = qs.length
  | _, [] => rfl
  | s, q :: qs => by simp [runX, runX_len stp (stp s q).1 qs]
def LocS (X : World → (Nat → Prop) → Prop) : Prop := ∀ w w' U S, X w U → Kp w w' S → (∀ k, U k → ¬ S k) → X w' U
def AnsAt (w : World) (lo : Nat) (N : Nat → Prop) (az : List SM.Ans) (cs : List (List Value)) : Prop := cs.length = az.length ∧ ∀ i (h1 : i < cs.length) (h2 : i < az.length), AnsN w lo N az[i] cs[i]
theorem AnsAt.kp {w w' : World} {lo : Nat} {N S : Nat → Prop} {az : List SM.Ans} {cs : List (List Value)} (h : AnsAt w lo N az cs) (k : Kp w w' S) (hS : ∀ b, lo ≤ b → b < w.heap.size → ¬ N b → ¬ S b) : AnsAt w' lo N az cs := ⟨h.1, fun i h1 h2 => (h.2 i h1 h2).kp k hS⟩
theorem AnsAt.to {w : World} {lo : Nat} {N M : Nat → Prop} {az : List SM.Ans} {cs : List (List Value)} (h : AnsAt w lo N az cs) (hM : ∀ b, lo ≤ b → b < w.heap.size → ¬ N b → ¬ M b) : AnsAt w lo M az cs := ⟨h.1, fun i h1 h2 => (h.2 i h1 h2).to hM⟩
theorem AnsAt.snoc {w : World} {lo : Nat} {N : Nat → Prop} {az : List SM.Ans} {cs : List (List Value)} (h : AnsAt w lo N az cs) {a : SM.Ans} {c : List Value} (ha : AnsN w lo N a c) : AnsAt w lo N (az ++ [a]) (cs ++ [c]) := by
  refine ⟨by simp [h.1], fun i h1 h2 => ?_⟩
  by_cases hi : i < cs.length
  · rw [List.getElem_append_left hi, List.getElem_append_left (by rw [← h.1]; exact hi)]
    exact h.2 i hi _
  · have e1 : i = cs.length := by simp at h1; omega
    subst e1
    have e2 : (cs ++ [c])[cs.length] = c := by simp
    have e3 : (az ++ [a])[cs.length]'h2 = a := by simp [h.1]
    rw [e2, e3]
    exact ha
theorem ans_oneCells {w : World} {lo : Nat} {N : Nat → Prop} {a : SM.Ans} {c : List Value} (h : AnsN w lo N a c) : c.length = 6 ∧ ∀ u ∈ c, u.oneCell' = true := by
  obtain ⟨x, y, z, rfl, hx, hy, hz, _⟩ := h
  obtain ⟨p1, c1, rfl⟩ := BS_slice hx
  obtain ⟨p2, c2, rfl⟩ := RowS_slice hy
  obtain ⟨p3, c3, rfl⟩ := RowS_slice hz
  refine ⟨rfl, fun u hu => ?_⟩
  simp only [answC, List.mem_cons, List.not_mem_nil, or_false] at hu
  rcases hu with rfl | rfl | rfl | rfl | rfl | rfl <;> rfl
theorem runX_drop (stp : σ → SM.Stp → σ × SM.Ans) (s : σ) (q : SM.Stp) (qs : List SM.Stp) : (runX stp s (q :: qs)).1 = (runX stp (stp s q).1 qs).1 ∧ (runX stp s (q :: qs)).2 = (stp s q).2 :: (runX stp (stp s q).1 qs).2 := ⟨rfl, rfl⟩
set_option maxHeartbeats 4000000 in
theorem loop_spec {w0 w : World} {B : Nat} {m : Nat → Nat × Nat} {X : σ → World → (Nat → Prop) → Prop} {stp : σ → SM.Stp → σ × SM.Ans} {ok : σ → SM.Stp → Prop} {fn : FuncId} {fv tv : Value} {qs : List SM.Stp} {vs : List Value} {s0 : σ} {U0 : Nat → Prop} {k2 : List Value → World → Prop}
    (hc : ∀ {args : Array Value} {w : World} {K : Value → World → Prop}, Cl P fn args w K → st P (oCall fn args) w K)
    (hloc : ∀ s, LocS (X s))
    (hstep : ∀ s q w x U K, X s w U → Sn w B m → ok s q → BS w x q.data → AnK w U (X (stp s q).1) (stp s q).2 K → Cl P fn #[fv, AG (stepC q x)] w K)
    (hq : StepsAt w0 tv qs vs) (hb : Below w0.heap.size w0 w) (hB : B ≤ w0.heap.size) (sn : Sn w B m) (hql : qs.length ≤ 1000000) (h0 : X s0 w U0) (hU : ∀ k, U0 k → w0.heap.size ≤ k ∧ k < w.heap.size) (hok : okX stp ok s0 qs)
    (hin : ∀ s w U, X s w U → ∀ k, U k → k < w.heap.size)
    (hk : ∀ w' av cs U, Below w0.heap.size w0 w' → X (runX stp s0 qs).1 w' U → (∀ k, U k → w0.heap.size ≤ k) → w'.ownsRow w0.heap.size T.impl_Answer 6 av qs.length (List.flatten cs) → (∀ k, av.ownBlock = some k → ¬ U k) → AnsAt w' w0.heap.size (fun k => U k ∨ av.ownBlock = some k) (runX stp s0 qs).2 cs → k2 [av] w') :
    lp [(.slice none 0 0), (.int .i64 0)] w fun s3 u3 w8 C1 =>
      pu P (oBin .lss T.int false false (gs s3 1) (.int .i64 qs.length)) fun t24 =>
      jn (fun s4 u4 w9 =>
      pu P (oIdxA T.sl_impl_Step tv (gs s3 1)) fun t25 =>
      st P (oLoad T.impl_Step t25) w9 fun t26 w10 =>
      st P (oAlloc T.impl_Step) w10 fun t12 w11 =>
      st P (oStore T.impl_Step t12 t26) w11 fun _ w12 =>
      st P (oLoad T.impl_Step t12) w12 fun t29 w13 =>
      st P (oCall fn #[fv, t29]) w13 fun t30 w14 =>
      st P (oBuildSlice T.sl_impl_Answer 1 #[(0, t30)]) w14 fun t31 w15 =>
      st P (oBuiltin .append #[T.sl_impl_Answer, T.sl_impl_Answer] T.sl_impl_Answer #[false, false] #[(gs s3 0), t31]) w15 fun t32 w16 =>
      pu P (oBin .add T.int false true (gs s3 1) (.int .i64 1)) fun t33 =>
      C1 [t32, t33] w16) fun k3 =>
      cd t24 (
      k3 [] w8) (
      k2 [(gs s3 0)] w8) := by
  refine lp_intro (fun t w' => ∃ av cs U s az, ∃ i : Nat, t = [av, .int .i64 i] ∧ i ≤ qs.length ∧ X s w' U ∧ Below w0.heap.size w0 w' ∧ Sn w' B m ∧ (∀ k, U k → w0.heap.size ≤ k) ∧ w'.ownsRow w0.heap.size T.impl_Answer 6 av i (List.flatten cs) ∧ (∀ k, av.ownBlock = some k → ¬ U k) ∧ az.length = i ∧ AnsAt w' w0.heap.size (fun k => U k ∨ av.ownBlock = some k) az cs ∧ okX stp ok s (qs.drop i) ∧ (runX stp s (qs.drop i)).1 = (runX stp s0 qs).1 ∧ az ++ (runX stp s (qs.drop i)).2 = (runX stp s0 qs).2)
    (fun t _ => qs.length - (RowKit.intOf (gs t 1)).toNat) ⟨.slice none 0 0, [], U0, s0, [], 0, rfl, Nat.zero_le _, h0, hb, sn, fun k h => (hU k h).1, own_nil _ _ _ _, fun k e => (by cases e), rfl, ⟨rfl, fun i h1 => absurd h1 (by simp)⟩, by simpa using hok, by simp, by simp⟩ ?_
  rintro t e w3 ⟨av, cs, Y, s, az, i, rfl, hi, X3, B3, sn3, hU3, o3, hav, hal, hA, hok3, hr1, hr2⟩
  rw [gs1, gs0, oLss]
  by_cases g : (i : Int) < qs.length
  · have hix : i < qs.length := by omega
    have hiv : i < vs.length := by rw [hq.1]; exact hix
    simp (disch := first | omega | (simp only [sZb, sZa, sZd] <;> omega) | (simp (disch := first | omega | (simp only [sZb, sZa, sZd] <;> omega) | fail) only [go_sem]; done) | fail) only [go_sem, dec_t, dec_f, w_u32, w_u64, w_u16, w_u8, w_i64, Int.reduceToNat, Int.reducePow, Nat.reducePow]
    refine jn_with (fun t w' => t = [] ∧ w' = w3) ?_ ⟨rfl, rfl⟩
    rintro t e w4 ⟨rfl, rfl⟩
    rw [List.drop_eq_getElem_cons hix] at hok3 hr1 hr2
    obtain ⟨okq, okr⟩ := hok3
    rw [(runX_drop stp s _ _).1] at hr1
    rw [(runX_drop stp s _ _).2] at hr2
    have hq4 := hq.old B3
    obtain ⟨b, o, hrow, hbl, ix⟩ := hq4.idx hix hiv
    have hqi := hq4.2.1 i hix hiv
    generalize qs[i] = q at *
    generalize vs[i] = x at *
    have one := BS_one' hqi
    rw [ix]
    simp (disch := first | omega | (simp only [sZb, sZa, sZd] <;> omega) | (simp (disch := first | omega | (simp only [sZb, sZa, sZd] <;> omega) | fail) only [go_sem, hrow, one]; done) | fail) only [go_sem, dec_t, dec_f, w_u32, w_u64, w_u16, w_u8, w_i64, Int.reduceToNat, Int.reducePow, Nat.reducePow, hrow, one]
    obtain ⟨wA, hwA⟩ : ∃ wA, wA = setb (w4.alloc (CB [.int .i64 0, S [], S [], .int .i64 0, .int .i64 0, .int .i64 0, .slice none 0 0, .int .i64 0, .int .i64 0, .int .i64 0] T.impl_Step)) w4.heap.size (CB (stepC q x) T.impl_Step) := ⟨_, rfl⟩
    rw [← hwA]
    have BA : Below w4.heap.size w4 wA := by rw [hwA]; repeat (first | exact Below.refl _ _ | assumption | refine bel_setb ?_ (by first | exact Nat.le_refl _ | omega | (simp only [go_sem] <;> omega)) _ | refine Below.alloc ?_ (by first | exact Nat.le_refl _ | omega | (simp only [go_sem]; omega)) _ | refine Below.drew ?_)
    have zA : wA.heap.size = w4.heap.size + 1 := by rw [hwA]; simp only [go_sem]
    have z3 := B3.size
    have kA : Kp w4 wA (fun _ => False) := Kp.of_below BA _
    have X4 := hloc _ _ _ _ _ X3 kA fun _ _ h => h
    have B4 := B3.trans (BA.mono B3.size)
    have oav := own_lt o3
    have hin4 := hin _ _ _ X3
    apply hc
    refine hstep s q wA x Y _ X4 (sn3.below (BA.mono (by omega))) okq (BS_old hqi BA (Nat.le_refl _)) fun w5 U5 c X5 K5 hU5 bc => ?_
    have z5 := K5.size
    have B5 : Below w0.heap.size w0 w5 := B4.trans (K5.below (fun k hk e => by have := hU3 k e; omega) (by omega))
    obtain ⟨cl, c1⟩ := ans_oneCells bc
    rw [oBuildSliceN (size := 6) (z := AG ansZ) _ _ U.sl_impl_Answer (by kernel_rfl) (by omega) (by omega) (l := c) cl]
    obtain ⟨w6, e6⟩ : ∃ w6, w6 = w5.alloc (CB c T.impl_Answer) := ⟨_, rfl⟩
    have B56 : Below w5.heap.size w5 w6 := by rw [e6]; repeat (first | exact Below.refl _ _ | assumption | refine bel_setb ?_ (by first | exact Nat.le_refl _ | omega | (simp only [go_sem] <;> omega)) _ | refine Below.alloc ?_ (by first | exact Nat.le_refl _ | omega | (simp only [go_sem]; omega)) _ | refine Below.drew ?_)
    have z6 : w6.heap.size = w5.heap.size + 1 := by rw [e6]; simp only [go_sem]
    have r6 : bk w6 w5.heap.size = some (CB c T.impl_Answer) := by rw [e6]; exact bk_alloc_eq _ _ _ rfl
    rw [← e6]
    clear e6
    have o5 : w6.ownsRow w0.heap.size T.impl_Answer 6 av i (List.flatten cs) := own_old (own_kp (own_old o3 BA (Nat.le_refl _)) K5 hav) B56 (Nat.le_refl _)
    have k56 : Kp w5 w6 (fun _ => False) := Kp.of_below B56 _
    refine oAppendR (size := 6) (bytes := 96) (z := AG ansZ) (news := c) U.sl_impl_Answer (by kernel_rfl) rfl (by omega) o5 (.inl ⟨_, _, _, rfl, by rw [r6]; simp only [rowOf]; rw [if_pos (by simp)]; simp⟩) cl c1 (by simp only [maxLen]; omega) (by omega) (by omega) fun av6 w7 o6 g6 l6 => ?_
    have K6 := Kp.of_grown g6
    have z7 := K6.size
    have hav6 : ∀ k, av6.ownBlock = some k → av.ownBlock = some k ∨ k = w5.heap.size + 1 := fun k hk => by
      rcases l6 with h | h
      · exact .inl (by rw [← h]; exact hk)
      · rw [hk] at h; injection h with h; exact .inr (by omega)
    have hin5 := hin _ _ _ X5
    have avn : ∀ k, av.ownBlock = some k → ¬ U5 k := fun k hk e => by
      rcases hU5 k e with h | h
      · exact hav k hk h
      · have := (oav k hk).2; omega
    have X6 := hloc _ _ _ _ _ X5 k56 fun _ _ h => h
    have X7 := hloc _ _ _ _ _ X6 K6 fun k hk e => avn k e hk
    have B7 : Below w0.heap.size w0 w7 := (B5.trans (B56.mono (by omega))).trans (K6.below (fun k hk e => by have := (oav k e).1; omega) (by omega))
    have hBw : B ≤ w0.heap.size := hB
    refine ⟨⟨av6, cs ++ [c], U5, (stp s q).1, az ++ [(stp s q).2], i + 1, rfl, by omega, X7, B7, sn3.below ?_, fun k hk => ?_, ?_, fun k hk => ?_, by simp [hal], ?_, okr, hr1, ?_⟩, ?_⟩
    · exact (((BA.mono (by omega)).trans (K5.below (fun k hk e => by have := hU3 k e; omega) (by omega))).trans (B56.mono (by omega))).trans (K6.below (fun k hk e => by have := (oav k e).1; omega) (by omega))
    · rcases hU5 k hk with h | h
      · exact hU3 k h
      · omega
    · rw [List.flatten_append]
      simpa using o6
    · intro e
      rcases hav6 k hk with h | h
      · exact avn k h e
      · have := hin5 k e; omega
    · have tr : ∀ b, w0.heap.size ≤ b → b < w4.heap.size → ¬ (Y b ∨ av.ownBlock = some b) → ¬ (U5 b ∨ av6.ownBlock = some b) := fun b h1 h2 hn h => by
        rcases h with h | h
        · rcases hU5 b h with h | h
          · exact hn (.inl h)
          · omega
        · rcases hav6 b h with h | h
          · exact hn (.inr h)
          · omega
      have q1 := hA.to tr
      refine AnsAt.snoc ?_ ?_
      · have q2 := ((hA.kp kA fun _ _ _ _ h => h).kp K5 fun b _ _ hn h => hn (.inl h)).kp k56 fun _ _ _ _ h => h
        have q3 := q2.kp K6 fun b _ _ hn h => hn (.inr h)
        refine ⟨q3.1, fun j h1 h2 => ?_⟩
        obtain ⟨x1, x2, x3, e1, r1, r2, r3, r4⟩ := q3.2 j h1 h2
        obtain ⟨y1, y2, y3, f1, _, _, _, g4⟩ := q1.2 j h1 h2
        rw [e1] at f1
        simp only [answC, List.cons.injEq, and_true, true_and] at f1
        obtain ⟨rfl, rfl, rfl⟩ := f1
        exact ⟨_, _, _, e1, r1, r2, r3, fun b hb => ⟨(r4 b hb).1, (r4 b hb).2.1, (g4 b hb).2.2⟩⟩
      · have q0 : AnsN w5 wA.heap.size (fun k => U5 k ∨ av6.ownBlock = some k) (stp s q).2 c := bc.to fun b h1 h2 hn h => by
          rcases h with h | h
          · exact hn h
          · rcases hav6 b h with h | h
            · have := (oav b h).2; omega
            · omega
        exact ((q0.kp k56 fun _ _ _ _ h => h).kp K6 fun b h1 h2 hn h => by have := (oav b h).2; omega).less (by omega)
    · rw [List.append_assoc]
      exact hr2
    · simp only [RowKit.intOf, gs1]
      omega
  · have e1 : i = qs.length := by omega
    subst e1
    simp (disch := first | omega | (simp only [sZb, sZa, sZd] <;> omega) | (simp (disch := first | omega | (simp only [sZb, sZa, sZd] <;> omega) | fail) only [go_sem]; done) | fail) only [go_sem, dec_t, dec_f, w_u32, w_u64, w_u16, w_u8, w_i64, Int.reduceToNat, Int.reducePow, Nat.reducePow]
    refine jn_with (fun _ _ => False) (fun _ _ _ h => h.elim) ?_
    rw [List.drop_length] at hr1 hr2
    have hr1' : s = (runX stp s0 qs).1 := hr1
    have hr2' : az = (runX stp s0 qs).2 := by simpa [runX] using hr2
    rw [← hr1'] at hk
    rw [← hr2'] at hk
    exact hk _ av cs Y B3 X3 hU3 o3 hav hA
end
end Go.Proofs.YteblpejgenehfaaDoor.X
end
section
namespace Go.Proofs.YteblpejgenehfaaDoor.X
open Go Go.X Go.Proofs Go.RowKit
abbrev fx0 (data : List UInt8) (ro : Bool) : FX := ⟨data, 0, false, ro, 0, [47, 102], .map none, false, 268435456, 0, 0, 0⟩
abbrev datC (l : List UInt8) (v : Value) : List Value := [S l, v, .map none, .bool false, .int .u32 268435456, .int .i64 0, .int .i64 0, .int .i64 0]
section
variable {w w' : World} {K : Value → World → Prop} {B : Nat} {m : Nat → Nat × Nat}
theorem doorWith_spec {l : List UInt8} {a : Option Addr} {n c : Nat} (hk : ∀ w' d, w.heap.size ≤ d → Below w.heap.size w w' → bk w' d = some (CB (datC l (.slice a n c)) T.mem_FileData) → K (pt d 0) w') : Cl P Fn.mem_DoorWith #[S l, .slice a n c] w K := by
  apply S_mem_DoorWith
  unfold F_mem_DoorWith
  simp (disch := first | omega | (simp only [sZb, sZa, sZd] <;> omega) | (simp (disch := first | omega | (simp only [sZb, sZa, sZd] <;> omega) | fail) only [go_sem]; done) | fail) only [go_sem, dec_t, dec_f, w_u32, w_u64, w_u16, w_u8, w_i64, Int.reduceToNat, Int.reducePow, Nat.reducePow]
  apply S_mem_CreateFile
  unfold F_mem_CreateFile
  simp (disch := first | omega | (simp only [sZb, sZa, sZd] <;> omega) | (simp (disch := first | omega | (simp only [sZb, sZa, sZd] <;> omega) | fail) only [go_sem]; done) | fail) only [go_sem, dec_t, dec_f, w_u32, w_u64, w_u16, w_u8, w_i64, Int.reduceToNat, Int.reducePow, Nat.reducePow]
  refine hk _ _ ?_ ?_ ?_
  · exact Nat.le_refl _
  · repeat (first | exact Below.refl _ _ | assumption | refine bel_setb ?_ (by first | exact Nat.le_refl _ | omega | (simp only [go_sem] <;> omega)) _ | refine Below.alloc ?_ (by first | exact Nat.le_refl _ | omega | (simp only [go_sem]; omega)) _ | refine Below.drew ?_)
  · exact bk_setb_eq _ _ _ _ rfl (by simp only [go_sem]; omega)
theorem newHandle_spec {d : Nat} (hk : ∀ w' f, w.heap.size ≤ f → Below w.heap.size w w' → bk w' f = some (CB [.int .i64 0, .int .i64 0, .bool false, .bool false, pt d 0] T.mem_File) → K (pt f 0) w') : Cl P Fn.mem_NewFileHandle #[pt d 0] w K := by
  apply S_mem_NewFileHandle
  unfold F_mem_NewFileHandle
  simp (disch := first | omega | (simp only [sZb, sZa, sZd] <;> omega) | (simp (disch := first | omega | (simp only [sZb, sZa, sZd] <;> omega) | fail) only [go_sem]; done) | fail) only [go_sem, dec_t, dec_f, w_u32, w_u64, w_u16, w_u8, w_i64, Int.reduceToNat, Int.reducePow, Nat.reducePow]
  refine hk _ _ ?_ ?_ ?_
  · exact Nat.le_refl _
  · repeat (first | exact Below.refl _ _ | assumption | refine bel_setb ?_ (by first | exact Nat.le_refl _ | omega | (simp only [go_sem] <;> omega)) _ | refine Below.alloc ?_ (by first | exact Nat.le_refl _ | omega | (simp only [go_sem]; omega)) _ | refine Below.drew ?_)
  · exact bk_alloc_eq _ _ _ rfl
theorem newReadHandle_spec {d : Nat} (hk : ∀ w' f, w.heap.size ≤ f → Below w.heap.size w w' → bk w' f = some (CB [.int .i64 0, .int .i64 0, .bool false, .bool true, pt d 0] T.mem_File) → K (pt f 0) w') : Cl P Fn.mem_NewReadOnlyFileHandle #[pt d 0] w K := by
  apply S_mem_NewReadOnlyFileHandle
  unfold F_mem_NewReadOnlyFileHandle
  simp (disch := first | omega | (simp only [sZb, sZa, sZd] <;> omega) | (simp (disch := first | omega | (simp only [sZb, sZa, sZd] <;> omega) | fail) only [go_sem]; done) | fail) only [go_sem, dec_t, dec_f, w_u32, w_u64, w_u16, w_u8, w_i64, Int.reduceToNat, Int.reducePow, Nat.reducePow]
  refine hk _ _ ?_ ?_ ?_
  · exact Nat.le_refl _
  · repeat (first | exact Below.refl _ _ | assumption | refine bel_setb ?_ (by first | exact Nat.le_refl _ | omega | (simp only [go_sem] <;> omega)) _ | refine Below.alloc ?_ (by first | exact Nat.le_refl _ | omega | (simp only [go_sem]; omega)) _ | refine Below.drew ?_)
  · exact bk_alloc_eq _ _ _ rfl
theorem own_mono {b0 b1 size n : Nat} {e : TypeId} {v : Value} {xs : List Value} (h : w.ownsRow b1 e size v n xs) (hb : b0 ≤ b1) : w.ownsRow b0 e size v n xs := by
  refine ⟨h.1, ?_⟩
  rcases h.2 with h | ⟨g, cap, cur, h1, h2, h3⟩
  · exact .inl h
  · exact .inr ⟨g, cap, cur, h1, by omega, h3⟩
theorem doorBytes_spec {f d : Nat} {v : Value} {s : FX} (h : FH w B f d v s) (hk : K v w) : Cl P Fn.mem_FileData_DoorBytes #[pt d 0] w K := by
  apply S_mem_FileData_DoorBytes
  unfold F_mem_FileData_DoorBytes
  have hd := h.bd
  obtain ⟨a, c, rfl⟩ := own_slice h.own
  simp (disch := first | omega | (simp only [sZb, sZa, sZd] <;> omega) | (simp (disch := first | omega | (simp only [sZb, sZa, sZd] <;> omega) | fail) only [go_sem, hd]; done) | fail) only [go_sem, dec_t, dec_f, w_u32, w_u64, w_u16, w_u8, w_i64, Int.reduceToNat, Int.reducePow, Nat.reducePow, hd]
  exact hk
theorem XU_locS (B u f1 d1 f2 d2 : Nat) (s : FX × FX) : LocS (XU B u f1 d1 f2 d2 s.1 s.2) := by
  rintro w w' U S ⟨v1, v2, h, rfl⟩ K hn
  have hb := h.lt
  refine ⟨v1, v2, ⟨h.l.kept K fun x hx e => hn x (.inr (.inl hx)) e, h.b.kept K fun x hx e => hn x (.inr (.inr hx)) e, h.sep, h.hu, ?_, h.n1, h.n2⟩, rfl⟩
  rw [K.block u hb.1 fun e => hn u (.inl rfl) e]
  exact h.bu
theorem XU_in (B u f1 d1 f2 d2 : Nat) (s : FX × FX) (w : World) (U : Nat → Prop) (h : XU B u f1 d1 f2 d2 s.1 s.2 w U) : ∀ k, U k → k < w.heap.size := by
  obtain ⟨v1, v2, h, rfl⟩ := h
  rintro k (e | e | e)
  · rw [e]; exact h.lt.1
  · exact (h.lt.2.1 k e).2
  · exact (h.lt.2.2 k e).2
def wovS (s : FX × FX) (q : SM.Stp) : (FX × FX) × SM.Ans := (((wovX s.1 s.2 q).1, (wovX s.1 s.2 q).2.1), (wovX s.1 s.2 q).2.2)
theorem XU_step (B u f1 d1 f2 d2 : Nat) (s : FX × FX) (q : SM.Stp) (w : World) (x : Value) (U : Nat → Prop) (K : Value → World → Prop) (h : XU B u f1 d1 f2 d2 s.1 s.2 w U) (sn : Sn w B m) (g : OkU s.1 s.2 q) (hx : BS w x q.data) (hk : AnK w U (XU B u f1 d1 f2 d2 (wovS s q).1.1 (wovS s q).1.2) (wovS s q).2 K) : Cl P Fn.impl_woven #[pt u 0, AG (stepC q x)] w K := by
  obtain ⟨v1, v2, h, rfl⟩ := h
  exact woven_any h sn g hx hk
abbrev unC (f2 f1 : Nat) : List Value := [pt f2 0, pt f1 0, .int .i64 0, .slice none 0 0]
set_option maxHeartbeats 4000000 in
theorem union_script {t0 t1 tv : Value} {ro : Bool} {l1 l2 : List UInt8} {qs : List SM.Stp} {vs : List Value} (hd1 : BS w t0 l1) (hd2 : BS w t1 l2) (hl1 : l1.length ≤ 140737488355328) (hl2 : l2.length ≤ 140737488355328) (hs : Sn w w.heap.size m) (hq : StepsAt w tv qs vs) (hql : qs.length ≤ 1000000) (hok : okX wovS (fun s q => OkU s.1 s.2 q) (fx0 l1 ro, fx0 l2 ro) qs)
    (hsl1 : (runX wovS (fx0 l1 ro, fx0 l2 ro) qs).1.1.bytes.length ≤ 140737488355328) (hsl2 : (runX wovS (fx0 l1 ro, fx0 l2 ro) qs).1.2.bytes.length ≤ 140737488355328)
    (hk : ∀ w' av lv bv cs, Below w.heap.size w w' → w'.ownsRow w.heap.size T.impl_Answer 6 av qs.length (List.flatten cs) → AnsAt w' w.heap.size (fun k => av.ownBlock = some k) (runX wovS (fx0 l1 ro, fx0 l2 ro) qs).2 cs → w'.ownsRow w.heap.size T.uint8 1 lv (runX wovS (fx0 l1 ro, fx0 l2 ro) qs).1.1.bytes.length ((runX wovS (fx0 l1 ro, fx0 l2 ro) qs).1.1.bytes.map byt) → w'.ownsRow w.heap.size T.uint8 1 bv (runX wovS (fx0 l1 ro, fx0 l2 ro) qs).1.2.bytes.length ((runX wovS (fx0 l1 ro, fx0 l2 ro) qs).1.2.bytes.map byt) → K (tup [av, lv, bv]) w') :
    Cl P Fn.impl_UnionScript #[t0, t1, .bool ro, tv] w K := by
  apply S_impl_UnionScript
  unfold F_impl_UnionScript
  refine oCopyOf U.sl_uint8 (by kernel_rfl) hd1 (by omega) fun dv1 w1 own1 b1 => ?_
  rw [C.mem_DoorWith]
  obtain ⟨a1, c1, rfl⟩ := own_slice own1
  have z1 := b1.size
  refine doorWith_spec fun w2 d1 ld1 b2 e2 => ?_
  have z2 := b2.size
  refine oCopyOf U.sl_uint8 (by kernel_rfl) (BS_old hd2 (b1.trans (b2.mono (by omega))) (Nat.le_refl _)) (by omega) fun dv2 w3 own2 b3 => ?_
  rw [C.mem_DoorWith]
  obtain ⟨a2, c2, rfl⟩ := own_slice own2
  have z3 := b3.size
  refine doorWith_spec fun w4 d2 ld2 b4 e4 => ?_
  have z4 := b4.size
  rw [C.mem_NewFileHandle]
  refine newHandle_spec fun w5 f2 lf2 b5 e5 => ?_
  have z5 := b5.size
  rw [C.mem_NewFileHandle]
  refine newHandle_spec fun w6 f1 lf1 b6 e6 => ?_
  have z6 := b6.size
  have le2 := bk_lt e2
  have le4 := bk_lt e4
  have le5 := bk_lt e5
  have le6 := bk_lt e6
  have lo1 := own_lt own1
  have lo2 := own_lt own2
  -- the memory with both files, without the union
  have mk : ∀ (w9 : World) (g1 g2 : Nat), w4.heap.size ≤ g2 → g2 < g1 → Below w4.heap.size w4 w9 → bk w9 g1 = some (CB [.int .i64 0, .int .i64 0, .bool false, .bool ro, pt d1 0] T.mem_File) → bk w9 g2 = some (CB [.int .i64 0, .int .i64 0, .bool false, .bool ro, pt d2 0] T.mem_File) →
      ∀ w10, w10 = w9.alloc (CB (unC g2 g1) T.afero_UnionFile) → XU w.heap.size w9.heap.size g1 d1 g2 d2 (fx0 l1 ro) (fx0 l2 ro) w10 (Ou w9.heap.size g1 d1 (.slice a1 l1.length c1) g2 d2 (.slice a2 l2.length c2)) ∧ (∀ k, Ou w9.heap.size g1 d1 (.slice a1 l1.length c1) g2 d2 (.slice a2 l2.length c2) k → w.heap.size ≤ k ∧ k < w10.heap.size) := by
    intro w9 g1 g2 hg2 hg1 b9 h1 h2 w10 e10
    have z9 := b9.size
    have b10 : Below w9.heap.size w9 w10 := by rw [e10]; repeat (first | exact Below.refl _ _ | assumption | refine bel_setb ?_ (by first | exact Nat.le_refl _ | omega | (simp only [go_sem] <;> omega)) _ | refine Below.alloc ?_ (by first | exact Nat.le_refl _ | omega | (simp only [go_sem]; omega)) _ | refine Below.drew ?_)
    have b29 : Below w2.heap.size w2 w9 := (b3.trans (b4.mono (by omega))).trans (b9.mono (by omega))
    have lg1 := bk_lt h1
    have lg2 := bk_lt h2
    have o1 := own_old (own_old own1 b2 (Nat.le_refl _)) b29 (Nat.le_refl _)
    have o2 := own_old (own_old own2 b4 (Nat.le_refl _)) b9 (Nat.le_refl _)
    have F1 : FH w9 w.heap.size g1 d1 (.slice a1 l1.length c1) (fx0 l1 ro) := ⟨by omega, by omega, by omega, h1, (bel_bk b29 le2).trans e2, rfl, o1, fun e => by have := (lo1 _ e).2; omega, fun e => by have := (lo1 _ e).2; omega⟩
    have F2 : FH w9 w.heap.size g2 d2 (.slice a2 l2.length c2) (fx0 l2 ro) := ⟨by omega, by omega, by omega, h2, (bel_bk b9 le4).trans e4, rfl, own_mono o2 (by omega), fun e => by have := (lo2 _ e).2; omega, fun e => by have := (lo2 _ e).2; omega⟩
    have r1 : ∀ k, Of g1 d1 (.slice a1 l1.length c1) k → w.heap.size ≤ k ∧ k < w9.heap.size := by
      rintro k (e | e | e)
      · omega
      · omega
      · have := lo1 k e; omega
    have r2 : ∀ k, Of g2 d2 (.slice a2 l2.length c2) k → w.heap.size ≤ k ∧ k < w9.heap.size := by
      rintro k (e | e | e)
      · omega
      · omega
      · have := lo2 k e; omega
    refine ⟨⟨_, _, ⟨F1.old b10, F2.old b10, ?_, by omega, by rw [e10]; exact bk_alloc_eq _ _ _ rfl, fun e => by have := (r1 _ e).2; omega, fun e => by have := (r2 _ e).2; omega⟩, rfl⟩, ?_⟩
    · rintro k (e | e | e) (h | h | h)
      · omega
      · omega
      · have := lo2 k h; omega
      · omega
      · omega
      · have := lo2 k h; omega
      · have := lo1 k e; omega
      · have := lo1 k e; omega
      · have := lo1 k e; have := lo2 k h; omega
    · have z10 := b10.size
      have z10' : w10.heap.size = w9.heap.size + 1 := by rw [e10]; simp only [go_sem]
      rintro k (e | e | e)
      · omega
      · have := r1 k e; omega
      · have := r2 k e; omega
  have B4 : Below w.heap.size w w4 := ((b1.trans (b2.mono (by omega))).trans (b3.mono (by omega))).trans (b4.mono (by omega))
  rw [M.bd_afero_UnionFile _ _ rfl]
  show st P (oBox T.afero_UnionFile (AG (unC f2 f1))) w6 _
  rw [oBox_agg]
  refine jn_with (fun t w' => ∃ u g1 g2 U, t = [pt u 0] ∧ XU w.heap.size u g1 d1 g2 d2 (fx0 l1 ro) (fx0 l2 ro) w' U ∧ (∀ k, U k → w.heap.size ≤ k ∧ k < w'.heap.size) ∧ Below w.heap.size w w') ?_ ?_
  · rintro t e w7 ⟨u, g1, g2, U0, rfl, X7, hU7, B7⟩
    refine jn_with (fun t w' => ∃ av cs U, t = [av] ∧ Below w.heap.size w w' ∧ XU w.heap.size u g1 d1 g2 d2 (runX wovS (fx0 l1 ro, fx0 l2 ro) qs).1.1 (runX wovS (fx0 l1 ro, fx0 l2 ro) qs).1.2 w' U ∧ w'.ownsRow w.heap.size T.impl_Answer 6 av qs.length (List.flatten cs) ∧ AnsAt w' w.heap.size (fun k => U k ∨ av.ownBlock = some k) (runX wovS (fx0 l1 ro, fx0 l2 ro) qs).2 cs) ?_ ?_
    · rintro t e w8 ⟨av, cs, U8, rfl, B8, ⟨v1, v2, F8, rfl⟩, o8, A8⟩
      rw [gs0, C.mem_FileData_DoorBytes]
      refine doorBytes_spec F8.l ?_
      refine oCopyOf U.sl_uint8 (by kernel_rfl) (BS_own F8.l.own) hsl1 fun lv w9 o9 b9 => ?_
      rw [C.mem_FileData_DoorBytes]
      have F9 := F8.old b9
      refine doorBytes_spec F9.b ?_
      refine oCopyOf U.sl_uint8 (by kernel_rfl) (BS_own F9.b.own) hsl2 fun bv w10 o10 b10 => ?_
      have z9 := b9.size
      have z8 := B8.size
      have b8 : Below w8.heap.size w8 w10 := b9.trans (b10.mono (by omega))
      exact hk w10 av lv bv cs (B8.trans (b8.mono B8.size)) (own_old o8 b8 (Nat.le_refl _)) ((A8.kp (Kp.of_below b8 fun _ => False) fun _ _ _ _ h => h).to fun b _ _ hn h => hn (.inr h)) (own_mono (own_old o9 b10 (Nat.le_refl _)) B8.size) (own_mono o10 (by omega))
    · obtain ⟨ta, tc, etv⟩ := hq.slice
      rw [etv, V.len_sl_impl_Step, ← etv, gs0]
      refine loop_spec (k2 := fun t w' => ∃ av cs U, t = [av] ∧ Below w.heap.size w w' ∧ XU w.heap.size u g1 d1 g2 d2 (runX wovS (fx0 l1 ro, fx0 l2 ro) qs).1.1 (runX wovS (fx0 l1 ro, fx0 l2 ro) qs).1.2 w' U ∧ w'.ownsRow w.heap.size T.impl_Answer 6 av qs.length (List.flatten cs) ∧ AnsAt w' w.heap.size (fun k => U k ∨ av.ownBlock = some k) (runX wovS (fx0 l1 ro, fx0 l2 ro) qs).2 cs) (B := w.heap.size) (m := m) (X := fun s => XU w.heap.size u g1 d1 g2 d2 s.1 s.2) (stp := wovS) (ok := fun s q => OkU s.1 s.2 q) (fun h => by rw [C.impl_woven]; exact h) (XU_locS _ _ _ _ _ _) (fun s q w x U K => XU_step _ _ _ _ _ _ s q w x U K) hq B7 (Nat.le_refl _) (hs.below B7) hql X7 hU7 hok (XU_in _ _ _ _ _ _) fun w' av cs U B X hU o hav A => ?_
      exact ⟨av, cs, U, rfl, B, X, o, A⟩
  · obtain ⟨W6, eW6⟩ : ∃ W6, W6 = w6.alloc (CB (unC f2 f1) T.afero_UnionFile) := ⟨_, rfl⟩
    have B6 : Below w6.heap.size w6 W6 := by rw [eW6]; repeat (first | exact Below.refl _ _ | assumption | refine bel_setb ?_ (by first | exact Nat.le_refl _ | omega | (simp only [go_sem] <;> omega)) _ | refine Below.alloc ?_ (by first | exact Nat.le_refl _ | omega | (simp only [go_sem]; omega)) _ | refine Below.drew ?_)
    have zW : W6.heap.size = w6.heap.size + 1 := by rw [eW6]; simp only [go_sem]
    have b46 : Below w4.heap.size w4 w6 := b5.trans (b6.mono (by omega))
    cases ro with
    | true =>
      rw [← eW6]
      simp (disch := first | omega | (simp only [sZb, sZa, sZd] <;> omega) | (simp (disch := first | omega | (simp only [sZb, sZa, sZd] <;> omega) | fail) only [go_sem]; done) | fail) only [go_sem, dec_t, dec_f, w_u32, w_u64, w_u16, w_u8, w_i64, Int.reduceToNat, Int.reducePow, Nat.reducePow]
      refine newReadHandle_spec fun w8 h2 lh2 b8 e8 => ?_
      have z8 := b8.size
      refine newReadHandle_spec fun w9 h1 lh1 b9 e9 => ?_
      simp (disch := first | omega | (simp only [sZb, sZa, sZd] <;> omega) | (simp (disch := first | omega | (simp only [sZb, sZa, sZd] <;> omega) | fail) only [go_sem]; done) | fail) only [go_sem, dec_t, dec_f, w_u32, w_u64, w_u16, w_u8, w_i64, Int.reduceToNat, Int.reducePow, Nat.reducePow]
      have le8 := bk_lt e8
      have b49 : Below w4.heap.size w4 w9 := ((b46.trans (B6.mono (by omega))).trans (b8.mono (by omega))).trans (b9.mono (by omega))
      obtain ⟨k1, k2⟩ := mk w9 h1 h2 (by omega) (by omega) b49 e9 ((bel_bk b9 le8).trans e8) _ rfl
      have z9 := b49.size
      exact ⟨_, _, _, _, rfl, k1, (fun k hk => by have := k2 k hk; simpa only [go_sem] using this), (B4.trans (b49.mono (by have := B4.size; omega))).trans (by repeat (first | exact Below.refl _ _ | assumption | refine bel_setb ?_ (by first | exact Nat.le_refl _ | omega | (simp only [go_sem] <;> omega)) _ | refine Below.alloc ?_ (by first | exact Nat.le_refl _ | omega | (simp only [go_sem]; omega)) _ | refine Below.drew ?_))⟩
    | false =>
      simp (disch := first | omega | (simp only [sZb, sZa, sZd] <;> omega) | (simp (disch := first | omega | (simp only [sZb, sZa, sZd] <;> omega) | fail) only [go_sem]; done) | fail) only [go_sem, dec_t, dec_f, w_u32, w_u64, w_u16, w_u8, w_i64, Int.reduceToNat, Int.reducePow, Nat.reducePow]
      obtain ⟨k1, k2⟩ := mk w6 f1 f2 (by omega) (by omega) b46 e6 ((bel_bk b6 le5).trans e5) _ rfl
      have z9 := b46.size
      exact ⟨_, _, _, _, rfl, k1, (fun k hk => by have := k2 k hk; simpa only [go_sem] using this), (B4.trans (b46.mono (by have := B4.size; omega))).trans (by repeat (first | exact Below.refl _ _ | assumption | refine bel_setb ?_ (by first | exact Nat.le_refl _ | omega | (simp only [go_sem] <;> omega)) _ | refine Below.alloc ?_ (by first | exact Nat.le_refl _ | omega | (simp only [go_sem]; omega)) _ | refine Below.drew ?_))⟩
end
end Go.Proofs.YteblpejgenehfaaDoor.X
end
section
namespace Go.X
open Go Go.RowKit Go.WideShapes Go.Deep
section
variable {H : Type} {enc : TypeId × Value → H} {P : Program} {W : World}
theorem open_elems {t e : TypeId} {size fuel : Nat} {cs : List Value} {x : DataW H × List MemPlace} (ht : P.underlying t = some (.slice e)) (hc : P.cellsOf e = size) (h0 : 0 < size) (h : DataW.trod enc P W 0 (fun _ => true) true fuel t cs = some x) :
    (∃ a cap, cs = [.slice a 0 cap]) ∨ ∃ b o n cap, cs = [sl b o n cap] ∧ n ≤ cap ∧ cap ≤ maxLen ∧ b < W.heap.size ∧ n ≠ 0 ∧ ∃ m, ∀ i, i < n → ∃ c y, rowOf (bk W b) (o + i * size) size = some c ∧ DataW.trod enc P W 0 (fun _ => true) true m e c = some y := by
  rcases open_slice ht h with ⟨h1, _⟩ | ⟨a, n, cap, m, k, D, Pl, rfl, _, h2, h3, h4, _, h5⟩
  · exact .inl ⟨none, 0, h1⟩
  · by_cases hn : n = 0
    · subst hn; exact .inl ⟨_, _, rfl⟩
    simp only [if_true] at h4
    subst h4
    obtain ⟨c0, hc0, _⟩ := h5 0 (by omega)
    obtain ⟨_, hl0, hg0⟩ := World.cells?_some hc0
    rw [hc] at hl0
    have h00 := hg0 0 (by omega)
    have hne : c0[0]? ≠ none := by rw [List.getElem?_eq_getElem (by omega)]; simp
    have hspot : a.spot = none := by
      cases hs : a.spot with
      | none => rfl
      | some s =>
        exfalso
        have hs2 : ((a.add (0 * P.cellsOf e)).add 0).spot = some s := by
          rw [Nat.zero_mul]
          exact hs
        unfold World.cell? at h00
        rw [hs2] at h00
        split at h00
        · simp at h00; rw [h00] at hl0; simp at hl0; omega
        · exact hne h00.symm
    obtain ⟨b, o, sp⟩ := a
    simp only at hspot
    subst hspot
    have row : ∀ i, i < n → ∃ c y, rowOf (bk W b) (o + i * size) size = some c ∧ DataW.trod enc P W 0 (fun _ => true) true k e c = some y := fun i hi => by
      obtain ⟨c, hc1, hc2⟩ := h5 i (by omega)
      obtain ⟨_, hl, hg⟩ := World.cells?_some hc1
      rw [hc] at hl hg
      refine ⟨c, _, ?_, hc2⟩
      have cell : ∀ j, j < size → cellOf (bk W b) (o + i * size + j) = c[j]? := fun j hj => by
        have := hg j hj
        rw [Addr.add_lit, Addr.add_lit, cell?_eq] at this
        exact this
      have hz := cell (size - 1) (by omega)
      have hlt : c[size - 1]? ≠ none := by rw [List.getElem?_eq_getElem (by omega)]; simp
      unfold cellOf at hz
      split at hz
      · rename_i cc tt fz hb
        rw [hb] at cell ⊢
        simp only [rowOf]
        have hlast : o + i * size + (size - 1) < cc.size := by
          refine Nat.lt_of_not_le fun hle => hlt ?_
          rw [← hz, Array.getElem?_eq_none hle]
        rw [if_pos (by omega)]
        congr 1
        apply List.ext_getElem?
        intro j
        by_cases hj : j < size
        · rw [List.getElem?_take_of_lt hj, List.getElem?_drop]
          have : cc[o + i * size + j]? = c[j]? := cell j hj
          rw [Array.getElem?_toList, this]
        · rw [List.getElem?_eq_none (by simp; omega), List.getElem?_eq_none (by omega)]
      · exact absurd hz.symm hlt
    refine .inr ⟨b, o, n, _, rfl, h2, h3, ?_, hn, k, row⟩
    obtain ⟨c, y, hr, _⟩ := row 0 (by omega)
    obtain ⟨c', t', fz, e1, _⟩ := rowOf_inv hr
    exact bk_lt e1
end
end Go.X
end
section
namespace Go.Proofs.YteblpejgenehfaaDoor.X
open Go Go.X Go.Proofs Go.RowKit Go.WideShapes
abbrev i64 (n : Int) : Prop := -9223372036854775808 ≤ n ∧ n ≤ 9223372036854775807
section
variable {H : Type} {enc : TypeId × Value → H} {W : World}
theorem open_i64 {t : TypeId} {fuel : Nat} {cs : List Value} {x : DataW H × List MemPlace} (ht : P.underlying t = some (.int .i64)) (h : DataW.trod enc P W 0 (fun _ => true) true fuel t cs = some x) : ∃ n, cs = [.int .i64 n] ∧ i64 n := by
  obtain ⟨n, e, _, w⟩ := DataW.trod_int ht h
  simp only [Lit.wf, Bool.and_eq_true, decide_eq_true_eq] at w
  exact ⟨n, e, w.1, w.2⟩
theorem choose_range {β : Type} (R : Nat → β → Prop) : ∀ (n : Nat), (∀ i, i < n → ∃ b, R i b) → ∃ m : List β, m.length = n ∧ ∀ i (h : i < m.length), R i m[i]
  | 0, _ => ⟨[], rfl, fun i h => absurd h (by simp)⟩
  | n + 1, h => by
    obtain ⟨m, e, hm⟩ := choose_range R n fun i hi => h i (by omega)
    obtain ⟨b, hb⟩ := h n (by omega)
    refine ⟨m ++ [b], by simp [e], fun i hi => ?_⟩
    by_cases q : i < m.length
    · rw [List.getElem_append_left q]; exact hm i q
    · have : i = m.length := by simp at hi; omega
      subst this
      rw [List.getElem_append_right (by omega)]
      simp only [Nat.sub_self, List.getElem_cons_zero]
      rw [e]; exact hb
end
theorem Sn.mono {w : World} {B C : Nat} {m : Nat → Nat × Nat} (h : Sn w B m) (hC : B ≤ C) : Sn w C m :=
  ⟨fun g hg => ⟨by have := (h.at_ g hg).1; omega, (h.at_ g hg).2⟩, fun g hg => ⟨by have := (h.cell g hg).1; omega, (h.cell g hg).2⟩, h.inj⟩
theorem Sn.next {w w' : World} {m : Nat → Nat × Nat} (h : Sn w w.heap.size m) (b : Below w.heap.size w w') : Sn w' w'.heap.size m := (h.below b).mono b.size
end Go.Proofs.YteblpejgenehfaaDoor.X
end
section
namespace Go.Proofs.YteblpejgenehfaaDoor.X
open Go Go.X Go.Proofs Go.RowKit
theorem cellOf_sub {ob : Option Obj} {p n : Nat} {l : List Value} (h : rowOf ob p n = some l) {q : Nat} (hq : q < n) : cellOf ob (p + q) = l[q]? := by
  obtain ⟨c, t, fz, rfl, h2, h3⟩ := rowOf_inv h
  simp only [cellOf]
  rw [← h3, List.getElem?_take_of_lt hq, List.getElem?_drop, Array.getElem?_toList]
section
variable {w w' : World} {K : Value → World → Prop}
theorem AnsAt.idx {lo B n cap : Nat} {N : Nat → Prop} {az : List SM.Ans} {cs : List (List Value)} {a : Option Addr} (h : AnsAt w lo N az cs) (o : w.ownsRow B T.impl_Answer 6 (.slice a n cap) n (List.flatten cs)) (hn : az.length = n) {i : Nat} (hi : i < n) :
    ∃ b p, rowOf (bk w b) p 6 = some (cs[i]'(by rw [h.1, hn]; exact hi)) ∧ ∀ M : Value → Prop, pu P (oIdxA T.sl_impl_Answer (.slice a n cap) (.int .i64 i)) M = M (pt b p) := by
  have hc : ∀ c ∈ cs, c.length = 6 := fun c hc => by
    obtain ⟨j, hj, rfl⟩ := List.getElem_of_mem hc
    exact (ans_oneCells (h.2 j hj (by rw [← h.1]; exact hj))).1
  have hl : cs.length = n := by rw [h.1, hn]
  obtain ⟨b, cap', cur, e, h1, h2, h3, h4, h5, h6⟩ := own_row o (by omega)
  injection e with e1 e2 e3
  subst e1 e3
  have fl : ∀ (l : List (List Value)) (j : Nat) (hj : j < l.length), (∀ c ∈ l, c.length = 6) → (l.flatten.drop (j * 6)).take 6 = l[j] := fun l => by
    induction l with
    | nil => intro j hj; exact absurd hj (by simp)
    | cons c l ih =>
      intro j hj hh
      have hc0 := hh c (List.mem_cons_self ..)
      cases j with
      | zero =>
        simp only [List.flatten_cons, Nat.zero_mul, List.drop_zero, List.getElem_cons_zero]
        rw [List.take_append_of_le_length (by omega), List.take_of_length_le (by omega)]
      | succ j =>
        simp only [List.flatten_cons, List.getElem_cons_succ]
        rw [List.drop_append, List.drop_of_length_le (by omega), List.nil_append, hc0, show (j + 1) * 6 - 6 = j * 6 by omega]
        exact ih j (by simpa using hj) fun c hc => hh c (List.mem_cons_of_mem _ hc)
  refine ⟨b, i * 6, ?_, fun M => ?_⟩
  · rw [h4, rowOf_CB _ _ _ _ (by omega)]
    congr 1
    rw [← fl cs i (by omega) hc, ← h6, List.drop_take, List.take_take, Nat.min_eq_left (by omega)]
  · show pu P (oIdxA T.sl_impl_Answer (sl b 0 n cap) (.int .i64 i)) M = _
    rw [oIdxA_sl (size := 6) M U.sl_impl_Answer (by kernel_rfl) (by omega) (by omega), Int.toNat_natCast, Nat.zero_add]
end
end Go.Proofs.YteblpejgenehfaaDoor.X
end
section
namespace Go.Proofs.YteblpejgenehfaaDoor.X
open Go Go.X Go.Proofs Go.RowKit Go.WideShapes
theorem cell_row {ob : Option Obj} {i n : Nat} {l : List Value} (h : rowOf ob i n = some l) (j : Nat) (hj : j < n) : cellOf ob (i + j) = l[j]? := cellOf_sub h hj
def IntsAt (w : World) (v : Value) (l : List Int) : Prop := (l = [] ∧ ∃ a cap, v = .slice a 0 cap) ∨ ∃ b o cap, v = sl b o l.length cap ∧ b < w.heap.size ∧ ∀ i (hi : i < l.length), cellOf (bk w b) (o + i) = some (.int .i64 l[i])
theorem IntsAt.old {w w' : World} {v : Value} {l : List Int} (h : IntsAt w v l) (hb : Below w.heap.size w w') : IntsAt w' v l := by
  rcases h with h | ⟨b, o, cap, h1, h2, h3⟩
  · exact .inl h
  · exact .inr ⟨b, o, cap, h1, Nat.lt_of_lt_of_le h2 hb.size, fun i hi => by rw [bel_bk hb h2]; exact h3 i hi⟩
theorem IntsAt.slice {w : World} {v : Value} {l : List Int} (h : IntsAt w v l) : ∃ a cap, v = .slice a l.length cap := by
  rcases h with ⟨rfl, a, cap, rfl⟩ | ⟨b, o, cap, rfl, _⟩
  · exact ⟨a, cap, rfl⟩
  · exact ⟨_, cap, rfl⟩
theorem IntsAt.at_ {w : World} {v : Value} {l : List Int} (h : IntsAt w v l) {tB tE : TypeId} (h2 : P.underlying tB = some (.slice tE)) (hs : (P.info? tE).map (·.size) = some 1) {i : Nat} (hi : i < l.length) :
    ∃ b o cap, v = sl b o l.length cap ∧ cellOf (bk w b) (o + i) = some (.int .i64 l[i]) ∧ ∀ (L : Value → Prop), pu P (oIdxA tB (sl b o l.length cap) (.int .i64 i)) L = L (pt b (o + i)) := by
  rcases h with ⟨rfl, _⟩ | ⟨b, o, cap, rfl, _, h3⟩
  · exact absurd hi (by simp)
  · refine ⟨b, o, cap, rfl, h3 i hi, fun L => ?_⟩
    rw [oIdxA_sl (size := 1) L h2 hs (by omega) (by omega)]
    rw [Int.toNat_natCast, Nat.mul_one]
theorem open_ints {H : Type} {enc : TypeId × Value → H} {W : World} {r : Reach} {b0 : Nat} {t e : TypeId} {v : Value} {d : DataW H} {p : List MemPlace} (ht : P.underlying t = some (.slice e)) (he : P.underlying e = some (.int .i64)) (hc : P.cellsOf e = 1) (hv : Value.okWide P W r b0 t v) (h : DataW.Trod enc P W 0 (fun _ => true) true t v d p) : ∃ l : List Int, IntsAt W v l ∧ (∀ x ∈ l, i64 x) ∧ l.length ≤ maxLen := by
  obtain ⟨a, n, cap, rfl⟩ := okWide_slice ht hv
  obtain ⟨fuel, hf⟩ := h
  have hf : DataW.trod enc P W 0 (fun _ => true) true fuel t [.slice a n cap] = some (d, p) := hf
  rcases open_elems (size := 1) ht hc (by omega) hf with ⟨a', cap', e⟩ | ⟨b, o, n', cap', e, h1, h2, h3, h4, m, h5⟩
  · injection e with e
    rw [e]
    exact ⟨[], .inl ⟨rfl, a', cap', rfl⟩, fun q hq => (by cases hq), by simp⟩
  · injection e with e
    rw [e]
    obtain ⟨l, hl, hq⟩ := choose_range (fun i (x : Int) => cellOf (bk W b) (o + i) = some (.int .i64 x) ∧ i64 x) n' fun i hi => by
      obtain ⟨c, y, e1, e2⟩ := h5 i hi
      obtain ⟨x, rfl, q1⟩ := open_i64 he e2
      rw [Nat.mul_one] at e1
      exact ⟨x, by have := cell_row e1 0 (by omega); simpa using this, q1⟩
    subst hl
    refine ⟨l, .inr ⟨b, o, cap', rfl, h3, fun i hi => (hq i hi).1⟩, fun x hm => ?_, by omega⟩
    obtain ⟨i, hi, rfl⟩ := List.getElem_of_mem hm
    exact (hq i hi).2
theorem own_steps {w : World} {B n : Nat} {sv : Value} {qs : List SM.Stp} {vs : List Value} (o : w.ownsRow B T.impl_Step 10 sv n ((List.zipWith stepC qs vs).flatten)) (hn : qs.length = n) (hv : vs.length = n) (hb : ∀ i (h1 : i < qs.length) (h2 : i < vs.length), BS w vs[i] qs[i].data) : StepsAt w sv qs vs := by
  refine ⟨by omega, hb, ?_⟩
  by_cases hn0 : n = 0
  · subst hn0
    obtain ⟨a, cap, rfl⟩ := own_slice o
    exact .inl ⟨List.length_eq_zero_iff.1 hn, a, cap, rfl⟩
  · obtain ⟨b, cap, cur, rfl, h1, h2, h3, h4, h5, h6⟩ := own_row o hn0
    refine .inr ⟨b, 0, cap, by rw [hn], h3, fun i g1 g2 => ?_⟩
    have fl : ∀ (qs : List SM.Stp) (vs : List Value) (j : Nat) (hj : j < qs.length) (hk : j < vs.length), ((List.zipWith stepC qs vs).flatten.drop (j * 10)).take 10 = stepC qs[j] vs[j] := fun qs => by
      induction qs with
      | nil => intro vs j hj; exact absurd hj (by simp)
      | cons q qs ih =>
        intro vs j hj hk
        cases vs with
        | nil => exact absurd hk (by simp)
        | cons v vs =>
          cases j with
          | zero =>
            simp only [List.zipWith_cons_cons, List.flatten_cons, Nat.zero_mul, List.drop_zero, List.getElem_cons_zero]
            rw [List.take_append_of_le_length (by simp), List.take_of_length_le (by simp)]
          | succ j =>
            simp only [List.zipWith_cons_cons, List.flatten_cons, List.getElem_cons_succ]
            rw [List.drop_append, List.drop_of_length_le (by simp; omega), List.nil_append, show (stepC q v).length = 10 from rfl, show (j + 1) * 10 - 10 = j * 10 by omega]
            exact ih vs j (by simpa using hj) (by simpa using hk)
    rw [h4, rowOf_CB _ _ _ _ (by omega), Nat.zero_add, ← fl qs vs i g1 g2, ← h6, List.drop_take, List.take_take, Nat.min_eq_left (by omega)]
theorem step_put {w : World} {L : Value → World → Prop} {B n : Nat} {sv : Value} {xs : List Value} (o : w.ownsRow B T.impl_Step 10 sv n xs) (hn : n ≤ 1000000) (hB : B ≤ w.heap.size) {q : SM.Stp} {v : Value} (hv : BS w v q.data)
    (hk : ∀ sv' w', w'.ownsRow B T.impl_Step 10 sv' (n + 1) (xs ++ stepC q v) → Below B w w' → (∀ k, sv'.ownBlock = some k → sv.ownBlock = some k ∨ w.heap.size ≤ k) → w.heap.size ≤ w'.heap.size → L sv' w') :
    st P (oBuildSlice T.sl_impl_Step 1 #[(0, AG (stepC q v))]) w fun t w1 => st P (oBuiltin .append #[T.sl_impl_Step, T.sl_impl_Step] T.sl_impl_Step #[false, false] #[sv, t]) w1 L := by
  obtain ⟨a, c, rfl⟩ := BS_slice hv
  rw [oBuildSliceN (size := 10) (z := AG (stepC ⟨0, [], [], 0, 0, 0, [], 0, 0, 0⟩ (.slice none 0 0))) _ _ U.sl_impl_Step (by kernel_rfl) (by omega) (by omega) (l := stepC q (.slice a q.data.length c)) rfl]
  have B1 : Below w.heap.size w (w.alloc (CB (stepC q (.slice a q.data.length c)) T.impl_Step)) := by repeat (first | exact Below.refl _ _ | assumption | refine bel_setb ?_ (by first | exact Nat.le_refl _ | omega | (simp only [go_sem] <;> omega)) _ | refine Below.alloc ?_ (by first | exact Nat.le_refl _ | omega | (simp only [go_sem]; omega)) _ | refine Below.drew ?_)
  have r1 : bk (w.alloc (CB (stepC q (.slice a q.data.length c)) T.impl_Step)) w.heap.size = some (CB (stepC q (.slice a q.data.length c)) T.impl_Step) := bk_alloc_eq _ _ _ rfl
  have z1 : (w.alloc (CB (stepC q (.slice a q.data.length c)) T.impl_Step)).heap.size = w.heap.size + 1 := by simp only [go_sem]
  generalize w.alloc (CB (stepC q (.slice a q.data.length c)) T.impl_Step) = w1 at *
  have o1 := own_old o B1 (Nat.le_refl _)
  have lo := own_lt o1
  refine oAppendR (size := 10) (bytes := 112) (z := AG (stepC ⟨0, [], [], 0, 0, 0, [], 0, 0, 0⟩ (.slice none 0 0))) (m := 1) (news := stepC q (.slice a q.data.length c)) U.sl_impl_Step (by kernel_rfl) rfl (by omega) o1 (.inl ⟨_, _, _, rfl, by rw [r1]; rfl⟩) rfl (fun u hu => ?_) (by simp only [maxLen]; omega) (by omega) (by omega) fun sv' w2 o2 g2 l2 => ?_
  · simp only [List.mem_cons, List.not_mem_nil, or_false] at hu
    rcases hu with rfl | rfl | rfl | rfl | rfl | rfl | rfl | rfl | rfl | rfl <;> rfl
  have K2 := Kp.of_grown g2
  have z2 := K2.size
  refine hk sv' w2 o2 ((B1.mono hB).trans (K2.below (fun k hk e => by have := (lo k e).1; omega) (by omega))) (fun k hk => ?_) (by omega)
  rcases l2 with h | h
  · exact .inl (by rw [← h]; exact hk)
  · rw [hk] at h; injection h with h; exact .inr (by omega)
theorem copy_at {w1 : World} {B p : Nat} {v1 x : Value} {G b : List UInt8} (o1 : w1.ownsRow B T.uint8 1 v1 G.length (G.map byt)) (hx1 : BS w1 x b) (hp : p + b.length ≤ G.length) (hl : G.length ≤ 1099511627776) :
    ∃ xb, (∀ (k : IntKind) (L : Value → Prop), pu P (oSlice T.sl_uint8 v1 (some (.int k p)) none none) L = L xb) ∧ ∀ L : Value → World → Prop, (∀ w', w'.ownsRow B T.uint8 1 v1 G.length ((G.take p ++ b ++ G.drop (p + b.length)).map byt) → Below B w1 w' → L (.int .i64 b.length) w') → st P (oBuiltin .copy #[T.sl_uint8, T.sl_uint8] T.int #[false, false] #[xb, x]) w1 L := by
  obtain ⟨a, cap, rfl⟩ := BS_slice hx1
  obtain ⟨xb, rb, ob, sb⟩ := own_back U.sl_uint8 (by kernel_rfl) o1 (p := p) (by omega)
  refine ⟨xb, sb, fun L hk => ?_⟩
  by_cases hb : b.length = 0
  · have hb' : b = [] := List.length_eq_zero_iff.1 hb
    subst hb'
    have eo2 : G.take p ++ [] ++ G.drop (p + ([] : List UInt8).length) = G := by simp
    rw [eo2] at hk
    obtain ⟨ax, capx, ex⟩ : ∃ a c, xb = .slice a (G.length - p) c := by
      rcases rb with ⟨b, o, c, rfl, _⟩ | ⟨h1, _, a, c, rfl⟩
      · exact ⟨_, _, rfl⟩
      · exact ⟨_, _, by rw [h1]⟩
    rw [ex]
    show st P (oBuiltin .copy #[T.sl_uint8, T.sl_uint8] T.int #[false, false] #[.slice ax (G.length - p) capx, .slice a 0 cap]) w1 L
    rw [oCopyNo U.sl_uint8 (by kernel_rfl)]
    exact hk w1 o1 (Below.refl _ _)
  · rcases hx1 with ⟨e, _⟩ | ⟨bx, ox, cx, ex, e1, e2, e3⟩
    · exact absurd (by rw [e]; rfl) hb
    obtain ⟨g, cap1, cur, rfl, q1, q2, q3, q4, q5, q6⟩ := own_row o1 (by omega)
    rw [Nat.mul_one] at q5 q6
    have ex' : ∃ cc, xb = sl g p (G.length - p) cc := by
      have := sb .i64 (fun y => y = xb)
      rw [oSlice_lo (size := 1) _ U.sl_uint8 (by kernel_rfl) (by omega) (by omega) q1, Int.toNat_natCast] at this
      have h2 := this.symm.mp rfl
      refine ⟨cap1 - p, ?_⟩
      rw [← h2, if_neg (by omega)]
      simp
    obtain ⟨cc, rfl⟩ := ex'
    rw [ex, oCopy _ _ U.sl_uint8 (by kernel_rfl) q4 rfl (by omega) (by omega) e2]
    have lg : g < w1.heap.size := q3
    refine hk _ ?_ (bel_setb (Below.refl _ _) q2 _)
    have hcap : cap1 ≤ maxLen := by
      rcases o1.2 with ⟨h, _⟩ | ⟨g', c', u', h, _, _, _, h6, _⟩
      · cases h
      · injection h with _ _ h; omega
    refine ⟨by simp; omega, .inr ⟨g, cap1, _, rfl, q2, bk_setb_eq _ _ _ _ rfl lg, by omega, hcap, ?_, ?_⟩⟩
    · simp; omega
    · rw [Nat.mul_one]
      have hpl : p + b.length ≤ G.length := by omega
      apply List.ext_getElem?
      intro i
      by_cases hi : i < G.length
      · rw [List.getElem?_take_of_lt hi]
        have hcg : ∀ j, j < G.length → cur[j]? = (G.map byt)[j]? := fun j hj => take_get q6 hj
        simp only [List.map_append, List.map_take, List.map_drop]
        rw [List.getElem?_append, List.getElem?_append]
        rw [List.getElem?_append, List.getElem?_append]
        simp only [List.length_take, List.length_map, List.length_append]
        by_cases h1 : i < p
        · rw [if_pos (by omega), if_pos (by omega), if_pos (by omega), if_pos (by omega), List.getElem?_take_of_lt h1, List.getElem?_take_of_lt h1, hcg i hi]
        · by_cases h2 : i < p + b.length
          · rw [if_pos (by omega), if_neg (by omega), if_pos (by omega), if_neg (by omega)]
            congr 1; omega
          · rw [if_neg (by omega), if_neg (by omega), List.getElem?_drop, List.getElem?_drop]
            rw [show p + b.length + (i - (min p cur.length + b.length)) = i by omega, show p + b.length + (i - (min p G.length + b.length)) = i by omega, hcg i hi]
      · rw [List.getElem?_eq_none (by simp; omega), List.getElem?_eq_none (by simp; omega)]
end Go.Proofs.YteblpejgenehfaaDoor.X
end
section
namespace Go.X
open Go
namespace SM
def Stp.skip (s : Stp) (n : Nat) : Stp := ⟨16, [], [], 0, 0, s.h, [], n, 1, 0⟩
end SM
end Go.X
end
section
namespace Go.Proofs.YteblpejgenehfaaDoor.X
open Go Go.X Go.Proofs Go.RowKit
def ninfo (n : SM.Node) : SM.Info := ⟨SM.base n.name, if n.dir then 42 else n.data.length, n.mode, n.dir, n.time⟩
def seekN (n : SM.Node) (h : SM.Hnd) (s : SM.Stp) : Int := if s.wh = 0 then s.off else if s.wh = 1 then h.pos + s.off else if s.wh = 2 then n.data.length + s.off else h.pos
def fileN (n : SM.Node) (h : SM.Hnd) (s : SM.Stp) : SM.Node × SM.Hnd × SM.Ans :=
  if s.op = 18 then (if h.ro then n else { n with time := 0 }, { h with cl := true }, SM.Ans.z)
  else if s.op = 21 then (n, h, { SM.Ans.z with infos := [ninfo n] })
  else if s.op = 22 then (n, h, { SM.Ans.z with names := [n.name] })
  else if s.op = 23 then (n, h, SM.Ans.z)
  else if s.op = 19 ∨ s.op = 20 then (n, h, SM.Ans.err 8)
  else if h.cl then (n, h, SM.Ans.err 3)
  else if s.op = 12 then (n, { h with pos := h.pos + (SM.readFrom n.data h.pos s.n).1.length }, ⟨(SM.readFrom n.data h.pos s.n).2, 0, 0, (SM.readFrom n.data h.pos s.n).1, [], []⟩)
  else if s.op = 13 then (n, h, ⟨(SM.readFrom n.data s.off s.n).2, 0, 0, (SM.readFrom n.data s.off s.n).1, [], []⟩)
  else if s.op = 16 then (n, { h with pos := seekN n h s }, ⟨0, 0, seekN n h s, [], [], []⟩)
  else if h.ro then (n, if s.op = 15 then { h with pos := s.off } else h, SM.Ans.err 6)
  else if s.op = 17 ∧ s.off < 0 then (n, h, SM.Ans.err 7)
  else if s.op = 14 ∧ (h.pos < 0 ∨ 1048576 < h.pos) ∨ s.op ≠ 14 ∧ (s.off < 0 ∨ 1048576 < s.off) then (n, h, SM.Ans.err 13)
  else if s.op = 17 then ({ n with data := SM.grown (n.data.take (min (n.data.length : Int) s.off).toNat) s.off, time := 0 }, h, SM.Ans.z)
  else if s.op = 14 then ({ n with data := SM.over n.data h.pos s.data, time := 0 }, { h with pos := h.pos + s.data.length }, ⟨0, s.data.length, 0, [], [], []⟩)
  else if s.op = 15 then ({ n with data := SM.over n.data s.off s.data, time := 0 }, { h with pos := s.off + s.data.length }, ⟨0, s.data.length, 0, [], [], []⟩)
  else (n, h, ⟨0, s.data.length, 0, [], [], []⟩)
def one (n : SM.Node) (h : SM.Hnd) : SM.Mem := ⟨[[47], [47, 102]], [0, 1], [⟨true, 2147484141, [], 0, [47]⟩, n], [(0, h)]⟩
structure Rel (c : Int) (x : FX) (n : SM.Node) (h : SM.Hnd) : Prop where
  bytes : x.bytes = n.data
  cl : x.cl = h.cl
  ro : x.ro = h.ro
  dx : x.dir = false
  dn : n.dir = false
  nm : x.nm = n.name
  mode : x.mode = n.mode
  mt : x.mt = n.time
  len : n.data.length ≤ 8192
  nl : n.name.length ≤ 400
  md : 0 ≤ n.mode ∧ n.mode ≤ 4294967295
  pos : h.cl = false → x.pos = h.pos
  px : -4398046511104 - c ≤ x.pos ∧ x.pos ≤ 4398046511104 + c
  ph : -4398046511104 - c ≤ h.pos ∧ h.pos ≤ 4398046511104 + c
  c0 : 0 ≤ c
theorem wrX_over (x : FX) (b : List UInt8) (h0 : 0 ≤ x.pos) : wrX x b = SM.over x.bytes x.pos b := by
  unfold wrX SM.over SM.grown
  obtain ⟨p, hp⟩ : ∃ p : Nat, x.pos = p := ⟨x.pos.toNat, by omega⟩
  rw [hp]
  by_cases c : (x.bytes.length : Int) < p
  · rw [if_pos c]
    rw [show ((p : Int) + b.length).toNat = p + b.length by omega, Int.toNat_natCast]
    rw [List.take_append, List.drop_of_length_le (by simp; omega), List.take_of_length_le (by omega), List.take_replicate, List.append_nil, List.append_assoc]
    rw [show min (p - x.bytes.length) (p + b.length - x.bytes.length) = p - x.bytes.length by omega]
  · rw [if_neg c]
    rw [show ((p : Int) + b.length).toNat = p + b.length by omega, Int.toNat_natCast]
    rw [List.take_append_of_le_length (by omega), List.drop_append]
    have : List.drop (p + b.length - x.bytes.length) (List.replicate (p + b.length - x.bytes.length) (0 : UInt8)) = [] := List.drop_of_length_le (by simp)
    rw [this, List.append_nil]
theorem over_len (d : List UInt8) (p : Nat) (b : List UInt8) : (SM.over d p b).length = max d.length (p + b.length) := by
  unfold SM.over SM.grown
  rw [show ((p : Int) + b.length).toNat = p + b.length by omega, Int.toNat_natCast]
  simp only [List.length_append, List.length_take, List.length_drop, List.length_replicate]
  omega
theorem rdX_from (x : FX) (n : Int) (h0 : 0 ≤ x.pos) (hn : 0 ≤ n ∧ n ≤ 1048576) : (rdX x (want n)).1 = (SM.readFrom x.bytes x.pos n).1 ∧ ((rdX x (want n)).2 : Int) = (SM.readFrom x.bytes x.pos n).2 := by
  have e : (max n 0).toNat = want n := by unfold want; omega
  have e2 : 0 < max n 0 ↔ 0 < want n := by unfold want; omega
  unfold rdX SM.readFrom
  rw [if_neg (show ¬ x.pos < 0 by omega), e]
  by_cases c1 : 0 < want n ∧ x.pos = x.bytes.length
  · rw [if_pos c1, if_pos (show 0 < max n 0 ∧ x.pos = x.bytes.length from ⟨e2.2 c1.1, c1.2⟩)]; exact ⟨rfl, rfl⟩
  · rw [if_neg c1, if_neg (show ¬ (0 < max n 0 ∧ x.pos = x.bytes.length) from fun q => c1 ⟨e2.1 q.1, q.2⟩)]
    by_cases c2 : (x.bytes.length : Int) < x.pos
    · rw [if_pos c2, if_pos c2]; exact ⟨rfl, rfl⟩
    · rw [if_neg c2, if_neg c2]; exact ⟨rfl, rfl⟩
theorem readFrom_len (d : List UInt8) (p n : Int) (hn : n ≤ 4096) : ((SM.readFrom d p n).1.length : Int) ≤ 4096 ∧ (SM.readFrom d p n).1.length ≤ d.length := by
  unfold SM.readFrom
  repeat' split
  all_goals simp
  omega
structure SpF (n : SM.Node) (h : SM.Hnd) (s : SM.Stp) : Prop where
  op : 12 ≤ s.op ∧ s.op ≤ 23
  dl : s.data.length ≤ 4096
  nn : s.op < 18 → 0 ≤ s.n ∧ s.n ≤ 4096
  off : s.op < 18 → -1099511627776 ≤ s.off ∧ s.off ≤ 1099511627776
  rd : s.op = 12 → h.cl = true ∨ 0 ≤ h.pos
  ra : s.op = 13 → 0 ≤ s.off
  wr : s.op = 14 → 0 ≤ h.pos ∧ h.pos ≤ 4096
  wa : s.op = 15 → 0 ≤ s.off ∧ s.off ≤ 4096
  tr : s.op = 17 → s.off ≤ 4096
  sk : s.op = 16 → h.pos < 2199023255552 ∧ -2199023255552 < h.pos
section
variable {c : Int} {x : FX} {n : SM.Node} {h : SM.Hnd} {s : SM.Stp}
theorem Rel.okX (r : Rel c x n h) (p : SpF n h s) (hc : c ≤ 1000000000) : OkX x s := by
  have h1 := r.px
  have h2 := r.ph
  refine ⟨p.op, r.dx, by rw [r.bytes]; have := r.len; omega, by rw [r.nm]; have := r.nl; omega, by rw [r.mode]; exact r.md, by have := p.dl; omega, fun e => by have := p.off e; omega, by omega, fun e q => ?_, p.ra, fun e q _ => ?_, fun e q _ => ?_, fun e => ?_⟩
  · rw [r.cl] at q
    rw [r.pos q]
    rcases p.rd e with h | h
    · rw [q] at h; cases h
    · exact h
  · rw [r.cl] at q
    rw [r.pos q]
    have := p.wr e; omega
  · have := p.wa e; omega
  · have := p.tr e; omega
theorem onX_12 (x : FX) (e : s.op = 12) : onX x s = ((rdR x (want s.n)).1, ⟨(rdR x (want s.n)).2.2, 0, 0, (rdR x (want s.n)).2.1, [], []⟩) := by unfold onX; rw [if_pos e]
theorem onX_13 (x : FX) (e : s.op = 13) : onX x s = (x, ⟨(raR x s.off (want s.n)).2, 0, 0, (raR x s.off (want s.n)).1, [], []⟩) := by unfold onX; rw [if_neg (by omega), if_pos e]
theorem onX_14 (x : FX) (e : s.op = 14) : onX x s = ((wrR x s.data).1, ⟨(wrR x s.data).2.1, (wrR x s.data).2.2, 0, [], [], []⟩) := by unfold onX; rw [if_neg (by omega), if_neg (by omega), if_pos e]
theorem onX_15 (x : FX) (e : s.op = 15) : onX x s = ((wrR { x with pos := s.off } s.data).1, ⟨(wrR { x with pos := s.off } s.data).2.1, (wrR { x with pos := s.off } s.data).2.2, 0, [], [], []⟩) := by
  unfold onX; rw [if_neg (by omega), if_neg (by omega), if_neg (by omega), if_pos e]
theorem onX_16 (x : FX) (e : s.op = 16) : onX x s = ((skR x s.off s.wh).1, ⟨(skR x s.off s.wh).2.1, 0, (skR x s.off s.wh).2.2, [], [], []⟩) := by
  unfold onX; rw [if_neg (by omega), if_neg (by omega), if_neg (by omega), if_neg (by omega), if_pos e]
theorem onX_17 (x : FX) (e : s.op = 17) : onX x s = ((trR x s.off).1, ⟨(trR x s.off).2, 0, 0, [], [], []⟩) := by
  unfold onX; rw [if_neg (by omega), if_neg (by omega), if_neg (by omega), if_neg (by omega), if_neg (by omega), if_pos e]
theorem onX_18 (x : FX) (e : s.op = 18) : onX x s = (clR x, SM.Ans.z) := by
  unfold onX; rw [if_neg (by omega), if_neg (by omega), if_neg (by omega), if_neg (by omega), if_neg (by omega), if_neg (by omega), if_pos e]
theorem onX_19 (x : FX) (e : s.op = 19 ∨ s.op = 20) : onX x s = (x, SM.Ans.err 8) := by
  unfold onX; rw [if_neg (by omega), if_neg (by omega), if_neg (by omega), if_neg (by omega), if_neg (by omega), if_neg (by omega), if_neg (by omega)]
  by_cases q : s.op = 19
  · rw [if_pos q]
  · rw [if_neg q, if_pos (by omega)]
theorem onX_21 (x : FX) (e : s.op = 21) : onX x s = (x, ⟨0, 0, 0, [], [], [infoX x]⟩) := by
  unfold onX; rw [if_neg (by omega), if_neg (by omega), if_neg (by omega), if_neg (by omega), if_neg (by omega), if_neg (by omega), if_neg (by omega), if_neg (by omega), if_neg (by omega), if_pos e]
theorem onX_22 (x : FX) (e : s.op = 22) : onX x s = (x, ⟨0, 0, 0, [], [x.nm], []⟩) := by
  unfold onX; rw [if_neg (by omega), if_neg (by omega), if_neg (by omega), if_neg (by omega), if_neg (by omega), if_neg (by omega), if_neg (by omega), if_neg (by omega), if_neg (by omega), if_neg (by omega), if_pos e]
theorem onX_23 (x : FX) (e : s.op = 23) : onX x s = (x, SM.Ans.z) := by
  unfold onX; rw [if_neg (by omega), if_neg (by omega), if_neg (by omega), if_neg (by omega), if_neg (by omega), if_neg (by omega), if_neg (by omega), if_neg (by omega), if_neg (by omega), if_neg (by omega), if_neg (by omega)]
theorem fileN_18 (e : s.op = 18) : fileN n h s = (if h.ro then n else { n with time := 0 }, { h with cl := true }, SM.Ans.z) := by unfold fileN; rw [if_pos e]
theorem fileN_21 (e : s.op = 21) : fileN n h s = (n, h, { SM.Ans.z with infos := [ninfo n] }) := by unfold fileN; rw [if_neg (by omega), if_pos e]
theorem fileN_22 (e : s.op = 22) : fileN n h s = (n, h, { SM.Ans.z with names := [n.name] }) := by unfold fileN; rw [if_neg (by omega), if_neg (by omega), if_pos e]
theorem fileN_23 (e : s.op = 23) : fileN n h s = (n, h, SM.Ans.z) := by unfold fileN; rw [if_neg (by omega), if_neg (by omega), if_neg (by omega), if_pos e]
theorem fileN_19 (e : s.op = 19 ∨ s.op = 20) : fileN n h s = (n, h, SM.Ans.err 8) := by unfold fileN; rw [if_neg (by omega), if_neg (by omega), if_neg (by omega), if_neg (by omega), if_pos e]
theorem fileN_cl (o : s.op < 18) (c : h.cl = true) : fileN n h s = (n, h, SM.Ans.err 3) := by unfold fileN; rw [if_neg (by omega), if_neg (by omega), if_neg (by omega), if_neg (by omega), if_neg (by omega), if_pos c]
theorem fileN_12 (e : s.op = 12) (c : h.cl = false) : fileN n h s = (n, { h with pos := h.pos + (SM.readFrom n.data h.pos s.n).1.length }, ⟨(SM.readFrom n.data h.pos s.n).2, 0, 0, (SM.readFrom n.data h.pos s.n).1, [], []⟩) := by
  unfold fileN; rw [if_neg (by omega), if_neg (by omega), if_neg (by omega), if_neg (by omega), if_neg (by omega), if_neg (by rw [c]; exact Bool.false_ne_true), if_pos e]
theorem fileN_13 (e : s.op = 13) (c : h.cl = false) : fileN n h s = (n, h, ⟨(SM.readFrom n.data s.off s.n).2, 0, 0, (SM.readFrom n.data s.off s.n).1, [], []⟩) := by
  unfold fileN; rw [if_neg (by omega), if_neg (by omega), if_neg (by omega), if_neg (by omega), if_neg (by omega), if_neg (by rw [c]; exact Bool.false_ne_true), if_neg (by omega), if_pos e]
theorem fileN_16 (e : s.op = 16) (c : h.cl = false) : fileN n h s = (n, { h with pos := seekN n h s }, ⟨0, 0, seekN n h s, [], [], []⟩) := by
  unfold fileN; rw [if_neg (by omega), if_neg (by omega), if_neg (by omega), if_neg (by omega), if_neg (by omega), if_neg (by rw [c]; exact Bool.false_ne_true), if_neg (by omega), if_neg (by omega), if_pos e]
theorem fileN_ro (o : s.op = 14 ∨ s.op = 15 ∨ s.op = 17) (c : h.cl = false) (r : h.ro = true) : fileN n h s = (n, if s.op = 15 then { h with pos := s.off } else h, SM.Ans.err 6) := by
  unfold fileN; rw [if_neg (by omega), if_neg (by omega), if_neg (by omega), if_neg (by omega), if_neg (by omega), if_neg (by rw [c]; exact Bool.false_ne_true), if_neg (by omega), if_neg (by omega), if_neg (by omega), if_pos r]
theorem fileN_rw (o : s.op = 14 ∨ s.op = 15 ∨ s.op = 17) (c : h.cl = false) (r : h.ro = false) : fileN n h s =
    if s.op = 17 ∧ s.off < 0 then (n, h, SM.Ans.err 7)
    else if s.op = 14 ∧ (h.pos < 0 ∨ 1048576 < h.pos) ∨ s.op ≠ 14 ∧ (s.off < 0 ∨ 1048576 < s.off) then (n, h, SM.Ans.err 13)
    else if s.op = 17 then ({ n with data := SM.grown (n.data.take (min (n.data.length : Int) s.off).toNat) s.off, time := 0 }, h, SM.Ans.z)
    else if s.op = 14 then ({ n with data := SM.over n.data h.pos s.data, time := 0 }, { h with pos := h.pos + s.data.length }, ⟨0, s.data.length, 0, [], [], []⟩)
    else if s.op = 15 then ({ n with data := SM.over n.data s.off s.data, time := 0 }, { h with pos := s.off + s.data.length }, ⟨0, s.data.length, 0, [], [], []⟩)
    else (n, h, ⟨0, s.data.length, 0, [], [], []⟩) := by
  conv => lhs; unfold fileN
  rw [if_neg (by omega), if_neg (by omega), if_neg (by omega), if_neg (by omega), if_neg (by omega), if_neg (by rw [c]; exact Bool.false_ne_true), if_neg (by omega), if_neg (by omega), if_neg (by omega), if_neg (by rw [r]; exact Bool.false_ne_true)]
theorem fileN_17a (e : s.op = 17) (c : h.cl = false) (r : h.ro = false) (o : s.off < 0) : fileN n h s = (n, h, SM.Ans.err 7) := by rw [fileN_rw (by omega) c r, if_pos ⟨e, o⟩]
theorem fileN_17 (e : s.op = 17) (c : h.cl = false) (r : h.ro = false) (o : 0 ≤ s.off ∧ s.off ≤ 1048576) : fileN n h s = ({ n with data := SM.grown (n.data.take (min (n.data.length : Int) s.off).toNat) s.off, time := 0 }, h, SM.Ans.z) := by
  rw [fileN_rw (by omega) c r, if_neg (by omega), if_neg (by omega), if_pos e]
theorem fileN_14 (e : s.op = 14) (c : h.cl = false) (r : h.ro = false) (o : 0 ≤ h.pos ∧ h.pos ≤ 1048576) : fileN n h s = ({ n with data := SM.over n.data h.pos s.data, time := 0 }, { h with pos := h.pos + s.data.length }, ⟨0, s.data.length, 0, [], [], []⟩) := by
  rw [fileN_rw (by omega) c r, if_neg (by omega), if_neg (by omega), if_neg (by omega), if_pos e]
theorem fileN_15 (e : s.op = 15) (c : h.cl = false) (r : h.ro = false) (o : 0 ≤ s.off ∧ s.off ≤ 1048576) : fileN n h s = ({ n with data := SM.over n.data s.off s.data, time := 0 }, { h with pos := s.off + s.data.length }, ⟨0, s.data.length, 0, [], [], []⟩) := by
  rw [fileN_rw (by omega) c r, if_neg (by omega), if_neg (by omega), if_neg (by omega), if_neg (by omega), if_pos e]
theorem Rel.to (r : Rel c x n h) {c' : Int} (hc : c ≤ c') : Rel c' x n h := by
  obtain ⟨r1, r2, r3, r4, r5, r6, r7, r8, r9, r10, r11, r12, r13, r14, r15⟩ := r
  exact ⟨r1, r2, r3, r4, r5, r6, r7, r8, r9, r10, r11, r12, by omega, by omega, by omega⟩
set_option maxHeartbeats 1000000 in
theorem Rel.step (r : Rel c x n h) (p : SpF n h s) : Rel (c + 8192) (onX x s).1 (fileN n h s).1 (fileN n h s).2.1 ∧ (onX x s).2 = (fileN n h s).2.2 := by
  have hs : Rel (c + 8192) x n h := r.to (by omega)
  obtain ⟨r1, r2, r3, r4, r5, r6, r7, r8, r9, r10, r11, r12, r13, r14, r15⟩ := r
  have po := p.op
  have hsz : infoX x = ninfo n := by
    unfold infoX ninfo
    rw [r1, r4, r5, r6, r7, r8]
  by_cases e18 : s.op = 18
  · rw [onX_18 x e18, fileN_18 e18]
    refine ⟨?_, rfl⟩
    unfold clR
    rw [r3]
    by_cases hr : h.ro = true
    · rw [if_pos hr, if_pos hr]
      exact ⟨r1, rfl, rfl, r4, r5, r6, r7, r8, r9, r10, r11, (fun h => by cases h), hs.px, hs.ph, hs.c0⟩
    · rw [if_neg hr, if_neg hr]
      exact ⟨r1, rfl, rfl, r4, r5, r6, r7, rfl, r9, r10, r11, (fun h => by cases h), hs.px, hs.ph, hs.c0⟩
  by_cases e21 : s.op = 21
  · rw [onX_21 x e21, fileN_21 e21, hsz]; exact ⟨hs, rfl⟩
  by_cases e22 : s.op = 22
  · rw [onX_22 x e22, fileN_22 e22, r6]; exact ⟨hs, rfl⟩
  by_cases e23 : s.op = 23
  · rw [onX_23 x e23, fileN_23 e23]; exact ⟨hs, rfl⟩
  by_cases e19 : s.op = 19 ∨ s.op = 20
  · rw [onX_19 x e19, fileN_19 e19]; exact ⟨hs, rfl⟩
  have pn := p.nn (by omega)
  have pf := p.off (by omega)
  cases hc : h.cl with
  | true =>
    rw [fileN_cl (by omega) hc]
    have xc : x.cl = true := by rw [r2, hc]
    by_cases e : s.op = 12
    · rw [onX_12 x e]; unfold rdR; rw [if_pos xc]; exact ⟨hs, rfl⟩
    by_cases e : s.op = 13
    · rw [onX_13 x e]; unfold raR; rw [if_pos xc]; exact ⟨hs, rfl⟩
    by_cases e : s.op = 14
    · rw [onX_14 x e]; unfold wrR; rw [if_pos xc]; exact ⟨hs, rfl⟩
    by_cases e : s.op = 15
    · rw [onX_15 x e]; unfold wrR; rw [if_pos xc]
      exact ⟨⟨r1, r2, r3, r4, r5, r6, r7, r8, r9, r10, r11, (fun e => by rw [hc] at e; cases e), by have := p.wa e; simp only; omega, hs.ph, hs.c0⟩, by trivial⟩
    by_cases e : s.op = 16
    · rw [onX_16 x e]; unfold skR; rw [if_pos xc]; exact ⟨hs, rfl⟩
    · rw [onX_17 x (by omega)]; unfold trR; rw [if_pos xc]; exact ⟨hs, rfl⟩
  | false =>
    have xp := r12 hc
    have xc : ¬ x.cl = true := by rw [r2, hc]; exact Bool.false_ne_true
    by_cases e12 : s.op = 12
    · rw [onX_12 x e12, fileN_12 e12 hc]
      unfold rdR
      rw [if_neg xc]
      have h0 : 0 ≤ h.pos := by
        rcases p.rd e12 with q | q
        · rw [hc] at q; cases q
        · exact q
      obtain ⟨g1, g2⟩ := rdX_from x s.n (by omega) (by omega)
      obtain ⟨l1, l2⟩ := readFrom_len n.data h.pos s.n (by omega)
      rw [xp, r1] at g1 g2
      simp only
      rw [g1, g2]
      exact ⟨⟨r1, r2, r3, r4, r5, r6, r7, r8, r9, r10, r11, (fun _ => by simp only; omega), by simp only; omega, by simp only; omega, hs.c0⟩, by trivial⟩
    by_cases e13 : s.op = 13
    · rw [onX_13 x e13, fileN_13 e13 hc]
      unfold raR
      rw [if_neg xc]
      have h0 := p.ra e13
      obtain ⟨g1, g2⟩ := rdX_from { x with pos := s.off } s.n (by simp only; omega) (by omega)
      simp only at g1 g2
      rw [g1, g2, r1]
      exact ⟨hs, rfl⟩
    by_cases e16 : s.op = 16
    · rw [onX_16 x e16, fileN_16 e16 hc]
      unfold skR
      rw [if_neg xc]
      have hsk := p.sk e16
      have e : seekX x s.off s.wh = seekN n h s := by
        unfold seekX seekN
        rw [r1, xp]
      have b : -4398046511104 - (c + 8192) ≤ seekN n h s ∧ seekN n h s ≤ 4398046511104 + (c + 8192) := by
        have := n.data.length.zero_le
        unfold seekN
        repeat' split
        all_goals omega
      simp only
      rw [e]
      exact ⟨⟨r1, r2, r3, r4, r5, r6, r7, r8, r9, r10, r11, (fun _ => rfl), b, b, hs.c0⟩, by trivial⟩
    cases hr : h.ro with
    | true =>
      have xr : x.ro = true := by rw [r3, hr]
      rw [fileN_ro (by omega) hc hr]
      by_cases e : s.op = 14
      · rw [onX_14 x e, if_neg (by omega)]; unfold wrR; rw [if_neg xc, if_pos xr]; exact ⟨hs, rfl⟩
      by_cases e : s.op = 15
      · rw [onX_15 x e, if_pos e]; unfold wrR; rw [if_neg (show ¬ ({ x with pos := s.off } : FX).cl = true from xc), if_pos (show ({ x with pos := s.off } : FX).ro = true from xr)]
        exact ⟨⟨r1, r2, r3, r4, r5, r6, r7, r8, r9, r10, r11, (fun _ => rfl), by have := p.wa e; simp only; omega, by have := p.wa e; simp only; omega, hs.c0⟩, by trivial⟩
      · rw [onX_17 x (by omega), if_neg e]; unfold trR; rw [if_neg xc, if_pos xr]; exact ⟨hs, rfl⟩
    | false =>
      have xr : ¬ x.ro = true := by rw [r3, hr]; exact Bool.false_ne_true
      by_cases e17 : s.op = 17
      · have ht := p.tr e17
        rw [onX_17 x e17]
        unfold trR
        rw [if_neg xc, if_neg xr]
        by_cases g : s.off < 0
        · rw [if_pos g, fileN_17a e17 hc hr g]; exact ⟨hs, rfl⟩
        · rw [if_neg g, fileN_17 e17 hc hr (by omega)]
          have e : (if (x.bytes.length : Int) < s.off then x.bytes ++ List.replicate (s.off.toNat - x.bytes.length) 0 else x.bytes.take s.off.toNat) = SM.grown (n.data.take (min (n.data.length : Int) s.off).toNat) s.off := by
            rw [r1]
            unfold SM.grown
            by_cases g2 : (n.data.length : Int) < s.off
            · rw [if_pos g2, List.take_of_length_le (by omega)]
            · rw [if_neg g2, show (min (n.data.length : Int) s.off).toNat = s.off.toNat by omega, show s.off.toNat - (List.take s.off.toNat n.data).length = 0 by rw [List.length_take]; omega, List.replicate_zero, List.append_nil]
          have l : (SM.grown (n.data.take (min (n.data.length : Int) s.off).toNat) s.off).length ≤ 8192 := by
            unfold SM.grown
            simp only [List.length_append, List.length_take, List.length_replicate]
            omega
          simp only
          rw [e]
          exact ⟨⟨rfl, r2, r3, r4, r5, r6, r7, rfl, l, r10, r11, r12, hs.px, hs.ph, hs.c0⟩, by trivial⟩
      by_cases e14 : s.op = 14
      · have hw := p.wr e14
        have dl := p.dl
        rw [onX_14 x e14, fileN_14 e14 hc hr (by omega)]
        unfold wrR
        rw [if_neg xc, if_neg xr, wrX_over x s.data (by omega), xp, r1]
        obtain ⟨q, hq⟩ : ∃ q : Nat, h.pos = q := ⟨h.pos.toNat, by omega⟩
        have l : (SM.over n.data h.pos s.data).length ≤ 8192 := by rw [hq, over_len]; omega
        exact ⟨⟨rfl, r2, r3, r4, r5, r6, r7, rfl, l, r10, r11, (fun _ => rfl), by simp only; omega, by simp only; omega, hs.c0⟩, by trivial⟩
      · have e15 : s.op = 15 := by omega
        have hw := p.wa e15
        have dl := p.dl
        rw [onX_15 x e15, fileN_15 e15 hc hr (by omega)]
        unfold wrR
        rw [if_neg (show ¬ ({ x with pos := s.off } : FX).cl = true from xc), if_neg (show ¬ ({ x with pos := s.off } : FX).ro = true from xr), wrX_over { x with pos := s.off } s.data (by simp only; omega)]
        simp only
        rw [r1]
        obtain ⟨q, hq⟩ : ∃ q : Nat, s.off = q := ⟨s.off.toNat, by omega⟩
        have l : (SM.over n.data s.off s.data).length ≤ 8192 := by rw [hq, over_len]; omega
        exact ⟨⟨rfl, r2, r3, r4, r5, r6, r7, rfl, l, r10, r11, (fun _ => rfl), by simp only; omega, by simp only; omega, hs.c0⟩, by trivial⟩
end
end Go.Proofs.YteblpejgenehfaaDoor.X
end
section
namespace Go.X
open Go Go.RowKit Go.ChangeShapes
end Go.X
end
section
namespace Go.Proofs.YteblpejgenehfaaDoor.X
open Go Go.X Go.Proofs Go.RowKit Go.ChangeShapes
theorem star : ("*" : String) ++ "errors.errorString" = "*errors.errorString" := by decide
theorem errRow (u : TypeId) (h : P.typeName? 3 u = some "*errors.errorString") : u = T.p_errors_errorString :=
  typeName_ptr_named (nm := "errors.errorString") (by rw [star]; kernel_rfl) (by kernel_rfl) (by decide) u (by rw [star]; exact h)
abbrev senL : List (Nat × String × List UInt8) := [(G.os_ErrExist, "pub-marram/pub/afero/inner/os.ErrExist", [102, 105, 108, 101, 32, 97, 108, 114, 101, 97, 100, 121, 32, 101, 120, 105, 115, 116, 115]), (G.os_ErrNotExist, "pub-marram/pub/afero/inner/os.ErrNotExist", [102, 105, 108, 101, 32, 100, 111, 101, 115, 32, 110, 111, 116, 32, 101, 120, 105, 115, 116]), (G.os_ENOENT, "pub-marram/pub/afero/inner/os.ENOENT", [110, 111, 32, 115, 117, 99, 104, 32, 102, 105, 108, 101, 32, 111, 114, 32, 100, 105, 114, 101, 99, 116, 111, 114, 121]), (G.os_ENOTDIR, "pub-marram/pub/afero/inner/os.ENOTDIR", [110, 111, 116, 32, 97, 32, 100, 105, 114, 101, 99, 116, 111, 114, 121]), (G.os_EPERM, "pub-marram/pub/afero/inner/os.EPERM", [111, 112, 101, 114, 97, 116, 105, 111, 110, 32, 110, 111, 116, 32, 112, 101, 114, 109, 105, 116, 116, 101, 100]), (G.os_EIO, "pub-marram/pub/afero/inner/os.EIO", [105, 110, 112, 117, 116, 47, 111, 117, 116, 112, 117, 116, 32, 101, 114, 114, 111, 114]), (G.os_EBADFD, "pub-marram/pub/afero/inner/os.EBADFD", [102, 105, 108, 101, 32, 100, 101, 115, 99, 114, 105, 112, 116, 111, 114, 32, 105, 110, 32, 98, 97, 100, 32, 115, 116, 97, 116, 101]), (G.io_EOF, "io.EOF", [69, 79, 70]), (G.io_ErrUnexpectedEOF, "io.ErrUnexpectedEOF", [117, 110, 101, 120, 112, 101, 99, 116, 101, 100, 32, 69, 79, 70]), (G.mem_ErrFileClosed, "pub-marram/pub/afero/mem.ErrFileClosed", [70, 105, 108, 101, 32, 105, 115, 32, 99, 108, 111, 115, 101, 100]), (G.mem_ErrOutOfRange, "pub-marram/pub/afero/mem.ErrOutOfRange", [111, 117, 116, 32, 111, 102, 32, 114, 97, 110, 103, 101])]
abbrev senD (x : Nat × String × List UInt8) : String × DataW Unit := (x.2.1, .iface "*errors.errorString" (.ptr (.agg [.lit (.string x.2.2)])))
theorem sents_of {W : World} : ∀ (l : List (Nat × String × List UInt8)) (ps : List MemPlace), (∀ x ∈ l, P.globalNamed x.2.1 = some x.1 ∧ (P.globals[x.1]?).map (·.type) = some T.error) → DataW.LaidVars P W (l.map senD) ps → ps.Nodup →
    (∀ b off, MemPlace.cell b off ∈ ps → (∃ c t, W.heap[b]? = some (.cells c t (0, 0))) ∧ ∀ u v, W.cell? ⟨b, off, none⟩ = some (.iface u v) → Value.okWide P W .any 0 u v) →
    ∃ aa : List (Nat × Nat), aa.length = l.length ∧ aa.Nodup ∧ (∀ a ∈ aa, MemPlace.cell a.1 a.2 ∈ ps ∧ ∃ c t, bk W a.1 = some (CB c t)) ∧ ∀ i (h1 : i < l.length) (h2 : i < aa.length), ∃ tt, bk W l[i].1 = some (CB [er aa[i]] tt)
  | [], ps, _, _, _, _ => ⟨[], rfl, List.nodup_nil, fun a h => (by cases h), fun i h1 => absurd h1 (by simp)⟩
  | x :: r, ps, hx, hv, hn, hr => by
    obtain ⟨n, nm, tx⟩ := x
    obtain ⟨g0, t0, cs0, f0, p0, q0, hg0, ht0, hv0, hd0, hq, rfl⟩ := hv
    have hx0 := hx _ (List.mem_cons_self ..)
    obtain rfl := Option.some.inj (hx0.1.symm.trans hg0)
    obtain rfl := Option.some.inj (hx0.2.symm.trans ht0)
    obtain ⟨l0⟩ := cs0
    have ok0 : ∀ u v, l0 = [.iface u v] → Value.okWide P W .any 0 u v := fun u v e => by
      subst e
      exact (hr n 0 (by simp [MemPlace.row])).2 u v (by simpa using World.var?_cell hg0 hv0 0)
    obtain ⟨a, s, rfl, hc, hs, hz, rfl⟩ := errorString_of_trod Tryd.underlying99 errRow U.p_errors_errorString Tryd.underlying153 rfl rfl U.string (by kernel_rfl) (by kernel_rfl) hd0 ok0
    have hspot : a.spot = none := by
      unfold World.cell? at hc
      split at hc
      · cases h : a.spot with
        | none => rfl
        | some s => rw [h] at hc; simp at hc
      · cases hc
    obtain ⟨b, o, sp⟩ := a
    simp only at hspot
    subst hspot
    have hrow1 : MemPlace.row ⟨b, o, none⟩ 1 = [MemPlace.cell b o] := by simp [MemPlace.row]
    have mem1 : MemPlace.cell b o ∈ MemPlace.row ⟨n, 0, none⟩ (#[Value.iface T.p_errors_errorString (pt b o)] : Array Value).size ++ MemPlace.row ⟨b, o, none⟩ 1 ++ q0 := List.mem_append_left _ (List.mem_append_right _ (by rw [hrow1]; exact List.mem_cons_self ..))
    have mem0 : MemPlace.cell n 0 ∈ MemPlace.row ⟨n, 0, none⟩ (#[Value.iface T.p_errors_errorString (pt b o)] : Array Value).size ++ MemPlace.row ⟨b, o, none⟩ 1 ++ q0 := List.mem_append_left _ (List.mem_append_left _ (by simp [MemPlace.row]))
    obtain ⟨⟨c1, tt1, hb1⟩, _⟩ := hr b o mem1
    obtain ⟨⟨c0, tt0, hb0⟩, _⟩ := hr n 0 mem0
    obtain ⟨aa, e1, e2, e3, e4⟩ := sents_of r q0 (fun y hy => hx y (List.mem_cons_of_mem _ hy)) hq (List.nodup_append.1 hn).2.1 fun b off hm => hr b off (List.mem_append_right _ hm)
    refine ⟨(b, o) :: aa, by simp [e1], List.nodup_cons.2 ⟨fun hm => ?_, e2⟩, fun a ha => ?_, fun i h1 h2 => ?_⟩
    · exact (List.nodup_append.1 hn).2.2 _ (List.mem_append_right _ (by rw [hrow1]; exact List.mem_cons_self ..)) _ (e3 _ hm).1 rfl
    · rcases List.mem_cons.1 ha with rfl | ha
      · exact ⟨mem1, c1.toList, tt1, hb1⟩
      · exact ⟨List.mem_append_right _ (e3 a ha).1, (e3 a ha).2⟩
    · cases i with
      | zero =>
        refine ⟨tt0, ?_⟩
        have e : W.var? P nm = some #[.iface T.p_errors_errorString (pt b o)] := hv0
        simp only [World.var?, hg0, Option.bind_some, hb0] at e
        injection e with e
        subst e
        exact hb0
      | succ i => exact e4 i (by simpa using h1) (by simpa using h2)
theorem sn_of {W : World} (h : laidMet P (senL.map senD) W) : ∃ m, Sn W W.heap.size m := by
  obtain ⟨ps, hv, hn, hr⟩ := h
  have hx : ∀ x ∈ senL, P.globalNamed x.2.1 = some x.1 ∧ (P.globals[x.1]?).map (·.type) = some T.error := by
    have : (senL.all fun x => P.globalNamed x.2.1 == some x.1 && (P.globals[x.1]?).map (·.type) == some T.error) = true := by kernel_rfl
    intro x hx
    have := List.all_eq_true.1 this x hx
    simpa using this
  obtain ⟨aa, e1, e2, e3, e4⟩ := sents_of senL ps hx hv hn hr
  have hs : ∀ g ∈ sents, ∃ i, i < 11 ∧ (senL.map (·.1))[i]? = some g ∧ (senL.map (·.1)).idxOf g = i := by decide
  refine ⟨fun g => aa.getD ((senL.map (·.1)).idxOf g) (0, 0), fun g hg => ?_, fun g hg => ?_, fun g hg g' hg' e => ?_⟩
  · obtain ⟨i, hi, h1, h2⟩ := hs g hg
    obtain ⟨tt, h3⟩ := e4 i (by simpa using hi) (by rw [e1]; simpa using hi)
    rw [h2]
    have h4 : senL[i]'(by simpa using hi) = senL[i]'(by simpa using hi) := rfl
    have h5 : (senL[i]'(by simpa using hi)).1 = g := by
      rw [List.getElem?_map, List.getElem?_eq_getElem (by simpa using hi)] at h1
      exact Option.some.inj h1
    rw [h5] at h3
    have h6 : aa.getD i (0, 0) = aa[i]'(by rw [e1]; simpa using hi) := by simp [List.getD, show i < aa.length by rw [e1]; simpa using hi]
    rw [h6]
    exact ⟨bk_lt h3, tt, h3⟩
  · obtain ⟨i, hi, h1, h2⟩ := hs g hg
    rw [h2]
    have h6 : aa.getD i (0, 0) = aa[i]'(by rw [e1]; simpa using hi) := by simp [List.getD, show i < aa.length by rw [e1]; simpa using hi]
    rw [h6]
    obtain ⟨_, c, t, h7⟩ := e3 _ (List.getElem_mem (by rw [e1]; simpa using hi : i < aa.length))
    exact ⟨bk_lt h7, c, t, h7⟩
  · obtain ⟨i, hi, h1, h2⟩ := hs g hg
    obtain ⟨i', hi', h1', h2'⟩ := hs g' hg'
    simp only [h2, h2'] at e
    have h6 : aa.getD i (0, 0) = aa[i]'(by rw [e1]; simpa using hi) := by simp [List.getD, show i < aa.length by rw [e1]; simpa using hi]
    have h6' : aa.getD i' (0, 0) = aa[i']'(by rw [e1]; simpa using hi') := by simp [List.getD, show i' < aa.length by rw [e1]; simpa using hi']
    rw [h6, h6'] at e
    have := (List.getElem_inj e2).1 e
    subst this
    rw [h1] at h1'
    exact Option.some.inj h1'
end Go.Proofs.YteblpejgenehfaaDoor.X
end
section
namespace Go.Proofs.YteblpejgenehfaaDoor.X
open Go Go.X Go.Proofs Go.RowKit
def rdq (n : Nat) : SM.Stp := ⟨12, [], [], 0, 0, 0, [], 0, 0, n⟩
def wrq (M : List UInt8) : SM.Stp := ⟨14, [], [], 0, 0, 0, M, 0, 0, 0⟩
def mk (D : List UInt8) (p : Nat) : FX := { fx0 D false with pos := p }
def good (L : Nat) : Nat → List Nat → Prop
  | _, [] => True
  | s, n :: r => s < L ∧ 1 ≤ n ∧ n ≤ 300 ∧ good L (s + n) r
theorem good_snoc (L n : Nat) : ∀ (r : List Nat) (s : Nat), good L s r → s + r.sum < L → 1 ≤ n → n ≤ 300 → good L s (r ++ [n])
  | [], s, _, h, h1, h2 => ⟨by simpa using h, h1, h2, trivial⟩
  | x :: r, s, hg, h, h1, h2 => ⟨hg.1, hg.2.1, hg.2.2.1, good_snoc L n r (s + x) hg.2.2.2 (by rw [List.sum_cons] at h; omega) h1 h2⟩
theorem OkX_mk {D : List UInt8} {p : Nat} {q : SM.Stp} (hD : D.length ≤ 1000) (hp : p ≤ 1000) (ho : q.op = 12 ∨ q.op = 14) (hf : q.off = 0) (hd : q.data.length ≤ 1000) : OkX (mk D p) q :=
  ⟨by omega, rfl, by show D.length ≤ _; omega, by show 2 ≤ _; omega, by show 0 ≤ (268435456 : Int) ∧ (268435456 : Int) ≤ _; omega, by omega, fun _ => by omega, by show _ ≤ ((p : Nat) : Int) ∧ ((p : Nat) : Int) ≤ _; omega, fun _ _ => by show 0 ≤ ((p : Nat) : Int); omega, fun h => by omega, fun _ _ _ => by show 0 ≤ ((p : Nat) : Int) ∧ ((p : Nat) : Int) ≤ _; omega, fun h => by omega, fun h => by omega⟩
theorem rd_step (D1 D2 : List UInt8) {s n : Nat} (hs : s < D1.length) (h1 : 1 ≤ n) (h2 : n ≤ 300) (hD : D1.length ≤ 200) : wovS (mk D1 (min s D1.length), mk D2 (min s D1.length)) (rdq n) = ((mk D1 (min (s + n) D1.length), mk D2 (min (s + n) D1.length)), ⟨0, 0, 0, (D1.drop s).take n, [], []⟩) := by
  have hm : min s D1.length = s := by omega
  have hw : want (rdq n).n = n := by show want (n : Int) = n; unfold want; omega
  have hr : rdX (mk D1 s) n = ((D1.drop s).take n, 0) := by
    unfold rdX
    rw [if_neg (by show ¬ (0 < n ∧ ((s : Nat) : Int) = (D1.length : Nat)); omega), if_neg (by show ¬ ((D1.length : Nat) : Int) < (s : Nat); omega)]
    rfl
  have hl : ((D1.drop s).take n).length = min n (D1.length - s) := by simp
  rw [hm]
  unfold wovS wovX
  simp only
  rw [if_pos (show (rdq n).op = 12 from rfl), hw]
  unfold rdU rdR
  rw [if_neg (show ¬ (mk D1 s).cl = true from Bool.false_ne_true), hr]
  simp only
  rw [if_pos (.inl rfl)]
  unfold skR
  rw [if_neg (show ¬ (mk D2 s).cl = true from Bool.false_ne_true)]
  have e1 : (mk D1 s).pos + (((D1.drop s).take n).length : Nat) = ((min (s + n) D1.length : Nat) : Int) := by
    rw [hl]; show ((s : Nat) : Int) + _ = _; omega
  have e2 : seekX (mk D2 s) (((D1.drop s).take n).length : Nat) 1 = ((min (s + n) D1.length : Nat) : Int) := by
    unfold seekX
    rw [if_neg (by omega), if_pos rfl, hl]
    show ((s : Nat) : Int) + _ = _
    omega
  simp only [e1, e2]
  rfl
theorem reads_run (D1 D2 : List UInt8) (hD : D1.length ≤ 200) (hD2 : D2.length ≤ 200) : ∀ (rs : List Nat) (s : Nat), good D1.length s rs →
    (runX wovS (mk D1 (min s D1.length), mk D2 (min s D1.length)) (rs.map rdq)).1 = (mk D1 (min (s + rs.sum) D1.length), mk D2 (min (s + rs.sum) D1.length)) ∧
    ((runX wovS (mk D1 (min s D1.length), mk D2 (min s D1.length)) (rs.map rdq)).2.map (·.data)).flatten = (D1.drop s).take rs.sum ∧
    okX wovS (fun s q => OkU s.1 s.2 q) (mk D1 (min s D1.length), mk D2 (min s D1.length)) (rs.map rdq)
  | [], s, _ => by simp [runX, okX]
  | n :: r, s, h => by
    obtain ⟨g1, g2, g3, g4⟩ := h
    obtain ⟨i1, i2, i3⟩ := reads_run D1 D2 hD hD2 r (s + n) g4
    have st := rd_step D1 D2 g1 g2 g3 hD
    have es : s + (n :: r).sum = s + n + r.sum := by simp; omega
    simp only [List.map_cons, runX, okX]
    rw [st, es]
    refine ⟨i1, ?_, ⟨OkX_mk (by omega) (by omega) (.inl rfl) rfl (by show 0 ≤ _; omega), OkX_mk (by omega) (by omega) (.inl rfl) rfl (by show 0 ≤ _; omega), by show (12 : Int) ≠ 13; omega⟩, i3⟩
    simp only [List.map_cons, List.flatten_cons]
    rw [i2, List.sum_cons, List.take_add, List.drop_drop]
theorem runX_append {σ : Type} (stp : σ → SM.Stp → σ × SM.Ans) : ∀ (a : List SM.Stp) (s : σ) (b : List SM.Stp), (runX stp s (a ++ b)).1 = (runX stp (runX stp s a).1 b).1 ∧ (runX stp s (a ++ b)).2 = (runX stp s a).2 ++ (runX stp (runX stp s a).1 b).2
  | [], s, b => ⟨rfl, rfl⟩
  | q :: a, s, b => by
    obtain ⟨h1, h2⟩ := runX_append stp a (stp s q).1 b
    simp only [List.cons_append, runX]
    exact ⟨h1, by rw [h2]⟩
theorem okX_append {σ : Type} {stp : σ → SM.Stp → σ × SM.Ans} {ok : σ → SM.Stp → Prop} : ∀ (a : List SM.Stp) (s : σ) (b : List SM.Stp), okX stp ok s a → okX stp ok (runX stp s a).1 b → okX stp ok s (a ++ b)
  | [], s, b, _, h => h
  | q :: a, s, b, h, k => ⟨h.1, okX_append a _ b h.2 k⟩
theorem copies_run (D1 D2 M : List UInt8) (hD : D1.length ≤ 200) (hD2 : D2.length ≤ 200) (hM : M.length ≤ 200) (rs : List Nat) (g : good D1.length 0 rs) (hs : D1.length ≤ rs.sum) :
    (runX wovS (fx0 D1 false, fx0 D2 false) (rs.map rdq ++ [wrq M])).1.1.bytes = D1 ++ M ∧ (runX wovS (fx0 D1 false, fx0 D2 false) (rs.map rdq ++ [wrq M])).1.2.bytes = SM.over D2 D1.length M ∧
    ((runX wovS (fx0 D1 false, fx0 D2 false) (rs.map rdq ++ [wrq M])).2.map (·.data)).flatten = D1 ∧ okX wovS (fun s q => OkU s.1 s.2 q) (fx0 D1 false, fx0 D2 false) (rs.map rdq ++ [wrq M]) := by
  obtain ⟨h1, h2, h3⟩ := reads_run D1 D2 hD hD2 rs 0 g
  have e0 : (mk D1 (min 0 D1.length), mk D2 (min 0 D1.length)) = (fx0 D1 false, fx0 D2 false) := by rw [Nat.zero_min]; rfl
  rw [e0] at h1 h2 h3
  have em : min (0 + rs.sum) D1.length = D1.length := by omega
  rw [em] at h1
  obtain ⟨r1, r2⟩ := runX_append wovS (rs.map rdq) (fx0 D1 false, fx0 D2 false) [wrq M]
  have ew : wovS (mk D1 D1.length, mk D2 D1.length) (wrq M) = (({ mk D1 D1.length with bytes := D1 ++ M, pos := ((D1.length : Nat) : Int) + M.length }, { mk D2 D1.length with bytes := SM.over D2 D1.length M, pos := ((D1.length : Nat) : Int) + M.length }), ⟨0, M.length, 0, [], [], []⟩) := by
    unfold wovS wovX
    simp only
    rw [if_neg (show ¬ (wrq M).op = 12 by show ¬ (14 : Int) = 12; omega), if_pos (show (wrq M).op = 14 from rfl)]
    unfold wrU wrR
    rw [if_neg (show ¬ (mk D1 D1.length).cl = true from Bool.false_ne_true), if_neg (show ¬ (mk D1 D1.length).ro = true from Bool.false_ne_true), if_neg (show ¬ (mk D2 D1.length).cl = true from Bool.false_ne_true), if_neg (show ¬ (mk D2 D1.length).ro = true from Bool.false_ne_true)]
    have e1 : wrX (mk D1 D1.length) (wrq M).data = D1 ++ M := by
      show wrX (mk D1 D1.length) M = _
      unfold wrX
      rw [if_neg (by show ¬ ((D1.length : Nat) : Int) < (D1.length : Nat); omega)]
      show D1.take ((D1.length : Nat) : Int).toNat ++ M ++ D1.drop (((D1.length : Nat) : Int).toNat + M.length) = _
      rw [Int.toNat_natCast, List.take_length, List.drop_of_length_le (by omega), List.append_nil]
    have e2 : wrX (mk D2 D1.length) (wrq M).data = SM.over D2 D1.length M := wrX_over (mk D2 D1.length) M (by show 0 ≤ ((D1.length : Nat) : Int); omega)
    simp only [if_true]
    rw [e1, e2]
    rfl
  rw [r1, r2, h1]
  simp only [runX, ew]
  refine ⟨trivial, trivial, ?_, okX_append _ _ _ h3 ?_⟩
  · rw [List.map_append, List.flatten_append, h2]
    simp
    rw [List.take_of_length_le hs]
  · rw [h1]
    exact ⟨⟨OkX_mk (by omega) (by omega) (.inr rfl) rfl (by show M.length ≤ _; omega), OkX_mk (by omega) (by omega) (.inr rfl) rfl (by show M.length ≤ _; omega), by show (14 : Int) ≠ 13; omega⟩, trivial⟩
theorem over_grown (D : List UInt8) (p : Nat) (b : List UInt8) : SM.over D p b = (SM.grown D ((p + b.length : Nat) : Int)).take p ++ b ++ (SM.grown D ((p + b.length : Nat) : Int)).drop (p + b.length) := by
  unfold SM.over
  rw [Int.toNat_natCast, show ((p : Int) + b.length) = ((p + b.length : Nat) : Int) by omega]
section
variable {w : World} {t0 t1 t2 t3 : Value} {D1 D2 M : List UInt8} {ns : List Int} {m : Nat → Nat × Nat}
abbrev rdC (rs : List Nat) : List Value := (List.zipWith stepC (rs.map rdq) (List.replicate rs.length (.slice none 0 0))).flatten
theorem rdC_snoc (rs : List Nat) (n : Nat) : rdC (rs ++ [n]) = rdC rs ++ stepC (rdq n) (.slice none 0 0) := by
  unfold rdC
  rw [List.map_append, List.length_append, List.replicate_append_replicate.symm, List.zipWith_append (by simp), List.flatten_append]
  simp
theorem own_lit2 {w : World} {B g n size : Nat} {e : TypeId} {l : List Value} (hb : bk w g = some (CB l e)) (hl : l.length = n * size) (hB : B ≤ g) (hn : n ≤ maxLen) : w.ownsRow B e size (sl g 0 n n) n l := by
  unfold bk at hb
  exact ⟨hl, .inr ⟨g, n, l.toArray, rfl, hB, hb, Nat.le_refl _, hn, by simpa using hl, by rw [← hl]; simp⟩⟩
theorem zero_put {w : World} {L : Value → World → Prop} {B n : Nat} {v : Value} {xs : List Value} (o : w.ownsRow B T.uint8 1 v n xs) (hn : n ≤ 1000000) (hB : B ≤ w.heap.size) (hk : ∀ v' w', w'.ownsRow B T.uint8 1 v' (n + 1) (xs ++ [.int .u8 0]) → Below B w w' → w.heap.size ≤ w'.heap.size → L v' w') :
    st P (oBuildSlice T.sl_uint8 1 #[(0, .int .u8 0)]) w fun t w1 => st P (oBuiltin .append #[T.sl_uint8, T.sl_uint8] T.sl_uint8 #[false, false] #[v, t]) w1 L := by
  rw [oBuildSlice1 (z := .int .u8 0) _ _ U.sl_uint8 (by kernel_rfl) rfl]
  have B3 : Below w.heap.size w (w.alloc (CB [.int .u8 0] T.uint8)) := by repeat (first | exact Below.refl _ _ | assumption | refine bel_setb ?_ (by first | exact Nat.le_refl _ | omega | (simp only [go_sem] <;> omega)) _ | refine Below.alloc ?_ (by first | exact Nat.le_refl _ | omega | (simp only [go_sem]; omega)) _ | refine Below.drew ?_)
  have r3 : rowOf (bk (w.alloc (CB [.int .u8 0] T.uint8)) w.heap.size) 0 1 = some [.int .u8 0] := by rw [bk_alloc_eq _ _ _ rfl]; rfl
  have z3 : (w.alloc (CB [.int .u8 0] T.uint8)).heap.size = w.heap.size + 1 := by simp only [go_sem]
  generalize w.alloc (CB [.int .u8 0] T.uint8) = w1 at *
  have o1 := own_old o B3 (Nat.le_refl _)
  refine oAppendR (z := .int .u8 0) (size := 1) (bytes := 1) (m := 1) (news := [.int .u8 0]) U.sl_uint8 infoB rfl (by omega) o1 (.inl ⟨_, _, _, rfl, r3⟩) rfl (fun u hu => by simp at hu; subst hu; rfl) (by simp only [maxLen]; omega) (by omega) (by omega) fun v4 w4 o4 g4 _ => ?_
  have := (Kp.of_grown g4).size
  exact hk v4 w4 o4 ((B3.mono hB).trans (own_bel o1 g4 (by omega))) (by omega)
set_option maxHeartbeats 4000000 in
theorem FnUnionCopies_law (hd1 : BS w t0 D1) (hd2 : BS w t1 D2) (hm : BS w t2 M) (hp : IntsAt w t3 ns) (hs : Sn w w.heap.size m) :
    Cl P Fn.laws_FnUnionCopies #[t0, t1, t2, t3] w fun v w' => v = .bool true ∧ Below w.heap.size w w' := by
  apply S_laws_FnUnionCopies
  unfold F_laws_FnUnionCopies
  obtain ⟨a0, c0, rfl⟩ := BS_slice hd1
  obtain ⟨a1, c1, rfl⟩ := BS_slice hd2
  obtain ⟨a2, c2, rfl⟩ := BS_slice hm
  obtain ⟨a3, c3, rfl⟩ := hp.slice
  refine jn_with (fun t w' => w' = w) ?_ ?_
  rotate_left
  · by_cases h1 : (2147483647 : Int) < D1.length
    · simp (disch := first | omega | (simp only [sZb, sZa, sZd] <;> omega) | (simp (disch := first | omega | (simp only [sZb, sZa, sZd] <;> omega) | fail) only [go_sem]; done) | fail) only [go_sem, dec_t, dec_f, w_u32, w_u64, w_u16, w_u8, w_i64, Int.reduceToNat, Int.reducePow, Nat.reducePow]
      exact ⟨trivial, Below.refl _ _⟩
    by_cases h2 : (2147483647 : Int) < D2.length
    · simp (disch := first | omega | (simp only [sZb, sZa, sZd] <;> omega) | (simp (disch := first | omega | (simp only [sZb, sZa, sZd] <;> omega) | fail) only [go_sem]; done) | fail) only [go_sem, dec_t, dec_f, w_u32, w_u64, w_u16, w_u8, w_i64, Int.reduceToNat, Int.reducePow, Nat.reducePow]
      exact ⟨trivial, Below.refl _ _⟩
    by_cases h3 : (2147483647 : Int) < M.length
    · simp (disch := first | omega | (simp only [sZb, sZa, sZd] <;> omega) | (simp (disch := first | omega | (simp only [sZb, sZa, sZd] <;> omega) | fail) only [go_sem]; done) | fail) only [go_sem, dec_t, dec_f, w_u32, w_u64, w_u16, w_u8, w_i64, Int.reduceToNat, Int.reducePow, Nat.reducePow]
      exact ⟨trivial, Below.refl _ _⟩
    by_cases h4 : (2147483647 : Int) < ns.length
    · simp (disch := first | omega | (simp only [sZb, sZa, sZd] <;> omega) | (simp (disch := first | omega | (simp only [sZb, sZa, sZd] <;> omega) | fail) only [go_sem]; done) | fail) only [go_sem, dec_t, dec_f, w_u32, w_u64, w_u16, w_u8, w_i64, Int.reduceToNat, Int.reducePow, Nat.reducePow]
      exact ⟨trivial, Below.refl _ _⟩
    · simp (disch := first | omega | (simp only [sZb, sZa, sZd] <;> omega) | (simp (disch := first | omega | (simp only [sZb, sZa, sZd] <;> omega) | fail) only [go_sem]; done) | fail) only [go_sem, dec_t, dec_f, w_u32, w_u64, w_u16, w_u8, w_i64, Int.reduceToNat, Int.reducePow, Nat.reducePow]
  rintro t e w1 rfl
  unfold J_laws_FnUnionCopies_13
  refine jn_with (fun t w' => w' = w1 ∧ D1.length ≤ 200 ∧ D2.length ≤ 200 ∧ M.length ≤ 200 ∧ M.length ≠ 0 ∧ ns.length ≤ 100) ?_ ?_
  rotate_left
  · by_cases h1 : (200 : Int) < D1.length
    · simp (disch := first | omega | (simp only [sZb, sZa, sZd] <;> omega) | (simp (disch := first | omega | (simp only [sZb, sZa, sZd] <;> omega) | fail) only [go_sem]; done) | fail) only [go_sem, dec_t, dec_f, w_u32, w_u64, w_u16, w_u8, w_i64, Int.reduceToNat, Int.reducePow, Nat.reducePow]
      exact ⟨trivial, Below.refl _ _⟩
    by_cases h2 : (200 : Int) < D2.length
    · simp (disch := first | omega | (simp only [sZb, sZa, sZd] <;> omega) | (simp (disch := first | omega | (simp only [sZb, sZa, sZd] <;> omega) | fail) only [go_sem]; done) | fail) only [go_sem, dec_t, dec_f, w_u32, w_u64, w_u16, w_u8, w_i64, Int.reduceToNat, Int.reducePow, Nat.reducePow]
      exact ⟨trivial, Below.refl _ _⟩
    by_cases h3 : (200 : Int) < M.length
    · simp (disch := first | omega | (simp only [sZb, sZa, sZd] <;> omega) | (simp (disch := first | omega | (simp only [sZb, sZa, sZd] <;> omega) | fail) only [go_sem]; done) | fail) only [go_sem, dec_t, dec_f, w_u32, w_u64, w_u16, w_u8, w_i64, Int.reduceToNat, Int.reducePow, Nat.reducePow]
      exact ⟨trivial, Below.refl _ _⟩
    by_cases h5 : (M.length : Int) = 0
    · simp (disch := first | omega | (simp only [sZb, sZa, sZd] <;> omega) | (simp (disch := first | omega | (simp only [sZb, sZa, sZd] <;> omega) | fail) only [go_sem, h5, decide_true]; done) | fail) only [go_sem, dec_t, dec_f, w_u32, w_u64, w_u16, w_u8, w_i64, Int.reduceToNat, Int.reducePow, Nat.reducePow, h5, decide_true]
      exact ⟨trivial, Below.refl _ _⟩
    by_cases h4 : (100 : Int) < ns.length
    · simp (disch := first | omega | (simp only [sZb, sZa, sZd] <;> omega) | (simp (disch := first | omega | (simp only [sZb, sZa, sZd] <;> omega) | fail) only [go_sem, h5, decide_false]; done) | fail) only [go_sem, dec_t, dec_f, w_u32, w_u64, w_u16, w_u8, w_i64, Int.reduceToNat, Int.reducePow, Nat.reducePow, h5, decide_false]
      exact ⟨trivial, Below.refl _ _⟩
    · simp (disch := first | omega | (simp only [sZb, sZa, sZd] <;> omega) | (simp (disch := first | omega | (simp only [sZb, sZa, sZd] <;> omega) | fail) only [go_sem, h5, decide_false]; done) | fail) only [go_sem, dec_t, dec_f, w_u32, w_u64, w_u16, w_u8, w_i64, Int.reduceToNat, Int.reducePow, Nat.reducePow, h5, decide_false]
      exact ⟨trivial, by omega, by omega, by omega, by omega, by omega⟩
  rintro t e w2 ⟨rfl, g1, g2, g3, g4, g5⟩
  unfold J_laws_FnUnionCopies_12
  rw [oBuildSlice0 (n := 10) _ _ U.sl_impl_Step (by kernel_rfl)]
  obtain ⟨w3, e3⟩ : ∃ w3, w3 = w2.alloc (CB [] T.impl_Step) := ⟨_, rfl⟩
  have B3 : Below w2.heap.size w2 w3 := by rw [e3]; repeat (first | exact Below.refl _ _ | assumption | refine bel_setb ?_ (by first | exact Nat.le_refl _ | omega | (simp only [go_sem] <;> omega)) _ | refine Below.alloc ?_ (by first | exact Nat.le_refl _ | omega | (simp only [go_sem]; omega)) _ | refine Below.drew ?_)
  have r3 : bk w3 w2.heap.size = some (CB [] T.impl_Step) := by rw [e3]; exact bk_alloc_eq _ _ _ rfl
  have z3 : w3.heap.size = w2.heap.size + 1 := by rw [e3]; simp only [go_sem]
  have o3 : w3.ownsRow w2.heap.size T.impl_Step 10 (sl w2.heap.size 0 0 0) 0 (rdC []) := own_lit2 r3 rfl (Nat.le_refl _) (Nat.zero_le _)
  rw [← e3]
  clear e3
  refine jn_with (fun t w' => ∃ sv rs, t = [sv, .int .i64 (rs.sum : Nat)] ∧ w'.ownsRow w2.heap.size T.impl_Step 10 sv rs.length (rdC rs) ∧ Below w2.heap.size w2 w' ∧ good D1.length 0 rs ∧ rs.length ≤ 100) ?_ ?_
  rotate_left
  · simp (disch := first | omega | (simp only [sZb, sZa, sZd] <;> omega) | (simp (disch := first | omega | (simp only [sZb, sZa, sZd] <;> omega) | fail) only [go_sem]; done) | fail) only [go_sem, dec_t, dec_f, w_u32, w_u64, w_u16, w_u8, w_i64, Int.reduceToNat, Int.reducePow, Nat.reducePow]
    refine lp_intro (fun t w' => ∃ sv rs, ∃ i : Nat, t = [sv, .int .i64 (rs.sum : Nat), .int .i64 i] ∧ i ≤ ns.length ∧ w'.ownsRow w2.heap.size T.impl_Step 10 sv rs.length (rdC rs) ∧ Below w2.heap.size w2 w' ∧ good D1.length 0 rs ∧ rs.length ≤ i) (fun t _ => ns.length - (RowKit.intOf (gs t 2)).toNat) ⟨_, [], 0, rfl, Nat.zero_le _, o3, B3, trivial, Nat.zero_le _⟩ ?_
    rintro t e w4 ⟨sv, rs, i, rfl, hi, o4, B4, gd4, hr4⟩
    by_cases g : (i : Int) < ns.length
    · have hix : i < ns.length := by omega
      simp (disch := first | omega | (simp only [sZb, sZa, sZd] <;> omega) | (simp (disch := first | omega | (simp only [sZb, sZa, sZd] <;> omega) | fail) only [go_sem]; done) | fail) only [go_sem, dec_t, dec_f, w_u32, w_u64, w_u16, w_u8, w_i64, Int.reduceToNat, Int.reducePow, Nat.reducePow]
      refine jn_with (fun t w' => t = [] ∧ w' = w4) ?_ ⟨rfl, rfl⟩
      rintro t e w5 ⟨rfl, rfl⟩
      unfold J_laws_FnUnionCopies_11
      obtain ⟨b, o, cap, eb, hc, ix⟩ := (hp.old B4).at_ U.sl_int (by kernel_rfl) hix
      generalize ns[i] = x at *
      rw [eb]
      have z4 := B4.size
      refine jn_with (fun t w' => ∃ sv rs, t = [sv, .int .i64 (rs.sum : Nat)] ∧ w'.ownsRow w2.heap.size T.impl_Step 10 sv rs.length (rdC rs) ∧ Below w2.heap.size w2 w' ∧ good D1.length 0 rs ∧ rs.length ≤ i + 1) ?_ ?_
      · rintro t e w6 ⟨sv6, rs6, rfl, o6, B6, gd6, hr6⟩
        unfold J_laws_FnUnionCopies_8
        simp (disch := first | omega | (simp only [sZb, sZa, sZd] <;> omega) | (simp (disch := first | omega | (simp only [sZb, sZa, sZd] <;> omega) | fail) only [go_sem]; done) | fail) only [go_sem, dec_t, dec_f, w_u32, w_u64, w_u16, w_u8, w_i64, Int.reduceToNat, Int.reducePow, Nat.reducePow]
        refine ⟨⟨sv6, rs6, i + 1, rfl, by omega, o6, B6, gd6, hr6⟩, ?_⟩
        simp only [RowKit.intOf, gs2]
        omega
      simp (disch := first | omega | (simp only [sZb, sZa, sZd] <;> omega) | (simp (disch := first | omega | (simp only [sZb, sZa, sZd] <;> omega) | fail) only [go_sem, ix, hc]; done) | fail) only [go_sem, dec_t, dec_f, w_u32, w_u64, w_u16, w_u8, w_i64, Int.reduceToNat, Int.reducePow, Nat.reducePow, ix, hc]
      refine jn_with (fun t w' => w' = w5 ∧ 1 ≤ x ∧ x ≤ 300) ?_ ?_
      rotate_left
      · by_cases h1 : x < 1
        · simp (disch := first | omega | (simp only [sZb, sZa, sZd] <;> omega) | (simp (disch := first | omega | (simp only [sZb, sZa, sZd] <;> omega) | fail) only [go_sem]; done) | fail) only [go_sem, dec_t, dec_f, w_u32, w_u64, w_u16, w_u8, w_i64, Int.reduceToNat, Int.reducePow, Nat.reducePow]
          exact ⟨trivial, B4⟩
        by_cases h2 : 300 < x
        · simp (disch := first | omega | (simp only [sZb, sZa, sZd] <;> omega) | (simp (disch := first | omega | (simp only [sZb, sZa, sZd] <;> omega) | fail) only [go_sem]; done) | fail) only [go_sem, dec_t, dec_f, w_u32, w_u64, w_u16, w_u8, w_i64, Int.reduceToNat, Int.reducePow, Nat.reducePow]
          exact ⟨trivial, B4⟩
        · simp (disch := first | omega | (simp only [sZb, sZa, sZd] <;> omega) | (simp (disch := first | omega | (simp only [sZb, sZa, sZd] <;> omega) | fail) only [go_sem]; done) | fail) only [go_sem, dec_t, dec_f, w_u32, w_u64, w_u16, w_u8, w_i64, Int.reduceToNat, Int.reducePow, Nat.reducePow]
          exact ⟨trivial, by omega, by omega⟩
      rintro t e w6 ⟨rfl, x1, x2⟩
      obtain ⟨n, rfl⟩ : ∃ n : Nat, x = n := ⟨x.toNat, by omega⟩
      unfold J_laws_FnUnionCopies_10
      by_cases h3 : ((rs.sum : Nat) : Int) < D1.length
      · simp (disch := first | omega | (simp only [sZb, sZa, sZd] <;> omega) | (simp (disch := first | omega | (simp only [sZb, sZa, sZd] <;> omega) | fail) only [go_sem]; done) | fail) only [go_sem, dec_t, dec_f, w_u32, w_u64, w_u16, w_u8, w_i64, Int.reduceToNat, Int.reducePow, Nat.reducePow]
        unfold J_laws_FnUnionCopies_9
        simp (disch := first | omega | (simp only [sZb, sZa, sZd] <;> omega) | (simp (disch := first | omega | (simp only [sZb, sZa, sZd] <;> omega) | fail) only [go_sem]; done) | fail) only [go_sem, dec_t, dec_f, w_u32, w_u64, w_u16, w_u8, w_i64, Int.reduceToNat, Int.reducePow, Nat.reducePow]
        refine step_put (q := rdq n) (v := .slice none 0 0) o4 (by omega) (by omega) (BS_nil _) fun sv' w' o' b' _ _ => ?_
        refine ⟨sv', rs ++ [n], ?_, by rw [rdC_snoc, List.length_append]; exact o', B4.trans b', good_snoc _ _ _ _ gd4 (by omega) (by omega) (by omega), by rw [List.length_append]; show rs.length + 1 ≤ _; omega⟩
        rw [List.sum_append]
        simp
      · simp (disch := first | omega | (simp only [sZb, sZa, sZd] <;> omega) | (simp (disch := first | omega | (simp only [sZb, sZa, sZd] <;> omega) | fail) only [go_sem]; done) | fail) only [go_sem, dec_t, dec_f, w_u32, w_u64, w_u16, w_u8, w_i64, Int.reduceToNat, Int.reducePow, Nat.reducePow]
        exact ⟨sv, rs, rfl, o4, B4, gd4, by omega⟩
    · simp (disch := first | omega | (simp only [sZb, sZa, sZd] <;> omega) | (simp (disch := first | omega | (simp only [sZb, sZa, sZd] <;> omega) | fail) only [go_sem]; done) | fail) only [go_sem, dec_t, dec_f, w_u32, w_u64, w_u16, w_u8, w_i64, Int.reduceToNat, Int.reducePow, Nat.reducePow]
      refine jn_with (fun _ _ => False) (fun _ _ _ h => h.elim) ?_
      exact ⟨sv, rs, rfl, o4, B4, gd4, by omega⟩
  rintro t e w4 ⟨sv, rs, rfl, o4, B4, gd4, hr4⟩
  unfold J_laws_FnUnionCopies_7
  have z4 := B4.size
  refine jn_with (fun t w' => ∃ sv rs, t = [sv] ∧ w'.ownsRow w2.heap.size T.impl_Step 10 sv rs.length (rdC rs) ∧ Below w2.heap.size w2 w' ∧ good D1.length 0 rs ∧ rs.length ≤ 101 ∧ D1.length ≤ rs.sum) ?_ ?_
  rotate_left
  · by_cases h3 : ((rs.sum : Nat) : Int) < D1.length
    · simp (disch := first | omega | (simp only [sZb, sZa, sZd] <;> omega) | (simp (disch := first | omega | (simp only [sZb, sZa, sZd] <;> omega) | fail) only [go_sem]; done) | fail) only [go_sem, dec_t, dec_f, w_u32, w_u64, w_u16, w_u8, w_i64, Int.reduceToNat, Int.reducePow, Nat.reducePow]
      unfold J_laws_FnUnionCopies_6
      simp (disch := first | omega | (simp only [sZb, sZa, sZd] <;> omega) | (simp (disch := first | omega | (simp only [sZb, sZa, sZd] <;> omega) | fail) only [go_sem]; done) | fail) only [go_sem, dec_t, dec_f, w_u32, w_u64, w_u16, w_u8, w_i64, Int.reduceToNat, Int.reducePow, Nat.reducePow]
      refine step_put (q := rdq 300) (v := .slice none 0 0) o4 (by omega) (by omega) (BS_nil _) fun sv' w' o' b' _ _ => ?_
      refine ⟨sv', rs ++ [300], rfl, by rw [rdC_snoc, List.length_append]; exact o', B4.trans b', good_snoc _ _ _ _ gd4 (by omega) (by omega) (by omega), by rw [List.length_append]; show rs.length + 1 ≤ _; omega, by rw [List.sum_append]; simp; omega⟩
    · simp (disch := first | omega | (simp only [sZb, sZa, sZd] <;> omega) | (simp (disch := first | omega | (simp only [sZb, sZa, sZd] <;> omega) | fail) only [go_sem]; done) | fail) only [go_sem, dec_t, dec_f, w_u32, w_u64, w_u16, w_u8, w_i64, Int.reduceToNat, Int.reducePow, Nat.reducePow]
      exact ⟨sv, rs, rfl, o4, B4, gd4, by omega, by omega⟩
  clear o4 gd4 hr4
  rintro t e w5 ⟨sv, rs, rfl, o5, B5, gd5, hr5, hs5⟩
  unfold J_laws_FnUnionCopies_5
  have z5 := B5.size
  have one2 := BS_one' (BS_old hm B5 (Nat.le_refl _))
  simp (disch := first | omega | (simp only [sZb, sZa, sZd] <;> omega) | (simp (disch := first | omega | (simp only [sZb, sZa, sZd] <;> omega) | fail) only [go_sem, one2]; done) | fail) only [go_sem, dec_t, dec_f, w_u32, w_u64, w_u16, w_u8, w_i64, Int.reduceToNat, Int.reducePow, Nat.reducePow, one2]
  refine step_put (q := wrq M) (v := .slice a2 M.length c2) o5 (by omega) (by omega) (BS_old hm B5 (Nat.le_refl _)) fun sv6 w6 o6 b6 _ _ => ?_
  have B6 := B5.trans b6
  have z6 := B6.size
  have hq : StepsAt w6 sv6 (rs.map rdq ++ [wrq M]) (List.replicate rs.length (.slice none 0 0) ++ [.slice a2 M.length c2]) := by
    refine own_steps (B := w2.heap.size) (n := rs.length + 1) ?_ (by simp) (by simp) fun i h1 h2 => ?_
    · rw [List.zipWith_append (by simp), List.flatten_append]
      simpa using o6
    · by_cases hi : i < rs.length
      · rw [List.getElem_append_left (by simpa using hi), List.getElem_append_left (by simpa using hi)]
        simp only [List.getElem_replicate, List.getElem_map]
        exact BS_nil _
      · have hi2 : i = rs.length := by simp at h2; omega
        subst hi2
        rw [List.getElem_append_right (by simp), List.getElem_append_right (by simp)]
        simp only [List.length_replicate, List.length_map, Nat.sub_self, List.getElem_cons_zero]
        exact BS_old hm B6 (Nat.le_refl _)
  obtain ⟨p1, p2, p3, p4⟩ := copies_run D1 D2 M g1 g2 g3 rs gd5 hs5
  have hov : (SM.over D2 D1.length M).length = max D2.length (D1.length + M.length) := over_len _ _ _
  refine union_script (m := m) (BS_old hd1 B6 (Nat.le_refl _)) (BS_old hd2 B6 (Nat.le_refl _)) (by omega) (by omega) (hs.next B6) hq (by simp; omega) p4 (by rw [p1, List.length_append]; omega) (by rw [p2, hov]; omega) fun w7 gv xv yv cs b7 o7 A7 ox oy => ?_
  rw [p1] at ox
  rw [p2] at oy
  have B7 := B6.trans (b7.mono z6)
  have z7 := B7.size
  have hlen : (rs.map rdq ++ [wrq M]).length = rs.length + 1 := by simp
  rw [hlen] at o7
  have hrl : (runX wovS (fx0 D1 false, fx0 D2 false) (rs.map rdq ++ [wrq M])).2.length = rs.length + 1 := by rw [runX_len, hlen]
  generalize (runX wovS (fx0 D1 false, fx0 D2 false) (rs.map rdq ++ [wrq M])).2 = az at *
  simp (disch := first | omega | (simp only [sZb, sZa, sZd] <;> omega) | (simp (disch := first | omega | (simp only [sZb, sZa, sZd] <;> omega) | fail) only [go_sem]; done) | fail) only [go_sem, dec_t, dec_f, w_u32, w_u64, w_u16, w_u8, w_i64, Int.reduceToNat, Int.reducePow, Nat.reducePow]
  rw [oBuildSlice0 (n := 1) _ _ U.sl_uint8 (by kernel_rfl)]
  obtain ⟨w8, e8⟩ : ∃ w8, w8 = w7.alloc (CB [] T.uint8) := ⟨_, rfl⟩
  have b8 : Below w7.heap.size w7 w8 := by rw [e8]; repeat (first | exact Below.refl _ _ | assumption | refine bel_setb ?_ (by first | exact Nat.le_refl _ | omega | (simp only [go_sem] <;> omega)) _ | refine Below.alloc ?_ (by first | exact Nat.le_refl _ | omega | (simp only [go_sem]; omega)) _ | refine Below.drew ?_)
  have r8 : bk w8 w7.heap.size = some (CB [] T.uint8) := by rw [e8]; exact bk_alloc_eq _ _ _ rfl
  have o8 : w8.ownsRow w7.heap.size T.uint8 1 (sl w7.heap.size 0 0 0) 0 [] := own_lit2 r8 rfl (Nat.le_refl _) (Nat.zero_le _)
  rw [← e8]
  clear e8
  obtain ⟨ga, gc, rfl⟩ := own_slice o7
  refine jn_with (fun t w' => ∃ v, t = [v] ∧ Below w7.heap.size w7 w' ∧ w'.ownsRow w7.heap.size T.uint8 1 v D1.length (D1.map byt)) ?_ ?_
  rotate_left
  · rw [V.len_sl_impl_Answer]
    refine lp_intro (fun t w' => ∃ v, ∃ i : Nat, t = [v, .int .i64 i] ∧ i ≤ rs.length + 1 ∧ Below w7.heap.size w7 w' ∧ w'.ownsRow w7.heap.size T.uint8 1 v (((az.take i).map (·.data)).flatten).length ((((az.take i).map (·.data)).flatten).map byt)) (fun t _ => rs.length + 1 - (RowKit.intOf (gs t 1)).toNat) ⟨_, 0, rfl, Nat.zero_le _, b8, by simpa using o8⟩ ?_
    rintro t e w9 ⟨v9, i, rfl, hi, B9, o9⟩
    by_cases g : (i : Int) < ((rs.length + 1 : Nat) : Int)
    · have hix : i < rs.length + 1 := by omega
      simp (disch := first | omega | (simp only [sZb, sZa, sZd] <;> omega) | (simp (disch := first | omega | (simp only [sZb, sZa, sZd] <;> omega) | fail) only [go_sem]; done) | fail) only [go_sem, dec_t, dec_f, w_u32, w_u64, w_u16, w_u8, w_i64, Int.reduceToNat, Int.reducePow, Nat.reducePow]
      refine jn_with (fun t w' => t = [] ∧ w' = w9) ?_ ⟨rfl, rfl⟩
      rintro t e w10 ⟨rfl, rfl⟩
      unfold J_laws_FnUnionCopies_4
      have H := A7.kp (Kp.of_below B9 fun _ => False) fun _ _ _ _ h => h
      obtain ⟨b, p, r1, x1⟩ := H.idx (own_old o7 B9 (Nat.le_refl _)) hrl hix
      have q1 := H.2 i (by rw [H.1, hrl]; exact hix) (by rw [hrl]; exact hix)
      have hl3 : i < az.length := by rw [hrl]; exact hix
      have hl4 : i < cs.length := by rw [H.1]; exact hl3
      have e1 : ((az.take (i + 1)).map (·.data)).flatten = ((az.take i).map (·.data)).flatten ++ az[i].data := by
        rw [List.take_succ_eq_append_getElem hl3, List.map_append, List.flatten_append]
        congr 1
        simp
      have hle : ((az.take (i + 1)).map (·.data)).flatten.length ≤ D1.length := by
        have h0 : az = az.take (i + 1) ++ az.drop (i + 1) := (List.take_append_drop _ _).symm
        have h := congrArg (fun l : List SM.Ans => ((l.map (·.data)).flatten).length) h0
        simp only [List.map_append, List.flatten_append, List.length_append] at h
        rw [p3] at h
        omega
      rw [e1, List.length_append] at hle
      obtain ⟨x, y, z, ec, hx, hy, hz, _⟩ := q1
      have r1 : rowOf (bk w10 b) p 6 = some cs[i] := r1
      rw [ec] at r1
      obtain ⟨pa, pc, ex⟩ := BS_slice hx
      obtain ⟨pb, pd, ey⟩ := RowS_slice hy
      obtain ⟨pe, pf, ez⟩ := RowS_slice hz
      rw [ex, ey, ez] at r1
      obtain ⟨va, vc, ev⟩ := own_slice o9
      have z9 := B9.size
      simp (disch := first | omega | (simp only [sZb, sZa, sZd] <;> omega) | (simp (disch := first | omega | (simp only [sZb, sZa, sZd] <;> omega) | fail) only [go_sem, x1, r1]; done) | fail) only [go_sem, dec_t, dec_f, w_u32, w_u64, w_u16, w_u8, w_i64, Int.reduceToNat, Int.reducePow, Nat.reducePow, x1, r1]
      obtain ⟨w11, e11⟩ : ∃ w11, w11 = setb (w10.alloc (CB ansZ T.impl_Answer)) w10.heap.size (CB (answC az[i] x y z) T.impl_Answer) := ⟨_, rfl⟩
      have b11 : Below w10.heap.size w10 w11 := by rw [e11]; repeat (first | exact Below.refl _ _ | assumption | refine bel_setb ?_ (by first | exact Nat.le_refl _ | omega | (simp only [go_sem] <;> omega)) _ | refine Below.alloc ?_ (by first | exact Nat.le_refl _ | omega | (simp only [go_sem]; omega)) _ | refine Below.drew ?_)
      have z11 : w11.heap.size = w10.heap.size + 1 := by rw [e11]; simp only [go_sem]
      rw [ex, ey, ez] at e11
      rw [← e11]
      clear e11
      have lo9 := own_lt o9
      refine oAppendBS U.sl_uint8 (by kernel_rfl) (own_old o9 b11 (Nat.le_refl _)) (by rw [← ex]; exact BS_old hx b11 (Nat.le_refl _)) (by omega) (by omega) fun v' w12 o12 g12 _ => ?_
      have K12 := Kp.of_grown g12
      refine ⟨⟨v', i + 1, rfl, by omega, (B9.trans (b11.mono z9)).trans (K12.below (fun k hk e => by have := (lo9 k e).1; omega) (by omega)), ?_⟩, ?_⟩
      · rw [e1, List.length_append, List.map_append]
        exact o12
      · simp only [RowKit.intOf, gs1]
        omega
    · have ei : i = rs.length + 1 := by omega
      subst ei
      rw [List.take_of_length_le (by omega), p3] at o9
      simp (disch := first | omega | (simp only [sZb, sZa, sZd] <;> omega) | (simp (disch := first | omega | (simp only [sZb, sZa, sZd] <;> omega) | fail) only [go_sem]; done) | fail) only [go_sem, dec_t, dec_f, w_u32, w_u64, w_u16, w_u8, w_i64, Int.reduceToNat, Int.reducePow, Nat.reducePow]
      exact jn_with (fun _ _ => False) (fun _ _ _ h => h.elim) ⟨v9, rfl, B9, o9⟩
  rintro t e w9 ⟨v9, rfl, B9, o9⟩
  unfold J_laws_FnUnionCopies_3
  have z9 := B9.size
  have B9' := B7.trans (B9.mono z7)
  rw [oBuildSlice0 (n := 1) _ _ U.sl_uint8 (by kernel_rfl)]
  refine copy_lit (BS_old hd2 B9' (Nat.le_refl _)) (by omega) fun v10 w10 o10 b10 => ?_
  have z10 := b10.size
  have B10 := B9'.trans (b10.mono (by omega))
  have hg0 : SM.grown D2 ((D2.length : Nat) : Int) = D2 := by unfold SM.grown; simp
  refine jn_with (fun t w' => ∃ v, t = [v] ∧ Below w9.heap.size w9 w' ∧ w'.ownsRow w9.heap.size T.uint8 1 v (SM.grown D2 ((D1.length + M.length : Nat) : Int)).length ((SM.grown D2 ((D1.length + M.length : Nat) : Int)).map byt)) ?_ ?_
  rotate_left
  · refine lp_intro (fun t w' => ∃ v, ∃ k : Nat, t = [v] ∧ D2.length ≤ k ∧ (k = D2.length ∨ k ≤ D1.length + M.length) ∧ Below w9.heap.size w9 w' ∧ w'.ownsRow w9.heap.size T.uint8 1 v k ((SM.grown D2 (k : Int)).map byt)) (fun s w' => match gs s 0 with | .slice _ k _ => D1.length + M.length - k | _ => 0) ⟨v10, D2.length, rfl, Nat.le_refl _, .inl rfl, b10, by rw [hg0]; exact o10⟩ ?_
    rintro t e w11 ⟨v11, k, rfl, k1, k2, B11, o11⟩
    obtain ⟨a, cap, rfl⟩ := own_slice o11
    refine jn_with (fun t w' => w' = w11 ∧ k < D1.length + M.length) ?_ ?_
    · rintro t e w12 ⟨rfl, hlt⟩
      unfold J_laws_FnUnionCopies_2
      rw [gs0]
      have z11 := B11.size
      refine zero_put o11 (by omega) (by omega) fun v' w13 o13 b13 z13 => ?_
      have e4 : (SM.grown D2 (k : Int)).map byt ++ [.int .u8 0] = (SM.grown D2 ((k + 1 : Nat) : Int)).map byt := by
        unfold SM.grown
        simp only [Int.toNat_natCast, List.map_append, List.append_assoc]
        rw [show k + 1 - D2.length = (k - D2.length) + 1 by omega, List.replicate_succ']
        simp [byt]
      rw [e4] at o13
      refine ⟨⟨v', k + 1, rfl, by omega, .inr (by omega), B11.trans b13, o13⟩, ?_⟩
      obtain ⟨a4, cap4, rfl⟩ := own_slice o13
      simp only [gs0]
      omega
    · by_cases hlt : (k : Int) < (D1.length : Int) + M.length
      · simp (disch := first | omega | (simp only [sZb, sZa, sZd] <;> omega) | (simp (disch := first | omega | (simp only [sZb, sZa, sZd] <;> omega) | fail) only [go_sem]; done) | fail) only [go_sem, dec_t, dec_f, w_u32, w_u64, w_u16, w_u8, w_i64, Int.reduceToNat, Int.reducePow, Nat.reducePow]
        exact ⟨trivial, by omega⟩
      · simp (disch := first | omega | (simp only [sZb, sZa, sZd] <;> omega) | (simp (disch := first | omega | (simp only [sZb, sZa, sZd] <;> omega) | fail) only [go_sem]; done) | fail) only [go_sem, dec_t, dec_f, w_u32, w_u64, w_u16, w_u8, w_i64, Int.reduceToNat, Int.reducePow, Nat.reducePow]
        refine ⟨_, rfl, B11, ?_⟩
        have e : SM.grown D2 ((D1.length + M.length : Nat) : Int) = SM.grown D2 k := by
          unfold SM.grown
          congr 2
          omega
        rw [e, grown_len]
        have : max D2.length (k : Int).toNat = k := by omega
        rw [this]
        exact o11
  rintro t e w11 ⟨v11, rfl, B11, o11⟩
  unfold J_laws_FnUnionCopies_1
  have z11 := B11.size
  have B11' := B9'.trans (B11.mono (by omega))
  have hGl : (SM.grown D2 ((D1.length + M.length : Nat) : Int)).length = max D2.length (D1.length + M.length) := by rw [grown_len, Int.toNat_natCast]
  obtain ⟨xb, sb, cp⟩ := copy_at o11 (BS_old hm B11' (Nat.le_refl _)) (p := D1.length) (by omega) (by omega)
  obtain ⟨sa, sc, rfl⟩ := own_slice o5
  have sb' : ∀ L : Value → Prop, pu P (oSlice T.sl_uint8 v11 (some (.int .i64 D1.length)) none none) L = L xb := sb .i64
  rw [V.len_sl_uint8, gs0, sb']
  refine cp _ fun w12 o12 b12 => ?_
  have B12 : Below w7.heap.size w7 w12 := (B9.trans (B11.mono (by omega))).trans (b12.mono (by omega))
  have B12' := B7.trans (B12.mono z7)
  have B9_12 : Below w9.heap.size w9 w12 := B11.trans b12
  have hwant : (SM.grown D2 ((D1.length + M.length : Nat) : Int)).take D1.length ++ M ++ (SM.grown D2 ((D1.length + M.length : Nat) : Int)).drop (D1.length + M.length) = SM.over D2 D1.length M := (over_grown D2 D1.length M).symm
  rw [hwant] at o12
  have hl12 : (SM.grown D2 ((D1.length + M.length : Nat) : Int)).length = (SM.over D2 D1.length M).length := by rw [hGl, hov]
  rw [hl12] at o12
  have c1 : ∀ L : Value → World → Prop, st P (oConv T.sl_uint8 T.string v9) w12 L = L (S D1) w12 := fun L => stConvBS U.string U.sl_uint8 U.uint8 (BS_own (own_old o9 B9_12 (Nat.le_refl _)))
  have c2' : ∀ L : Value → World → Prop, st P (oConv T.sl_uint8 T.string (.slice a0 D1.length c0)) w12 L = L (S D1) w12 := fun L => stConvBS U.string U.sl_uint8 U.uint8 (BS_old hd1 B12' (Nat.le_refl _))
  have c3' : ∀ L : Value → World → Prop, st P (oConv T.sl_uint8 T.string (.slice a2 M.length c2)) w12 L = L (S M) w12 := fun L => stConvBS U.string U.sl_uint8 U.uint8 (BS_old hm B12' (Nat.le_refl _))
  have c4 : ∀ L : Value → World → Prop, st P (oConv T.sl_uint8 T.string xv) w12 L = L (S (D1 ++ M)) w12 := fun L => stConvBS U.string U.sl_uint8 U.uint8 (BS_own (own_old ox B12 (Nat.le_refl _)))
  have c5 : ∀ L : Value → World → Prop, st P (oConv T.sl_uint8 T.string yv) w12 L = L (S (SM.over D2 D1.length M)) w12 := fun L => stConvBS U.string U.sl_uint8 U.uint8 (BS_own (own_old oy B12 (Nat.le_refl _)))
  have c6 : ∀ L : Value → World → Prop, st P (oConv T.sl_uint8 T.string v11) w12 L = L (S (SM.over D2 D1.length M)) w12 := fun L => stConvBS U.string U.sl_uint8 U.uint8 (BS_own o12)
  have ns' : ∀ l : List UInt8, decide (l = l) = true := fun l => decide_eq_true rfl
  simp (disch := first | omega | (simp only [sZb, sZa, sZd] <;> omega) | (simp (disch := first | omega | (simp only [sZb, sZa, sZd] <;> omega) | fail) only [go_sem, c1, c2', c3', c4, c5, c6, ns']; done) | fail) only [go_sem, dec_t, dec_f, w_u32, w_u64, w_u16, w_u8, w_i64, Int.reduceToNat, Int.reducePow, Nat.reducePow, c1, c2', c3', c4, c5, c6, ns']
  exact ⟨trivial, B12'⟩
theorem FnUnionCopies_walk (v0 : Value) (l0 : List UInt8) (v1 : Value) (l1 : List UInt8) (v2 : Value) (l2 : List UInt8) (v3 : Value) (l3 : List Int) (w : World) (b0 : BS w v0 l0) (w0 : l0.length ≤ 140737488351232) (b1 : BS w v1 l1) (w1 : l1.length ≤ 140737488351232) (b2 : BS w v2 l2) (w2 : l2.length ≤ 140737488351232) (h3 : IntsAt w v3 l3 ∧ (∀ x ∈ l3, i64 x) ∧ l3.length ≤ maxLen) (hL : laidMet P (senL.map senD) w) :
    Cl P Fn.laws_FnUnionCopies #[v0, v1, v2, v3] w fun v w' => v = .bool true ∧ Below w.heap.size w w' := by
  obtain ⟨m, hs⟩ := sn_of hL
  exact FnUnionCopies_law b0 b1 b2 h3.1 hs
end
end Go.Proofs.YteblpejgenehfaaDoor.X
end
