/- What the claim needs of the texts on it, laid together. No condition. -/
import Derived.Test.YteblpejgenehfaaDoorZBytesAreBytes3
import Derived.ChangeArms
import Derived.LaidMore
import Derived.OpenShut
import Derived.Stop.LaidErr
set_option linter.unusedVariables false
set_option linter.unusedSimpArgs false
set_option maxRecDepth 100000
section
namespace Go.Proofs.YteblpejgenehfaaDoor.X
open Go Go.X Go.Proofs Go.RowKit
theorem lastIdx_spec {l : Str} {w : World} {K : Value → World → Prop} (hl : l.length ≤ 140737488355328) (h : K (.int .i64 (match SM.lastSlash l with | some i => (i : Int) | none => -1)) w) : Cl P Fn.bytealg_LastIndexByteString #[S l, .int .u8 47] w K := by
  apply S_bytealg_LastIndexByteString
  unfold F_bytealg_LastIndexByteString
  refine jn_with (fun t w' => w' = w ∧ SM.lastSlash l = none) ?_ ?_
  · rintro t e w1 ⟨rfl, e1⟩
    rw [e1] at h
    exact h
  · rw [V.len_string]
    simp (disch := first | omega | (simp only [sZb, sZa, sZd] <;> omega) | (simp (disch := first | omega | (simp only [sZb, sZa, sZd] <;> omega) | fail) only [go_sem]; done) | fail) only [go_sem, dec_t, dec_f, w_u32, w_u64, w_u16, w_u8, w_i64, Int.reduceToNat, Int.reducePow, Nat.reducePow]
    refine lp_intro (fun s w' => w' = w ∧ ∃ i : Nat, s = [.int .i64 ((i : Int) - 1)] ∧ i ≤ l.length ∧ SM.ls l i = SM.lastSlash l) (fun s w' => ((intOf (gs s 0)) + 1).toNat) ?_ ?_
    · exact ⟨rfl, l.length, rfl, Nat.le_refl _, rfl⟩
    · rintro s u w1 ⟨rfl, i, rfl, hi, hs⟩
      refine jn_with (fun t w' => w' = w1 ∧ 0 < i) ?_ ?_
      · rintro t e w2 ⟨rfl, hi1⟩
        obtain ⟨j, rfl⟩ : ∃ j, i = j + 1 := ⟨i - 1, by omega⟩
        have ej : ((j + 1 : Nat) : Int) - 1 = (j : Int) := by omega
        refine jn_with (fun t w' => w' = w2 ∧ l.getD j 0 ≠ 47) ?_ ?_
        · rintro t e w3 ⟨rfl, hne⟩
          simp (disch := first | omega | (simp only [sZb, sZa, sZd] <;> omega) | (simp (disch := first | omega | (simp only [sZb, sZa, sZd] <;> omega) | fail) only [go_sem, ej]; done) | fail) only [go_sem, dec_t, dec_f, w_u32, w_u64, w_u16, w_u8, w_i64, Int.reduceToNat, Int.reducePow, Nat.reducePow, ej]
          refine ⟨⟨trivial, j, rfl, by omega, ?_⟩, ?_⟩
          · rw [← hs]; simp only [SM.ls]; rw [if_neg hne]
          · simp only [gs0, intOf]; omega
        · rw [gs0, ej, oIdxS _ _ _ _ _ U.string (by omega) (by omega)]
          rw [Int.toNat_natCast]
          by_cases hc : l.getD j 0 = 47
          · have e1 : ((l.getD j 0).toNat : Int) = 47 := by rw [hc]; rfl
            simp (disch := first | omega | (simp only [sZb, sZa, sZd] <;> omega) | (simp (disch := first | omega | (simp only [sZb, sZa, sZd] <;> omega) | fail) only [go_sem, e1, decide_true]; done) | fail) only [go_sem, dec_t, dec_f, w_u32, w_u64, w_u16, w_u8, w_i64, Int.reduceToNat, Int.reducePow, Nat.reducePow, e1, decide_true]
            have e2 : SM.lastSlash l = some j := by
              rw [← hs]
              simp only [SM.ls, if_pos hc]
            rw [e2] at h
            exact h
          · have e1 : ¬ ((l.getD j 0).toNat : Int) = 47 := fun e => hc (UInt8.toNat_inj.1 (by rw [show (47 : UInt8).toNat = 47 from rfl]; omega))
            simp (disch := first | omega | (simp only [sZb, sZa, sZd] <;> omega) | (simp (disch := first | omega | (simp only [sZb, sZa, sZd] <;> omega) | fail) only [go_sem, e1, decide_false]; done) | fail) only [go_sem, dec_t, dec_f, w_u32, w_u64, w_u16, w_u8, w_i64, Int.reduceToNat, Int.reducePow, Nat.reducePow, e1, decide_false]
            exact ⟨trivial, hc⟩
      · rw [gs0]
        by_cases hi1 : 0 < i
        · simp (disch := first | omega | (simp only [sZb, sZa, sZd] <;> omega) | (simp (disch := first | omega | (simp only [sZb, sZa, sZd] <;> omega) | fail) only [go_sem]; done) | fail) only [go_sem, dec_t, dec_f, w_u32, w_u64, w_u16, w_u8, w_i64, Int.reduceToNat, Int.reducePow, Nat.reducePow]
          exact ⟨trivial, hi1⟩
        · simp (disch := first | omega | (simp only [sZb, sZa, sZd] <;> omega) | (simp (disch := first | omega | (simp only [sZb, sZa, sZd] <;> omega) | fail) only [go_sem]; done) | fail) only [go_sem, dec_t, dec_f, w_u32, w_u64, w_u16, w_u8, w_i64, Int.reduceToNat, Int.reducePow, Nat.reducePow]
          refine ⟨trivial, ?_⟩
          have : i = 0 := by omega
          subst this
          rw [← hs]
          rfl
def dirPart (l : Str) : Str := match SM.lastSlash l with | some i => l.take (i + 1) | none => []
theorem split_spec {l : Str} {w : World} {K : Value → World → Prop} (hl : l.length ≤ 140737488355328) (h : K (tup [S (dirPart l), S (SM.base l)]) w.drew) : Cl P Fn.path_Split #[S l] w K := by
  apply S_path_Split
  unfold F_path_Split
  rw [C.bytealg_LastIndexByteString]
  refine lastIdx_spec hl ?_
  cases hs : SM.lastSlash l with
  | none =>
    have e1 : dirPart l = [] := by unfold dirPart; rw [hs]
    have e2 : SM.base l = l := by unfold SM.base; rw [hs]
    have e0 : (-1 : Int) + 1 = 0 := rfl
    simp only
    simp (disch := first | omega | (simp only [sZb, sZa, sZd] <;> omega) | (simp (disch := first | omega | (simp only [sZb, sZa, sZd] <;> omega) | fail) only [go_sem, e0]; done) | fail) only [go_sem, dec_t, dec_f, w_u32, w_u64, w_u16, w_u8, w_i64, Int.reduceToNat, Int.reducePow, Nat.reducePow, e0]
    rw [oSliceS_hi _ _ _ _ _ U.string (by omega) (by omega)]
    rw [oSliceS_lo _ _ _ _ _ U.string (by omega) (by omega)]
    rw [e1, e2] at h
    simpa using h
  | some i =>
    have hi := SM.lastSlash_lt hs
    have e1 : dirPart l = l.take (i + 1) := by unfold dirPart; rw [hs]
    have e2 : SM.base l = l.drop (i + 1) := by unfold SM.base; rw [hs]
    simp only
    simp (disch := first | omega | (simp only [sZb, sZa, sZd] <;> omega) | (simp (disch := first | omega | (simp only [sZb, sZa, sZd] <;> omega) | fail) only [go_sem]; done) | fail) only [go_sem, dec_t, dec_f, w_u32, w_u64, w_u16, w_u8, w_i64, Int.reduceToNat, Int.reducePow, Nat.reducePow]
    rw [oSliceS_hi _ _ _ _ _ U.string (by omega) (by omega)]
    rw [oSliceS_lo _ _ _ _ _ U.string (by omega) (by omega)]
    rw [e1, e2] at h
    have e3 : ((i : Int) + 1).toNat = i + 1 := by omega
    rw [e3]
    exact h
def InfoAt (w : World) (fi : Nat) (i : SM.Info) : Prop := ∃ d nm a n c md dir mode mt uid gid, bk w fi = some (CB [pt d 0] T.mem_FileInfo) ∧ bk w d = some (CB [S nm, .slice a n c, md, .bool dir, .int .u32 mode, .int .i64 mt, .int .i64 uid, .int .i64 gid] T.mem_FileData) ∧
  0 ≤ mode ∧ mode ≤ 4294967295 ∧ nm.length ≤ 140737488355328 ∧ i = ⟨SM.base nm, if dir = true then 42 else (n : Int), mode, dir, mt⟩
theorem InfoAt.old {w w' : World} {fi : Nat} {i : SM.Info} (h : InfoAt w fi i) (k : Below w.heap.size w w') : InfoAt w' fi i := by
  obtain ⟨d, nm, a, n, c, md, dir, mode, mt, uid, gid, h1, h2, h3⟩ := h
  exact ⟨d, nm, a, n, c, md, dir, mode, mt, uid, gid, (bel_bk k (bk_lt h1)).trans h1, (bel_bk k (bk_lt h2)).trans h2, h3⟩
set_option maxHeartbeats 1000000 in
theorem fromInfo_spec {w : World} {K : Value → World → Prop} {fi : Nat} {i : SM.Info} (h : InfoAt w fi i) (hk : ∀ w', Below w.heap.size w w' → K (AG (infoC i)) w') : Cl P Fn.impl_fromInfo #[pt fi 0] w K := by
  obtain ⟨d, nm, a, n, c, md, dir, mode, mt, uid, gid, h1, h2, h3, h4, h5, rfl⟩ := h
  apply S_impl_fromInfo
  unfold F_impl_fromInfo
  rw [M.al_impl_Info]
  have l1 := bk_lt h1
  have l2 := bk_lt h2
  have B1 : Below w.heap.size w (w.alloc (CB (infoC ⟨[], 0, 0, false, 0⟩) T.impl_Info)) := by repeat (first | exact Below.refl _ _ | assumption | refine bel_setb ?_ (by first | exact Nat.le_refl _ | omega | (simp only [go_sem] <;> omega)) _ | refine Below.alloc ?_ (by first | exact Nat.le_refl _ | omega | (simp only [go_sem]; omega)) _ | refine Below.drew ?_)
  have bI : bk (w.alloc (CB (infoC ⟨[], 0, 0, false, 0⟩) T.impl_Info)) w.heap.size = some (CB (infoC ⟨[], 0, 0, false, 0⟩) T.impl_Info) := bk_alloc_eq _ _ _ rfl
  generalize w.alloc (CB (infoC ⟨[], 0, 0, false, 0⟩) T.impl_Info) = w1 at *
  have h1' := (bel_bk B1 l1).trans h1
  have h2' := (bel_bk B1 l2).trans h2
  rw [C.mem_FileInfo_Name]
  apply S_mem_FileInfo_Name
  unfold F_mem_FileInfo_Name
  simp (disch := first | omega | (simp only [sZb, sZa, sZd] <;> omega) | (simp (disch := first | omega | (simp only [sZb, sZa, sZd] <;> omega) | fail) only [go_sem, h1', h2']; done) | fail) only [go_sem, dec_t, dec_f, w_u32, w_u64, w_u16, w_u8, w_i64, Int.reduceToNat, Int.reducePow, Nat.reducePow, h1', h2']
  refine split_spec h5 ?_
  rw [oExtract2_0, oExtract2_1]
  apply S_mem_FileInfo_Size
  unfold F_mem_FileInfo_Size
  have lI := bk_lt bI
  have isd : ∀ (w9 : World) (L : Value → World → Prop), bk w9 fi = some (CB [pt d 0] T.mem_FileInfo) → bk w9 d = some (CB [S nm, .slice a n c, md, .bool dir, .int .u32 mode, .int .i64 mt, .int .i64 uid, .int .i64 gid] T.mem_FileData) → L (.bool dir) w9 → Cl P Fn.mem_FileInfo_IsDir #[pt fi 0] w9 L := fun w9 L q1 q2 q3 => by
    apply S_mem_FileInfo_IsDir
    unfold F_mem_FileInfo_IsDir
    simp (disch := first | omega | (simp only [sZb, sZa, sZd] <;> omega) | (simp (disch := first | omega | (simp only [sZb, sZa, sZd] <;> omega) | fail) only [go_sem, q1, q2]; done) | fail) only [go_sem, dec_t, dec_f, w_u32, w_u64, w_u16, w_u8, w_i64, Int.reduceToNat, Int.reducePow, Nat.reducePow, q1, q2]
    exact q3
  have rest : (fun t6 w3 => Cl P Fn.mem_FileInfo_Mode #[pt fi 0] w3 fun t8 w4 =>
      pu P (oConv T.os_FileMode T.int t8) fun t9 =>
      Cl P Fn.mem_FileInfo_IsDir #[pt fi 0] w4 fun t11 w5 =>
      Cl P Fn.mem_FileInfo_ModTime #[pt fi 0] w5 fun t13 w6 =>
      pu P (oBuild T.impl_Info #[(0, S (SM.base nm)), (1, t6), (2, t9), (3, t11), (4, t13)]) fun t14 =>
      st P (oStore T.impl_Info (pt w.heap.size 0) t14) w6 fun _ w7 =>
      rsl P T.impl_Info (pt w.heap.size 0) w7 fun r1 =>
      K (tup [r1]) w7) (.int .i64 (if dir = true then 42 else (n : Int))) w1.drew := by
    show Cl P Fn.mem_FileInfo_Mode #[pt fi 0] w1.drew _
    apply S_mem_FileInfo_Mode
    unfold F_mem_FileInfo_Mode
    simp (disch := first | omega | (simp only [sZb, sZa, sZd] <;> omega) | (simp (disch := first | omega | (simp only [sZb, sZa, sZd] <;> omega) | fail) only [go_sem, h1', h2']; done) | fail) only [go_sem, dec_t, dec_f, w_u32, w_u64, w_u16, w_u8, w_i64, Int.reduceToNat, Int.reducePow, Nat.reducePow, h1', h2']
    refine isd _ _ h1' h2' ?_
    apply S_mem_FileInfo_ModTime
    unfold F_mem_FileInfo_ModTime
    simp (disch := first | omega | (simp only [sZb, sZa, sZd] <;> omega) | (simp (disch := first | omega | (simp only [sZb, sZa, sZd] <;> omega) | fail) only [go_sem, h1', h2', bI]; done) | fail) only [go_sem, dec_t, dec_f, w_u32, w_u64, w_u16, w_u8, w_i64, Int.reduceToNat, Int.reducePow, Nat.reducePow, h1', h2', bI]
    exact hk _ (bel_setb B1.drew (Nat.le_refl _) _)
  by_cases hd : dir = true
  · refine jn_with (fun _ _ => False) (fun _ _ _ h => h.elim) ?_
    rw [C.mem_FileInfo_IsDir]
    refine isd _ _ h1' h2' ?_
    rw [if_pos hd] at rest
    rw [hd, cd_t]
    exact rest
  · have hd' : dir = false := by simpa using hd
    rw [if_neg hd] at rest
    refine jn_with (fun t w' => w' = w1.drew) ?_ ?_
    · rintro t e w2 rfl
      rw [oNil_ptr, A.mem_FileInfo_0, Nat.add_zero]
      have r := rest
      simp (disch := first | omega | (simp only [sZb, sZa, sZd] <;> omega) | (simp (disch := first | omega | (simp only [sZb, sZa, sZd] <;> omega) | fail) only [go_sem, h1', h2']; done) | fail) only [go_sem, dec_t, dec_f, w_u32, w_u64, w_u16, w_u8, w_i64, Int.reduceToNat, Int.reducePow, Nat.reducePow, h1', h2']
      simp (disch := first | omega | (simp only [sZb, sZa, sZd] <;> omega) | (simp (disch := first | omega | (simp only [sZb, sZa, sZd] <;> omega) | fail) only [go_sem, h1', h2']; done) | fail) only [go_sem, dec_t, dec_f, w_u32, w_u64, w_u16, w_u8, w_i64, Int.reduceToNat, Int.reducePow, Nat.reducePow, h1', h2'] at r
      exact r
    · rw [C.mem_FileInfo_IsDir]
      refine isd _ _ h1' h2' ?_
      rw [hd', cd_f]
end Go.Proofs.YteblpejgenehfaaDoor.X
end
section
namespace Go.Proofs.YteblpejgenehfaaDoor.X
open Go Go.X Go.Proofs Go.RowKit
abbrev ptV (b : Nat) : Value := pt b 0
theorem fromInfos_spec {w : World} {K : Value → World → Prop} {x : Value} {fs : List Nat} {is : List SM.Info} (hx : VS ptV w x fs) (hn : fs.length ≤ 999990000) (hl : is.length = fs.length) (hi : ∀ i (h1 : i < fs.length) (h2 : i < is.length), InfoAt w fs[i] is[i])
    (hk : ∀ w' v, w'.ownsRow w.heap.size T.impl_Info 5 v is.length (infosC is) → Below w.heap.size w w' → K v w') : Cl P Fn.impl_fromInfos #[x] w K := by
  apply S_impl_fromInfos
  unfold F_impl_fromInfos
  obtain ⟨a, c, ex⟩ := hx.slice
  refine jn_with (fun t w' => ∃ v, t = [v] ∧ w'.ownsRow w.heap.size T.impl_Info 5 v is.length (infosC is) ∧ Below w.heap.size w w') ?_ ?_
  · rintro t e w1 ⟨v, rfl, o1, B1⟩
    exact hk w1 v o1 B1
  · rw [ex]
    simp (disch := first | omega | (simp only [sZb, sZa, sZd] <;> omega) | (simp (disch := first | omega | (simp only [sZb, sZa, sZd] <;> omega) | fail) only [go_sem]; done) | fail) only [go_sem, dec_t, dec_f, w_u32, w_u64, w_u16, w_u8, w_i64, Int.reduceToNat, Int.reducePow, Nat.reducePow]
    rw [← ex]
    refine lp_intro (fun t w' => ∃ v, ∃ i : Nat, t = [v, .int .i64 i] ∧ i ≤ fs.length ∧ w'.ownsRow w.heap.size T.impl_Info 5 v i (infosC (is.take i)) ∧ Below w.heap.size w w') (fun t w' => (fs.length - (intOf (gs t 1))).toNat) ⟨_, 0, rfl, Nat.zero_le _, own_nil _ _ _ _, Below.refl _ _⟩ ?_
    rintro t u w1 ⟨v, i, rfl, hi1, o1, B1⟩
    rw [gs1, oLss]
    refine jn_with (fun t w' => w' = w1 ∧ i < fs.length) ?_ ?_
    · rintro t e w2 ⟨rfl, hlt⟩
      obtain ⟨bx, ox, x1, x2, x3, x4⟩ := (hx.old B1).idx U.sl_p_mem_FileInfo (by kernel_rfl) hlt
      rw [x4]
      have ld : ∀ (L : Value → World → Prop), st P (oLoad T.p_mem_FileInfo (pt bx ox)) w2 L = L (pt fs[i] 0) w2 := fun L => by
        rw [M.ld_p_mem_FileInfo _ _ _ _ (by rw [x3]; rfl), x3]; rfl
      rw [ld]
      simp (disch := first | omega | (simp only [sZb, sZa, sZd] <;> omega) | (simp (disch := first | omega | (simp only [sZb, sZa, sZd] <;> omega) | fail) only [go_sem]; done) | fail) only [go_sem, dec_t, dec_f, w_u32, w_u64, w_u16, w_u8, w_i64, Int.reduceToNat, Int.reducePow, Nat.reducePow]
      refine fromInfo_spec ((hi i hlt (by omega)).old B1) fun w3 B3 => ?_
      rw [oBuildSliceN (z := AG (infoC ⟨[], 0, 0, false, 0⟩)) (size := 5) _ _ U.sl_impl_Info (by kernel_rfl) (by omega) (by omega) rfl]
      have B4 : Below w3.heap.size w3 (w3.alloc (CB (infoC (is[i]'(by omega))) T.impl_Info)) := by repeat (first | exact Below.refl _ _ | assumption | refine bel_setb ?_ (by first | exact Nat.le_refl _ | omega | (simp only [go_sem] <;> omega)) _ | refine Below.alloc ?_ (by first | exact Nat.le_refl _ | omega | (simp only [go_sem]; omega)) _ | refine Below.drew ?_)
      have r4 : rowOf (bk (w3.alloc (CB (infoC (is[i]'(by omega))) T.impl_Info)) w3.heap.size) 0 5 = some (infoC (is[i]'(by omega))) := by rw [bk_alloc_eq _ _ _ rfl]; rfl
      generalize w3.alloc (CB (infoC (is[i]'(by omega))) T.impl_Info) = w4 at *
      have z3 := B3.size
      have z4 := B4.size
      have z1 := B1.size
      have o4 := own_old (own_old o1 B3 (Nat.le_refl _)) B4 (Nat.le_refl _)
      refine oAppendR (size := 5) (bytes := 48) (news := infoC (is[i]'(by omega))) U.sl_impl_Info zInfo rfl (by omega) o4 (.inl ⟨_, _, _, rfl, r4⟩) rfl (fun u hu => oneC_infos [is[i]'(by omega)] u (by simpa [infosC] using hu)) (by simp only [maxLen]; omega) (by omega) (by omega) fun z9 w9 o9 g9 a9 => ?_
      refine ⟨⟨z9, i + 1, rfl, by omega, ?_, B1.trans ((B3.mono z1).trans ((B4.mono (by omega)).trans (own_bel o4 g9 (by omega))))⟩, ?_⟩
      · rw [List.take_succ_eq_append_getElem (by omega), infosC_snoc]
        exact o9
      · simp only [gs1, intOf]; omega
    · by_cases hlt : i < fs.length
      · simp (disch := first | omega | (simp only [sZb, sZa, sZd] <;> omega) | (simp (disch := first | omega | (simp only [sZb, sZa, sZd] <;> omega) | fail) only [go_sem]; done) | fail) only [go_sem, dec_t, dec_f, w_u32, w_u64, w_u16, w_u8, w_i64, Int.reduceToNat, Int.reducePow, Nat.reducePow]
        exact ⟨trivial, hlt⟩
      · simp (disch := first | omega | (simp only [sZb, sZa, sZd] <;> omega) | (simp (disch := first | omega | (simp only [sZb, sZa, sZd] <;> omega) | fail) only [go_sem]; done) | fail) only [go_sem, dec_t, dec_f, w_u32, w_u64, w_u16, w_u8, w_i64, Int.reduceToNat, Int.reducePow, Nat.reducePow]
        have : i = is.length := by omega
        subst this
        rw [List.take_length] at o1
        exact ⟨v, rfl, o1, B1⟩
section
variable {w : World} {K : Value → World → Prop} {B f d : Nat} {v x : Value} {s : FX} {m : Nat → Nat × Nat} {l : List UInt8}
theorem sent_closed (w : World) (C : Nat) (m : Nat → Nat × Nat) : ErrV w C m 3 (er (m G.mem_ErrFileClosed)) := .inr (.inl ⟨G.mem_ErrFileClosed, by decide, rfl, (by decide : (3 : Int) = codeOf G.mem_ErrFileClosed)⟩)
def skR (s : FX) (off wh : Int) : FX × Int × Int := if s.cl = true then (s, 3, 0) else ({ s with pos := seekX s off wh }, 0, seekX s off wh)
theorem seek_any {off wh : Int} (h : FH w B f d v s) (hs : Sn w B m) (h1 : -4611686018427387904 ≤ off ∧ off ≤ 4611686018427387903) (h2 : -4611686018427387904 ≤ s.pos ∧ s.pos ≤ 4611686018427387903) (h3 : s.bytes.length ≤ 4611686018427387903)
    (hk : ∀ w' y, FH w' B f d v (skR s off wh).1 → Kp w w' (Of f d v) → ErrV w' w.heap.size m (skR s off wh).2.1 y → K (tup [.int .i64 (skR s off wh).2.2, y]) w') : Cl P Fn.mem_File_Seek #[pt f 0, .int .i64 off, .int .i64 wh] w K := by
  unfold skR at hk
  by_cases hc : s.cl = true
  · rw [if_pos hc] at hk
    apply S_mem_File_Seek
    unfold F_mem_File_Seek
    have hf := h.bf
    refine jn_with (fun _ _ => False) (fun _ _ _ h => h.elim) ?_
    obtain ⟨q1, t1, e1⟩ := hs.at_ G.mem_ErrFileClosed (by decide)
    simp (disch := first | omega | (simp only [sZb, sZa, sZd] <;> omega) | (simp (disch := first | omega | (simp only [sZb, sZa, sZd] <;> omega) | fail) only [go_sem, hf, hc, e1]; done) | fail) only [go_sem, dec_t, dec_f, w_u32, w_u64, w_u16, w_u8, w_i64, Int.reduceToNat, Int.reducePow, Nat.reducePow, hf, hc, e1]
    exact hk _ _ (h.old (by repeat (first | exact Below.refl _ _ | assumption | refine bel_setb ?_ (by first | exact Nat.le_refl _ | omega | (simp only [go_sem] <;> omega)) _ | refine Below.alloc ?_ (by first | exact Nat.le_refl _ | omega | (simp only [go_sem]; omega)) _ | refine Below.drew ?_))) (Kp.drew w _) (sent_closed _ _ _)
  · rw [if_neg hc] at hk
    exact seek_fx h (by simpa using hc) h1 h2 h3 fun w' F' K' => hk w' _ F' K' (.inl ⟨rfl, rfl⟩)
def rdR (s : FX) (n : Nat) : FX × List UInt8 × Int := if s.cl = true then (s, [], 3) else ({ s with pos := s.pos + (rdX s n).1.length }, (rdX s n).1, ((rdX s n).2 : Int))
def raR (s : FX) (off : Int) (n : Nat) : List UInt8 × Int := if s.cl = true then ([], 3) else ((rdX { s with pos := off } n).1, ((rdX { s with pos := off } n).2 : Int))
theorem read_any {b n : Nat} (h : FH w B f d v s) (hs : Sn w B m) (h2 : s.cl = false → 0 ≤ s.pos ∧ s.pos ≤ 4611686018427387903) (h3 : s.bytes.length ≤ 281474976710656) (hn : n ≤ 281474976710656)
    (hb : bk w b = some (CB (List.replicate n (.int .u8 0)) T.uint8)) (hbf : b ≠ f) (hbd : b ≠ d) (hbv : v.ownBlock ≠ some b)
    (hk : ∀ w' y, FH w' B f d v (rdR s n).1 → Kp w w' (fun k => k = f ∨ k = b) → bk w' b = some (CB ((rdR s n).2.1.map byt ++ List.replicate (n - (rdR s n).2.1.length) (.int .u8 0)) T.uint8) → ErrV w' w.heap.size m (rdR s n).2.2 y → K (tup [.int .i64 (rdR s n).2.1.length, y]) w') :
    Cl P Fn.mem_File_Read #[pt f 0, sl b 0 n n] w K := by
  unfold rdR at hk
  by_cases hc : s.cl = true
  · rw [if_pos hc] at hk
    apply S_mem_File_Read
    unfold F_mem_File_Read
    have hf := h.bf
    refine jn_with (fun _ _ => False) (fun _ _ _ h => h.elim) ?_
    obtain ⟨q1, t1, e1⟩ := hs.at_ G.mem_ErrFileClosed (by decide)
    simp (disch := first | omega | (simp only [sZb, sZa, sZd] <;> omega) | (simp (disch := first | omega | (simp only [sZb, sZa, sZd] <;> omega) | fail) only [go_sem, hf, hc, e1]; done) | fail) only [go_sem, dec_t, dec_f, w_u32, w_u64, w_u16, w_u8, w_i64, Int.reduceToNat, Int.reducePow, Nat.reducePow, hf, hc, e1]
    exact hk _ _ (h.old (by repeat (first | exact Below.refl _ _ | assumption | refine bel_setb ?_ (by first | exact Nat.le_refl _ | omega | (simp only [go_sem] <;> omega)) _ | refine Below.alloc ?_ (by first | exact Nat.le_refl _ | omega | (simp only [go_sem]; omega)) _ | refine Below.drew ?_))) (Kp.drew w _) (by show bk w b = _; simpa using hb) (sent_closed _ _ _)
  · rw [if_neg hc] at hk
    have hc' : s.cl = false := by simpa using hc
    exact read_fx h hs hc' (h2 hc') h3 hn hb hbf hbd hbv fun w' F' K' b' => hk w' _ F' K' b' (errV_ok _ _ _ (rdX_err s n))
theorem readAt_any {b n : Nat} {off : Int} (h : FH w B f d v s) (hs : Sn w B m) (h2 : 0 ≤ off ∧ off ≤ 4611686018427387903) (h3 : s.bytes.length ≤ 281474976710656) (hn : n ≤ 281474976710656)
    (hb : bk w b = some (CB (List.replicate n (.int .u8 0)) T.uint8)) (hbf : b ≠ f) (hbd : b ≠ d) (hbv : v.ownBlock ≠ some b)
    (hk : ∀ w' y, FH w' B f d v s → Kp w w' (fun k => k = f ∨ k = b) → bk w' b = some (CB ((raR s off n).1.map byt ++ List.replicate (n - (raR s off n).1.length) (.int .u8 0)) T.uint8) → ErrV w' w.heap.size m (raR s off n).2 y → K (tup [.int .i64 (raR s off n).1.length, y]) w') :
    Cl P Fn.mem_File_ReadAt #[pt f 0, sl b 0 n n, .int .i64 off] w K := by
  unfold raR at hk
  by_cases hc : s.cl = true
  · rw [if_pos hc] at hk
    apply S_mem_File_ReadAt
    unfold F_mem_File_ReadAt
    have hf := h.bf
    obtain ⟨l1, l2⟩ := h.lt
    simp (disch := first | omega | (simp only [sZb, sZa, sZd] <;> omega) | (simp (disch := first | omega | (simp only [sZb, sZa, sZd] <;> omega) | fail) only [go_sem, hf]; done) | fail) only [go_sem, dec_t, dec_f, w_u32, w_u64, w_u16, w_u8, w_i64, Int.reduceToNat, Int.reducePow, Nat.reducePow, hf]
    have h5 := h.setPos off
    have k5 := Kp.setb w f (CB [.int .i64 off, .int .i64 s.rdc, .bool s.cl, .bool s.ro, pt d 0] T.mem_File)
    have s5 : Sn (setb w f (CB [.int .i64 off, .int .i64 s.rdc, .bool s.cl, .bool s.ro, pt d 0] T.mem_File)) B m := hs.below (k5.below (fun x hx e => by have := h.hf; omega) (by have := h.hf; omega))
    have b5 : bk (setb w f (CB [.int .i64 off, .int .i64 s.rdc, .bool s.cl, .bool s.ro, pt d 0] T.mem_File)) b = some (CB (List.replicate n (.int .u8 0)) T.uint8) := by rw [bk_setb_ne _ _ _ _ hbf]; exact hb
    have z5 : (setb w f (CB [.int .i64 off, .int .i64 s.rdc, .bool s.cl, .bool s.ro, pt d 0] T.mem_File)).heap.size = w.heap.size := sZb _ _ _
    generalize setb w f (CB [.int .i64 off, .int .i64 s.rdc, .bool s.cl, .bool s.ro, pt d 0] T.mem_File) = w1 at *
    refine read_any h5 s5 (fun e => absurd hc (by simpa using e)) h3 hn b5 hbf hbd hbv fun w2 y F2 K2 b2 e2 => ?_
    have er2 : rdR { s with pos := off } n = ({ s with pos := off }, [], 3) := by unfold rdR; rw [if_pos hc]
    rw [er2] at F2 b2 e2 ⊢
    have hf2 := F2.bf
    have l3 := bk_lt hf2
    simp (disch := first | omega | (simp only [sZb, sZa, sZd] <;> omega) | (simp (disch := first | omega | (simp only [sZb, sZa, sZd] <;> omega) | fail) only [go_sem, hf2]; done) | fail) only [go_sem, dec_t, dec_f, w_u32, w_u64, w_u16, w_u8, w_i64, Int.reduceToNat, Int.reducePow, Nat.reducePow, hf2]
    have F3 := F2.setPos s.pos
    have k6 := Kp.setb w2 f (CB [.int .i64 s.pos, .int .i64 s.rdc, .bool s.cl, .bool s.ro, pt d 0] T.mem_File)
    refine hk _ _ F3 (((Kp_mono k5 fun x e => .inl e).trans K2 fun _ _ h => h).trans k6 fun x hx e => .inl e) ?_ ?_
    · rw [bk_setb_ne _ _ _ _ hbf]; exact b2
    · rw [z5] at e2
      exact e2.kp k6 fun b' h1 h2 e => by have := k5.size; omega
  · rw [if_neg hc] at hk
    have hc' : s.cl = false := by simpa using hc
    exact readAt_fx h hs hc' h2 h3 hn hb hbf hbd hbv fun w' F' K' b' => hk w' _ F' K' b' (errV_ok _ _ _ (rdX_err { s with pos := off } n))
theorem readdir_file {n : Int} (h : FH w B f d v s) (hd0 : s.dir = false) (hk : ∀ w' y, Below w.heap.size w w' → ErrV w' w.heap.size m 8 y → K (tup [.slice none 0 0, y]) w') : Cl P Fn.mem_File_Readdir #[pt f 0, .int .i64 n] w K := by
  apply S_mem_File_Readdir
  unfold F_mem_File_Readdir
  have hf := h.bf
  have hd := h.bd
  obtain ⟨lf, ld⟩ := h.lt
  refine jn_with (fun _ _ => False) (fun _ _ _ h => h.elim) ?_
  simp (disch := first | omega | (simp only [sZb, sZa, sZd] <;> omega) | (simp (disch := first | omega | (simp only [sZb, sZa, sZd] <;> omega) | fail) only [go_sem, hf, hd, hd0]; done) | fail) only [go_sem, dec_t, dec_f, w_u32, w_u64, w_u16, w_u8, w_i64, Int.reduceToNat, Int.reducePow, Nat.reducePow, hf, hd, hd0]
  unfold J_mem_File_Readdir_7
  simp (disch := first | omega | (simp only [sZb, sZa, sZd] <;> omega) | (simp (disch := first | omega | (simp only [sZb, sZa, sZd] <;> omega) | fail) only [go_sem, hf, hd]; done) | fail) only [go_sem, dec_t, dec_f, w_u32, w_u64, w_u16, w_u8, w_i64, Int.reduceToNat, Int.reducePow, Nat.reducePow, hf, hd]
  refine new_spec ?_
  simp (disch := first | omega | (simp only [sZb, sZa, sZd] <;> omega) | (simp (disch := first | omega | (simp only [sZb, sZa, sZd] <;> omega) | fail) only [go_sem, hf, hd, mkPath]; done) | fail) only [go_sem, dec_t, dec_f, w_u32, w_u64, w_u16, w_u8, w_i64, Int.reduceToNat, Int.reducePow, Nat.reducePow, hf, hd, mkPath]
  refine ⟨trivial, trivial, ?_⟩
  obtain ⟨W2, e2⟩ : ∃ W2, W2 = (w.drew.alloc (CB [S [110, 111, 116, 32, 97, 32, 100, 105, 114]] T.errors_errorString)).alloc (CB [S [114, 101, 97, 100, 100, 105, 114], S s.nm, er (w.heap.size, 0)] T.os_PathError) := ⟨_, rfl⟩
  have b1 : bk W2 w.heap.size = some (CB [S [110, 111, 116, 32, 97, 32, 100, 105, 114]] T.errors_errorString) := by
    rw [e2, bk_alloc_ne _ _ _ (by simp only [go_sem]; omega)]; exact bk_alloc_eq _ _ _ rfl
  have b2 : bk W2 (w.heap.size + 1) = some (CB [S [114, 101, 97, 100, 100, 105, 114], S s.nm, er (w.heap.size, 0)] T.os_PathError) := by
    rw [e2]; exact bk_alloc_eq _ _ _ (by simp only [go_sem])
  have BB : Below w.heap.size w W2 := by rw [e2]; repeat (first | exact Below.refl _ _ | assumption | refine bel_setb ?_ (by first | exact Nat.le_refl _ | omega | (simp only [go_sem] <;> omega)) _ | refine Below.alloc ?_ (by first | exact Nat.le_refl _ | omega | (simp only [go_sem]; omega)) _ | refine Below.drew ?_)
  have := hk W2 _ BB (pe_new b1 b2)
  rw [e2] at this
  exact this
theorem readnames_file {n : Int} (h : FH w B f d v s) (hd0 : s.dir = false) (hk : ∀ w' y z, Below w.heap.size w w' → ErrV w' w.heap.size m 8 y → RowS w' z 0 [] → (∀ b, z.ownBlock = some b → w.heap.size ≤ b ∧ b < w'.heap.size) → K (tup [z, y]) w') : Cl P Fn.mem_File_Readdirnames #[pt f 0, .int .i64 n] w K := by
  apply S_mem_File_Readdirnames
  unfold F_mem_File_Readdirnames
  rw [C.mem_File_Readdir]
  refine readdir_file (m := m) h hd0 fun w1 y B1 e1 => ?_
  simp (disch := first | omega | (simp only [sZb, sZa, sZd] <;> omega) | (simp (disch := first | omega | (simp only [sZb, sZa, sZd] <;> omega) | fail) only [go_sem]; done) | fail) only [go_sem, dec_t, dec_f, w_u32, w_u64, w_u16, w_u8, w_i64, Int.reduceToNat, Int.reducePow, Nat.reducePow]
  rw [oMkRow (z := S []) U.sl_string infoS rfl 0 (by omega) (by omega)]
  refine jn_with (fun t w' => w' = w1.alloc (CB [] T.string)) ?_ ?_
  · rintro t e w2 rfl
    have B2 : Below w1.heap.size w1 (w1.alloc (CB [] T.string)) := by repeat (first | exact Below.refl _ _ | assumption | refine bel_setb ?_ (by first | exact Nat.le_refl _ | omega | (simp only [go_sem] <;> omega)) _ | refine Below.alloc ?_ (by first | exact Nat.le_refl _ | omega | (simp only [go_sem]; omega)) _ | refine Below.drew ?_)
    refine hk _ y _ (B1.trans (B2.mono B1.size)) (e1.old B2) (.inr ⟨rfl, rfl, _, _, rfl⟩) fun b hb => ?_
    have h9 : w1.heap.size = b := Option.some.inj hb
    have := B1.size
    simp only [go_sem]
    omega
  · refine lp_intro (fun t w' => t = [.int .i64 0] ∧ w' = w1.alloc (CB [] T.string)) (fun _ _ => 0) ⟨rfl, rfl⟩ ?_
    rintro t u w2 ⟨rfl, rfl⟩
    rw [gs0, oLss]
    refine jn_with (fun _ _ => False) (fun _ _ _ h => h.elim) ?_
    simp (disch := first | omega | (simp only [sZb, sZa, sZd] <;> omega) | (simp (disch := first | omega | (simp only [sZb, sZa, sZd] <;> omega) | fail) only [go_sem]; done) | fail) only [go_sem, dec_t, dec_f, w_u32, w_u64, w_u16, w_u8, w_i64, Int.reduceToNat, Int.reducePow, Nat.reducePow]
end
end Go.Proofs.YteblpejgenehfaaDoor.X
end
section
namespace Go.Proofs.YteblpejgenehfaaDoor.X
open Go Go.X Go.Proofs Go.RowKit
def want (n : Int) : Nat := (max 0 (min n 1048576)).toNat
def infoX (s : FX) : SM.Info := ⟨SM.base s.nm, if s.dir = true then 42 else (s.bytes.length : Int), s.mode, s.dir, s.mt⟩
def onX (s : FX) (q : SM.Stp) : FX × SM.Ans :=
  if q.op = 12 then ((rdR s (want q.n)).1, ⟨(rdR s (want q.n)).2.2, 0, 0, (rdR s (want q.n)).2.1, [], []⟩)
  else if q.op = 13 then (s, ⟨(raR s q.off (want q.n)).2, 0, 0, (raR s q.off (want q.n)).1, [], []⟩)
  else if q.op = 14 then ((wrR s q.data).1, ⟨(wrR s q.data).2.1, (wrR s q.data).2.2, 0, [], [], []⟩)
  else if q.op = 15 then ((wrR { s with pos := q.off } q.data).1, ⟨(wrR { s with pos := q.off } q.data).2.1, (wrR { s with pos := q.off } q.data).2.2, 0, [], [], []⟩)
  else if q.op = 16 then ((skR s q.off q.wh).1, ⟨(skR s q.off q.wh).2.1, 0, (skR s q.off q.wh).2.2, [], [], []⟩)
  else if q.op = 17 then ((trR s q.off).1, ⟨(trR s q.off).2, 0, 0, [], [], []⟩)
  else if q.op = 18 then (clR s, SM.Ans.z)
  else if q.op = 19 then (s, SM.Ans.err 8)
  else if q.op = 20 then (s, SM.Ans.err 8)
  else if q.op = 21 then (s, ⟨0, 0, 0, [], [], [infoX s]⟩)
  else if q.op = 22 then (s, ⟨0, 0, 0, [], [s.nm], []⟩)
  else (s, SM.Ans.z)
structure OkX (s : FX) (q : SM.Stp) : Prop where
  op : 12 ≤ q.op ∧ q.op ≤ 23
  dir : s.dir = false
  len : s.bytes.length ≤ 281474976710
  nm : s.nm.length ≤ 140737488355328
  mode : 0 ≤ s.mode ∧ s.mode ≤ 4294967295
  dat : q.data.length ≤ 281474976710
  off : q.op < 18 → -4611686018427387904 ≤ q.off ∧ q.off ≤ 4611686018427387903
  pos : -4611686018427387904 ≤ s.pos ∧ s.pos ≤ 4611686018427387903
  rd : q.op = 12 → s.cl = false → 0 ≤ s.pos
  ra : q.op = 13 → 0 ≤ q.off
  wr : q.op = 14 → s.cl = false → s.ro = false → 0 ≤ s.pos ∧ s.pos ≤ 281474976710
  wa : q.op = 15 → s.cl = false → s.ro = false → 0 ≤ q.off ∧ q.off ≤ 281474976710
  tr : q.op = 17 → q.off ≤ 281474976710
structure AnsP (w : World) (lo : Nat) (U : Nat → Prop) (a : SM.Ans) (x y z : Value) : Prop where
  hx : BS w x a.data
  hy : RowS w y a.names.length (a.names.map S)
  hz : RowS w z a.infos.length (infosC a.infos)
  ho : ∀ b, (x.ownBlock = some b ∨ y.ownBlock = some b ∨ z.ownBlock = some b) → lo ≤ b ∧ b < w.heap.size ∧ ¬ U b
theorem AnsP.n {w : World} {lo : Nat} {U : Nat → Prop} {a : SM.Ans} {x y z : Value} (h : AnsP w lo U a x y z) : AnsN w lo U a (answC a x y z) := ⟨_, _, _, rfl, h.hx, h.hy, h.hz, h.ho⟩
theorem AnsP.kp {w w' : World} {lo : Nat} {U : Nat → Prop} {a : SM.Ans} {x y z : Value} {R : Nat → Prop} (h : AnsP w lo U a x y z) (k : Kp w w' R) (hR : ∀ b, lo ≤ b → b < w.heap.size → ¬ U b → ¬ R b) : AnsP w' lo U a x y z := by
  have g : ∀ b, (x.ownBlock = some b ∨ y.ownBlock = some b ∨ z.ownBlock = some b) → ¬ R b := fun b hb => hR b (h.ho b hb).1 (h.ho b hb).2.1 (h.ho b hb).2.2
  exact ⟨BS_kp h.hx k fun b hb => g b (.inl hb), h.hy.kp k fun b hb => g b (.inr (.inl hb)), h.hz.kp k fun b hb => g b (.inr (.inr hb)), fun b hb => ⟨(h.ho b hb).1, Nat.lt_of_lt_of_le (h.ho b hb).2.1 k.size, (h.ho b hb).2.2⟩⟩
theorem AnsP.plain (w : World) (lo : Nat) (U : Nat → Prop) {a : SM.Ans} (h1 : a.data = []) (h2 : a.names = []) (h3 : a.infos = []) : AnsP w lo U a (.slice none 0 0) (.slice none 0 0) (.slice none 0 0) :=
  ⟨by rw [h1]; exact BS_nil w, by rw [h2]; exact RowS_nil w, by rw [h3]; exact RowS_nil w, fun b hb => by rcases hb with h | h | h <;> cases h⟩
theorem RowS_slice {w : World} {x : Value} {m : Nat} {l : List Value} (h : RowS w x m l) : ∃ a c, x = .slice a m c := by
  rcases h with ⟨b, o, c, rfl, _⟩ | ⟨rfl, _, a, c, rfl⟩
  · exact ⟨_, _, rfl⟩
  · exact ⟨_, _, rfl⟩
structure OnS (w w1 : World) (B f d : Nat) (v : Value) (m : Nat → Nat × Nat) (s : FX) (q : SM.Stp) (x : Value) : Prop where
  h : FH w1 B f d v s
  sn : Sn w1 B m
  b0 : Below w.heap.size w w1
  sz : w1.heap.size = w.heap.size + 3
  bs : bk w1 w.heap.size = some (CB (stepC q x) T.impl_Step)
  b4 : bk w1 (w.heap.size + 1) = some (CB ansZ T.impl_Answer)
  b5 : bk w1 (w.heap.size + 1 + 1) = some (CB ansZ T.impl_Answer)
  lf : f < w.heap.size
  ld : d < w.heap.size
  lv : ∀ k, v.ownBlock = some k → k < w.heap.size
def OnJ (w : World) (B f d : Nat) (v : Value) (m : Nat → Nat × Nat) (s' : FX) (a : SM.Ans) (t : List Value) (w' : World) : Prop :=
  ∃ y x1 x2 x3 v', t = [y] ∧ FH w' B f d v' s' ∧ Kp w w' (Of f d v) ∧ (v'.ownBlock = v.ownBlock ∨ ∀ k, v'.ownBlock = some k → w.heap.size + 3 ≤ k) ∧
    bk w' (w.heap.size + 1 + 1) = some (CB (answC { a with e := 0 } x1 x2 x3) T.impl_Answer) ∧ bk w' (w.heap.size + 1) = some (CB ansZ T.impl_Answer) ∧ AnsP w' (w.heap.size + 3) (Of f d v') a x1 x2 x3 ∧ ErrV w' (w.heap.size + 3) m a.e y ∧ Sn w' B m
abbrev OnK (w : World) (B f d : Nat) (v : Value) (r : FX × SM.Ans) (K : Value → World → Prop) : Prop := ∀ w' v' c, FH w' B f d v' r.1 → Kp w w' (Of f d v) → OwnOk w v v' → AnsN w' w.heap.size (Of f d v') r.2 c → K (AG c) w'
section
variable {w w1 : World} {K : Value → World → Prop} {B f d : Nat} {v : Value} {m : Nat → Nat × Nat} {s : FX} {q : SM.Stp} {x : Value}
theorem OnS.nOf (o : OnS w w1 B f d v m s q x) {k : Nat} (hk : w.heap.size ≤ k) : ¬ Of f d v k := by
  rintro (e | e | e)
  · have := o.lf; omega
  · have := o.ld; omega
  · have := o.lv k e; omega
theorem OnS.hB (o : OnS w w1 B f d v m s q x) : B ≤ w.heap.size := by have := o.h.hf; have := o.lf; omega
theorem OnS.kb (o : OnS w w1 B f d v m s q x) {w2 : World} {R : Nat → Prop} (k2 : Kp w1 w2 R) (hR : ∀ x, x < w1.heap.size → R x → Of f d v x) :
    bk w2 w.heap.size = some (CB (stepC q x) T.impl_Step) ∧ bk w2 (w.heap.size + 1) = some (CB ansZ T.impl_Answer) ∧ bk w2 (w.heap.size + 1 + 1) = some (CB ansZ T.impl_Answer) := by
  have z := o.sz
  refine ⟨?_, ?_, ?_⟩
  · rw [k2.block _ (by omega) fun e => o.nOf (by omega) (hR _ (by omega) e)]; exact o.bs
  · rw [k2.block _ (by omega) fun e => o.nOf (by omega) (hR _ (by omega) e)]; exact o.b4
  · rw [k2.block _ (by omega) fun e => o.nOf (by omega) (hR _ (by omega) e)]; exact o.b5
theorem OnS.put (o : OnS w w1 B f d v m s q x) {w2 : World} {R : Nat → Prop} {v' : Value} {s' : FX} {a : SM.Ans} {y x1 x2 x3 : Value} (F2 : FH w2 B f d v' s') (k2 : Kp w1 w2 R) (hR : ∀ x, x < w1.heap.size → R x → Of f d v x)
    (O2 : OwnOk w1 v v') (e2 : ErrV w2 w1.heap.size m a.e y) (a2 : AnsP w2 w1.heap.size (Of f d v') a x1 x2 x3) :
    OnJ w B f d v m s' a [y] (setb w2 (w.heap.size + 1 + 1) (CB (answC { a with e := 0 } x1 x2 x3) T.impl_Answer)) := by
  obtain ⟨g1, g2, g3⟩ := o.kb k2 hR
  have z := o.sz
  have hB := o.hB
  have ks := Kp.setb w2 (w.heap.size + 1 + 1) (CB (answC { a with e := 0 } x1 x2 x3) T.impl_Answer)
  have kk : Kp w w2 (Of f d v) := (Kp.of_below o.b0 _).trans k2 fun x hx e => hR x (by omega) e
  have n5 : v'.ownBlock ≠ some (w.heap.size + 1 + 1) := fun e => by
    rcases O2 with h | h
    · rw [h] at e; have := o.lv _ e; omega
    · have := h _ e; omega
  refine ⟨y, x1, x2, x3, v', rfl, F2.kept ks fun x hx e => ?_, kk.trans ks fun x hx e => by omega, ?_, bk_setb_eq _ _ _ _ rfl (bk_lt g3), ?_, ?_, ?_, ?_⟩
  · subst e
    rcases hx with e | e | e
    · have := o.lf; omega
    · have := o.ld; omega
    · exact n5 e
  · rcases O2 with h | h
    · exact .inl h
    · exact .inr fun k hk => by have := h k hk; omega
  · rw [bk_setb_ne _ _ _ _ (by omega)]; exact g2
  · rw [← z]; exact a2.kp ks fun b h1 h2 _ e => by omega
  · rw [← z]; exact e2.kp ks fun b h1 h2 e => by omega
  · refine o.sn.below ?_
    have q1 := k2.below (B := B) (fun x hx e => ?_) (by omega)
    · exact bel_setb q1 (by omega) _
    · rcases hR x (by omega) e with h | h | h
      · have := o.h.hf; omega
      · have := o.h.hd; omega
      · have := (own_lt o.h.own x h).1; omega
theorem on_tail {s' : FX} {a : SM.Ans} {t : List Value} {u : Env} {w' : World} (o : OnS w w1 B f d v m s q x) (j : OnJ w B f d v m s' a t w') (hk : OnK w B f d v (s', a) K) : J_impl_on_1 (pt (w.heap.size + 1 + 1) 0) (pt (w.heap.size + 1) 0) K t u w' := by
  obtain ⟨y, x1, x2, x3, v', rfl, F2, K2, O2, k5, k4, a2, e2, sn⟩ := j
  unfold J_impl_on_1
  rw [gs0, C.impl_kind]
  refine kind_err sn (by have := o.hB; omega) e2 ?_
  obtain ⟨p1, c1, rfl⟩ := BS_slice a2.hx
  obtain ⟨p2, c2, rfl⟩ := RowS_slice a2.hy
  obtain ⟨p3, c3, rfl⟩ := RowS_slice a2.hz
  have l5 := bk_lt k5
  have l4 := bk_lt k4
  simp (disch := first | omega | (simp only [sZb, sZa, sZd] <;> omega) | (simp (disch := first | omega | (simp only [sZb, sZa, sZd] <;> omega) | fail) only [go_sem, k5, k4]; done) | fail) only [go_sem, dec_t, dec_f, w_u32, w_u64, w_u16, w_u8, w_i64, Int.reduceToNat, Int.reducePow, Nat.reducePow, k5, k4]
  generalize hO5 : CB [.int .i64 a.e, _, _, _, _, _] T.impl_Answer = O5
  have s1 := Kp.setb w' (w.heap.size + 1 + 1) O5
  have s2 := Kp.setb (setb w' (w.heap.size + 1 + 1) O5) (w.heap.size + 1) O5
  have nv : ∀ k, w.heap.size ≤ k → k < w.heap.size + 3 → ¬ Of f d v' k := fun k h1 h2 => by
    rintro (e | e | e)
    · have := o.lf; omega
    · have := o.ld; omega
    · rcases O2 with h | h
      · rw [h] at e; have := o.lv _ e; omega
      · have := h _ e; omega
  refine hk _ v' _ ((F2.kept s1 fun x hx e => nv x (by omega) (by omega) hx).kept s2 fun x hx e => nv x (by omega) (by omega) hx) ((K2.trans s1 fun x hx e => by omega).trans s2 fun x hx e => by omega) ?_ ?_
  · rcases O2 with h | h
    · exact .inl h
    · exact .inr fun k hk => by have := h k hk; omega
  · exact (((a2.kp s1 fun b h1 h2 _ e => by omega).kp s2 fun b h1 h2 _ e => by omega).n).less (by omega)
end
end Go.Proofs.YteblpejgenehfaaDoor.X
end
section
namespace Go.Proofs.YteblpejgenehfaaDoor.X
open Go Go.X Go.Proofs Go.RowKit
section
variable {w w1 : World} {K : Value → World → Prop} {B f d : Nat} {v : Value} {m : Nat → Nat × Nat} {s : FX} {q : SM.Stp} {x : Value} {k1 : List Value → World → Prop}
theorem rd_row {w2 : World} {b n : Nat} {l : List UInt8} (hb : bk w2 b = some (CB (l.map byt ++ List.replicate (n - l.length) (.int .u8 0)) T.uint8)) (hl : l.length ≤ n) : BS w2 (sl b 0 l.length n) l := by
  refine .inr ⟨b, 0, n, rfl, hl, ?_, bk_lt hb⟩
  unfold rowB
  rw [hb]
  simp only [rowOf]
  rw [if_pos (by simp only [List.size_toArray, List.length_append, List.length_map, List.length_replicate]; omega)]
  simp
theorem rdR_len (s : FX) (n : Nat) : (rdR s n).2.1.length ≤ n := by
  unfold rdR
  split
  · simp
  · exact (rdX_len s n).1
theorem raR_len (s : FX) (off : Int) (n : Nat) : (raR s off n).1.length ≤ n := by
  unfold raR
  split
  · simp
  · exact (rdX_len { s with pos := off } n).1
theorem on2 (o : OnS w w1 B f d v m s q x) (g : OkX s q) (hop : q.op = 12) (hk : ∀ t w', OnJ w B f d v m (rdR s (want q.n)).1 ⟨(rdR s (want q.n)).2.2, 0, 0, (rdR s (want q.n)).2.1, [], []⟩ t w' → k1 t w') : J_impl_on_2 (pt w.heap.size 0) w1 (pt f 0) (pt (w.heap.size + 1 + 1) 0) k1 := by
  unfold J_impl_on_2
  have ew : (max 0 (min q.n 1048576) : Int) = (want q.n : Nat) := by unfold want; omega
  have hwl : want q.n ≤ 1048576 := by unfold want; omega
  have hbs := o.bs
  have hz := o.sz
  have hrl := rdR_len s (want q.n)
  generalize want q.n = N at *
  simp (disch := first | omega | (simp only [sZb, sZa, sZd] <;> omega) | (simp (disch := first | omega | (simp only [sZb, sZa, sZd] <;> omega) | fail) only [go_sem, hbs, ew]; done) | fail) only [go_sem, dec_t, dec_f, w_u32, w_u64, w_u16, w_u8, w_i64, Int.reduceToNat, Int.reducePow, Nat.reducePow, hbs, ew]
  rw [oMkB U.sl_uint8 (by kernel_rfl) N (by omega)]
  have B2 : Below w1.heap.size w1 (w1.alloc (CB (List.replicate N (.int .u8 0)) T.uint8)) := by repeat (first | exact Below.refl _ _ | assumption | refine bel_setb ?_ (by first | exact Nat.le_refl _ | omega | (simp only [go_sem] <;> omega)) _ | refine Below.alloc ?_ (by first | exact Nat.le_refl _ | omega | (simp only [go_sem]; omega)) _ | refine Below.drew ?_)
  have e2 : bk (w1.alloc (CB (List.replicate N (.int .u8 0)) T.uint8)) w1.heap.size = some (CB (List.replicate N (.int .u8 0)) T.uint8) := bk_alloc_eq _ _ _ rfl
  have z2 : (w1.alloc (CB (List.replicate N (.int .u8 0)) T.uint8)).heap.size = w1.heap.size + 1 := by simp only [go_sem]
  generalize w1.alloc (CB (List.replicate N (.int .u8 0)) T.uint8) = w2 at *
  have lf := o.lf
  have ld := o.ld
  have sn2 : Sn w2 B m := o.sn.below (B2.mono (by have := o.hB; omega))
  refine read_any (m := m) (o.h.old B2) sn2 (fun h => ⟨g.rd hop h, g.pos.2⟩) (by have := g.len; omega) (by omega) e2 (by omega) (by omega) (fun e => by have := o.lv _ e; omega) fun w3 y F3 K3 b3 e3 => ?_
  have hR : ∀ y, y < w1.heap.size → (y = f ∨ y = w1.heap.size) → Of f d v y := fun y hy h => by
    rcases h with h | h
    · exact .inl h
    · omega
  have K13 : Kp w1 w3 (fun k => k = f ∨ k = w1.heap.size) := (Kp.of_below B2 _).trans K3 fun _ _ h => h
  obtain ⟨_, _, k5⟩ := o.kb K13 hR
  have l5 := bk_lt k5
  have sh : ∀ (L : Value → Prop), pu P (oSlice T.sl_uint8 (sl w1.heap.size 0 N N) none (some (.int .i64 (rdR s N).2.1.length)) none) L = L (sl w1.heap.size 0 (rdR s N).2.1.length N) := fun L => by
    rw [oSlice_hi (size := 1) L U.sl_uint8 (by kernel_rfl) (by omega) (by omega)]
    rw [Int.toNat_natCast]
  simp (disch := first | omega | (simp only [sZb, sZa, sZd] <;> omega) | (simp (disch := first | omega | (simp only [sZb, sZa, sZd] <;> omega) | fail) only [go_sem, k5, sh]; done) | fail) only [go_sem, dec_t, dec_f, w_u32, w_u64, w_u16, w_u8, w_i64, Int.reduceToNat, Int.reducePow, Nat.reducePow, k5, sh]
  refine hk _ _ (o.put F3 K13 hR (.inl rfl) (e3.less (by omega)) ⟨rd_row b3 hrl, RowS_nil _, RowS_nil _, fun b hb => ?_⟩)
  rcases hb with h | h | h
  · have h9 : w1.heap.size = b := Option.some.inj h
    subst h9
    refine ⟨Nat.le_refl _, bk_lt b3, ?_⟩
    rintro (e | e | e)
    · omega
    · omega
    · have := o.lv _ e; omega
  · cases h
  · cases h
theorem on3 (o : OnS w w1 B f d v m s q x) (g : OkX s q) (hop : q.op = 13) (hk : ∀ t w', OnJ w B f d v m s ⟨(raR s q.off (want q.n)).2, 0, 0, (raR s q.off (want q.n)).1, [], []⟩ t w' → k1 t w') : J_impl_on_3 (pt w.heap.size 0) w1 (pt f 0) (pt (w.heap.size + 1 + 1) 0) k1 := by
  unfold J_impl_on_3
  have ew : (max 0 (min q.n 1048576) : Int) = (want q.n : Nat) := by unfold want; omega
  have hwl : want q.n ≤ 1048576 := by unfold want; omega
  have hbs := o.bs
  have hz := o.sz
  have hrl := raR_len s q.off (want q.n)
  generalize want q.n = N at *
  simp (disch := first | omega | (simp only [sZb, sZa, sZd] <;> omega) | (simp (disch := first | omega | (simp only [sZb, sZa, sZd] <;> omega) | fail) only [go_sem, hbs, ew]; done) | fail) only [go_sem, dec_t, dec_f, w_u32, w_u64, w_u16, w_u8, w_i64, Int.reduceToNat, Int.reducePow, Nat.reducePow, hbs, ew]
  rw [oMkB U.sl_uint8 (by kernel_rfl) N (by omega)]
  have B2 : Below w1.heap.size w1 (w1.alloc (CB (List.replicate N (.int .u8 0)) T.uint8)) := by repeat (first | exact Below.refl _ _ | assumption | refine bel_setb ?_ (by first | exact Nat.le_refl _ | omega | (simp only [go_sem] <;> omega)) _ | refine Below.alloc ?_ (by first | exact Nat.le_refl _ | omega | (simp only [go_sem]; omega)) _ | refine Below.drew ?_)
  have e2 : bk (w1.alloc (CB (List.replicate N (.int .u8 0)) T.uint8)) w1.heap.size = some (CB (List.replicate N (.int .u8 0)) T.uint8) := bk_alloc_eq _ _ _ rfl
  have z2 : (w1.alloc (CB (List.replicate N (.int .u8 0)) T.uint8)).heap.size = w1.heap.size + 1 := by simp only [go_sem]
  have hbs2 := (bel_bk B2 (by omega : w.heap.size < w1.heap.size)).trans hbs
  generalize w1.alloc (CB (List.replicate N (.int .u8 0)) T.uint8) = w2 at *
  have lf := o.lf
  have ld := o.ld
  have sn2 : Sn w2 B m := o.sn.below (B2.mono (by have := o.hB; omega))
  simp (disch := first | omega | (simp only [sZb, sZa, sZd] <;> omega) | (simp (disch := first | omega | (simp only [sZb, sZa, sZd] <;> omega) | fail) only [go_sem, hbs2]; done) | fail) only [go_sem, dec_t, dec_f, w_u32, w_u64, w_u16, w_u8, w_i64, Int.reduceToNat, Int.reducePow, Nat.reducePow, hbs2]
  refine readAt_any (m := m) (o.h.old B2) sn2 ⟨g.ra hop, (g.off (by omega)).2⟩ (by have := g.len; omega) (by omega) e2 (by omega) (by omega) (fun e => by have := o.lv _ e; omega) fun w3 y F3 K3 b3 e3 => ?_
  have hR : ∀ y, y < w1.heap.size → (y = f ∨ y = w1.heap.size) → Of f d v y := fun y hy h => by
    rcases h with h | h
    · exact .inl h
    · omega
  have K13 : Kp w1 w3 (fun k => k = f ∨ k = w1.heap.size) := (Kp.of_below B2 _).trans K3 fun _ _ h => h
  obtain ⟨_, _, k5⟩ := o.kb K13 hR
  have l5 := bk_lt k5
  have sh : ∀ (L : Value → Prop), pu P (oSlice T.sl_uint8 (sl w1.heap.size 0 N N) none (some (.int .i64 (raR s q.off N).1.length)) none) L = L (sl w1.heap.size 0 (raR s q.off N).1.length N) := fun L => by
    rw [oSlice_hi (size := 1) L U.sl_uint8 (by kernel_rfl) (by omega) (by omega)]
    rw [Int.toNat_natCast]
  simp (disch := first | omega | (simp only [sZb, sZa, sZd] <;> omega) | (simp (disch := first | omega | (simp only [sZb, sZa, sZd] <;> omega) | fail) only [go_sem, k5, sh]; done) | fail) only [go_sem, dec_t, dec_f, w_u32, w_u64, w_u16, w_u8, w_i64, Int.reduceToNat, Int.reducePow, Nat.reducePow, k5, sh]
  refine hk _ _ (o.put F3 K13 hR (.inl rfl) (e3.less (by omega)) ⟨rd_row b3 hrl, RowS_nil _, RowS_nil _, fun b hb => ?_⟩)
  rcases hb with h | h | h
  · have h9 : w1.heap.size = b := Option.some.inj h
    subst h9
    refine ⟨Nat.le_refl _, bk_lt b3, ?_⟩
    rintro (e | e | e)
    · omega
    · omega
    · have := o.lv _ e; omega
  · cases h
  · cases h
theorem copy_fresh {w : World} {B : Nat} {x : Value} {n : Nat} {xs : List Value} (o : w.ownsRow B T.uint8 1 x n xs) {k : Nat} (hk : k < B) : x.ownBlock ≠ some k := fun e => by have := (own_lt o k e).1; omega
theorem on4 (o : OnS w w1 B f d v m s q x) (g : OkX s q) (hop : q.op = 14) (hx : BS w1 x q.data) (hk : ∀ t w', OnJ w B f d v m (wrR s q.data).1 ⟨(wrR s q.data).2.1, (wrR s q.data).2.2, 0, [], [], []⟩ t w' → k1 t w') : J_impl_on_4 (pt w.heap.size 0) w1 (pt f 0) (pt (w.heap.size + 1 + 1) 0) k1 := by
  unfold J_impl_on_4
  have hbs := o.bs
  have hz := o.sz
  have lf := o.lf
  have ld := o.ld
  have hq : q.data.length ≤ 281474976710 := g.dat
  simp (disch := first | omega | (simp only [sZb, sZa, sZd] <;> omega) | (simp (disch := first | omega | (simp only [sZb, sZa, sZd] <;> omega) | fail) only [go_sem, hbs]; done) | fail) only [go_sem, dec_t, dec_f, w_u32, w_u64, w_u16, w_u8, w_i64, Int.reduceToNat, Int.reducePow, Nat.reducePow, hbs]
  refine oCopyOf U.sl_uint8 (by kernel_rfl) hx (by omega) fun x2 w2 o2 b2 => ?_
  have z2 := b2.size
  refine write_any (m := m) (o.h.old b2) (o.sn.below (b2.mono (by have := o.hB; omega))) (BS_own o2) (copy_fresh o2 (by omega)) (copy_fresh o2 (by omega)) (fun h1 h2 => ?_) fun w3 v3 y F3 K3 O3 e3 => ?_
  · have := g.wr hop h1 h2
    have := g.len
    omega
  have hR : ∀ y, y < w1.heap.size → Of f d v y → Of f d v y := fun _ _ h => h
  have K13 : Kp w1 w3 (Of f d v) := (Kp.of_below b2 _).trans K3 fun _ _ h => h
  obtain ⟨_, _, k5⟩ := o.kb K13 hR
  have l5 := bk_lt k5
  simp (disch := first | omega | (simp only [sZb, sZa, sZd] <;> omega) | (simp (disch := first | omega | (simp only [sZb, sZa, sZd] <;> omega) | fail) only [go_sem, k5]; done) | fail) only [go_sem, dec_t, dec_f, w_u32, w_u64, w_u16, w_u8, w_i64, Int.reduceToNat, Int.reducePow, Nat.reducePow, k5]
  refine hk _ _ (o.put (a := ⟨(wrR s q.data).2.1, (wrR s q.data).2.2, 0, [], [], []⟩) F3 K13 hR ?_ (e3.less (by omega)) (AnsP.plain _ _ _ rfl rfl rfl))
  rcases O3 with h | h
  · exact .inl h
  · exact .inr fun k hk => by have := h k hk; omega
theorem on5 (o : OnS w w1 B f d v m s q x) (g : OkX s q) (hop : q.op = 15) (hx : BS w1 x q.data) (hk : ∀ t w', OnJ w B f d v m (wrR { s with pos := q.off } q.data).1 ⟨(wrR { s with pos := q.off } q.data).2.1, (wrR { s with pos := q.off } q.data).2.2, 0, [], [], []⟩ t w' → k1 t w') : J_impl_on_5 (pt w.heap.size 0) w1 (pt f 0) (pt (w.heap.size + 1 + 1) 0) k1 := by
  unfold J_impl_on_5
  have hbs := o.bs
  have hz := o.sz
  have lf := o.lf
  have ld := o.ld
  have hq : q.data.length ≤ 281474976710 := g.dat
  simp (disch := first | omega | (simp only [sZb, sZa, sZd] <;> omega) | (simp (disch := first | omega | (simp only [sZb, sZa, sZd] <;> omega) | fail) only [go_sem, hbs]; done) | fail) only [go_sem, dec_t, dec_f, w_u32, w_u64, w_u16, w_u8, w_i64, Int.reduceToNat, Int.reducePow, Nat.reducePow, hbs]
  refine oCopyOf U.sl_uint8 (by kernel_rfl) (show BS w1.drew x q.data from hx) (by omega) fun x2 w2 o2 b2' => ?_
  have b2 : Below w1.heap.size w1 w2 := ((Below.refl _ w1).drew).trans b2'
  have z2 := b2.size
  have z2' : w1.drew.heap.size = w1.heap.size := rfl
  have hbs2 := (bel_bk b2 (by omega : w.heap.size < w1.heap.size)).trans hbs
  simp (disch := first | omega | (simp only [sZb, sZa, sZd] <;> omega) | (simp (disch := first | omega | (simp only [sZb, sZa, sZd] <;> omega) | fail) only [go_sem, hbs2]; done) | fail) only [go_sem, dec_t, dec_f, w_u32, w_u64, w_u16, w_u8, w_i64, Int.reduceToNat, Int.reducePow, Nat.reducePow, hbs2]
  refine ⟨trivial, writeAt_any (m := m) (o.h.old b2) (o.sn.below (b2.mono (by have := o.hB; omega))) (BS_own o2) (copy_fresh o2 (by omega)) (copy_fresh o2 (by omega)) (fun h1 h2 => ?_) fun w3 v3 y F3 K3 O3 e3 => ?_⟩
  · have := g.wa hop h1 h2
    have := g.len
    omega
  have hR : ∀ y, y < w1.heap.size → Of f d v y → Of f d v y := fun _ _ h => h
  have K13 : Kp w1 w3 (Of f d v) := (Kp.of_below b2 _).trans K3 fun _ _ h => h
  obtain ⟨_, _, k5⟩ := o.kb K13 hR
  have l5 := bk_lt k5
  simp (disch := first | omega | (simp only [sZb, sZa, sZd] <;> omega) | (simp (disch := first | omega | (simp only [sZb, sZa, sZd] <;> omega) | fail) only [go_sem, k5]; done) | fail) only [go_sem, dec_t, dec_f, w_u32, w_u64, w_u16, w_u8, w_i64, Int.reduceToNat, Int.reducePow, Nat.reducePow, k5]
  refine hk _ _ (o.put (a := ⟨(wrR { s with pos := q.off } q.data).2.1, (wrR { s with pos := q.off } q.data).2.2, 0, [], [], []⟩) F3 K13 hR ?_ (e3.less (by omega)) (AnsP.plain _ _ _ rfl rfl rfl))
  rcases O3 with h | h
  · exact .inl h
  · exact .inr fun k hk => by have := h k hk; omega
theorem on6 (o : OnS w w1 B f d v m s q x) (g : OkX s q) (hop : q.op = 16) (hk : ∀ t w', OnJ w B f d v m (skR s q.off q.wh).1 ⟨(skR s q.off q.wh).2.1, 0, (skR s q.off q.wh).2.2, [], [], []⟩ t w' → k1 t w') : J_impl_on_6 (pt w.heap.size 0) w1 (pt f 0) (pt (w.heap.size + 1 + 1) 0) k1 := by
  unfold J_impl_on_6
  have hbs := o.bs
  have hz := o.sz
  simp (disch := first | omega | (simp only [sZb, sZa, sZd] <;> omega) | (simp (disch := first | omega | (simp only [sZb, sZa, sZd] <;> omega) | fail) only [go_sem, hbs]; done) | fail) only [go_sem, dec_t, dec_f, w_u32, w_u64, w_u16, w_u8, w_i64, Int.reduceToNat, Int.reducePow, Nat.reducePow, hbs]
  refine seek_any (m := m) o.h o.sn (g.off (by omega)) g.pos (by have := g.len; omega) fun w3 y F3 K3 e3 => ?_
  have hR : ∀ y, y < w1.heap.size → Of f d v y → Of f d v y := fun _ _ h => h
  obtain ⟨_, _, k5⟩ := o.kb K3 hR
  have l5 := bk_lt k5
  simp (disch := first | omega | (simp only [sZb, sZa, sZd] <;> omega) | (simp (disch := first | omega | (simp only [sZb, sZa, sZd] <;> omega) | fail) only [go_sem, k5]; done) | fail) only [go_sem, dec_t, dec_f, w_u32, w_u64, w_u16, w_u8, w_i64, Int.reduceToNat, Int.reducePow, Nat.reducePow, k5]
  exact hk _ _ (o.put (a := ⟨(skR s q.off q.wh).2.1, 0, (skR s q.off q.wh).2.2, [], [], []⟩) F3 K3 hR (.inl rfl) e3 (AnsP.plain _ _ _ rfl rfl rfl))
theorem on7 (o : OnS w w1 B f d v m s q x) (g : OkX s q) (hk : ∀ t w', OnJ w B f d v m s (SM.Ans.err 8) t w' → k1 t w') : J_impl_on_7 (pt w.heap.size 0) w1 (pt f 0) (pt (w.heap.size + 1 + 1) 0) k1 := by
  unfold J_impl_on_7
  have hbs := o.bs
  have hz := o.sz
  simp (disch := first | omega | (simp only [sZb, sZa, sZd] <;> omega) | (simp (disch := first | omega | (simp only [sZb, sZa, sZd] <;> omega) | fail) only [go_sem, hbs]; done) | fail) only [go_sem, dec_t, dec_f, w_u32, w_u64, w_u16, w_u8, w_i64, Int.reduceToNat, Int.reducePow, Nat.reducePow, hbs]
  refine readdir_file (m := m) o.h g.dir fun w2 y b2 e2 => ?_
  simp (disch := first | omega | (simp only [sZb, sZa, sZd] <;> omega) | (simp (disch := first | omega | (simp only [sZb, sZa, sZd] <;> omega) | fail) only [go_sem]; done) | fail) only [go_sem, dec_t, dec_f, w_u32, w_u64, w_u16, w_u8, w_i64, Int.reduceToNat, Int.reducePow, Nat.reducePow]
  refine fromInfos_spec (fs := []) (is := []) (.inl ⟨rfl, _, _, rfl⟩) (by simp) rfl (fun i h1 => by simp at h1) fun w3 z o3 b3 => ?_
  have z2 := b2.size
  have b13 : Below w1.heap.size w1 w3 := b2.trans (b3.mono z2)
  have hR : ∀ y, y < w1.heap.size → Of f d v y → Of f d v y := fun _ _ h => h
  have K3 : Kp w1 w3 (Of f d v) := Kp.of_below b13 _
  obtain ⟨_, _, k5⟩ := o.kb K3 hR
  have l5 := bk_lt k5
  have hz1 : z.oneCell' = true := by
    obtain ⟨p, c, rfl⟩ := own_slice o3
    rfl
  simp (disch := first | omega | (simp only [sZb, sZa, sZd] <;> omega) | (simp (disch := first | omega | (simp only [sZb, sZa, sZd] <;> omega) | fail) only [go_sem, k5, hz1]; done) | fail) only [go_sem, dec_t, dec_f, w_u32, w_u64, w_u16, w_u8, w_i64, Int.reduceToNat, Int.reducePow, Nat.reducePow, k5, hz1]
  refine hk _ _ (o.put (a := SM.Ans.err 8) (o.h.old b13) K3 hR (.inl rfl) (e2.old b3) ⟨BS_nil _, RowS_nil _, RowS_own o3, fun b hb => ?_⟩)
  rcases hb with h | h | h
  · cases h
  · cases h
  · have h1 := own_lt o3 b h
    refine ⟨by omega, h1.2, ?_⟩
    exact o.nOf (by omega)
theorem on8 (o : OnS w w1 B f d v m s q x) (g : OkX s q) (hk : ∀ t w', OnJ w B f d v m s (SM.Ans.err 8) t w' → k1 t w') : J_impl_on_8 (pt w.heap.size 0) w1 (pt f 0) (pt (w.heap.size + 1 + 1) 0) k1 := by
  unfold J_impl_on_8
  have hbs := o.bs
  have hz := o.sz
  simp (disch := first | omega | (simp only [sZb, sZa, sZd] <;> omega) | (simp (disch := first | omega | (simp only [sZb, sZa, sZd] <;> omega) | fail) only [go_sem, hbs]; done) | fail) only [go_sem, dec_t, dec_f, w_u32, w_u64, w_u16, w_u8, w_i64, Int.reduceToNat, Int.reducePow, Nat.reducePow, hbs]
  refine readnames_file (m := m) o.h g.dir fun w3 y z b13 e2 r3 ob => ?_
  have hR : ∀ y, y < w1.heap.size → Of f d v y → Of f d v y := fun _ _ h => h
  have K3 : Kp w1 w3 (Of f d v) := Kp.of_below b13 _
  obtain ⟨_, _, k5⟩ := o.kb K3 hR
  have l5 := bk_lt k5
  have hz1 : z.oneCell' = true := by
    obtain ⟨p, c, rfl⟩ := RowS_slice r3
    rfl
  simp (disch := first | omega | (simp only [sZb, sZa, sZd] <;> omega) | (simp (disch := first | omega | (simp only [sZb, sZa, sZd] <;> omega) | fail) only [go_sem, k5, hz1]; done) | fail) only [go_sem, dec_t, dec_f, w_u32, w_u64, w_u16, w_u8, w_i64, Int.reduceToNat, Int.reducePow, Nat.reducePow, k5, hz1]
  refine hk _ _ (o.put (a := SM.Ans.err 8) (o.h.old b13) K3 hR (.inl rfl) e2 ⟨BS_nil _, r3, RowS_nil _, fun b hb => ?_⟩)
  rcases hb with h | h | h
  · cases h
  · have h1 := ob b h
    exact ⟨h1.1, h1.2, o.nOf (by omega)⟩
  · cases h
theorem on9 (o : OnS w w1 B f d v m s q x) (g : OkX s q) (hk : ∀ t w', OnJ w B f d v m s ⟨0, 0, 0, [], [], [infoX s]⟩ t w' → k1 t w') : J_impl_on_9 (pt f 0) w1 (pt (w.heap.size + 1 + 1) 0) k1 := by
  unfold J_impl_on_9
  have hz := o.sz
  simp (disch := first | omega | (simp only [sZb, sZa, sZd] <;> omega) | (simp (disch := first | omega | (simp only [sZb, sZa, sZd] <;> omega) | fail) only [go_sem]; done) | fail) only [go_sem, dec_t, dec_f, w_u32, w_u64, w_u16, w_u8, w_i64, Int.reduceToNat, Int.reducePow, Nat.reducePow]
  refine stat_any o.h ?_
  simp (disch := first | omega | (simp only [sZb, sZa, sZd] <;> omega) | (simp (disch := first | omega | (simp only [sZb, sZa, sZd] <;> omega) | fail) only [go_sem]; done) | fail) only [go_sem, dec_t, dec_f, w_u32, w_u64, w_u16, w_u8, w_i64, Int.reduceToNat, Int.reducePow, Nat.reducePow]
  obtain ⟨fi, efi⟩ : ∃ fi, fi = w1.heap.size := ⟨_, rfl⟩
  have B2 : Below w1.heap.size w1 (w1.alloc (CB [pt d 0] T.mem_FileInfo)) := by repeat (first | exact Below.refl _ _ | assumption | refine bel_setb ?_ (by first | exact Nat.le_refl _ | omega | (simp only [go_sem] <;> omega)) _ | refine Below.alloc ?_ (by first | exact Nat.le_refl _ | omega | (simp only [go_sem]; omega)) _ | refine Below.drew ?_)
  have e2 : bk (w1.alloc (CB [pt d 0] T.mem_FileInfo)) w1.heap.size = some (CB [pt d 0] T.mem_FileInfo) := bk_alloc_eq _ _ _ rfl
  have z2 : (w1.alloc (CB [pt d 0] T.mem_FileInfo)).heap.size = w1.heap.size + 1 := by simp only [go_sem]
  generalize w1.alloc (CB [pt d 0] T.mem_FileInfo) = w2 at *
  rw [oBuildSlice1 (z := .pointer none) _ _ U.sl_p_mem_FileInfo (by kernel_rfl) rfl]
  have B3 : Below w2.heap.size w2 (w2.alloc (CB [pt w1.heap.size 0] T.p_mem_FileInfo)) := by repeat (first | exact Below.refl _ _ | assumption | refine bel_setb ?_ (by first | exact Nat.le_refl _ | omega | (simp only [go_sem] <;> omega)) _ | refine Below.alloc ?_ (by first | exact Nat.le_refl _ | omega | (simp only [go_sem]; omega)) _ | refine Below.drew ?_)
  have r3 : bk (w2.alloc (CB [pt w1.heap.size 0] T.p_mem_FileInfo)) w2.heap.size = some (CB [pt w1.heap.size 0] T.p_mem_FileInfo) := bk_alloc_eq _ _ _ rfl
  generalize w2.alloc (CB [pt w1.heap.size 0] T.p_mem_FileInfo) = w3 at *
  have b13 : Below w1.heap.size w1 w3 := B2.trans (B3.mono (by omega))
  have F3 := o.h.old b13
  refine fromInfos_spec (fs := [w1.heap.size]) (is := [infoX s]) (.inr ⟨w2.heap.size, 0, 1, rfl, Nat.le_refl _, by rw [r3]; rfl, bk_lt r3⟩) (by simp) rfl (fun i h1 h2 => ?_) fun w4 z o4 b4 => ?_
  · have h0 : i = 0 := by simp at h1; omega
    subst h0
    obtain ⟨p, c, ev, hc⟩ := own_cap F3.own
    refine ⟨d, s.nm, p, s.bytes.length, c, s.md, s.dir, s.mode, s.mt, s.uid, s.gid, (bel_bk B3 (show w1.heap.size < w2.heap.size by omega)).trans e2, ?_, g.mode.1, g.mode.2, g.nm, rfl⟩
    rw [← ev]; exact F3.bd
  · have z3 := B3.size
    have b14 : Below w1.heap.size w1 w4 := b13.trans (b4.mono (by omega))
    have hR : ∀ y, y < w1.heap.size → Of f d v y → Of f d v y := fun _ _ h => h
    have K3 : Kp w1 w4 (Of f d v) := Kp.of_below b14 _
    obtain ⟨_, _, k5⟩ := o.kb K3 hR
    have l5 := bk_lt k5
    have hz1 : z.oneCell' = true := by
      obtain ⟨p, c, rfl⟩ := own_slice o4
      rfl
    simp (disch := first | omega | (simp only [sZb, sZa, sZd] <;> omega) | (simp (disch := first | omega | (simp only [sZb, sZa, sZd] <;> omega) | fail) only [go_sem, k5, hz1]; done) | fail) only [go_sem, dec_t, dec_f, w_u32, w_u64, w_u16, w_u8, w_i64, Int.reduceToNat, Int.reducePow, Nat.reducePow, k5, hz1]
    refine hk _ _ (o.put (a := ⟨0, 0, 0, [], [], [infoX s]⟩) (o.h.old b14) K3 hR (.inl rfl) (ErrV.nil _ _ _) ⟨BS_nil _, RowS_nil _, RowS_own o4, fun b hb => ?_⟩)
    rcases hb with h | h | h
    · cases h
    · cases h
    · have h1 := own_lt o4 b h
      exact ⟨by omega, h1.2, o.nOf (by omega)⟩
theorem on11 {t4 : Value} (o : OnS w w1 B f d v m s q x) (hop : q.op = 22) (hk : ∀ t w', OnJ w B f d v m s ⟨0, 0, 0, [], [s.nm], []⟩ t w' → k1 t w') : J_impl_on_11 (.int .i64 q.op) (pt f 0) w1 (pt (w.heap.size + 1 + 1) 0) k1 t4 K := by
  unfold J_impl_on_11
  have hz := o.sz
  simp (disch := first | omega | (simp only [sZb, sZa, sZd] <;> omega) | (simp (disch := first | omega | (simp only [sZb, sZa, sZd] <;> omega) | fail) only [go_sem, hop]; done) | fail) only [go_sem, dec_t, dec_f, w_u32, w_u64, w_u16, w_u8, w_i64, Int.reduceToNat, Int.reducePow, Nat.reducePow, hop]
  refine name_any o.h ?_
  rw [oBuildSlice1 (z := S []) _ _ U.sl_string (by kernel_rfl) rfl]
  have B3 : Below w1.heap.size w1 (w1.alloc (CB [S s.nm] T.string)) := by repeat (first | exact Below.refl _ _ | assumption | refine bel_setb ?_ (by first | exact Nat.le_refl _ | omega | (simp only [go_sem] <;> omega)) _ | refine Below.alloc ?_ (by first | exact Nat.le_refl _ | omega | (simp only [go_sem]; omega)) _ | refine Below.drew ?_)
  have r3 : bk (w1.alloc (CB [S s.nm] T.string)) w1.heap.size = some (CB [S s.nm] T.string) := bk_alloc_eq _ _ _ rfl
  have hR : ∀ y, y < w1.heap.size → Of f d v y → Of f d v y := fun _ _ h => h
  generalize w1.alloc (CB [S s.nm] T.string) = w3 at *
  have K3 : Kp w1 w3 (Of f d v) := Kp.of_below B3 _
  obtain ⟨_, _, k5⟩ := o.kb K3 hR
  have l5 := bk_lt k5
  simp (disch := first | omega | (simp only [sZb, sZa, sZd] <;> omega) | (simp (disch := first | omega | (simp only [sZb, sZa, sZd] <;> omega) | fail) only [go_sem, k5]; done) | fail) only [go_sem, dec_t, dec_f, w_u32, w_u64, w_u16, w_u8, w_i64, Int.reduceToNat, Int.reducePow, Nat.reducePow, k5]
  refine hk _ _ (o.put (a := ⟨0, 0, 0, [], [s.nm], []⟩) (o.h.old B3) K3 hR (.inl rfl) (ErrV.nil _ _ _) ⟨BS_nil _, .inl ⟨_, _, _, rfl, by rw [r3]; rfl⟩, RowS_nil _, fun b hb => ?_⟩)
  rcases hb with h | h | h
  · cases h
  · have h9 : w1.heap.size = b := Option.some.inj h
    subst h9
    exact ⟨Nat.le_refl _, bk_lt r3, o.nOf (by omega)⟩
  · cases h
theorem sync_any (hk : K .nilIface w) : Cl P Fn.mem_File_Sync #[pt f 0] w K := by
  apply S_mem_File_Sync
  unfold F_mem_File_Sync
  simp (disch := first | omega | (simp only [sZb, sZa, sZd] <;> omega) | (simp (disch := first | omega | (simp only [sZb, sZa, sZd] <;> omega) | fail) only [go_sem]; done) | fail) only [go_sem, dec_t, dec_f, w_u32, w_u64, w_u16, w_u8, w_i64, Int.reduceToNat, Int.reducePow, Nat.reducePow]
  exact hk
theorem OnS.still (o : OnS w w1 B f d v m s q x) {w2 : World} {v2 : Value} {s2 : FX} {a : SM.Ans} {y : Value} (F2 : FH w2 B f d v2 s2) (k2 : Kp w1 w2 (Of f d v)) (O2 : OwnOk w1 v v2) (h1 : a.data = []) (h2 : a.names = []) (h3 : a.infos = []) (h4 : a.n = 0) (h5 : a.off = 0) (e2 : ErrV w2 w1.heap.size m a.e y) : OnJ w B f d v m s2 a [y] w2 := by
  obtain ⟨g1, g2, g3⟩ := o.kb k2 fun _ _ h => h
  have j := o.put F2 k2 (fun _ _ h => h) O2 e2 (AnsP.plain _ _ _ h1 h2 h3)
  have e : (CB (answC { a with e := 0 } (.slice none 0 0) (.slice none 0 0) (.slice none 0 0)) T.impl_Answer) = CB ansZ T.impl_Answer := by
    show CB [.int .i64 0, .int .i64 a.n, .int .i64 a.off, _, _, _] _ = _
    rw [h4, h5]
  rw [e, setb_same g3] at j
  exact j
set_option maxHeartbeats 4000000 in
theorem on_any (h : FH w B f d v s) (sn : Sn w B m) (g : OkX s q) (hx : BS w x q.data) (hk : OnK w B f d v (onX s q) K) : Cl P Fn.impl_on #[pt f 0, AG (stepC q x)] w K := by
  apply S_impl_on
  unfold F_impl_on
  have hv := BS_one' hx
  obtain ⟨lf, ld⟩ := h.lt
  have own := own_lt h.own
  simp (disch := first | omega | (simp only [sZb, sZa, sZd] <;> omega) | (simp (disch := first | omega | (simp only [sZb, sZa, sZd] <;> omega) | fail) only [go_sem, hv]; done) | fail) only [go_sem, dec_t, dec_f, w_u32, w_u64, w_u16, w_u8, w_i64, Int.reduceToNat, Int.reducePow, Nat.reducePow, hv]
  obtain ⟨w1, ew1⟩ : ∃ w1, w1 = ((w.alloc (CB (stepC q x) T.impl_Step)).alloc (CB ansZ T.impl_Answer)).alloc (CB ansZ T.impl_Answer) := ⟨_, rfl⟩
  have b0 : Below w.heap.size w w1 := by rw [ew1]; repeat (first | exact Below.refl _ _ | assumption | refine bel_setb ?_ (by first | exact Nat.le_refl _ | omega | (simp only [go_sem] <;> omega)) _ | refine Below.alloc ?_ (by first | exact Nat.le_refl _ | omega | (simp only [go_sem]; omega)) _ | refine Below.drew ?_)
  have o : OnS w w1 B f d v m s q x := by
    refine ⟨h.old b0, sn.below (b0.mono (by have := h.hf; omega)), b0, by rw [ew1]; simp only [go_sem], ?_, ?_, ?_, lf, ld, fun k e => (own k e).2⟩
    · rw [ew1, bk_alloc_ne _ _ _ (by simp only [go_sem]; omega), bk_alloc_ne _ _ _ (by simp only [go_sem]; omega), bk_alloc_eq _ _ _ rfl]
    · rw [ew1, bk_alloc_ne _ _ _ (by simp only [go_sem]; omega), bk_alloc_eq _ _ _ (by simp only [go_sem])]
    · rw [ew1, bk_alloc_eq _ _ _ (by simp only [go_sem])]
  have hx1 : BS w1 x q.data := BS_old hx b0 (Nat.le_refl _)
  rw [setb_same (by rw [← ew1]; exact o.b5), ← ew1]
  clear ew1
  refine jn_with (fun t w' => OnJ w B f d v m (onX s q).1 (onX s q).2 t w') (fun t e w' j => on_tail o j hk) ?_
  have hbs := o.bs
  have h1 := g.op.1
  have h2 := g.op.2
  by_cases c12 : q.op = 12
  · simp (disch := first | omega | (simp only [sZb, sZa, sZd] <;> omega) | (simp (disch := first | omega | (simp only [sZb, sZa, sZd] <;> omega) | fail) only [go_sem, hbs]; done) | fail) only [go_sem, dec_t, dec_f, w_u32, w_u64, w_u16, w_u8, w_i64, Int.reduceToNat, Int.reducePow, Nat.reducePow, hbs]
    refine on2 o g c12 fun t w' j => ?_
    rw [onX, if_pos c12]
    exact j
  simp (disch := first | omega | (simp only [sZb, sZa, sZd] <;> omega) | (simp (disch := first | omega | (simp only [sZb, sZa, sZd] <;> omega) | fail) only [go_sem, hbs]; done) | fail) only [go_sem, dec_t, dec_f, w_u32, w_u64, w_u16, w_u8, w_i64, Int.reduceToNat, Int.reducePow, Nat.reducePow, hbs]
  unfold J_impl_on_20
  by_cases c13 : q.op = 13
  · simp (disch := first | omega | (simp only [sZb, sZa, sZd] <;> omega) | (simp (disch := first | omega | (simp only [sZb, sZa, sZd] <;> omega) | fail) only [go_sem]; done) | fail) only [go_sem, dec_t, dec_f, w_u32, w_u64, w_u16, w_u8, w_i64, Int.reduceToNat, Int.reducePow, Nat.reducePow]
    refine on3 o g c13 fun t w' j => ?_
    rw [onX, if_neg c12, if_pos c13]
    exact j
  simp (disch := first | omega | (simp only [sZb, sZa, sZd] <;> omega) | (simp (disch := first | omega | (simp only [sZb, sZa, sZd] <;> omega) | fail) only [go_sem]; done) | fail) only [go_sem, dec_t, dec_f, w_u32, w_u64, w_u16, w_u8, w_i64, Int.reduceToNat, Int.reducePow, Nat.reducePow]
  unfold J_impl_on_19
  by_cases c14 : q.op = 14
  · simp (disch := first | omega | (simp only [sZb, sZa, sZd] <;> omega) | (simp (disch := first | omega | (simp only [sZb, sZa, sZd] <;> omega) | fail) only [go_sem]; done) | fail) only [go_sem, dec_t, dec_f, w_u32, w_u64, w_u16, w_u8, w_i64, Int.reduceToNat, Int.reducePow, Nat.reducePow]
    refine on4 o g c14 hx1 fun t w' j => ?_
    rw [onX, if_neg c12, if_neg c13, if_pos c14]
    exact j
  simp (disch := first | omega | (simp only [sZb, sZa, sZd] <;> omega) | (simp (disch := first | omega | (simp only [sZb, sZa, sZd] <;> omega) | fail) only [go_sem]; done) | fail) only [go_sem, dec_t, dec_f, w_u32, w_u64, w_u16, w_u8, w_i64, Int.reduceToNat, Int.reducePow, Nat.reducePow]
  unfold J_impl_on_18
  by_cases c15 : q.op = 15
  · simp (disch := first | omega | (simp only [sZb, sZa, sZd] <;> omega) | (simp (disch := first | omega | (simp only [sZb, sZa, sZd] <;> omega) | fail) only [go_sem]; done) | fail) only [go_sem, dec_t, dec_f, w_u32, w_u64, w_u16, w_u8, w_i64, Int.reduceToNat, Int.reducePow, Nat.reducePow]
    refine on5 o g c15 hx1 fun t w' j => ?_
    rw [onX, if_neg c12, if_neg c13, if_neg c14, if_pos c15]
    exact j
  simp (disch := first | omega | (simp only [sZb, sZa, sZd] <;> omega) | (simp (disch := first | omega | (simp only [sZb, sZa, sZd] <;> omega) | fail) only [go_sem]; done) | fail) only [go_sem, dec_t, dec_f, w_u32, w_u64, w_u16, w_u8, w_i64, Int.reduceToNat, Int.reducePow, Nat.reducePow]
  unfold J_impl_on_17
  by_cases c16 : q.op = 16
  · simp (disch := first | omega | (simp only [sZb, sZa, sZd] <;> omega) | (simp (disch := first | omega | (simp only [sZb, sZa, sZd] <;> omega) | fail) only [go_sem]; done) | fail) only [go_sem, dec_t, dec_f, w_u32, w_u64, w_u16, w_u8, w_i64, Int.reduceToNat, Int.reducePow, Nat.reducePow]
    refine on6 o g c16 fun t w' j => ?_
    rw [onX, if_neg c12, if_neg c13, if_neg c14, if_neg c15, if_pos c16]
    exact j
  simp (disch := first | omega | (simp only [sZb, sZa, sZd] <;> omega) | (simp (disch := first | omega | (simp only [sZb, sZa, sZd] <;> omega) | fail) only [go_sem]; done) | fail) only [go_sem, dec_t, dec_f, w_u32, w_u64, w_u16, w_u8, w_i64, Int.reduceToNat, Int.reducePow, Nat.reducePow]
  unfold J_impl_on_16
  by_cases c17 : q.op = 17
  · simp (disch := first | omega | (simp only [sZb, sZa, sZd] <;> omega) | (simp (disch := first | omega | (simp only [sZb, sZa, sZd] <;> omega) | fail) only [go_sem, hbs]; done) | fail) only [go_sem, dec_t, dec_f, w_u32, w_u64, w_u16, w_u8, w_i64, Int.reduceToNat, Int.reducePow, Nat.reducePow, hbs]
    refine trunc_any (m := m) o.h o.sn (g.tr c17) g.len fun w3 v3 y F3 K3 O3 e3 => ?_
    rw [onX, if_neg c12, if_neg c13, if_neg c14, if_neg c15, if_neg c16, if_pos c17]
    exact o.still F3 K3 O3 rfl rfl rfl rfl rfl e3
  simp (disch := first | omega | (simp only [sZb, sZa, sZd] <;> omega) | (simp (disch := first | omega | (simp only [sZb, sZa, sZd] <;> omega) | fail) only [go_sem]; done) | fail) only [go_sem, dec_t, dec_f, w_u32, w_u64, w_u16, w_u8, w_i64, Int.reduceToNat, Int.reducePow, Nat.reducePow]
  unfold J_impl_on_15
  by_cases c18 : q.op = 18
  · simp (disch := first | omega | (simp only [sZb, sZa, sZd] <;> omega) | (simp (disch := first | omega | (simp only [sZb, sZa, sZd] <;> omega) | fail) only [go_sem]; done) | fail) only [go_sem, dec_t, dec_f, w_u32, w_u64, w_u16, w_u8, w_i64, Int.reduceToNat, Int.reducePow, Nat.reducePow]
    refine close_any o.h fun w3 F3 K3 => ?_
    rw [onX, if_neg c12, if_neg c13, if_neg c14, if_neg c15, if_neg c16, if_neg c17, if_pos c18]
    exact o.still F3 K3 (.inl rfl) rfl rfl rfl rfl rfl (ErrV.nil _ _ _)
  simp (disch := first | omega | (simp only [sZb, sZa, sZd] <;> omega) | (simp (disch := first | omega | (simp only [sZb, sZa, sZd] <;> omega) | fail) only [go_sem]; done) | fail) only [go_sem, dec_t, dec_f, w_u32, w_u64, w_u16, w_u8, w_i64, Int.reduceToNat, Int.reducePow, Nat.reducePow]
  unfold J_impl_on_14
  by_cases c19 : q.op = 19
  · simp (disch := first | omega | (simp only [sZb, sZa, sZd] <;> omega) | (simp (disch := first | omega | (simp only [sZb, sZa, sZd] <;> omega) | fail) only [go_sem]; done) | fail) only [go_sem, dec_t, dec_f, w_u32, w_u64, w_u16, w_u8, w_i64, Int.reduceToNat, Int.reducePow, Nat.reducePow]
    refine on7 o g fun t w' j => ?_
    rw [onX, if_neg c12, if_neg c13, if_neg c14, if_neg c15, if_neg c16, if_neg c17, if_neg c18, if_pos c19]
    exact j
  simp (disch := first | omega | (simp only [sZb, sZa, sZd] <;> omega) | (simp (disch := first | omega | (simp only [sZb, sZa, sZd] <;> omega) | fail) only [go_sem]; done) | fail) only [go_sem, dec_t, dec_f, w_u32, w_u64, w_u16, w_u8, w_i64, Int.reduceToNat, Int.reducePow, Nat.reducePow]
  unfold J_impl_on_13
  by_cases c20 : q.op = 20
  · simp (disch := first | omega | (simp only [sZb, sZa, sZd] <;> omega) | (simp (disch := first | omega | (simp only [sZb, sZa, sZd] <;> omega) | fail) only [go_sem]; done) | fail) only [go_sem, dec_t, dec_f, w_u32, w_u64, w_u16, w_u8, w_i64, Int.reduceToNat, Int.reducePow, Nat.reducePow]
    refine on8 o g fun t w' j => ?_
    rw [onX, if_neg c12, if_neg c13, if_neg c14, if_neg c15, if_neg c16, if_neg c17, if_neg c18, if_neg c19, if_pos c20]
    exact j
  simp (disch := first | omega | (simp only [sZb, sZa, sZd] <;> omega) | (simp (disch := first | omega | (simp only [sZb, sZa, sZd] <;> omega) | fail) only [go_sem]; done) | fail) only [go_sem, dec_t, dec_f, w_u32, w_u64, w_u16, w_u8, w_i64, Int.reduceToNat, Int.reducePow, Nat.reducePow]
  unfold J_impl_on_12
  by_cases c21 : q.op = 21
  · simp (disch := first | omega | (simp only [sZb, sZa, sZd] <;> omega) | (simp (disch := first | omega | (simp only [sZb, sZa, sZd] <;> omega) | fail) only [go_sem]; done) | fail) only [go_sem, dec_t, dec_f, w_u32, w_u64, w_u16, w_u8, w_i64, Int.reduceToNat, Int.reducePow, Nat.reducePow]
    refine on9 o g fun t w' j => ?_
    rw [onX, if_neg c12, if_neg c13, if_neg c14, if_neg c15, if_neg c16, if_neg c17, if_neg c18, if_neg c19, if_neg c20, if_pos c21]
    exact j
  simp (disch := first | omega | (simp only [sZb, sZa, sZd] <;> omega) | (simp (disch := first | omega | (simp only [sZb, sZa, sZd] <;> omega) | fail) only [go_sem]; done) | fail) only [go_sem, dec_t, dec_f, w_u32, w_u64, w_u16, w_u8, w_i64, Int.reduceToNat, Int.reducePow, Nat.reducePow]
  by_cases c22 : q.op = 22
  · refine on11 o c22 fun t w' j => ?_
    rw [onX, if_neg c12, if_neg c13, if_neg c14, if_neg c15, if_neg c16, if_neg c17, if_neg c18, if_neg c19, if_neg c20, if_neg c21, if_pos c22]
    exact j
  unfold J_impl_on_11
  simp (disch := first | omega | (simp only [sZb, sZa, sZd] <;> omega) | (simp (disch := first | omega | (simp only [sZb, sZa, sZd] <;> omega) | fail) only [go_sem]; done) | fail) only [go_sem, dec_t, dec_f, w_u32, w_u64, w_u16, w_u8, w_i64, Int.reduceToNat, Int.reducePow, Nat.reducePow]
  unfold J_impl_on_10
  simp (disch := first | omega | (simp only [sZb, sZa, sZd] <;> omega) | (simp (disch := first | omega | (simp only [sZb, sZa, sZd] <;> omega) | fail) only [go_sem]; done) | fail) only [go_sem, dec_t, dec_f, w_u32, w_u64, w_u16, w_u8, w_i64, Int.reduceToNat, Int.reducePow, Nat.reducePow]
  refine sync_any ?_
  rw [onX, if_neg c12, if_neg c13, if_neg c14, if_neg c15, if_neg c16, if_neg c17, if_neg c18, if_neg c19, if_neg c20, if_neg c21, if_neg c22]
  exact o.still o.h (Kp.refl _ _) (.inl rfl) rfl rfl rfl rfl rfl (ErrV.nil _ _ _)
end
end Go.Proofs.YteblpejgenehfaaDoor.X
end
section
namespace Go.Proofs.YteblpejgenehfaaDoor.X
open Go Go.X Go.Proofs Go.RowKit
structure UU (w : World) (B u f1 d1 : Nat) (v1 : Value) (s1 : FX) (f2 d2 : Nat) (v2 : Value) (s2 : FX) : Prop where
  l : FH w B f1 d1 v1 s1
  b : FH w B f2 d2 v2 s2
  sep : ∀ k, Of f1 d1 v1 k → ¬ Of f2 d2 v2 k
  hu : B ≤ u
  bu : bk w u = some (CB [pt f2 0, pt f1 0, .int .i64 0, .slice none 0 0] T.afero_UnionFile)
  n1 : ¬ Of f1 d1 v1 u
  n2 : ¬ Of f2 d2 v2 u
section
variable {w w' : World} {K : Value → World → Prop} {B u f1 d1 f2 d2 : Nat} {v1 v2 x : Value} {s1 s2 : FX} {m : Nat → Nat × Nat} {l : List UInt8}
theorem UU.lt (h : UU w B u f1 d1 v1 s1 f2 d2 v2 s2) : u < w.heap.size ∧ (∀ k, Of f1 d1 v1 k → B ≤ k ∧ k < w.heap.size) ∧ (∀ k, Of f2 d2 v2 k → B ≤ k ∧ k < w.heap.size) := by
  refine ⟨bk_lt h.bu, fun k hk => ?_, fun k hk => ?_⟩
  · obtain ⟨a, b⟩ := h.l.lt
    have := h.l.hf
    have := h.l.hd
    rcases hk with rfl | rfl | hk
    · exact ⟨this, a⟩
    · exact ⟨this, b⟩
    · exact own_lt h.l.own k hk
  · obtain ⟨a, b⟩ := h.b.lt
    have := h.b.hf
    have := h.b.hd
    rcases hk with rfl | rfl | hk
    · exact ⟨this, a⟩
    · exact ⟨this, b⟩
    · exact own_lt h.b.own k hk
theorem Of_new {f d : Nat} {v v' : Value} (O : OwnOk w v v') {k : Nat} (h : Of f d v' k) : Of f d v k ∨ w.heap.size ≤ k := by
  rcases h with h | h | h
  · exact .inl (.inl h)
  · exact .inl (.inr (.inl h))
  · rcases O with e | e
    · exact .inl (.inr (.inr (by rw [← e]; exact h)))
    · exact .inr (e k h)
theorem UU.setL (h : UU w B u f1 d1 v1 s1 f2 d2 v2 s2) {v1' : Value} {s1' : FX} (F : FH w' B f1 d1 v1' s1') (k : Kp w w' (Of f1 d1 v1)) (O : OwnOk w v1 v1') : UU w' B u f1 d1 v1' s1' f2 d2 v2 s2 := by
  obtain ⟨a, b, c⟩ := h.lt
  refine ⟨F, h.b.kept k fun x hx e => h.sep x e hx, fun x hx e => ?_, h.hu, (k.block u a h.n1).trans h.bu, fun e => ?_, h.n2⟩
  · rcases Of_new O hx with h1 | h1
    · exact h.sep x h1 e
    · have := (c x e).2; omega
  · rcases Of_new O e with h1 | h1
    · exact h.n1 h1
    · omega
def wrU (s1 s2 : FX) (l : List UInt8) : FX × FX × Int × Int :=
  if (wrR s1 l).2.1 = 0 then ((wrR s1 l).1, (wrR s2 l).1, (wrR s2 l).2.1, (wrR s1 l).2.2) else ((wrR s1 l).1, s2, (wrR s1 l).2.1, (wrR s1 l).2.2)
def waU (s1 s2 : FX) (off : Int) (l : List UInt8) : FX × FX × Int × Int :=
  if (wrR { s1 with pos := off } l).2.1 = 0 then ((wrR { s1 with pos := off } l).1, (wrR { s2 with pos := off } l).1, (wrR { s2 with pos := off } l).2.1, (wrR { s1 with pos := off } l).2.2) else ((wrR { s1 with pos := off } l).1, s2, (wrR { s1 with pos := off } l).2.1, (wrR { s1 with pos := off } l).2.2)
def trU (s1 s2 : FX) (n : Int) : FX × FX × Int :=
  if (trR s1 n).2 = 0 then ((trR s1 n).1, (trR s2 n).1, (trR s2 n).2) else ((trR s1 n).1, s2, (trR s1 n).2)
def skU (s1 s2 : FX) (off wh : Int) : FX × FX × Int × Int :=
  if (skR s1 off wh).2.1 = 0 then ((skR s1 off wh).1, (skR s2 off wh).1, (skR s2 off wh).2.1, (skR s1 off wh).2.2) else ((skR s1 off wh).1, s2, (skR s1 off wh).2.1, (skR s1 off wh).2.2)
def rdU (s1 s2 : FX) (n : Nat) : FX × FX × List UInt8 × Int :=
  if (rdR s1 n).2.2 = 0 ∨ (rdR s1 n).2.2 = 4 then ((rdR s1 n).1, (skR s2 (rdR s1 n).2.1.length 1).1, (rdR s1 n).2.1, if (skR s2 (rdR s1 n).2.1.length 1).2.1 = 0 then (rdR s1 n).2.2 else (skR s2 (rdR s1 n).2.1.length 1).2.1)
  else ((rdR s1 n).1, s2, (rdR s1 n).2.1, (rdR s1 n).2.2)
end
end Go.Proofs.YteblpejgenehfaaDoor.X
end
section
namespace Go.Proofs.YteblpejgenehfaaDoor.X
open Go Go.X Go.Proofs Go.RowKit
structure AnS (w w1 : World) (B : Nat) (R : Nat → Prop) (m : Nat → Nat × Nat) (q : SM.Stp) (x : Value) : Prop where
  sn : Sn w1 B m
  hB : B ≤ w.heap.size
  b0 : Below w.heap.size w w1
  sz : w1.heap.size = w.heap.size + 3
  bs : bk w1 w.heap.size = some (CB (stepC q x) T.impl_Step)
  b4 : bk w1 (w.heap.size + 1) = some (CB ansZ T.impl_Answer)
  b5 : bk w1 (w.heap.size + 1 + 1) = some (CB ansZ T.impl_Answer)
  lR : ∀ k, R k → B ≤ k ∧ k < w.heap.size
def Loc (X : World → (Nat → Prop) → Prop) : Prop := ∀ w w' U k, X w U → Kp w w' (fun b => b = k) → ¬ U k → X w' U
def AnJ (w : World) (B : Nat) (R : Nat → Prop) (m : Nat → Nat × Nat) (X : World → (Nat → Prop) → Prop) (a : SM.Ans) (t : List Value) (w' : World) : Prop :=
  ∃ y x1 x2 x3 U, t = [y] ∧ X w' U ∧ Kp w w' R ∧ (∀ k, U k → R k ∨ w.heap.size + 3 ≤ k) ∧
    bk w' (w.heap.size + 1 + 1) = some (CB (answC { a with e := 0 } x1 x2 x3) T.impl_Answer) ∧ bk w' (w.heap.size + 1) = some (CB ansZ T.impl_Answer) ∧ AnsP w' (w.heap.size + 3) U a x1 x2 x3 ∧ ErrV w' (w.heap.size + 3) m a.e y ∧ Sn w' B m
abbrev AnK (w : World) (R : Nat → Prop) (X : World → (Nat → Prop) → Prop) (a : SM.Ans) (K : Value → World → Prop) : Prop := ∀ w' U c, X w' U → Kp w w' R → (∀ k, U k → R k ∨ w.heap.size ≤ k) → AnsN w' w.heap.size U a c → K (AG c) w'
section
variable {w w1 : World} {K : Value → World → Prop} {B : Nat} {R : Nat → Prop} {X : World → (Nat → Prop) → Prop} {m : Nat → Nat × Nat} {q : SM.Stp} {x : Value}
theorem AnS.nR (o : AnS w w1 B R m q x) {k : Nat} (hk : w.heap.size ≤ k) : ¬ R k := fun e => by have := (o.lR k e).2; omega
theorem AnS.kb (o : AnS w w1 B R m q x) {w2 : World} {R' : Nat → Prop} (k2 : Kp w1 w2 R') (hR : ∀ x, x < w1.heap.size → R' x → R x) :
    bk w2 w.heap.size = some (CB (stepC q x) T.impl_Step) ∧ bk w2 (w.heap.size + 1) = some (CB ansZ T.impl_Answer) ∧ bk w2 (w.heap.size + 1 + 1) = some (CB ansZ T.impl_Answer) := by
  have z := o.sz
  refine ⟨?_, ?_, ?_⟩
  · rw [k2.block _ (by omega) fun e => o.nR (by omega) (hR _ (by omega) e)]; exact o.bs
  · rw [k2.block _ (by omega) fun e => o.nR (by omega) (hR _ (by omega) e)]; exact o.b4
  · rw [k2.block _ (by omega) fun e => o.nR (by omega) (hR _ (by omega) e)]; exact o.b5
theorem AnS.put (o : AnS w w1 B R m q x) (hX : Loc X) {w2 : World} {R' U : Nat → Prop} {a : SM.Ans} {y x1 x2 x3 : Value} (X2 : X w2 U) (k2 : Kp w1 w2 R') (hR : ∀ x, x < w1.heap.size → R' x → R x)
    (hU : ∀ k, U k → R k ∨ w1.heap.size ≤ k) (e2 : ErrV w2 w1.heap.size m a.e y) (a2 : AnsP w2 w1.heap.size U a x1 x2 x3) :
    AnJ w B R m X a [y] (setb w2 (w.heap.size + 1 + 1) (CB (answC { a with e := 0 } x1 x2 x3) T.impl_Answer)) := by
  obtain ⟨g1, g2, g3⟩ := o.kb k2 hR
  have z := o.sz
  have hB := o.hB
  have ks := Kp.setb w2 (w.heap.size + 1 + 1) (CB (answC { a with e := 0 } x1 x2 x3) T.impl_Answer)
  have kk : Kp w w2 R := (Kp.of_below o.b0 _).trans k2 fun x hx e => hR x (by omega) e
  have n5 : ¬ U (w.heap.size + 1 + 1) := fun e => by
    rcases hU _ e with h | h
    · exact o.nR (by omega) h
    · omega
  refine ⟨y, x1, x2, x3, U, rfl, hX _ _ _ _ X2 ks n5, kk.trans ks fun x hx e => by omega, fun k hk => ?_, bk_setb_eq _ _ _ _ rfl (bk_lt g3), ?_, ?_, ?_, ?_⟩
  · rcases hU k hk with h | h
    · exact .inl h
    · exact .inr (by omega)
  · rw [bk_setb_ne _ _ _ _ (by omega)]; exact g2
  · rw [← z]; exact a2.kp ks fun b h1 h2 _ e => by omega
  · rw [← z]; exact e2.kp ks fun b h1 h2 e => by omega
  · refine o.sn.below ?_
    have q1 := k2.below (B := B) (fun x hx e => ?_) (by omega)
    · exact bel_setb q1 (by omega) _
    · have := (o.lR x (hR x (by omega) e)).1; omega
theorem AnS.still (o : AnS w w1 B R m q x) (hX : Loc X) {w2 : World} {R' U : Nat → Prop} {a : SM.Ans} {y : Value} (X2 : X w2 U) (k2 : Kp w1 w2 R') (hR : ∀ x, x < w1.heap.size → R' x → R x) (hU : ∀ k, U k → R k ∨ w1.heap.size ≤ k)
    (h1 : a.data = []) (h2 : a.names = []) (h3 : a.infos = []) (h4 : a.n = 0) (h5 : a.off = 0) (e2 : ErrV w2 w1.heap.size m a.e y) : AnJ w B R m X a [y] w2 := by
  obtain ⟨g1, g2, g3⟩ := o.kb k2 hR
  have j := o.put hX X2 k2 hR hU e2 (AnsP.plain _ _ _ h1 h2 h3)
  have e : (CB (answC { a with e := 0 } (.slice none 0 0) (.slice none 0 0) (.slice none 0 0)) T.impl_Answer) = CB ansZ T.impl_Answer := by
    show CB [.int .i64 0, .int .i64 a.n, .int .i64 a.off, _, _, _] _ = _
    rw [h4, h5]
  rw [e, setb_same g3] at j
  exact j
end
def wovX (s1 s2 : FX) (q : SM.Stp) : FX × FX × SM.Ans :=
  if q.op = 12 then ((rdU s1 s2 (want q.n)).1, (rdU s1 s2 (want q.n)).2.1, ⟨(rdU s1 s2 (want q.n)).2.2.2, 0, 0, (rdU s1 s2 (want q.n)).2.2.1, [], []⟩)
  else if q.op = 14 then ((wrU s1 s2 q.data).1, (wrU s1 s2 q.data).2.1, ⟨(wrU s1 s2 q.data).2.2.1, (wrU s1 s2 q.data).2.2.2, 0, [], [], []⟩)
  else if q.op = 15 then ((waU s1 s2 q.off q.data).1, (waU s1 s2 q.off q.data).2.1, ⟨(waU s1 s2 q.off q.data).2.2.1, (waU s1 s2 q.off q.data).2.2.2, 0, [], [], []⟩)
  else if q.op = 16 then ((skU s1 s2 q.off q.wh).1, (skU s1 s2 q.off q.wh).2.1, ⟨(skU s1 s2 q.off q.wh).2.2.1, 0, (skU s1 s2 q.off q.wh).2.2.2, [], [], []⟩)
  else if q.op = 17 then ((trU s1 s2 q.off).1, (trU s1 s2 q.off).2.1, ⟨(trU s1 s2 q.off).2.2, 0, 0, [], [], []⟩)
  else if q.op = 18 then (clR s1, clR s2, SM.Ans.z)
  else if q.op = 19 then (s1, s2, SM.Ans.err 8)
  else if q.op = 20 then (s1, s2, SM.Ans.err 8)
  else if q.op = 21 then (s1, s2, ⟨0, 0, 0, [], [], [infoX s1]⟩)
  else if q.op = 22 then (s1, s2, ⟨0, 0, 0, [], [s1.nm], []⟩)
  else (s1, s2, SM.Ans.z)
end Go.Proofs.YteblpejgenehfaaDoor.X
end
section
namespace Go.Proofs.YteblpejgenehfaaDoor.X
open Go Go.X Go.Proofs Go.RowKit
def StepsAt (w : World) (v : Value) (qs : List SM.Stp) (vs : List Value) : Prop :=
  vs.length = qs.length ∧ (∀ i (h1 : i < qs.length) (h2 : i < vs.length), BS w vs[i] qs[i].data) ∧ ((qs = [] ∧ ∃ a cap, v = .slice a 0 cap) ∨ ∃ b o cap, v = sl b o qs.length cap ∧ b < w.heap.size ∧ ∀ i (h1 : i < qs.length) (h2 : i < vs.length), rowOf (bk w b) (o + i * 10) 10 = some (stepC qs[i] vs[i]))
theorem StepsAt.old {w w' : World} {v : Value} {qs : List SM.Stp} {vs : List Value} (h : StepsAt w v qs vs) (hb : Below w.heap.size w w') : StepsAt w' v qs vs := by
  refine ⟨h.1, fun i h1 h2 => BS_old (h.2.1 i h1 h2) hb (Nat.le_refl _), ?_⟩
  rcases h.2.2 with h | ⟨b, o, cap, h1, h2, h3⟩
  · exact .inl h
  · exact .inr ⟨b, o, cap, h1, Nat.lt_of_lt_of_le h2 hb.size, fun i g1 g2 => by rw [bel_bk hb h2]; exact h3 i g1 g2⟩
theorem StepsAt.slice {w : World} {v : Value} {qs : List SM.Stp} {vs : List Value} (h : StepsAt w v qs vs) : ∃ a cap, v = .slice a qs.length cap := by
  rcases h.2.2 with ⟨h, a, cap, e⟩ | ⟨b, o, cap, e, _⟩
  · exact ⟨a, cap, by rw [e, h]; rfl⟩
  · exact ⟨_, _, e⟩
theorem StepsAt.idx {w : World} {v : Value} {qs : List SM.Stp} {vs : List Value} (h : StepsAt w v qs vs) {i : Nat} (hi : i < qs.length) (hv : i < vs.length) :
    ∃ b o, rowOf (bk w b) o 10 = some (stepC qs[i] vs[i]) ∧ b < w.heap.size ∧ ∀ L : Value → Prop, pu P (oIdxA T.sl_impl_Step v (.int .i64 i)) L = L (pt b o) := by
  rcases h.2.2 with ⟨h, _⟩ | ⟨b, o, cap, rfl, hb, hr⟩
  · rw [h] at hi; exact absurd hi (by simp)
  · refine ⟨b, o + i * 10, hr i hi hv, hb, fun L => ?_⟩
    rw [oIdxA_sl (size := 10) L U.sl_impl_Step (by kernel_rfl) (by omega) (by omega), Int.toNat_natCast]
section
variable {σ : Type}
def runX (stp : σ → SM.Stp → σ × SM.Ans) : σ → List SM.Stp → σ × List SM.Ans
  | s, [] => (s, [])
  | s, q :: qs => ((runX stp (stp s q).1 qs).1, (stp s q).2 :: (runX stp (stp s q).1 qs).2)
def okX (stp : σ → SM.Stp → σ × SM.Ans) (ok : σ → SM.Stp → Prop) : σ → List SM.Stp → Prop
  | _, [] => True
  | s, q :: qs => ok s q ∧ okX stp ok (stp s q).1 qs
theorem runX_len (stp : σ → SM.Stp → σ × SM.Ans) : ∀ (s : σ) (qs : List SM.Stp), (runX stp s qs).2.length = qs.length
  | _, [] => rfl
  | s, q :: qs => by simp [runX, runX_len stp (stp s q).1 qs]
def LocS (X : World → (Nat → Prop) → Prop) : Prop := ∀ w w' U S, X w U → Kp w w' S → (∀ k, U k → ¬ S k) → X w' U
def AnsAt (w : World) (lo : Nat) (N : Nat → Prop) (az : List SM.Ans) (cs : List (List Value)) : Prop := cs.length = az.length ∧ ∀ i (h1 : i < cs.length) (h2 : i < az.length), AnsN w lo N az[i] cs[i]
theorem AnsAt.kp {w w' : World} {lo : Nat} {N S : Nat → Prop} {az : List SM.Ans} {cs : List (List Value)} (h : AnsAt w lo N az cs) (k : Kp w w' S) (hS : ∀ b, lo ≤ b → b < w.heap.size → ¬ N b → ¬ S b) : AnsAt w' lo N az cs := ⟨h.1, fun i h1 h2 => (h.2 i h1 h2).kp k hS⟩
theorem AnsAt.to {w : World} {lo : Nat} {N M : Nat → Prop} {az : List SM.Ans} {cs : List (List Value)} (h : AnsAt w lo N az cs) (hM : ∀ b, lo ≤ b → b < w.heap.size → ¬ N b → ¬ M b) : AnsAt w lo M az cs := ⟨h.1, fun i h1 h2 => (h.2 i h1 h2).to hM⟩
theorem AnsAt.snoc {w : World} {lo : Nat} {N : Nat → Prop} {az : List SM.Ans} {cs : List (List Value)} (h : AnsAt w lo N az cs) {a : SM.Ans} {c : List Value} (ha : AnsN w lo N a c) : AnsAt w lo N (az ++ [a]) (cs ++ [c]) := by
  refine ⟨by simp [h.1], fun i h1 h2 => ?_⟩
  by_cases hi : i < cs.length
  · rw [List.getElem_append_left hi, List.getElem_append_left (by rw [← h.1]; exact hi)]
    exact h.2 i hi _
  · have e1 : i = cs.length := by simp at h1; omega
    subst e1
    have e2 : (cs ++ [c])[cs.length] = c := by simp
    have e3 : (az ++ [a])[cs.length]'h2 = a := by simp [h.1]
    rw [e2, e3]
    exact ha
theorem ans_oneCells {w : World} {lo : Nat} {N : Nat → Prop} {a : SM.Ans} {c : List Value} (h : AnsN w lo N a c) : c.length = 6 ∧ ∀ u ∈ c, u.oneCell' = true := by
  obtain ⟨x, y, z, rfl, hx, hy, hz, _⟩ := h
  obtain ⟨p1, c1, rfl⟩ := BS_slice hx
  obtain ⟨p2, c2, rfl⟩ := RowS_slice hy
  obtain ⟨p3, c3, rfl⟩ := RowS_slice hz
  refine ⟨rfl, fun u hu => ?_⟩
  simp only [answC, List.mem_cons, List.not_mem_nil, or_false] at hu
  rcases hu with rfl | rfl | rfl | rfl | rfl | rfl <;> rfl
theorem runX_drop (stp : σ → SM.Stp → σ × SM.Ans) (s : σ) (q : SM.Stp) (qs : List SM.Stp) : (runX stp s (q :: qs)).1 = (runX stp (stp s q).1 qs).1 ∧ (runX stp s (q :: qs)).2 = (stp s q).2 :: (runX stp (stp s q).1 qs).2 := ⟨rfl, rfl⟩
set_option maxHeartbeats 4000000 in
theorem loop_spec {w0 w : World} {B : Nat} {m : Nat → Nat × Nat} {X : σ → World → (Nat → Prop) → Prop} {stp : σ → SM.Stp → σ × SM.Ans} {ok : σ → SM.Stp → Prop} {fn : FuncId} {fv tv : Value} {qs : List SM.Stp} {vs : List Value} {s0 : σ} {U0 : Nat → Prop} {k2 : List Value → World → Prop}
    (hc : ∀ {args : Array Value} {w : World} {K : Value → World → Prop}, Cl P fn args w K → st P (oCall fn args) w K)
    (hloc : ∀ s, LocS (X s))
    (hstep : ∀ s q w x U K, X s w U → Sn w B m → ok s q → BS w x q.data → AnK w U (X (stp s q).1) (stp s q).2 K → Cl P fn #[fv, AG (stepC q x)] w K)
    (hq : StepsAt w0 tv qs vs) (hb : Below w0.heap.size w0 w) (hB : B ≤ w0.heap.size) (sn : Sn w B m) (hql : qs.length ≤ 1000000) (h0 : X s0 w U0) (hU : ∀ k, U0 k → w0.heap.size ≤ k ∧ k < w.heap.size) (hok : okX stp ok s0 qs)
    (hin : ∀ s w U, X s w U → ∀ k, U k → k < w.heap.size)
    (hk : ∀ w' av cs U, Below w0.heap.size w0 w' → X (runX stp s0 qs).1 w' U → (∀ k, U k → w0.heap.size ≤ k) → w'.ownsRow w0.heap.size T.impl_Answer 6 av qs.length (List.flatten cs) → (∀ k, av.ownBlock = some k → ¬ U k) → AnsAt w' w0.heap.size (fun k => U k ∨ av.ownBlock = some k) (runX stp s0 qs).2 cs → k2 [av] w') :
    lp [(.slice none 0 0), (.int .i64 0)] w fun s3 u3 w8 C1 =>
      pu P (oBin .lss T.int false false (gs s3 1) (.int .i64 qs.length)) fun t24 =>
      jn (fun s4 u4 w9 =>
      pu P (oIdxA T.sl_impl_Step tv (gs s3 1)) fun t25 =>
      st P (oLoad T.impl_Step t25) w9 fun t26 w10 =>
      st P (oAlloc T.impl_Step) w10 fun t12 w11 =>
      st P (oStore T.impl_Step t12 t26) w11 fun _ w12 =>
      st P (oLoad T.impl_Step t12) w12 fun t29 w13 =>
      st P (oCall fn #[fv, t29]) w13 fun t30 w14 =>
      st P (oBuildSlice T.sl_impl_Answer 1 #[(0, t30)]) w14 fun t31 w15 =>
      st P (oBuiltin .append #[T.sl_impl_Answer, T.sl_impl_Answer] T.sl_impl_Answer #[false, false] #[(gs s3 0), t31]) w15 fun t32 w16 =>
      pu P (oBin .add T.int false true (gs s3 1) (.int .i64 1)) fun t33 =>
      C1 [t32, t33] w16) fun k3 =>
      cd t24 (
      k3 [] w8) (
      k2 [(gs s3 0)] w8) := by
  refine lp_intro (fun t w' => ∃ av cs U s az, ∃ i : Nat, t = [av, .int .i64 i] ∧ i ≤ qs.length ∧ X s w' U ∧ Below w0.heap.size w0 w' ∧ Sn w' B m ∧ (∀ k, U k → w0.heap.size ≤ k) ∧ w'.ownsRow w0.heap.size T.impl_Answer 6 av i (List.flatten cs) ∧ (∀ k, av.ownBlock = some k → ¬ U k) ∧ az.length = i ∧ AnsAt w' w0.heap.size (fun k => U k ∨ av.ownBlock = some k) az cs ∧ okX stp ok s (qs.drop i) ∧ (runX stp s (qs.drop i)).1 = (runX stp s0 qs).1 ∧ az ++ (runX stp s (qs.drop i)).2 = (runX stp s0 qs).2)
    (fun t _ => qs.length - (RowKit.intOf (gs t 1)).toNat) ⟨.slice none 0 0, [], U0, s0, [], 0, rfl, Nat.zero_le _, h0, hb, sn, fun k h => (hU k h).1, own_nil _ _ _ _, fun k e => (by cases e), rfl, ⟨rfl, fun i h1 => absurd h1 (by simp)⟩, by simpa using hok, by simp, by simp⟩ ?_
  rintro t e w3 ⟨av, cs, Y, s, az, i, rfl, hi, X3, B3, sn3, hU3, o3, hav, hal, hA, hok3, hr1, hr2⟩
  rw [gs1, gs0, oLss]
  by_cases g : (i : Int) < qs.length
  · have hix : i < qs.length := by omega
    have hiv : i < vs.length := by rw [hq.1]; exact hix
    simp (disch := first | omega | (simp only [sZb, sZa, sZd] <;> omega) | (simp (disch := first | omega | (simp only [sZb, sZa, sZd] <;> omega) | fail) only [go_sem]; done) | fail) only [go_sem, dec_t, dec_f, w_u32, w_u64, w_u16, w_u8, w_i64, Int.reduceToNat, Int.reducePow, Nat.reducePow]
    refine jn_with (fun t w' => t = [] ∧ w' = w3) ?_ ⟨rfl, rfl⟩
    rintro t e w4 ⟨rfl, rfl⟩
    rw [List.drop_eq_getElem_cons hix] at hok3 hr1 hr2
    obtain ⟨okq, okr⟩ := hok3
    rw [(runX_drop stp s _ _).1] at hr1
    rw [(runX_drop stp s _ _).2] at hr2
    have hq4 := hq.old B3
    obtain ⟨b, o, hrow, hbl, ix⟩ := hq4.idx hix hiv
    have hqi := hq4.2.1 i hix hiv
    generalize qs[i] = q at *
    generalize vs[i] = x at *
    have one := BS_one' hqi
    rw [ix]
    simp (disch := first | omega | (simp only [sZb, sZa, sZd] <;> omega) | (simp (disch := first | omega | (simp only [sZb, sZa, sZd] <;> omega) | fail) only [go_sem, hrow, one]; done) | fail) only [go_sem, dec_t, dec_f, w_u32, w_u64, w_u16, w_u8, w_i64, Int.reduceToNat, Int.reducePow, Nat.reducePow, hrow, one]
    obtain ⟨wA, hwA⟩ : ∃ wA, wA = setb (w4.alloc (CB [.int .i64 0, S [], S [], .int .i64 0, .int .i64 0, .int .i64 0, .slice none 0 0, .int .i64 0, .int .i64 0, .int .i64 0] T.impl_Step)) w4.heap.size (CB (stepC q x) T.impl_Step) := ⟨_, rfl⟩
    rw [← hwA]
    have BA : Below w4.heap.size w4 wA := by rw [hwA]; repeat (first | exact Below.refl _ _ | assumption | refine bel_setb ?_ (by first | exact Nat.le_refl _ | omega | (simp only [go_sem] <;> omega)) _ | refine Below.alloc ?_ (by first | exact Nat.le_refl _ | omega | (simp only [go_sem]; omega)) _ | refine Below.drew ?_)
    have zA : wA.heap.size = w4.heap.size + 1 := by rw [hwA]; simp only [go_sem]
    have z3 := B3.size
    have kA : Kp w4 wA (fun _ => False) := Kp.of_below BA _
    have X4 := hloc _ _ _ _ _ X3 kA fun _ _ h => h
    have B4 := B3.trans (BA.mono B3.size)
    have oav := own_lt o3
    have hin4 := hin _ _ _ X3
    apply hc
    refine hstep s q wA x Y _ X4 (sn3.below (BA.mono (by omega))) okq (BS_old hqi BA (Nat.le_refl _)) fun w5 U5 c X5 K5 hU5 bc => ?_
    have z5 := K5.size
    have B5 : Below w0.heap.size w0 w5 := B4.trans (K5.below (fun k hk e => by have := hU3 k e; omega) (by omega))
    obtain ⟨cl, c1⟩ := ans_oneCells bc
    rw [oBuildSliceN (size := 6) (z := AG ansZ) _ _ U.sl_impl_Answer (by kernel_rfl) (by omega) (by omega) (l := c) cl]
    obtain ⟨w6, e6⟩ : ∃ w6, w6 = w5.alloc (CB c T.impl_Answer) := ⟨_, rfl⟩
    have B56 : Below w5.heap.size w5 w6 := by rw [e6]; repeat (first | exact Below.refl _ _ | assumption | refine bel_setb ?_ (by first | exact Nat.le_refl _ | omega | (simp only [go_sem] <;> omega)) _ | refine Below.alloc ?_ (by first | exact Nat.le_refl _ | omega | (simp only [go_sem]; omega)) _ | refine Below.drew ?_)
    have z6 : w6.heap.size = w5.heap.size + 1 := by rw [e6]; simp only [go_sem]
    have r6 : bk w6 w5.heap.size = some (CB c T.impl_Answer) := by rw [e6]; exact bk_alloc_eq _ _ _ rfl
    rw [← e6]
    clear e6
    have o5 : w6.ownsRow w0.heap.size T.impl_Answer 6 av i (List.flatten cs) := own_old (own_kp (own_old o3 BA (Nat.le_refl _)) K5 hav) B56 (Nat.le_refl _)
    have k56 : Kp w5 w6 (fun _ => False) := Kp.of_below B56 _
    refine oAppendR (size := 6) (bytes := 96) (z := AG ansZ) (news := c) U.sl_impl_Answer (by kernel_rfl) rfl (by omega) o5 (.inl ⟨_, _, _, rfl, by rw [r6]; simp only [rowOf]; rw [if_pos (by simp)]; simp⟩) cl c1 (by simp only [maxLen]; omega) (by omega) (by omega) fun av6 w7 o6 g6 l6 => ?_
    have K6 := Kp.of_grown g6
    have z7 := K6.size
    have hav6 : ∀ k, av6.ownBlock = some k → av.ownBlock = some k ∨ k = w5.heap.size + 1 := fun k hk => by
      rcases l6 with h | h
      · exact .inl (by rw [← h]; exact hk)
      · rw [hk] at h; injection h with h; exact .inr (by omega)
    have hin5 := hin _ _ _ X5
    have avn : ∀ k, av.ownBlock = some k → ¬ U5 k := fun k hk e => by
      rcases hU5 k e with h | h
      · exact hav k hk h
      · have := (oav k hk).2; omega
    have X6 := hloc _ _ _ _ _ X5 k56 fun _ _ h => h
    have X7 := hloc _ _ _ _ _ X6 K6 fun k hk e => avn k e hk
    have B7 : Below w0.heap.size w0 w7 := (B5.trans (B56.mono (by omega))).trans (K6.below (fun k hk e => by have := (oav k e).1; omega) (by omega))
    have hBw : B ≤ w0.heap.size := hB
    refine ⟨⟨av6, cs ++ [c], U5, (stp s q).1, az ++ [(stp s q).2], i + 1, rfl, by omega, X7, B7, sn3.below ?_, fun k hk => ?_, ?_, fun k hk => ?_, by simp [hal], ?_, okr, hr1, ?_⟩, ?_⟩
    · exact (((BA.mono (by omega)).trans (K5.below (fun k hk e => by have := hU3 k e; omega) (by omega))).trans (B56.mono (by omega))).trans (K6.below (fun k hk e => by have := (oav k e).1; omega) (by omega))
    · rcases hU5 k hk with h | h
      · exact hU3 k h
      · omega
    · rw [List.flatten_append]
      simpa using o6
    · intro e
      rcases hav6 k hk with h | h
      · exact avn k h e
      · have := hin5 k e; omega
    · have tr : ∀ b, w0.heap.size ≤ b → b < w4.heap.size → ¬ (Y b ∨ av.ownBlock = some b) → ¬ (U5 b ∨ av6.ownBlock = some b) := fun b h1 h2 hn h => by
        rcases h with h | h
        · rcases hU5 b h with h | h
          · exact hn (.inl h)
          · omega
        · rcases hav6 b h with h | h
          · exact hn (.inr h)
          · omega
      have q1 := hA.to tr
      refine AnsAt.snoc ?_ ?_
      · have q2 := ((hA.kp kA fun _ _ _ _ h => h).kp K5 fun b _ _ hn h => hn (.inl h)).kp k56 fun _ _ _ _ h => h
        have q3 := q2.kp K6 fun b _ _ hn h => hn (.inr h)
        refine ⟨q3.1, fun j h1 h2 => ?_⟩
        obtain ⟨x1, x2, x3, e1, r1, r2, r3, r4⟩ := q3.2 j h1 h2
        obtain ⟨y1, y2, y3, f1, _, _, _, g4⟩ := q1.2 j h1 h2
        rw [e1] at f1
        simp only [answC, List.cons.injEq, and_true, true_and] at f1
        obtain ⟨rfl, rfl, rfl⟩ := f1
        exact ⟨_, _, _, e1, r1, r2, r3, fun b hb => ⟨(r4 b hb).1, (r4 b hb).2.1, (g4 b hb).2.2⟩⟩
      · have q0 : AnsN w5 wA.heap.size (fun k => U5 k ∨ av6.ownBlock = some k) (stp s q).2 c := bc.to fun b h1 h2 hn h => by
          rcases h with h | h
          · exact hn h
          · rcases hav6 b h with h | h
            · have := (oav b h).2; omega
            · omega
        exact ((q0.kp k56 fun _ _ _ _ h => h).kp K6 fun b h1 h2 hn h => by have := (oav b h).2; omega).less (by omega)
    · rw [List.append_assoc]
      exact hr2
    · simp only [RowKit.intOf, gs1]
      omega
  · have e1 : i = qs.length := by omega
    subst e1
    simp (disch := first | omega | (simp only [sZb, sZa, sZd] <;> omega) | (simp (disch := first | omega | (simp only [sZb, sZa, sZd] <;> omega) | fail) only [go_sem]; done) | fail) only [go_sem, dec_t, dec_f, w_u32, w_u64, w_u16, w_u8, w_i64, Int.reduceToNat, Int.reducePow, Nat.reducePow]
    refine jn_with (fun _ _ => False) (fun _ _ _ h => h.elim) ?_
    rw [List.drop_length] at hr1 hr2
    have hr1' : s = (runX stp s0 qs).1 := hr1
    have hr2' : az = (runX stp s0 qs).2 := by simpa [runX] using hr2
    rw [← hr1'] at hk
    rw [← hr2'] at hk
    exact hk _ av cs Y B3 X3 hU3 o3 hav hA
end
end Go.Proofs.YteblpejgenehfaaDoor.X
end
section
namespace Go.Proofs.YteblpejgenehfaaDoor.X
open Go Go.X Go.Proofs Go.RowKit
abbrev fx0 (data : List UInt8) (ro : Bool) : FX := ⟨data, 0, false, ro, 0, [47, 102], .map none, false, 268435456, 0, 0, 0⟩
abbrev datC (l : List UInt8) (v : Value) : List Value := [S l, v, .map none, .bool false, .int .u32 268435456, .int .i64 0, .int .i64 0, .int .i64 0]
section
variable {w w' : World} {K : Value → World → Prop} {B : Nat} {m : Nat → Nat × Nat}
theorem doorWith_spec {l : List UInt8} {a : Option Addr} {n c : Nat} (hk : ∀ w' d, w.heap.size ≤ d → Below w.heap.size w w' → bk w' d = some (CB (datC l (.slice a n c)) T.mem_FileData) → K (pt d 0) w') : Cl P Fn.mem_DoorWith #[S l, .slice a n c] w K := by
  apply S_mem_DoorWith
  unfold F_mem_DoorWith
  simp (disch := first | omega | (simp only [sZb, sZa, sZd] <;> omega) | (simp (disch := first | omega | (simp only [sZb, sZa, sZd] <;> omega) | fail) only [go_sem]; done) | fail) only [go_sem, dec_t, dec_f, w_u32, w_u64, w_u16, w_u8, w_i64, Int.reduceToNat, Int.reducePow, Nat.reducePow]
  apply S_mem_CreateFile
  unfold F_mem_CreateFile
  simp (disch := first | omega | (simp only [sZb, sZa, sZd] <;> omega) | (simp (disch := first | omega | (simp only [sZb, sZa, sZd] <;> omega) | fail) only [go_sem]; done) | fail) only [go_sem, dec_t, dec_f, w_u32, w_u64, w_u16, w_u8, w_i64, Int.reduceToNat, Int.reducePow, Nat.reducePow]
  refine hk _ _ ?_ ?_ ?_
  · exact Nat.le_refl _
  · repeat (first | exact Below.refl _ _ | assumption | refine bel_setb ?_ (by first | exact Nat.le_refl _ | omega | (simp only [go_sem] <;> omega)) _ | refine Below.alloc ?_ (by first | exact Nat.le_refl _ | omega | (simp only [go_sem]; omega)) _ | refine Below.drew ?_)
  · exact bk_setb_eq _ _ _ _ rfl (by simp only [go_sem]; omega)
theorem newHandle_spec {d : Nat} (hk : ∀ w' f, w.heap.size ≤ f → Below w.heap.size w w' → bk w' f = some (CB [.int .i64 0, .int .i64 0, .bool false, .bool false, pt d 0] T.mem_File) → K (pt f 0) w') : Cl P Fn.mem_NewFileHandle #[pt d 0] w K := by
  apply S_mem_NewFileHandle
  unfold F_mem_NewFileHandle
  simp (disch := first | omega | (simp only [sZb, sZa, sZd] <;> omega) | (simp (disch := first | omega | (simp only [sZb, sZa, sZd] <;> omega) | fail) only [go_sem]; done) | fail) only [go_sem, dec_t, dec_f, w_u32, w_u64, w_u16, w_u8, w_i64, Int.reduceToNat, Int.reducePow, Nat.reducePow]
  refine hk _ _ ?_ ?_ ?_
  · exact Nat.le_refl _
  · repeat (first | exact Below.refl _ _ | assumption | refine bel_setb ?_ (by first | exact Nat.le_refl _ | omega | (simp only [go_sem] <;> omega)) _ | refine Below.alloc ?_ (by first | exact Nat.le_refl _ | omega | (simp only [go_sem]; omega)) _ | refine Below.drew ?_)
  · exact bk_alloc_eq _ _ _ rfl
theorem newReadHandle_spec {d : Nat} (hk : ∀ w' f, w.heap.size ≤ f → Below w.heap.size w w' → bk w' f = some (CB [.int .i64 0, .int .i64 0, .bool false, .bool true, pt d 0] T.mem_File) → K (pt f 0) w') : Cl P Fn.mem_NewReadOnlyFileHandle #[pt d 0] w K := by
  apply S_mem_NewReadOnlyFileHandle
  unfold F_mem_NewReadOnlyFileHandle
  simp (disch := first | omega | (simp only [sZb, sZa, sZd] <;> omega) | (simp (disch := first | omega | (simp only [sZb, sZa, sZd] <;> omega) | fail) only [go_sem]; done) | fail) only [go_sem, dec_t, dec_f, w_u32, w_u64, w_u16, w_u8, w_i64, Int.reduceToNat, Int.reducePow, Nat.reducePow]
  refine hk _ _ ?_ ?_ ?_
  · exact Nat.le_refl _
  · repeat (first | exact Below.refl _ _ | assumption | refine bel_setb ?_ (by first | exact Nat.le_refl _ | omega | (simp only [go_sem] <;> omega)) _ | refine Below.alloc ?_ (by first | exact Nat.le_refl _ | omega | (simp only [go_sem]; omega)) _ | refine Below.drew ?_)
  · exact bk_alloc_eq _ _ _ rfl
theorem own_mono {b0 b1 size n : Nat} {e : TypeId} {v : Value} {xs : List Value} (h : w.ownsRow b1 e size v n xs) (hb : b0 ≤ b1) : w.ownsRow b0 e size v n xs := by
  refine ⟨h.1, ?_⟩
  rcases h.2 with h | ⟨g, cap, cur, h1, h2, h3⟩
  · exact .inl h
  · exact .inr ⟨g, cap, cur, h1, by omega, h3⟩
theorem doorBytes_spec {f d : Nat} {v : Value} {s : FX} (h : FH w B f d v s) (hk : K v w) : Cl P Fn.mem_FileData_DoorBytes #[pt d 0] w K := by
  apply S_mem_FileData_DoorBytes
  unfold F_mem_FileData_DoorBytes
  have hd := h.bd
  obtain ⟨a, c, rfl⟩ := own_slice h.own
  simp (disch := first | omega | (simp only [sZb, sZa, sZd] <;> omega) | (simp (disch := first | omega | (simp only [sZb, sZa, sZd] <;> omega) | fail) only [go_sem, hd]; done) | fail) only [go_sem, dec_t, dec_f, w_u32, w_u64, w_u16, w_u8, w_i64, Int.reduceToNat, Int.reducePow, Nat.reducePow, hd]
  exact hk
abbrev X1 (B f d : Nat) (s : FX) (w : World) (U : Nat → Prop) : Prop := ∃ v, FH w B f d v s ∧ U = Of f d v
theorem X1_loc (B f d : Nat) (s : FX) : LocS (X1 B f d s) := by
  rintro w w' U S ⟨v, h, rfl⟩ k hS
  exact ⟨v, h.kept k hS, rfl⟩
theorem X1_in (B f d : Nat) (s : FX) (w : World) (U : Nat → Prop) (h : X1 B f d s w U) : ∀ k, U k → k < w.heap.size := by
  obtain ⟨v, h, rfl⟩ := h
  rintro k (e | e | e)
  · rw [e]; exact h.lt.1
  · rw [e]; exact h.lt.2
  · exact (own_lt h.own k e).2
theorem X1_step (B f d : Nat) (s : FX) (q : SM.Stp) (w : World) (x : Value) (U : Nat → Prop) (K : Value → World → Prop) (h : X1 B f d s w U) (sn : Sn w B m) (g : OkX s q) (hx : BS w x q.data) (hk : AnK w U (X1 B f d (onX s q).1) (onX s q).2 K) : Cl P Fn.impl_on #[pt f 0, AG (stepC q x)] w K := by
  obtain ⟨v, h, rfl⟩ := h
  exact on_any h sn g hx fun w' v' c F2 K2 O2 A2 => hk w' _ c ⟨v', F2, rfl⟩ K2 (fun k e => Of_new O2 e) A2
def wovS (s : FX × FX) (q : SM.Stp) : (FX × FX) × SM.Ans := (((wovX s.1 s.2 q).1, (wovX s.1 s.2 q).2.1), (wovX s.1 s.2 q).2.2)
set_option maxHeartbeats 4000000 in
theorem handle_script {t0 tv : Value} {ro : Bool} {data : List UInt8} {qs : List SM.Stp} {vs : List Value} (hd : BS w t0 data) (hdl : data.length ≤ 140737488355328) (hs : Sn w w.heap.size m) (hq : StepsAt w tv qs vs) (hql : qs.length ≤ 1000000) (hok : okX onX OkX (fx0 data ro) qs)
    (hsl : (runX onX (fx0 data ro) qs).1.bytes.length ≤ 140737488355328)
    (hk : ∀ w' av lv cs, Below w.heap.size w w' → w'.ownsRow w.heap.size T.impl_Answer 6 av qs.length (List.flatten cs) → AnsAt w' w.heap.size (fun k => av.ownBlock = some k) (runX onX (fx0 data ro) qs).2 cs → w'.ownsRow w.heap.size T.uint8 1 lv (runX onX (fx0 data ro) qs).1.bytes.length ((runX onX (fx0 data ro) qs).1.bytes.map byt) → K (tup [av, lv]) w') :
    Cl P Fn.impl_HandleScript #[t0, .bool ro, tv] w K := by
  apply S_impl_HandleScript
  unfold F_impl_HandleScript
  refine oCopyOf U.sl_uint8 (by kernel_rfl) hd (by omega) fun dv w1 own1 b1 => ?_
  rw [C.mem_DoorWith]
  obtain ⟨a, cap, rfl⟩ := own_slice own1
  refine doorWith_spec fun w2 d ld b2 e2 => ?_
  rw [C.mem_NewFileHandle]
  refine newHandle_spec fun w3 f lf b3 e3 => ?_
  have z1 := b1.size
  have z2 := b2.size
  have z3 := b3.size
  have lte2 := bk_lt e2
  have lte3 := bk_lt e3
  have e2' := (bel_bk b3 lte2).trans e2
  have own3 := own_old (own_old own1 b2 (Nat.le_refl _)) b3 (Nat.le_refl _)
  have lo := own_lt own1
  have B3 : Below w.heap.size w w3 := (b1.trans (b2.mono (by omega))).trans (b3.mono (by omega))
  refine jn_with (fun t w' => ∃ f U, t = [pt f 0] ∧ X1 w.heap.size f d (fx0 data ro) w' U ∧ (∀ k, U k → w.heap.size ≤ k ∧ k < w'.heap.size) ∧ Below w.heap.size w w') ?_ ?_
  · rintro t e w4 ⟨f, U0, rfl, X4, hU4, B4⟩
    refine jn_with (fun t w' => ∃ av cs U, t = [av] ∧ Below w.heap.size w w' ∧ X1 w.heap.size f d (runX onX (fx0 data ro) qs).1 w' U ∧ w'.ownsRow w.heap.size T.impl_Answer 6 av qs.length (List.flatten cs) ∧ AnsAt w' w.heap.size (fun k => U k ∨ av.ownBlock = some k) (runX onX (fx0 data ro) qs).2 cs) ?_ ?_
    · rintro t e w5 ⟨av, cs, U5, rfl, B5, ⟨v5, F5, rfl⟩, o5, A5⟩
      rw [gs0, C.mem_FileData_DoorBytes]
      refine doorBytes_spec F5 ?_
      refine oCopyOf U.sl_uint8 (by kernel_rfl) (BS_own F5.own) hsl fun lv w6 o6 b6 => ?_
      exact hk w6 av lv cs (B5.trans (b6.mono B5.size)) (own_old o5 b6 (Nat.le_refl _)) ((A5.kp (Kp.of_below b6 fun _ => False) fun _ _ _ _ h => h).to fun b _ _ hn h => hn (.inr h)) (own_mono o6 B5.size)
    · obtain ⟨ta, tc, etv⟩ := hq.slice
      rw [etv, V.len_sl_impl_Step, ← etv, gs0]
      refine loop_spec (k2 := fun t w' => ∃ av cs U, t = [av] ∧ Below w.heap.size w w' ∧ X1 w.heap.size f d (runX onX (fx0 data ro) qs).1 w' U ∧ w'.ownsRow w.heap.size T.impl_Answer 6 av qs.length (List.flatten cs) ∧ AnsAt w' w.heap.size (fun k => U k ∨ av.ownBlock = some k) (runX onX (fx0 data ro) qs).2 cs) (B := w.heap.size) (m := m) (X := X1 w.heap.size f d) (stp := onX) (ok := OkX) (fun h => by rw [C.impl_on]; exact h) (X1_loc _ _ _) (fun s q w x U K => X1_step _ _ _ s q w x U K) hq B4 (Nat.le_refl _) (hs.below B4) hql X4 hU4 hok (X1_in _ _ _) fun w' av cs U B X hU o hav A => ?_
      exact ⟨av, cs, U, rfl, B, X, o, A⟩
  · have mk : ∀ (w4 : World) (f4 : Nat), f4 ≠ d → w.heap.size ≤ f4 → Below w2.heap.size w2 w4 → bk w4 f4 = some (CB [.int .i64 0, .int .i64 0, .bool false, .bool ro, pt d 0] T.mem_File) → ¬ (Value.slice a data.length cap).ownBlock = some f4 → X1 w.heap.size f4 d (fx0 data ro) w4 (Of f4 d (.slice a data.length cap)) ∧ ∀ k, Of f4 d (.slice a data.length cap) k → w.heap.size ≤ k ∧ k < w4.heap.size := by
      intro w4 f4 hne hf4 b4 e4 hnf
      have z4 := b4.size
      have F : FH w4 w.heap.size f4 d (.slice a data.length cap) (fx0 data ro) := ⟨hf4, by omega, hne, e4, (bel_bk b4 lte2).trans e2, rfl, own_old (own_old own1 b2 (Nat.le_refl _)) b4 (Nat.le_refl _), hnf, fun e => by have := (lo d e).2; omega⟩
      refine ⟨⟨_, F, rfl⟩, ?_⟩
      rintro k (e | e | e)
      · subst e; exact ⟨hf4, bk_lt e4⟩
      · subst e; exact ⟨by omega, F.lt.2⟩
      · exact own_lt F.own k e
    cases ro with
    | true =>
      show cd (.bool true) _ _
      simp (disch := first | omega | (simp only [sZb, sZa, sZd] <;> omega) | (simp (disch := first | omega | (simp only [sZb, sZa, sZd] <;> omega) | fail) only [go_sem]; done) | fail) only [go_sem, dec_t, dec_f, w_u32, w_u64, w_u16, w_u8, w_i64, Int.reduceToNat, Int.reducePow, Nat.reducePow]
      refine newReadHandle_spec fun w4 f4 lf4 b4 e4 => ?_
      have z4 := b4.size
      obtain ⟨h1, h2⟩ := mk w4 f4 (by omega) (by omega) (b3.trans (b4.mono (by omega))) e4 (fun e => by have := (lo f4 e).2; omega)
      exact ⟨f4, _, rfl, h1, h2, B3.trans (b4.mono (by omega))⟩
    | false =>
      show cd (.bool false) _ _
      simp (disch := first | omega | (simp only [sZb, sZa, sZd] <;> omega) | (simp (disch := first | omega | (simp only [sZb, sZa, sZd] <;> omega) | fail) only [go_sem]; done) | fail) only [go_sem, dec_t, dec_f, w_u32, w_u64, w_u16, w_u8, w_i64, Int.reduceToNat, Int.reducePow, Nat.reducePow]
      obtain ⟨h1, h2⟩ := mk w3 f (by omega) (by omega) b3 e3 (fun e => by have := (lo f e).2; omega)
      exact ⟨f, _, rfl, h1, h2, B3⟩
end
end Go.Proofs.YteblpejgenehfaaDoor.X
end
section
namespace Go.X
open Go
namespace SM
structure Pair where
  base : Mem
  layer : Mem
  of : List (Int × Int)
def ofGet : List (Int × Int) → Int → Int
  | [], _ => 0
  | x :: l, k => if x.1 = k then x.2 else ofGet l k
def Stp.skip (s : Stp) (n : Nat) : Stp := ⟨16, [], [], 0, 0, s.h, [], n, 1, 0⟩
end SM
end Go.X
end
section
namespace Go.Proofs.YteblpejgenehfaaDoor.X
open Go Go.X Go.Proofs Go.RowKit
def ninfo (n : SM.Node) : SM.Info := ⟨SM.base n.name, if n.dir then 42 else n.data.length, n.mode, n.dir, n.time⟩
def seekN (n : SM.Node) (h : SM.Hnd) (s : SM.Stp) : Int := if s.wh = 0 then s.off else if s.wh = 1 then h.pos + s.off else if s.wh = 2 then n.data.length + s.off else h.pos
def fileN (n : SM.Node) (h : SM.Hnd) (s : SM.Stp) : SM.Node × SM.Hnd × SM.Ans :=
  if s.op = 18 then (if h.ro then n else { n with time := 0 }, { h with cl := true }, SM.Ans.z)
  else if s.op = 21 then (n, h, { SM.Ans.z with infos := [ninfo n] })
  else if s.op = 22 then (n, h, { SM.Ans.z with names := [n.name] })
  else if s.op = 23 then (n, h, SM.Ans.z)
  else if s.op = 19 ∨ s.op = 20 then (n, h, SM.Ans.err 8)
  else if h.cl then (n, h, SM.Ans.err 3)
  else if s.op = 12 then (n, { h with pos := h.pos + (SM.readFrom n.data h.pos s.n).1.length }, ⟨(SM.readFrom n.data h.pos s.n).2, 0, 0, (SM.readFrom n.data h.pos s.n).1, [], []⟩)
  else if s.op = 13 then (n, h, ⟨(SM.readFrom n.data s.off s.n).2, 0, 0, (SM.readFrom n.data s.off s.n).1, [], []⟩)
  else if s.op = 16 then (n, { h with pos := seekN n h s }, ⟨0, 0, seekN n h s, [], [], []⟩)
  else if h.ro then (n, if s.op = 15 then { h with pos := s.off } else h, SM.Ans.err 6)
  else if s.op = 17 ∧ s.off < 0 then (n, h, SM.Ans.err 7)
  else if s.op = 14 ∧ (h.pos < 0 ∨ 1048576 < h.pos) ∨ s.op ≠ 14 ∧ (s.off < 0 ∨ 1048576 < s.off) then (n, h, SM.Ans.err 13)
  else if s.op = 17 then ({ n with data := SM.grown (n.data.take (min (n.data.length : Int) s.off).toNat) s.off, time := 0 }, h, SM.Ans.z)
  else if s.op = 14 then ({ n with data := SM.over n.data h.pos s.data, time := 0 }, { h with pos := h.pos + s.data.length }, ⟨0, s.data.length, 0, [], [], []⟩)
  else if s.op = 15 then ({ n with data := SM.over n.data s.off s.data, time := 0 }, { h with pos := s.off + s.data.length }, ⟨0, s.data.length, 0, [], [], []⟩)
  else (n, h, ⟨0, s.data.length, 0, [], [], []⟩)
theorem iteP {α : Type} {p : Prop} [Decidable p] {Q : α → Prop} {a b : α} (ha : Q a) (hb : Q b) : Q (if p then a else b) := by
  by_cases c : p
  · rw [if_pos c]; exact ha
  · rw [if_neg c]; exact hb
theorem fileN_node (n : SM.Node) (h : SM.Hnd) (s : SM.Stp) : (fileN n h s).2.1.node = h.node ∧ (fileN n h s).1.dir = n.dir := by
  unfold fileN
  repeat' apply iteP (Q := fun r : SM.Node × SM.Hnd × SM.Ans => r.2.1.node = h.node ∧ r.1.dir = n.dir)
  all_goals first | exact ⟨rfl, rfl⟩ | (cases h.ro <;> exact ⟨rfl, rfl⟩) | (constructor <;> (first | rfl | (by_cases c : s.op = 15 <;> simp [c])))
theorem set_self {α : Type} (l : List α) (i : Nat) (d : α) (hi : i < l.length) : l.set i (l.getD i d) = l := by
  have e : l.getD i d = l[i] := by simp [List.getD, hi]
  rw [e]
  exact List.set_getElem_self _
theorem hput_self : ∀ {l : SM.HM} {k : Int} {h : SM.Hnd}, SM.hget l k = some h → SM.hput l k h = l
  | [], _, _, e => by cases e
  | x :: l, k, h, e => by
    simp only [SM.hget] at e
    simp only [SM.hput]
    by_cases c : x.1 = k
    · rw [if_pos c] at e ⊢
      injection e with e
      rw [← e, ← c]
    · rw [if_neg c] at e ⊢
      rw [hput_self e]
def setF (m : SM.Mem) (k : Int) (x : Nat) (r : SM.Node × SM.Hnd × SM.Ans) : SM.Mem × SM.Ans := ({ m with nodes := m.nodes.set x r.1, hs := SM.hput m.hs k r.2.1 }, r.2.2)
theorem fileS_N {m : SM.Mem} {k : Int} {h : SM.Hnd} (s : SM.Stp) (hk : SM.hget m.hs k = some h) (hl : h.node < m.nodes.length) (hd : (m.node h.node).dir = false) : m.fileS k h s = setF m k h.node (fileN (m.node h.node) h s) := by
  have e1 : m.nodes.set h.node (m.node h.node) = m.nodes := set_self _ _ _ hl
  have e2 := hput_self hk
  have e0 : (⟨m.names, m.ats, m.nodes.set h.node (m.node h.node), SM.hput m.hs k h⟩ : SM.Mem) = m := by rw [e1, e2]
  have e3 : ∀ h', (⟨m.names, m.ats, m.nodes.set h.node (m.node h.node), SM.hput m.hs k h'⟩ : SM.Mem) = m.setH k h' := fun h' => by rw [e1]; rfl
  have e4 : ∀ n', (⟨m.names, m.ats, m.nodes.set h.node n', SM.hput m.hs k h⟩ : SM.Mem) = m.setNode h.node n' := fun n' => by rw [e2]; rfl
  unfold setF
  by_cases c18 : s.op = 18
  · unfold SM.Mem.fileS fileN
    rw [if_pos c18, if_pos c18]
    cases hr : h.ro with
    | true => exact Prod.ext (e3 _).symm rfl
    | false => rfl
  by_cases c21 : s.op = 21
  · unfold SM.Mem.fileS fileN
    rw [if_neg c18, if_pos c21, if_neg c18, if_pos c21]
    exact Prod.ext e0.symm rfl
  by_cases c22 : s.op = 22
  · unfold SM.Mem.fileS fileN
    rw [if_neg c18, if_neg c21, if_pos c22, if_neg c18, if_neg c21, if_pos c22]
    exact Prod.ext e0.symm rfl
  by_cases c23 : s.op = 23
  · unfold SM.Mem.fileS fileN
    rw [if_neg c18, if_neg c21, if_neg c22, if_pos c23, if_neg c18, if_neg c21, if_neg c22, if_pos c23]
    exact Prod.ext e0.symm rfl
  by_cases c19 : s.op = 19 ∨ s.op = 20
  · unfold SM.Mem.fileS SM.Mem.listS fileN
    rw [if_neg c18, if_neg c21, if_neg c22, if_neg c23, if_pos c19, if_neg c18, if_neg c21, if_neg c22, if_neg c23, if_pos c19]
    simp only [hd, if_true]
    exact Prod.ext e0.symm rfl
  unfold SM.Mem.fileS fileN
  rw [if_neg c18, if_neg c21, if_neg c22, if_neg c23, if_neg c19, if_neg c18, if_neg c21, if_neg c22, if_neg c23, if_neg c19]
  by_cases cc : h.cl = true
  · rw [if_pos cc, if_pos cc]; exact Prod.ext e0.symm rfl
  rw [if_neg cc, if_neg cc]
  by_cases c12 : s.op = 12
  · rw [if_pos c12, if_pos c12]; exact Prod.ext (e3 _).symm rfl
  rw [if_neg c12, if_neg c12]
  by_cases c13 : s.op = 13
  · rw [if_pos c13, if_pos c13]; exact Prod.ext e0.symm rfl
  rw [if_neg c13, if_neg c13]
  by_cases c16 : s.op = 16
  · rw [if_pos c16, if_pos c16]; exact Prod.ext (e3 _).symm rfl
  rw [if_neg c16, if_neg c16]
  by_cases cr : h.ro = true
  · rw [if_pos cr, if_pos cr]
    by_cases c15 : s.op = 15
    · rw [if_pos c15, if_pos c15]; exact Prod.ext (e3 _).symm rfl
    · rw [if_neg c15, if_neg c15]; exact Prod.ext e0.symm rfl
  rw [if_neg cr, if_neg cr]
  by_cases ca : s.op = 17 ∧ s.off < 0
  · rw [if_pos ca, if_pos ca]; exact Prod.ext e0.symm rfl
  rw [if_neg ca, if_neg ca]
  by_cases cb : s.op = 14 ∧ (h.pos < 0 ∨ 1048576 < h.pos) ∨ s.op ≠ 14 ∧ (s.off < 0 ∨ 1048576 < s.off)
  · rw [if_pos cb, if_pos cb]; exact Prod.ext e0.symm rfl
  rw [if_neg cb, if_neg cb]
  by_cases c17 : s.op = 17
  · rw [if_pos c17, if_pos c17]; exact Prod.ext (e4 _).symm rfl
  rw [if_neg c17, if_neg c17]
  by_cases c14 : s.op = 14
  · rw [if_pos c14, if_pos c14]; rfl
  rw [if_neg c14, if_neg c14]
  by_cases c15 : s.op = 15
  · rw [if_pos c15, if_pos c15]; rfl
  · rw [if_neg c15, if_neg c15]; exact Prod.ext e0.symm rfl
def one (n : SM.Node) (h : SM.Hnd) : SM.Mem := ⟨[[47], [47, 102]], [0, 1], [⟨true, 2147484141, [], 0, [47]⟩, n], [(0, h)]⟩
theorem doS_one {n : SM.Node} {h : SM.Hnd} {s : SM.Stp} (hn : h.node = 1) (hd : n.dir = false) (ho : 12 ≤ s.op ∧ s.op ≤ 23) (hh : s.h = 0) (i : Int) : (one n h).doS i s = (one (fileN n h s).1 (fileN n h s).2.1, (fileN n h s).2.2) := by
  have hg : SM.hget (one n h).hs s.h = some h := by rw [hh]; rfl
  have hnn : (one n h).node h.node = n := by rw [hn]; rfl
  unfold SM.Mem.doS
  rw [if_neg (by omega), if_neg (by omega), hg]
  simp only
  rw [if_neg (by omega), fileS_N s hg (by rw [hn]; show 1 < 2; omega) (by rw [hnn]; exact hd), hnn, hn, hh]
  rfl
theorem speaks_one {n : SM.Node} {h : SM.Hnd} {s : SM.Stp} (hn : h.node = 1) (ho : 12 ≤ s.op ∧ s.op ≤ 23) (hh : s.h = 0) (k : (one n h).speaks s = true) : s.data.length ≤ 4096 ∧ (one n h).speaksFile h s = true := by
  unfold SM.Mem.speaks at k
  by_cases c : 400 < s.name.length ∨ 400 < s.other.length ∨ 4096 < s.data.length
  · rw [if_pos c] at k; cases k
  · rw [if_neg c, if_neg (by omega), if_neg (by omega)] at k
    have hg : SM.hget (one n h).hs s.h = some h := by rw [hh]; rfl
    rw [hg] at k
    exact ⟨by omega, k⟩
structure Rel (c : Int) (x : FX) (n : SM.Node) (h : SM.Hnd) : Prop where
  bytes : x.bytes = n.data
  cl : x.cl = h.cl
  ro : x.ro = h.ro
  dx : x.dir = false
  dn : n.dir = false
  nm : x.nm = n.name
  mode : x.mode = n.mode
  mt : x.mt = n.time
  len : n.data.length ≤ 8192
  nl : n.name.length ≤ 400
  md : 0 ≤ n.mode ∧ n.mode ≤ 4294967295
  pos : h.cl = false → x.pos = h.pos
  px : -4398046511104 - c ≤ x.pos ∧ x.pos ≤ 4398046511104 + c
  ph : -4398046511104 - c ≤ h.pos ∧ h.pos ≤ 4398046511104 + c
  c0 : 0 ≤ c
theorem wrX_over (x : FX) (b : List UInt8) (h0 : 0 ≤ x.pos) : wrX x b = SM.over x.bytes x.pos b := by
  unfold wrX SM.over SM.grown
  obtain ⟨p, hp⟩ : ∃ p : Nat, x.pos = p := ⟨x.pos.toNat, by omega⟩
  rw [hp]
  by_cases c : (x.bytes.length : Int) < p
  · rw [if_pos c]
    rw [show ((p : Int) + b.length).toNat = p + b.length by omega, Int.toNat_natCast]
    rw [List.take_append, List.drop_of_length_le (by simp; omega), List.take_of_length_le (by omega), List.take_replicate, List.append_nil, List.append_assoc]
    rw [show min (p - x.bytes.length) (p + b.length - x.bytes.length) = p - x.bytes.length by omega]
  · rw [if_neg c]
    rw [show ((p : Int) + b.length).toNat = p + b.length by omega, Int.toNat_natCast]
    rw [List.take_append_of_le_length (by omega), List.drop_append]
    have : List.drop (p + b.length - x.bytes.length) (List.replicate (p + b.length - x.bytes.length) (0 : UInt8)) = [] := List.drop_of_length_le (by simp)
    rw [this, List.append_nil]
theorem over_len (d : List UInt8) (p : Nat) (b : List UInt8) : (SM.over d p b).length = max d.length (p + b.length) := by
  unfold SM.over SM.grown
  rw [show ((p : Int) + b.length).toNat = p + b.length by omega, Int.toNat_natCast]
  simp only [List.length_append, List.length_take, List.length_drop, List.length_replicate]
  omega
theorem rdX_from (x : FX) (n : Int) (h0 : 0 ≤ x.pos) (hn : 0 ≤ n ∧ n ≤ 1048576) : (rdX x (want n)).1 = (SM.readFrom x.bytes x.pos n).1 ∧ ((rdX x (want n)).2 : Int) = (SM.readFrom x.bytes x.pos n).2 := by
  have e : (max n 0).toNat = want n := by unfold want; omega
  have e2 : 0 < max n 0 ↔ 0 < want n := by unfold want; omega
  unfold rdX SM.readFrom
  rw [if_neg (show ¬ x.pos < 0 by omega), e]
  by_cases c1 : 0 < want n ∧ x.pos = x.bytes.length
  · rw [if_pos c1, if_pos (show 0 < max n 0 ∧ x.pos = x.bytes.length from ⟨e2.2 c1.1, c1.2⟩)]; exact ⟨rfl, rfl⟩
  · rw [if_neg c1, if_neg (show ¬ (0 < max n 0 ∧ x.pos = x.bytes.length) from fun q => c1 ⟨e2.1 q.1, q.2⟩)]
    by_cases c2 : (x.bytes.length : Int) < x.pos
    · rw [if_pos c2, if_pos c2]; exact ⟨rfl, rfl⟩
    · rw [if_neg c2, if_neg c2]; exact ⟨rfl, rfl⟩
theorem readFrom_len (d : List UInt8) (p n : Int) (hn : n ≤ 4096) : ((SM.readFrom d p n).1.length : Int) ≤ 4096 ∧ (SM.readFrom d p n).1.length ≤ d.length := by
  unfold SM.readFrom
  repeat' split
  all_goals simp
  omega
structure SpF (n : SM.Node) (h : SM.Hnd) (s : SM.Stp) : Prop where
  op : 12 ≤ s.op ∧ s.op ≤ 23
  dl : s.data.length ≤ 4096
  nn : s.op < 18 → 0 ≤ s.n ∧ s.n ≤ 4096
  off : s.op < 18 → -1099511627776 ≤ s.off ∧ s.off ≤ 1099511627776
  rd : s.op = 12 → h.cl = true ∨ 0 ≤ h.pos
  ra : s.op = 13 → 0 ≤ s.off
  wr : s.op = 14 → 0 ≤ h.pos ∧ h.pos ≤ 4096
  wa : s.op = 15 → 0 ≤ s.off ∧ s.off ≤ 4096
  tr : s.op = 17 → s.off ≤ 4096
  sk : s.op = 16 → h.pos < 2199023255552 ∧ -2199023255552 < h.pos
theorem SpF_of {m : SM.Mem} {n : SM.Node} {h : SM.Hnd} {s : SM.Stp} (hn : m.node h.node = n) (hd : n.dir = false) (ho : 12 ≤ s.op ∧ s.op ≤ 23) (hl : s.data.length ≤ 4096) (k : m.speaksFile h s = true) : SpF n h s := by
  unfold SM.Mem.speaksFile at k
  rw [hn] at k
  simp only [hd] at k
  by_cases c : s.op < 18
  · rw [if_neg (by omega), if_neg (by omega)] at k
    simp only [Bool.false_or, Bool.or_eq_true, decide_eq_true_eq] at k
    by_cases c2 : (((4096 < s.data.length ∨ s.n < 0) ∨ 4096 < s.n) ∨ 1099511627776 < s.off) ∨ s.off < -1099511627776
    · rw [if_pos c2] at k; cases k
    · rw [if_neg c2] at k
      refine ⟨ho, hl, fun _ => by omega, fun _ => by omega, fun e => ?_, fun e => ?_, fun e => ?_, fun e => ?_, fun e => ?_, fun e => ?_⟩
      all_goals simp [e] at k
      all_goals first | omega | simpa using k
  · exact ⟨ho, hl, fun h => by omega, fun h => by omega, fun h => by omega, fun h => by omega, fun h => by omega, fun h => by omega, fun h => by omega, fun h => by omega⟩
section
variable {c : Int} {x : FX} {n : SM.Node} {h : SM.Hnd} {s : SM.Stp}
theorem Rel.okX (r : Rel c x n h) (p : SpF n h s) (hc : c ≤ 1000000000) : OkX x s := by
  have h1 := r.px
  have h2 := r.ph
  refine ⟨p.op, r.dx, by rw [r.bytes]; have := r.len; omega, by rw [r.nm]; have := r.nl; omega, by rw [r.mode]; exact r.md, by have := p.dl; omega, fun e => by have := p.off e; omega, by omega, fun e q => ?_, p.ra, fun e q _ => ?_, fun e q _ => ?_, fun e => ?_⟩
  · rw [r.cl] at q
    rw [r.pos q]
    rcases p.rd e with h | h
    · rw [q] at h; cases h
    · exact h
  · rw [r.cl] at q
    rw [r.pos q]
    have := p.wr e; omega
  · have := p.wa e; omega
  · have := p.tr e; omega
theorem onX_12 (x : FX) (e : s.op = 12) : onX x s = ((rdR x (want s.n)).1, ⟨(rdR x (want s.n)).2.2, 0, 0, (rdR x (want s.n)).2.1, [], []⟩) := by unfold onX; rw [if_pos e]
theorem onX_13 (x : FX) (e : s.op = 13) : onX x s = (x, ⟨(raR x s.off (want s.n)).2, 0, 0, (raR x s.off (want s.n)).1, [], []⟩) := by unfold onX; rw [if_neg (by omega), if_pos e]
theorem onX_14 (x : FX) (e : s.op = 14) : onX x s = ((wrR x s.data).1, ⟨(wrR x s.data).2.1, (wrR x s.data).2.2, 0, [], [], []⟩) := by unfold onX; rw [if_neg (by omega), if_neg (by omega), if_pos e]
theorem onX_15 (x : FX) (e : s.op = 15) : onX x s = ((wrR { x with pos := s.off } s.data).1, ⟨(wrR { x with pos := s.off } s.data).2.1, (wrR { x with pos := s.off } s.data).2.2, 0, [], [], []⟩) := by
  unfold onX; rw [if_neg (by omega), if_neg (by omega), if_neg (by omega), if_pos e]
theorem onX_16 (x : FX) (e : s.op = 16) : onX x s = ((skR x s.off s.wh).1, ⟨(skR x s.off s.wh).2.1, 0, (skR x s.off s.wh).2.2, [], [], []⟩) := by
  unfold onX; rw [if_neg (by omega), if_neg (by omega), if_neg (by omega), if_neg (by omega), if_pos e]
theorem onX_17 (x : FX) (e : s.op = 17) : onX x s = ((trR x s.off).1, ⟨(trR x s.off).2, 0, 0, [], [], []⟩) := by
  unfold onX; rw [if_neg (by omega), if_neg (by omega), if_neg (by omega), if_neg (by omega), if_neg (by omega), if_pos e]
theorem onX_18 (x : FX) (e : s.op = 18) : onX x s = (clR x, SM.Ans.z) := by
  unfold onX; rw [if_neg (by omega), if_neg (by omega), if_neg (by omega), if_neg (by omega), if_neg (by omega), if_neg (by omega), if_pos e]
theorem onX_19 (x : FX) (e : s.op = 19 ∨ s.op = 20) : onX x s = (x, SM.Ans.err 8) := by
  unfold onX; rw [if_neg (by omega), if_neg (by omega), if_neg (by omega), if_neg (by omega), if_neg (by omega), if_neg (by omega), if_neg (by omega)]
  by_cases q : s.op = 19
  · rw [if_pos q]
  · rw [if_neg q, if_pos (by omega)]
theorem onX_21 (x : FX) (e : s.op = 21) : onX x s = (x, ⟨0, 0, 0, [], [], [infoX x]⟩) := by
  unfold onX; rw [if_neg (by omega), if_neg (by omega), if_neg (by omega), if_neg (by omega), if_neg (by omega), if_neg (by omega), if_neg (by omega), if_neg (by omega), if_neg (by omega), if_pos e]
theorem onX_22 (x : FX) (e : s.op = 22) : onX x s = (x, ⟨0, 0, 0, [], [x.nm], []⟩) := by
  unfold onX; rw [if_neg (by omega), if_neg (by omega), if_neg (by omega), if_neg (by omega), if_neg (by omega), if_neg (by omega), if_neg (by omega), if_neg (by omega), if_neg (by omega), if_neg (by omega), if_pos e]
theorem onX_23 (x : FX) (e : s.op = 23) : onX x s = (x, SM.Ans.z) := by
  unfold onX; rw [if_neg (by omega), if_neg (by omega), if_neg (by omega), if_neg (by omega), if_neg (by omega), if_neg (by omega), if_neg (by omega), if_neg (by omega), if_neg (by omega), if_neg (by omega), if_neg (by omega)]
theorem fileN_18 (e : s.op = 18) : fileN n h s = (if h.ro then n else { n with time := 0 }, { h with cl := true }, SM.Ans.z) := by unfold fileN; rw [if_pos e]
theorem fileN_21 (e : s.op = 21) : fileN n h s = (n, h, { SM.Ans.z with infos := [ninfo n] }) := by unfold fileN; rw [if_neg (by omega), if_pos e]
theorem fileN_22 (e : s.op = 22) : fileN n h s = (n, h, { SM.Ans.z with names := [n.name] }) := by unfold fileN; rw [if_neg (by omega), if_neg (by omega), if_pos e]
theorem fileN_23 (e : s.op = 23) : fileN n h s = (n, h, SM.Ans.z) := by unfold fileN; rw [if_neg (by omega), if_neg (by omega), if_neg (by omega), if_pos e]
theorem fileN_19 (e : s.op = 19 ∨ s.op = 20) : fileN n h s = (n, h, SM.Ans.err 8) := by unfold fileN; rw [if_neg (by omega), if_neg (by omega), if_neg (by omega), if_neg (by omega), if_pos e]
theorem fileN_cl (o : s.op < 18) (c : h.cl = true) : fileN n h s = (n, h, SM.Ans.err 3) := by unfold fileN; rw [if_neg (by omega), if_neg (by omega), if_neg (by omega), if_neg (by omega), if_neg (by omega), if_pos c]
theorem fileN_12 (e : s.op = 12) (c : h.cl = false) : fileN n h s = (n, { h with pos := h.pos + (SM.readFrom n.data h.pos s.n).1.length }, ⟨(SM.readFrom n.data h.pos s.n).2, 0, 0, (SM.readFrom n.data h.pos s.n).1, [], []⟩) := by
  unfold fileN; rw [if_neg (by omega), if_neg (by omega), if_neg (by omega), if_neg (by omega), if_neg (by omega), if_neg (by rw [c]; exact Bool.false_ne_true), if_pos e]
theorem fileN_13 (e : s.op = 13) (c : h.cl = false) : fileN n h s = (n, h, ⟨(SM.readFrom n.data s.off s.n).2, 0, 0, (SM.readFrom n.data s.off s.n).1, [], []⟩) := by
  unfold fileN; rw [if_neg (by omega), if_neg (by omega), if_neg (by omega), if_neg (by omega), if_neg (by omega), if_neg (by rw [c]; exact Bool.false_ne_true), if_neg (by omega), if_pos e]
theorem fileN_16 (e : s.op = 16) (c : h.cl = false) : fileN n h s = (n, { h with pos := seekN n h s }, ⟨0, 0, seekN n h s, [], [], []⟩) := by
  unfold fileN; rw [if_neg (by omega), if_neg (by omega), if_neg (by omega), if_neg (by omega), if_neg (by omega), if_neg (by rw [c]; exact Bool.false_ne_true), if_neg (by omega), if_neg (by omega), if_pos e]
theorem fileN_ro (o : s.op = 14 ∨ s.op = 15 ∨ s.op = 17) (c : h.cl = false) (r : h.ro = true) : fileN n h s = (n, if s.op = 15 then { h with pos := s.off } else h, SM.Ans.err 6) := by
  unfold fileN; rw [if_neg (by omega), if_neg (by omega), if_neg (by omega), if_neg (by omega), if_neg (by omega), if_neg (by rw [c]; exact Bool.false_ne_true), if_neg (by omega), if_neg (by omega), if_neg (by omega), if_pos r]
theorem fileN_rw (o : s.op = 14 ∨ s.op = 15 ∨ s.op = 17) (c : h.cl = false) (r : h.ro = false) : fileN n h s =
    if s.op = 17 ∧ s.off < 0 then (n, h, SM.Ans.err 7)
    else if s.op = 14 ∧ (h.pos < 0 ∨ 1048576 < h.pos) ∨ s.op ≠ 14 ∧ (s.off < 0 ∨ 1048576 < s.off) then (n, h, SM.Ans.err 13)
    else if s.op = 17 then ({ n with data := SM.grown (n.data.take (min (n.data.length : Int) s.off).toNat) s.off, time := 0 }, h, SM.Ans.z)
    else if s.op = 14 then ({ n with data := SM.over n.data h.pos s.data, time := 0 }, { h with pos := h.pos + s.data.length }, ⟨0, s.data.length, 0, [], [], []⟩)
    else if s.op = 15 then ({ n with data := SM.over n.data s.off s.data, time := 0 }, { h with pos := s.off + s.data.length }, ⟨0, s.data.length, 0, [], [], []⟩)
    else (n, h, ⟨0, s.data.length, 0, [], [], []⟩) := by
  conv => lhs; unfold fileN
  rw [if_neg (by omega), if_neg (by omega), if_neg (by omega), if_neg (by omega), if_neg (by omega), if_neg (by rw [c]; exact Bool.false_ne_true), if_neg (by omega), if_neg (by omega), if_neg (by omega), if_neg (by rw [r]; exact Bool.false_ne_true)]
theorem fileN_17a (e : s.op = 17) (c : h.cl = false) (r : h.ro = false) (o : s.off < 0) : fileN n h s = (n, h, SM.Ans.err 7) := by rw [fileN_rw (by omega) c r, if_pos ⟨e, o⟩]
theorem fileN_17 (e : s.op = 17) (c : h.cl = false) (r : h.ro = false) (o : 0 ≤ s.off ∧ s.off ≤ 1048576) : fileN n h s = ({ n with data := SM.grown (n.data.take (min (n.data.length : Int) s.off).toNat) s.off, time := 0 }, h, SM.Ans.z) := by
  rw [fileN_rw (by omega) c r, if_neg (by omega), if_neg (by omega), if_pos e]
theorem fileN_14 (e : s.op = 14) (c : h.cl = false) (r : h.ro = false) (o : 0 ≤ h.pos ∧ h.pos ≤ 1048576) : fileN n h s = ({ n with data := SM.over n.data h.pos s.data, time := 0 }, { h with pos := h.pos + s.data.length }, ⟨0, s.data.length, 0, [], [], []⟩) := by
  rw [fileN_rw (by omega) c r, if_neg (by omega), if_neg (by omega), if_neg (by omega), if_pos e]
theorem fileN_15 (e : s.op = 15) (c : h.cl = false) (r : h.ro = false) (o : 0 ≤ s.off ∧ s.off ≤ 1048576) : fileN n h s = ({ n with data := SM.over n.data s.off s.data, time := 0 }, { h with pos := s.off + s.data.length }, ⟨0, s.data.length, 0, [], [], []⟩) := by
  rw [fileN_rw (by omega) c r, if_neg (by omega), if_neg (by omega), if_neg (by omega), if_neg (by omega), if_pos e]
theorem Rel.to (r : Rel c x n h) {c' : Int} (hc : c ≤ c') : Rel c' x n h := by
  obtain ⟨r1, r2, r3, r4, r5, r6, r7, r8, r9, r10, r11, r12, r13, r14, r15⟩ := r
  exact ⟨r1, r2, r3, r4, r5, r6, r7, r8, r9, r10, r11, r12, by omega, by omega, by omega⟩
set_option maxHeartbeats 1000000 in
theorem Rel.step (r : Rel c x n h) (p : SpF n h s) : Rel (c + 8192) (onX x s).1 (fileN n h s).1 (fileN n h s).2.1 ∧ (onX x s).2 = (fileN n h s).2.2 := by
  have hs : Rel (c + 8192) x n h := r.to (by omega)
  obtain ⟨r1, r2, r3, r4, r5, r6, r7, r8, r9, r10, r11, r12, r13, r14, r15⟩ := r
  have po := p.op
  have hsz : infoX x = ninfo n := by
    unfold infoX ninfo
    rw [r1, r4, r5, r6, r7, r8]
  by_cases e18 : s.op = 18
  · rw [onX_18 x e18, fileN_18 e18]
    refine ⟨?_, rfl⟩
    unfold clR
    rw [r3]
    by_cases hr : h.ro = true
    · rw [if_pos hr, if_pos hr]
      exact ⟨r1, rfl, rfl, r4, r5, r6, r7, r8, r9, r10, r11, (fun h => by cases h), hs.px, hs.ph, hs.c0⟩
    · rw [if_neg hr, if_neg hr]
      exact ⟨r1, rfl, rfl, r4, r5, r6, r7, rfl, r9, r10, r11, (fun h => by cases h), hs.px, hs.ph, hs.c0⟩
  by_cases e21 : s.op = 21
  · rw [onX_21 x e21, fileN_21 e21, hsz]; exact ⟨hs, rfl⟩
  by_cases e22 : s.op = 22
  · rw [onX_22 x e22, fileN_22 e22, r6]; exact ⟨hs, rfl⟩
  by_cases e23 : s.op = 23
  · rw [onX_23 x e23, fileN_23 e23]; exact ⟨hs, rfl⟩
  by_cases e19 : s.op = 19 ∨ s.op = 20
  · rw [onX_19 x e19, fileN_19 e19]; exact ⟨hs, rfl⟩
  have pn := p.nn (by omega)
  have pf := p.off (by omega)
  cases hc : h.cl with
  | true =>
    rw [fileN_cl (by omega) hc]
    have xc : x.cl = true := by rw [r2, hc]
    by_cases e : s.op = 12
    · rw [onX_12 x e]; unfold rdR; rw [if_pos xc]; exact ⟨hs, rfl⟩
    by_cases e : s.op = 13
    · rw [onX_13 x e]; unfold raR; rw [if_pos xc]; exact ⟨hs, rfl⟩
    by_cases e : s.op = 14
    · rw [onX_14 x e]; unfold wrR; rw [if_pos xc]; exact ⟨hs, rfl⟩
    by_cases e : s.op = 15
    · rw [onX_15 x e]; unfold wrR; rw [if_pos xc]
      exact ⟨⟨r1, r2, r3, r4, r5, r6, r7, r8, r9, r10, r11, (fun e => by rw [hc] at e; cases e), by have := p.wa e; simp only; omega, hs.ph, hs.c0⟩, by trivial⟩
    by_cases e : s.op = 16
    · rw [onX_16 x e]; unfold skR; rw [if_pos xc]; exact ⟨hs, rfl⟩
    · rw [onX_17 x (by omega)]; unfold trR; rw [if_pos xc]; exact ⟨hs, rfl⟩
  | false =>
    have xp := r12 hc
    have xc : ¬ x.cl = true := by rw [r2, hc]; exact Bool.false_ne_true
    by_cases e12 : s.op = 12
    · rw [onX_12 x e12, fileN_12 e12 hc]
      unfold rdR
      rw [if_neg xc]
      have h0 : 0 ≤ h.pos := by
        rcases p.rd e12 with q | q
        · rw [hc] at q; cases q
        · exact q
      obtain ⟨g1, g2⟩ := rdX_from x s.n (by omega) (by omega)
      obtain ⟨l1, l2⟩ := readFrom_len n.data h.pos s.n (by omega)
      rw [xp, r1] at g1 g2
      simp only
      rw [g1, g2]
      exact ⟨⟨r1, r2, r3, r4, r5, r6, r7, r8, r9, r10, r11, (fun _ => by simp only; omega), by simp only; omega, by simp only; omega, hs.c0⟩, by trivial⟩
    by_cases e13 : s.op = 13
    · rw [onX_13 x e13, fileN_13 e13 hc]
      unfold raR
      rw [if_neg xc]
      have h0 := p.ra e13
      obtain ⟨g1, g2⟩ := rdX_from { x with pos := s.off } s.n (by simp only; omega) (by omega)
      simp only at g1 g2
      rw [g1, g2, r1]
      exact ⟨hs, rfl⟩
    by_cases e16 : s.op = 16
    · rw [onX_16 x e16, fileN_16 e16 hc]
      unfold skR
      rw [if_neg xc]
      have hsk := p.sk e16
      have e : seekX x s.off s.wh = seekN n h s := by
        unfold seekX seekN
        rw [r1, xp]
      have b : -4398046511104 - (c + 8192) ≤ seekN n h s ∧ seekN n h s ≤ 4398046511104 + (c + 8192) := by
        have := n.data.length.zero_le
        unfold seekN
        repeat' split
        all_goals omega
      simp only
      rw [e]
      exact ⟨⟨r1, r2, r3, r4, r5, r6, r7, r8, r9, r10, r11, (fun _ => rfl), b, b, hs.c0⟩, by trivial⟩
    cases hr : h.ro with
    | true =>
      have xr : x.ro = true := by rw [r3, hr]
      rw [fileN_ro (by omega) hc hr]
      by_cases e : s.op = 14
      · rw [onX_14 x e, if_neg (by omega)]; unfold wrR; rw [if_neg xc, if_pos xr]; exact ⟨hs, rfl⟩
      by_cases e : s.op = 15
      · rw [onX_15 x e, if_pos e]; unfold wrR; rw [if_neg (show ¬ ({ x with pos := s.off } : FX).cl = true from xc), if_pos (show ({ x with pos := s.off } : FX).ro = true from xr)]
        exact ⟨⟨r1, r2, r3, r4, r5, r6, r7, r8, r9, r10, r11, (fun _ => rfl), by have := p.wa e; simp only; omega, by have := p.wa e; simp only; omega, hs.c0⟩, by trivial⟩
      · rw [onX_17 x (by omega), if_neg e]; unfold trR; rw [if_neg xc, if_pos xr]; exact ⟨hs, rfl⟩
    | false =>
      have xr : ¬ x.ro = true := by rw [r3, hr]; exact Bool.false_ne_true
      by_cases e17 : s.op = 17
      · have ht := p.tr e17
        rw [onX_17 x e17]
        unfold trR
        rw [if_neg xc, if_neg xr]
        by_cases g : s.off < 0
        · rw [if_pos g, fileN_17a e17 hc hr g]; exact ⟨hs, rfl⟩
        · rw [if_neg g, fileN_17 e17 hc hr (by omega)]
          have e : (if (x.bytes.length : Int) < s.off then x.bytes ++ List.replicate (s.off.toNat - x.bytes.length) 0 else x.bytes.take s.off.toNat) = SM.grown (n.data.take (min (n.data.length : Int) s.off).toNat) s.off := by
            rw [r1]
            unfold SM.grown
            by_cases g2 : (n.data.length : Int) < s.off
            · rw [if_pos g2, List.take_of_length_le (by omega)]
            · rw [if_neg g2, show (min (n.data.length : Int) s.off).toNat = s.off.toNat by omega, show s.off.toNat - (List.take s.off.toNat n.data).length = 0 by rw [List.length_take]; omega, List.replicate_zero, List.append_nil]
          have l : (SM.grown (n.data.take (min (n.data.length : Int) s.off).toNat) s.off).length ≤ 8192 := by
            unfold SM.grown
            simp only [List.length_append, List.length_take, List.length_replicate]
            omega
          simp only
          rw [e]
          exact ⟨⟨rfl, r2, r3, r4, r5, r6, r7, rfl, l, r10, r11, r12, hs.px, hs.ph, hs.c0⟩, by trivial⟩
      by_cases e14 : s.op = 14
      · have hw := p.wr e14
        have dl := p.dl
        rw [onX_14 x e14, fileN_14 e14 hc hr (by omega)]
        unfold wrR
        rw [if_neg xc, if_neg xr, wrX_over x s.data (by omega), xp, r1]
        obtain ⟨q, hq⟩ : ∃ q : Nat, h.pos = q := ⟨h.pos.toNat, by omega⟩
        have l : (SM.over n.data h.pos s.data).length ≤ 8192 := by rw [hq, over_len]; omega
        exact ⟨⟨rfl, r2, r3, r4, r5, r6, r7, rfl, l, r10, r11, (fun _ => rfl), by simp only; omega, by simp only; omega, hs.c0⟩, by trivial⟩
      · have e15 : s.op = 15 := by omega
        have hw := p.wa e15
        have dl := p.dl
        rw [onX_15 x e15, fileN_15 e15 hc hr (by omega)]
        unfold wrR
        rw [if_neg (show ¬ ({ x with pos := s.off } : FX).cl = true from xc), if_neg (show ¬ ({ x with pos := s.off } : FX).ro = true from xr), wrX_over { x with pos := s.off } s.data (by simp only; omega)]
        simp only
        rw [r1]
        obtain ⟨q, hq⟩ : ∃ q : Nat, s.off = q := ⟨s.off.toNat, by omega⟩
        have l : (SM.over n.data s.off s.data).length ≤ 8192 := by rw [hq, over_len]; omega
        exact ⟨⟨rfl, r2, r3, r4, r5, r6, r7, rfl, l, r10, r11, (fun _ => rfl), by simp only; omega, by simp only; omega, hs.c0⟩, by trivial⟩
end
end Go.Proofs.YteblpejgenehfaaDoor.X
end
section
namespace Go.Proofs.YteblpejgenehfaaDoor.X
open Go Go.X Go.Proofs Go.RowKit
structure DoOk (m : SM.Mem) (s : SM.Stp) : Prop where
  mb : MB m
  hb : HB m
  op : s.op < 0 ∨ 11 < s.op
  fb : ∀ hd, SM.hget m.hs s.h = some hd → FB m hd s ∧ 0 ≤ hd.listed
abbrev uni (F G : Fp) (p q : Nat) : Fp := ⟨fun x => F.own x ∨ G.own x ∨ x = p ∨ x = q, fun x => F.use x ∨ G.use x ∨ x = p ∨ x = q⟩
structure PairX (w : World) (B pp : Nat) (p : SM.Pair) (Fb Fl : Fp) (pb pl qo : Nat) (ol : ML Int) (oc : Nat) : Prop where
  bp : bk w pp = some (CB [pt pb 0, pt pl 0, .map (some qo)] T.spec_Pair)
  bo : bk w qo = some (MO emI ol oc)
  wf : MWF ol oc
  om : ∀ k, (mget ol k).getD (.int .i64 0) = .int .i64 (SM.ofGet p.of k)
  b : MemS w B pb p.base Fb
  l : MemS w B pl p.layer Fl
  sep : Fp.sep Fb Fl
  hp : B ≤ pp
  hq : B ≤ qo
  ne : pp ≠ qo
  np : ¬ Fb.use pp ∧ ¬ Fl.use pp
  nq : ¬ Fb.use qo ∧ ¬ Fl.use qo
def PairS (w : World) (B pp : Nat) (p : SM.Pair) (F : Fp) : Prop := ∃ Fb Fl pb pl qo ol oc, PairX w B pp p Fb Fl pb pl qo ol oc ∧ F = uni Fb Fl pp qo
section
variable {w w' : World} {K : Value → World → Prop} {B pp : Nat} {p : SM.Pair} {F Fb Fl : Fp} {pb pl qo : Nat} {ol : ML Int} {oc : Nat} {s : SM.Stp} {v : Value}
theorem PairX.old (h : PairX w B pp p Fb Fl pb pl qo ol oc) (k : Below w.heap.size w w') : PairX w' B pp p Fb Fl pb pl qo ol oc :=
  ⟨(bel_bk k (bk_lt h.bp)).trans h.bp, (bel_bk k (bk_lt h.bo)).trans h.bo, h.wf, h.om, h.b.old k, h.l.old k, h.sep, h.hp, h.hq, h.ne, h.np, h.nq⟩
theorem PairX.lt (h : PairX w B pp p Fb Fl pb pl qo ol oc) : ∀ x, (uni Fb Fl pp qo).use x → x < w.heap.size := by
  rintro x (e | e | e | e)
  · exact h.b.lt x e
  · exact h.l.lt x e
  · rw [e]; exact bk_lt h.bp
  · rw [e]; exact bk_lt h.bo
theorem PairX.S (h : PairX w B pp p Fb Fl pb pl qo ol oc) : PairS w B pp p (uni Fb Fl pp qo) := ⟨_, _, _, _, _, _, _, h, rfl⟩
theorem PairX.kp (h : PairX w B pp p Fb Fl pb pl qo ol oc) {G : Nat → Prop} (k : Kp w w' G) (hG : ∀ x, (uni Fb Fl pp qo).use x → ¬ G x) : PairX w' B pp p Fb Fl pb pl qo ol oc :=
  ⟨(k.block _ (bk_lt h.bp) (hG _ (.inr (.inr (.inl rfl))))).trans h.bp, (k.block _ (bk_lt h.bo) (hG _ (.inr (.inr (.inr rfl))))).trans h.bo, h.wf, h.om, h.b.frame k fun x e => hG x (.inl e), h.l.frame k fun x e => hG x (.inr (.inl e)), h.sep, h.hp, h.hq, h.ne, h.np, h.nq⟩
theorem PairX.setL (h : PairX w B pp p Fb Fl pb pl qo ol oc) {m' : SM.Mem} {Fl' : Fp} (hm : MemS w' B pl m' Fl') (t : Tr w w' Fl Fl') :
    PairX w' B pp { p with layer := m' } Fb Fl' pb pl qo ol oc ∧ Tr w w' (uni Fb Fl pp qo) (uni Fb Fl' pp qo) := by
  have lp := bk_lt h.bp
  have lq := bk_lt h.bo
  have so := h.l.sub
  refine ⟨⟨(t.kp.block _ lp fun e => h.np.2 (so _ e)).trans h.bp, (t.kp.block _ lq fun e => h.nq.2 (so _ e)).trans h.bo, h.wf, h.om, h.b.frame t.kp fun x e g => (h.sep x).2 g e, hm, (h.sep.symm.step t.st h.b.sub h.b.lt).symm, h.hp, h.hq, h.ne, ⟨h.np.1, fun e => h.np.2 ((t.st _ lp).2 e)⟩, ⟨h.nq.1, fun e => h.nq.2 ((t.st _ lq).2 e)⟩⟩, ⟨Kp_sub t.kp fun x _ e => .inr (.inl e), fun x hx => ⟨fun e => ?_, fun e => ?_⟩⟩⟩
  · rcases e with e | e | e
    · exact .inl e
    · exact .inr (.inl ((t.st x hx).1 e))
    · exact .inr (.inr e)
  · rcases e with e | e | e
    · exact .inl e
    · exact .inr (.inl ((t.st x hx).2 e))
    · exact .inr (.inr e)
end
end Go.Proofs.YteblpejgenehfaaDoor.X
end
section
namespace Go.Proofs.YteblpejgenehfaaDoor.X
open Go Go.X Go.Proofs Go.RowKit
section
variable {w W W' : World} {K : Value → World → Prop} {B p : Nat} {m m' : SM.Mem} {F F' : Fp} {s : SM.Stp} {v : Value}
theorem file_on {r : SM.Mem × SM.Ans} (h : MemS w B p m F) (zW : W.heap.size = w.heap.size + 2) (BW : Below w.heap.size w W) (bA : bk W (w.heap.size + 1) = some (CB ansZ T.impl_Answer)) (hk : FileK w B p F r K) :
    FileK W B p F r fun v w7 => st P (oStore T.impl_Answer (pt (w.heap.size + 1) 0) v) w7 fun _ w8 => rsl P T.impl_Answer (pt (w.heap.size + 1) 0) w8 fun r => K (tup [r]) w8 := by
  intro w' F' c h' t' a'
  have nu : ¬ F.use (w.heap.size + 1) := fun e => by have := h.lt _ e; omega
  have b4 : bk w' (w.heap.size + 1) = some (CB ansZ T.impl_Answer) := by rw [t'.kp.block _ (by omega) fun e => nu (h.sub _ e)]; exact bA
  have n4 : ¬ F'.use (w.heap.size + 1) := fun e => nu ((t'.st _ (by omega)).2 e)
  have nc0 := a'
  obtain ⟨x, y, z, rfl, hx, hy, hz, ho⟩ := a'
  obtain ⟨p1, c1, rfl⟩ := BS_slice hx
  obtain ⟨p2, c2, rfl⟩ := RowS_slice hy
  obtain ⟨p3, c3, rfl⟩ := RowS_slice hz
  have l4 := bk_lt b4
  simp (disch := first | omega | (simp only [sZb, sZa, sZd] <;> omega) | (simp (disch := first | omega | (simp only [sZb, sZa, sZd] <;> omega) | fail) only [go_sem, b4]; done) | fail) only [go_sem, dec_t, dec_f, w_u32, w_u64, w_u16, w_u8, w_i64, Int.reduceToNat, Int.reducePow, Nat.reducePow, b4]
  obtain ⟨e1, e2, e3⟩ := fin_ans h' ((Tr.of_below BW F).trans t') (A := w.heap.size + 1) (by omega) n4 (nc0.less (by omega)) (CB (answC r.2 (.slice p1 r.2.data.length c1) (.slice p2 r.2.names.length c2) (.slice p3 r.2.infos.length c3)) T.impl_Answer)
  exact hk _ _ _ e1 e2 e3
theorem doO_spec (h : MemS w B p m F) (hB : B ≤ w.heap.size) (hv : ∃ a c, v = .slice a s.data.length c) (hop : 0 ≤ s.op ∧ s.op ≤ 2) (hn : s.name.length ≤ 400) (hr : (m.find [47]).isSome = true) (mb : MB m) (hd : ∀ n ∈ m.nodes, n.data.length ≤ 1099511627776) (i : Int) (hk : FileK w B p F (m.doS i s) K) : Cl P Fn.spec_Mem_Do #[pt p 0, .int .i64 i, AG (stepC s v)] w K := by
  apply S_spec_Mem_Do
  unfold F_spec_Mem_Do
  obtain ⟨W, eW, BW, zW, bS, bA⟩ := start_w w s v
  rw [oBox_agg, M.al_impl_Answer, eW, show (w.alloc (CB (stepC s v) T.impl_Step)).heap.size = w.heap.size + 1 by simp only [go_sem]]
  unfold SM.Mem.doS at hk
  rw [if_pos hop] at hk
  obtain ⟨av, cv, ev⟩ := hv
  have ov : v.oneCell' = true := by rw [ev]; rfl
  refine jn_with (fun _ _ => False) (fun _ _ _ h => h.elim) ?_
  simp (disch := first | omega | (simp only [sZb, sZa, sZd] <;> omega) | (simp (disch := first | omega | (simp only [sZb, sZa, sZd] <;> omega) | fail) only [go_sem, bS, ov]; done) | fail) only [go_sem, dec_t, dec_f, w_u32, w_u64, w_u16, w_u8, w_i64, Int.reduceToNat, Int.reducePow, Nat.reducePow, bS, ov]
  exact open_spec (h.old BW) (by omega) ⟨av, cv, ev⟩ hop hn hr mb hd i (file_on h zW BW bA hk)
end
section
variable {w W : World} {K : Value → World → Prop} {B p : Nat} {F : Fp} {n : SM.Node} {h : SM.Hnd} {c : Int}
theorem MB_one (hm : n.name.length ≤ 400) : MB (one n h) := by
  refine ⟨by show 2 ≤ _; omega, by show 2 ≤ _; omega, rfl, fun a ha => ?_, fun x hx => ?_, fun x hx => ?_⟩
  · have ha : a ∈ [0, 1] := ha
    show a < 2
    simp at ha; omega
  · have hx : x ∈ [[47], [47, 102]] := hx
    simp at hx
    rcases hx with rfl | rfl <;> decide
  · have hx : x ∈ [(⟨true, 2147484141, [], 0, [47]⟩ : SM.Node), n] := hx
    simp at hx
    rcases hx with rfl | rfl
    · decide
    · omega
theorem HB_one (hn : h.node = 1) : HB (one n h) := fun k h' e => by
  have e : (if (0 : Int) = k then some h else none) = some h' := e
  split at e
  · injection e with e; rw [← e, hn]; show 1 < 2; omega
  · cases e
abbrev file0 (l : List UInt8) : SM.Node := ⟨false, 268435456, l, 0, [47, 102]⟩
abbrev hnd0 (ro : Bool) : SM.Hnd := ⟨1, 0, 0, false, ro⟩
theorem SM0_open : SM0.doS 0 ⟨0, [47, 102], [], 0, 0, 0, [], 0, 0, 0⟩ = (one (file0 []) (hnd0 false), SM.Ans.z) := by
  have e : norm [47, 102] = [47, 102] := by decide
  unfold SM.Mem.doS
  rw [if_pos (by decide)]
  unfold SM.Mem.openS
  rw [if_pos rfl]
  simp only [e]
  rfl
set_option maxHeartbeats 4000000 in
theorem oneFile_spec {x : Value} {data : List UInt8} {ro : Bool} (hx : BS w x data) (hl : data.length ≤ 1000000) (hB : B ≤ w.heap.size)
    (hk : ∀ w' p F hb, MemS w' B p (one (file0 data) (hnd0 ro)) F → (∀ b, F.use b → w.heap.size ≤ b) → Below w.heap.size w w' → K (tup [pt p 0, pt hb 0]) w') : Cl P Fn.laws_oneFile #[x, .bool ro] w K := by
  apply S_laws_oneFile
  unfold F_laws_oneFile
  rw [C.spec_NewMem]
  refine newMem_spec hB fun w1 p F1 h1 u1 b1 => ?_
  have z1 := b1.size
  simp (disch := first | omega | (simp only [sZb, sZa, sZd] <;> omega) | (simp (disch := first | omega | (simp only [sZb, sZa, sZd] <;> omega) | fail) only [go_sem]; done) | fail) only [go_sem, dec_t, dec_f, w_u32, w_u64, w_u16, w_u8, w_i64, Int.reduceToNat, Int.reducePow, Nat.reducePow]
  refine doO_spec (s := ⟨0, [47, 102], [], 0, 0, 0, [], 0, 0, 0⟩) (v := .slice none 0 0) h1 (by omega) ⟨none, 0, rfl⟩ ⟨by decide, by decide⟩ (by decide) (by decide) ⟨by decide, by decide, by decide, by decide, by decide, by decide⟩ (by decide) 0 fun w2 F2 c2 h2 t2 a2 => ?_
  rw [SM0_open] at h2
  have z2 := t2.kp.size
  have u2 : ∀ b, F2.use b → w.heap.size ≤ b := fun b e => by
    by_cases hb : b < w1.heap.size
    · exact u1 b ((t2.st b hb).2 e)
    · omega
  have B2 : Below w.heap.size w w2 := b1.trans (t2.kp.below (fun b hb e => by have := u1 b (h1.sub b e); omega) (by omega))
  obtain ⟨vn, va, vd, q, ds, hl', c, hb, ρ, m2⟩ := h2
  have bm := m2.bm
  have bq := m2.bq
  have gh : SM.hget (one (file0 []) (hnd0 false)).hs 0 = some (hnd0 false) := rfl
  have hm0 := m2.hm 0
  rw [gh] at hm0
  obtain ⟨rb, hbb⟩ := m2.bh 0 _ gh
  have luH : ∀ (L : Value → World → Prop), st P (oLookup T.map_int_p_spec_MemHandle (.map (some q)) (.int .i64 0) false) w2 L = L (pt (hb 0) 0) w2 := fun L => by
    rw [luI1 w2 U.map_int_p_spec_MemHandle U.int zeroH, bq, mlI_MO, optE_some]
    simp only [hm0]
    rfl
  simp (disch := first | omega | (simp only [sZb, sZa, sZd] <;> omega) | (simp (disch := first | omega | (simp only [sZb, sZa, sZd] <;> omega) | fail) only [go_sem, bm, luH, hbb]; done) | fail) only [go_sem, dec_t, dec_f, w_u32, w_u64, w_u16, w_u8, w_i64, Int.reduceToNat, Int.reducePow, Nat.reducePow, bm, luH, hbb]
  have bD : Below w2.heap.size w2 w2.drew := by repeat (first | exact Below.refl _ _ | assumption | refine bel_setb ?_ (by first | exact Nat.le_refl _ | omega | (simp only [go_sem] <;> omega)) _ | refine Below.alloc ?_ (by first | exact Nat.le_refl _ | omega | (simp only [go_sem]; omega)) _ | refine Below.drew ?_)
  rw [oBuildSlice0 (n := 1) _ _ U.sl_uint8 (by kernel_rfl)]
  obtain ⟨w5, e5⟩ : ∃ w5, w5 = w2.drew.alloc (CB [] T.uint8) := ⟨_, rfl⟩
  have b5 : Below w2.heap.size w2 w5 := by rw [e5]; repeat (first | exact Below.refl _ _ | assumption | refine bel_setb ?_ (by first | exact Nat.le_refl _ | omega | (simp only [go_sem] <;> omega)) _ | refine Below.alloc ?_ (by first | exact Nat.le_refl _ | omega | (simp only [go_sem]; omega)) _ | refine Below.drew ?_)
  have hbb5 := (bel_bk b5 (bk_lt hbb)).trans hbb
  have bm5 := (bel_bk b5 (bk_lt bm)).trans bm
  have hd1 : hold P (oLoad T.int (.pointer (some ⟨hb 0, 0, none⟩))) (.int .i64 ((1 : Nat) : Int)) w5 := by simp (disch := first | omega | (simp only [sZb, sZa, sZd] <;> omega) | (simp (disch := first | omega | (simp only [sZb, sZa, sZd] <;> omega) | fail) only [go_sem, hbb5]; done) | fail) only [go_sem, dec_t, dec_f, w_u32, w_u64, w_u16, w_u8, w_i64, Int.reduceToNat, Int.reducePow, Nat.reducePow, hbb5]
  have hd2 : hold P (oLoad T.sl_spec_MemNode (.pointer (some ⟨p, 2, none⟩))) vd w5 := by simp (disch := first | omega | (simp only [sZb, sZa, sZd] <;> omega) | (simp (disch := first | omega | (simp only [sZb, sZa, sZd] <;> omega) | fail) only [go_sem, bm5]; done) | fail) only [go_sem, dec_t, dec_f, w_u32, w_u64, w_u16, w_u8, w_i64, Int.reduceToNat, Int.reducePow, Nat.reducePow, bm5]
  rw [← e5]
  refine ⟨hd1, hd2, ?_⟩
  rw [e5]
  refine copy_lit (BS_old hx (B2.trans (bD.mono (by omega))) (Nat.le_refl _)) (by omega) fun x6 w6 o6 b6 => ?_
  have z6 := b6.size
  have zD : w2.drew.heap.size = w2.heap.size := rfl
  have b26 : Below w2.heap.size w2 w6 := bD.trans b6
  have hbb6 := (bel_bk b26 (bk_lt hbb)).trans hbb
  have bm6 := (bel_bk b26 (bk_lt bm)).trans bm
  have hd3 : hold P (oLoad T.int (.pointer (some ⟨hb 0, 0, none⟩))) (.int .i64 ((1 : Nat) : Int)) w6 := by simp (disch := first | omega | (simp only [sZb, sZa, sZd] <;> omega) | (simp (disch := first | omega | (simp only [sZb, sZa, sZd] <;> omega) | fail) only [go_sem, hbb6]; done) | fail) only [go_sem, dec_t, dec_f, w_u32, w_u64, w_u16, w_u8, w_i64, Int.reduceToNat, Int.reducePow, Nat.reducePow, hbb6]
  have hd4 : hold P (oLoad T.sl_spec_MemNode (.pointer (some ⟨p, 2, none⟩))) vd w6 := by simp (disch := first | omega | (simp only [sZb, sZa, sZd] <;> omega) | (simp (disch := first | omega | (simp only [sZb, sZa, sZd] <;> omega) | fail) only [go_sem, bm6]; done) | fail) only [go_sem, dec_t, dec_f, w_u32, w_u64, w_u16, w_u8, w_i64, Int.reduceToNat, Int.reducePow, Nat.reducePow, bm6]
  refine ⟨hd3, hd4, ?_⟩
  have fr : ∀ b, x6.ownBlock = some b → w2.heap.size ≤ b ∧ b < w6.heap.size := own_in o6
  have m6 := (m2.old b26).more (U := fun b => x6.ownBlock = some b) fun b hb => (fr b hb).2
  have i1 : 1 < (one (file0 []) (hnd0 false)).nodes.length := by show 1 < 2; omega
  obtain ⟨g, cur, na, hcl, ht⟩ := m6.node i1
  have hnr : ∀ b, x6.ownBlock = some b → ρ b = .no := fun b hb => by
    have h1 := (fr b hb).1
    refine Decidable.byContradiction fun hn => ?_
    have := m2.in_ hn
    omega
  obtain ⟨h7, n7, t7, q1, q2⟩ := m6.store (j := 2) (x := x6) (n' := file0 data) (d' := x6) i1 na rfl hcl ht (by omega) rfl ⟨BS_own o6, fun b hb => ⟨.inr hb, hnr b hb⟩⟩
  have ix : ∀ M : Value → Prop, pu P (oIdxA T.sl_spec_MemNode vd (.int .i64 ((1 : Nat) : Int))) M = M (pt g 5) := fun M => na.ix .i64 M
  have bg := na.bg
  have len := na.len
  obtain ⟨xa, xc, ex6⟩ := own_slice o6
  have c2x : cur[7]? = _ := na.c2
  have hbg : hb 0 ≠ g := fun e => by
    have e1 := (m6.rd g na.ob)
    rw [← e, rb] at e1
    cases e1
  have hbb7 : bk (setb w6 g (CB (cur.set (5 + 2) x6) T.spec_MemNode)) (hb 0) = some (CB (hndC (hnd0 false)) T.spec_MemHandle) := by rw [bk_setb_ne _ _ _ _ hbg]; exact hbb6
  have lh7 := bk_lt hbb7
  have ox6 : x6.oneCell' = true := by rw [ex6]; rfl
  simp (disch := first | omega | (simp only [sZb, sZa, sZd] <;> omega) | (simp (disch := first | omega | (simp only [sZb, sZa, sZd] <;> omega) | fail) only [go_sem, ix, bg, hbb7, ox6]; done) | fail) only [go_sem, dec_t, dec_f, w_u32, w_u64, w_u16, w_u8, w_i64, Int.reduceToNat, Int.reducePow, Nat.reducePow, ix, bg, hbb7, ox6]
  obtain ⟨h8, t8⟩ := h7.setHnd (k := 0) (hd := hnd0 false) (hd' := hnd0 ro) rfl
  have u6 : ∀ b, (fun b => F2.use b ∨ x6.ownBlock = some b) b → w.heap.size ≤ b := fun b e => e.elim (u2 b) fun e => by have := (fr b e).1; omega
  have B6 : Below w.heap.size w w6 := B2.trans (b26.mono (by omega))
  refine hk _ p _ (hb 0) h8.toS u6 (B6.trans (((t7.trans t8).kp).below (fun b hb e => ?_) (by omega)))
  have := u2 b (m2.sub b e)
  omega
end
end Go.Proofs.YteblpejgenehfaaDoor.X
end
section
namespace Go.Proofs.YteblpejgenehfaaDoor.X
open Go Go.X Go.Proofs Go.RowKit
section
variable {w W : World} {K : Value → World → Prop} {B pp : Nat} {p : SM.Pair} {F Fb Fl : Fp} {pb pl qo : Nat} {ol : ML Int} {oc : Nat} {s : SM.Stp} {v : Value}
structure PrS (w W : World) (B pp : Nat) (p : SM.Pair) (F : Fp) (Fb Fl : Fp) (pb pl qo : Nat) (ol : ML Int) (oc : Nat) (s : SM.Stp) (v : Value) : Prop where
  h : PairX W B pp p Fb Fl pb pl qo ol oc
  t : Tr w W F (uni Fb Fl pp qo)
  lt : ∀ x, F.use x → x < w.heap.size
  sS : bk W w.heap.size = some (CB (stepC s v) T.impl_Step)
  sA : bk W (w.heap.size + 1) = some (CB ansZ T.impl_Answer)
  hv : BS W v s.data
  hvo : s.data = [] ∨ ∀ b, v.ownBlock = some b → ¬ (uni Fb Fl pp qo).own b
theorem BS_kpe {w w' : World} {S : Nat → Prop} {v : Value} {l : List UInt8} (h : BS w v l) (k : Kp w w' S) (hS : l = [] ∨ ∀ b, v.ownBlock = some b → ¬ S b) : BS w' v l := by
  rcases hS with e | hS
  · obtain ⟨a, c, ev⟩ := BS_slice h
    exact .inl ⟨e, a, c, by rw [ev, e]; rfl⟩
  · exact BS_kp h k hS
theorem PrS.nu (o : PrS w W B pp p F Fb Fl pb pl qo ol oc s v) {x : Nat} (h1 : w.heap.size ≤ x) (h2 : x < w.heap.size + 2) (hz : ∀ x, (uni Fb Fl pp qo).use x → F.use x ∨ w.heap.size + 2 ≤ x) : ¬ (uni Fb Fl pp qo).use x := fun e => by
  rcases hz x e with e | e
  · have := o.lt x e; omega
  · omega
theorem AnsN.step {w w' : World} {lo : Nat} {U V S : Nat → Prop} {a : SM.Ans} {c : List Value} (h : AnsN w lo U a c) (k : Kp w w' S) (hS : ∀ b, lo ≤ b → b < w.heap.size → ¬ U b → ¬ S b ∧ ¬ V b) : AnsN w' lo V a c := by
  obtain ⟨x, y, z, e, h1, h2, h3, h4⟩ := h
  have g : ∀ b, (x.ownBlock = some b ∨ y.ownBlock = some b ∨ z.ownBlock = some b) → ¬ S b ∧ ¬ V b := fun b hb => hS b (h4 b hb).1 (h4 b hb).2.1 (h4 b hb).2.2
  exact ⟨x, y, z, e, BS_kp h1 k fun b hb => (g b (.inl hb)).1, h2.kp k fun b hb => (g b (.inr (.inl hb))).1, h3.kp k fun b hb => (g b (.inr (.inr hb))).1, fun b hb => ⟨(h4 b hb).1, Nat.lt_of_lt_of_le (h4 b hb).2.1 k.size, (g b hb).2⟩⟩
end
end Go.Proofs.YteblpejgenehfaaDoor.X
end
section
namespace Go.Proofs.YteblpejgenehfaaDoor.X
open Go Go.X Go.Proofs Go.RowKit
structure Wv (w W : World) (B pp : Nat) (q : SM.Pair) (F Fb Fl : Fp) (pb pl qo : Nat) (ol : ML Int) (oc : Nat) (s : SM.Stp) (v : Value) : Prop where
  h : PairX W B pp q Fb Fl pb pl qo ol oc
  t : Tr w W F (uni Fb Fl pp qo)
  hv : BS W v s.data
  hvo : s.data = [] ∨ ∀ b, v.ownBlock = some b → b < w.heap.size ∧ ¬ (uni Fb Fl pp qo).own b
section
variable {w W : World} {K : Value → World → Prop} {B pp : Nat} {q : SM.Pair} {F Fb Fl : Fp} {pb pl qo : Nat} {ol : ML Int} {oc : Nat} {s : SM.Stp} {v : Value}
theorem Wv.old (o : Wv w W B pp q F Fb Fl pb pl qo ol oc s v) {W' : World} (k : Below W.heap.size W W') : Wv w W' B pp q F Fb Fl pb pl qo ol oc s v :=
  ⟨o.h.old k, o.t.after k, BS_old o.hv k (Nat.le_refl _), o.hvo⟩
theorem Wv.set (o : Wv w W B pp q F Fb Fl pb pl qo ol oc s v) {A : Nat} (hA : w.heap.size ≤ A) (hn : ¬ (uni Fb Fl pp qo).use A) (x : Obj) : Wv w (setb W A x) B pp q F Fb Fl pb pl qo ol oc s v := by
  have k := Kp.setb W A x
  refine ⟨o.h.kp k fun y hy e => hn (by rw [← e]; exact hy), ⟨o.t.kp.trans k fun y hy e => by omega, o.t.st⟩, BS_kpe o.hv k (o.hvo.imp id fun h b hb e => by have := (h b hb).1; omega), o.hvo⟩
end
end Go.Proofs.YteblpejgenehfaaDoor.X
end
section
namespace Go.Proofs.YteblpejgenehfaaDoor.X
open Go Go.X Go.Proofs Go.RowKit
section
variable {w W : World} {K : Value → World → Prop} {B pp : Nat} {q : SM.Pair} {F Fb Fl : Fp} {pb pl qo : Nat} {ol : ML Int} {oc : Nat} {s : SM.Stp} {v : Value}
structure Ws (w W : World) (B pp : Nat) (q : SM.Pair) (F Fb Fl : Fp) (pb pl qo : Nat) (ol : ML Int) (oc : Nat) (s : SM.Stp) (v : Value) : Prop where
  o : Wv w W B pp q F Fb Fl pb pl qo ol oc s v
  sS : bk W w.heap.size = some (CB (stepC s v) T.impl_Step)
  sA : bk W (w.heap.size + 1) = some (CB ansZ T.impl_Answer)
  nS : ¬ (uni Fb Fl pp qo).use w.heap.size
  nA : ¬ (uni Fb Fl pp qo).use (w.heap.size + 1)
  lw : w.heap.size + 2 ≤ W.heap.size
theorem Ws.old (o : Ws w W B pp q F Fb Fl pb pl qo ol oc s v) {W' : World} (k : Below W.heap.size W W') : Ws w W' B pp q F Fb Fl pb pl qo ol oc s v := by
  have := o.lw
  exact ⟨o.o.old k, (bel_bk k (by omega)).trans o.sS, (bel_bk k (by omega)).trans o.sA, o.nS, o.nA, Nat.le_trans o.lw k.size⟩
theorem storeA {A : Nat} {lo : Nat} {U : Nat → Prop} {a : SM.Ans} {c : List Value} {L : Value → World → Prop} (ha : AnsN W lo U a c) (hb : bk W A = some (CB ansZ T.impl_Answer)) : st P (oStore T.impl_Answer (pt A 0) (AG c)) W L = L undef (setb W A (CB c T.impl_Answer)) := by
  obtain ⟨x, y, z, rfl, hx, hy, hz, _⟩ := ha
  obtain ⟨p1, c1, rfl⟩ := BS_slice hx
  obtain ⟨p2, c2, rfl⟩ := RowS_slice hy
  obtain ⟨p3, c3, rfl⟩ := RowS_slice hz
  simp (disch := first | omega | (simp only [sZb, sZa, sZd] <;> omega) | (simp (disch := first | omega | (simp only [sZb, sZa, sZd] <;> omega) | fail) only [go_sem, hb]; done) | fail) only [go_sem, dec_t, dec_f, w_u32, w_u64, w_u16, w_u8, w_i64, Int.reduceToNat, Int.reducePow, Nat.reducePow, hb]
theorem Ws.alloc (o : Ws w W B pp q F Fb Fl pb pl qo ol oc s v) {L : Value → World → Prop}
    (hk : ∀ W', Ws w W' B pp q F Fb Fl pb pl qo ol oc s v → W'.heap.size = W.heap.size + 1 → bk W' W.heap.size = some (CB ansZ T.impl_Answer) → ¬ (uni Fb Fl pp qo).use W.heap.size → (∀ x, x < W.heap.size → bk W' x = bk W x) → (∀ lo U a c, AnsN W lo U a c → AnsN W' lo (fun x => U x ∨ x = W.heap.size) a c) → L (pt W.heap.size 0) W') : st P (oAlloc T.impl_Answer) W L := by
  rw [M.al_impl_Answer]
  have k : Below W.heap.size W (W.alloc (CB ansZ T.impl_Answer)) := by repeat (first | exact Below.refl _ _ | assumption | refine bel_setb ?_ (by first | exact Nat.le_refl _ | omega | (simp only [go_sem] <;> omega)) _ | refine Below.alloc ?_ (by first | exact Nat.le_refl _ | omega | (simp only [go_sem]; omega)) _ | refine Below.drew ?_)
  refine hk _ (o.old k) (by simp only [go_sem]) (bk_alloc_eq _ _ _ rfl) (fun e => Nat.lt_irrefl _ (o.o.h.lt _ e)) (fun x hx => bel_bk k hx) fun lo U a c ha => (ha.to (V := fun x => U x ∨ x = W.heap.size) fun b h1 h2 hn e => ?_).old k
  rcases e with e | e
  · exact hn e
  · omega
theorem Ws.set (o : Ws w W B pp q F Fb Fl pb pl qo ol oc s v) {A : Nat} (hA : w.heap.size + 2 ≤ A) (hn : ¬ (uni Fb Fl pp qo).use A) (x : Obj) : Ws w (setb W A x) B pp q F Fb Fl pb pl qo ol oc s v :=
  ⟨o.o.set (by omega) hn x, by rw [bk_setb_ne _ _ _ _ (by omega)]; exact o.sS, by rw [bk_setb_ne _ _ _ _ (by omega)]; exact o.sA, o.nS, o.nA, by rw [sZb]; exact o.lw⟩
structure Wq (w W : World) (B pp : Nat) (q : SM.Pair) (F Fb Fl : Fp) (pb pl qo : Nat) (ol : ML Int) (oc : Nat) (s : SM.Stp) (v : Value) (az : List (SM.Ans × List Value)) (al : List Nat) : Prop where
  o : Ws w W B pp q F Fb Fl pb pl qo ol oc s v
  ha : ∀ x ∈ az, AnsN W (w.heap.size + 2) (fun b => (uni Fb Fl pp qo).use b ∨ b ∈ al) x.1 x.2
  hb : ∀ A ∈ al, w.heap.size + 2 ≤ A ∧ A < W.heap.size ∧ bk W A = some (CB ansZ T.impl_Answer) ∧ ¬ (uni Fb Fl pp qo).use A
section
variable {az : List (SM.Ans × List Value)} {al : List Nat}
theorem Wq.alloc (o : Wq w W B pp q F Fb Fl pb pl qo ol oc s v az al) {L : Value → World → Prop}
    (hk : ∀ W', Wq w W' B pp q F Fb Fl pb pl qo ol oc s v az (W.heap.size :: al) → (∀ A ∈ al, A ≠ W.heap.size) → L (pt W.heap.size 0) W') : st P (oAlloc T.impl_Answer) W L := by
  have lw := o.o.lw
  refine o.o.alloc fun W' o' z' b' n' hx ha => hk W' ⟨o', fun x hx => ?_, fun A hA => ?_⟩ fun A hA => by have := (o.hb A hA).2.1; omega
  · refine (ha _ _ _ _ (o.ha x hx)).to fun b h1 h2 hn e => hn ?_
    rcases e with e | e
    · exact .inl (.inl e)
    · rcases List.mem_cons.1 e with e | e
      · exact .inr e
      · exact .inl (.inr e)
  · rcases List.mem_cons.1 hA with rfl | hA
    · exact ⟨lw, by omega, b', n'⟩
    · obtain ⟨h1, h2, h3, h4⟩ := o.hb A hA
      exact ⟨h1, by omega, by rw [hx A h2]; exact h3, h4⟩
structure Wf (w W : World) (B pp : Nat) (q : SM.Pair) (F Fb Fl : Fp) (pb pl qo : Nat) (ol : ML Int) (oc : Nat) (s : SM.Stp) (v : Value) (a b : SM.Ans) (c d : List Value) (A5 A6 : Nat) : Prop where
  o : Ws w W B pp q F Fb Fl pb pl qo ol oc s v
  h5 : bk W A5 = some (CB c T.impl_Answer)
  h6 : bk W A6 = some (CB d T.impl_Answer)
  l5 : w.heap.size + 2 ≤ A5
  l6 : w.heap.size + 2 ≤ A6
  n5 : ¬ (uni Fb Fl pp qo).use A5
  n6 : ¬ (uni Fb Fl pp qo).use A6
  ne : A5 ≠ A6
  ha : AnsN W (w.heap.size + 2) (fun b => (uni Fb Fl pp qo).use b ∨ b = A5 ∨ b = A6) a c
  hb : AnsN W (w.heap.size + 2) (fun b => (uni Fb Fl pp qo).use b ∨ b = A5 ∨ b = A6) b d
theorem Wq.fin (o : Wq w W B pp q F Fb Fl pb pl qo ol oc s v az al) {a b : SM.Ans} {c d : List Value} {A5 A6 : Nat} (h1 : (a, c) ∈ az) (h2 : (b, d) ∈ az) (h3 : A5 ∈ al) (h4 : A6 ∈ al) (hne : A5 ≠ A6) {T' : World → Prop}
    (hT : ∀ W', Wf w W' B pp q F Fb Fl pb pl qo ol oc s v a b c d A5 A6 → T' W') :
    st P (oStore T.impl_Answer (pt A5 0) (AG c)) W fun _ w7 => st P (oStore T.impl_Answer (pt A6 0) (AG d)) w7 fun _ w8 => T' w8 := by
  obtain ⟨g1, g2, g3, g4⟩ := o.hb A5 h3
  obtain ⟨k1, k2, k3, k4⟩ := o.hb A6 h4
  have ga := o.ha _ h1
  have gb := o.ha _ h2
  rw [storeA ga g3]
  have s1 := Kp.setb W A5 (CB c T.impl_Answer)
  have o1 := o.o.set g1 g4 (CB c T.impl_Answer)
  have ga1 := ga.kp s1 fun b _ _ hn e => hn (.inr (by rw [e]; exact h3))
  have gb1 := gb.kp s1 fun b _ _ hn e => hn (.inr (by rw [e]; exact h3))
  have k31 : bk (setb W A5 (CB c T.impl_Answer)) A6 = some (CB ansZ T.impl_Answer) := by rw [bk_setb_ne _ _ _ _ hne.symm]; exact k3
  have g31 : bk (setb W A5 (CB c T.impl_Answer)) A5 = some (CB c T.impl_Answer) := bk_setb_eq _ _ _ _ rfl (by omega)
  generalize setb W A5 (CB c T.impl_Answer) = W1 at *
  rw [storeA gb1 k31]
  have s2 := Kp.setb W1 A6 (CB d T.impl_Answer)
  have o2 := o1.set k1 k4 (CB d T.impl_Answer)
  refine hT _ ⟨o2, by rw [bk_setb_ne _ _ _ _ hne]; exact g31, bk_setb_eq _ _ _ _ rfl (bk_lt k31), g1, k1, g4, k4, hne, ?_, ?_⟩
  · refine (ga1.kp s2 fun b _ _ hn e => hn (.inr (by rw [e]; exact h4))).to fun b _ _ hn e => hn ?_
    rcases e with e | e | e
    · exact .inl e
    · exact .inr (by rw [e]; exact h3)
    · exact .inr (by rw [e]; exact h4)
  · refine (gb1.kp s2 fun b _ _ hn e => hn (.inr (by rw [e]; exact h4))).to fun b _ _ hn e => hn ?_
    rcases e with e | e | e
    · exact .inl e
    · exact .inr (by rw [e]; exact h3)
    · exact .inr (by rw [e]; exact h4)
end
end
end Go.Proofs.YteblpejgenehfaaDoor.X
end
section
namespace Go.Proofs.YteblpejgenehfaaDoor.X
open Go Go.X Go.Proofs Go.RowKit
end Go.Proofs.YteblpejgenehfaaDoor.X
end
section
namespace Go.Proofs.YteblpejgenehfaaDoor.X
open Go Go.X Go.Proofs Go.RowKit
structure U4 where
  n1 : SM.Node
  h1 : SM.Hnd
  n2 : SM.Node
  h2 : SM.Hnd
def U4.next (u : U4) (s : SM.Stp) : U4 × SM.Ans :=
  let a := fileN u.n1 u.h1 s
  let b := if s.op = 12 then fileN u.n2 u.h2 (s.skip a.2.2.data.length) else if a.2.2.e = 0 then fileN u.n2 u.h2 s else (u.n2, u.h2, a.2.2)
  (⟨a.1, a.2.1, b.1, b.2.1⟩, a.2.2)
structure RelU (c : Int) (x : FX × FX) (u : U4) : Prop where
  l : Rel c x.1 u.n1 u.h1
  b : Rel c x.2 u.n2 u.h2
  cl : u.h1.cl = u.h2.cl
  ro : u.h1.ro = u.h2.ro
structure SpU (u : U4) (s : SM.Stp) : Prop where
  l : SpF u.n1 u.h1 s
  b : SpF u.n2 u.h2 s
  no : s.op ≠ 13 ∧ s.op ≠ 21 ∧ s.op ≠ 22
section
variable {c : Int} {x x1 x2 : FX} {n n1 n2 : SM.Node} {h h1 h2 : SM.Hnd} {s : SM.Stp} {u : U4}
theorem fileN_e (p1 : SpF n1 h1 s) (p2 : SpF n2 h2 s) (hc : h1.cl = h2.cl) (hr : h1.ro = h2.ro) (no : s.op ≠ 12 ∧ s.op ≠ 13) : (fileN n1 h1 s).2.2.e = (fileN n2 h2 s).2.2.e := by
  have po := p1.op
  by_cases e18 : s.op = 18
  · rw [fileN_18 e18, fileN_18 e18]
  by_cases e21 : s.op = 21
  · rw [fileN_21 e21, fileN_21 e21]
  by_cases e22 : s.op = 22
  · rw [fileN_22 e22, fileN_22 e22]
  by_cases e23 : s.op = 23
  · rw [fileN_23 e23, fileN_23 e23]
  by_cases e19 : s.op = 19 ∨ s.op = 20
  · rw [fileN_19 e19, fileN_19 e19]
  cases c1 : h1.cl with
  | true => rw [fileN_cl (by omega) c1, fileN_cl (by omega) (by rw [← hc, c1])]
  | false =>
    have c2 : h2.cl = false := by rw [← hc, c1]
    by_cases e16 : s.op = 16
    · rw [fileN_16 e16 c1, fileN_16 e16 c2]
    cases r1 : h1.ro with
    | true => rw [fileN_ro (by omega) c1 r1, fileN_ro (by omega) c2 (by rw [← hr, r1])]
    | false =>
      have r2 : h2.ro = false := by rw [← hr, r1]
      by_cases e17 : s.op = 17
      · have ht := p1.tr e17
        by_cases g : s.off < 0
        · rw [fileN_17a e17 c1 r1 g, fileN_17a e17 c2 r2 g]
        · rw [fileN_17 e17 c1 r1 (by omega), fileN_17 e17 c2 r2 (by omega)]
      by_cases e14 : s.op = 14
      · have h1 := p1.wr e14
        have h2 := p2.wr e14
        rw [fileN_14 e14 c1 r1 (by omega), fileN_14 e14 c2 r2 (by omega)]
      · have e15 : s.op = 15 := by omega
        have h1 := p1.wa e15
        rw [fileN_15 e15 c1 r1 (by omega), fileN_15 e15 c2 r2 (by omega)]
theorem fileN_keep : (fileN n h s).2.1.ro = h.ro ∧ (fileN n h s).2.1.cl = (if s.op = 18 then true else h.cl) := by
  by_cases c : s.op = 18
  · rw [fileN_18 c, if_pos c]; exact ⟨rfl, rfl⟩
  · rw [if_neg c]
    unfold fileN
    rw [if_neg c]
    repeat' apply iteP (Q := fun r : SM.Node × SM.Hnd × SM.Ans => r.2.1.ro = h.ro ∧ r.2.1.cl = h.cl)
    all_goals first | exact ⟨rfl, rfl⟩ | (constructor <;> (first | rfl | (by_cases c : s.op = 15 <;> simp [c])))
theorem Rel.skip (r : Rel c x n h) (s : SM.Stp) {k : Nat} (hk : k ≤ 4096) : Rel (c + 8192) (skR x k 1).1 (fileN n h (s.skip k)).1 (fileN n h (s.skip k)).2.1 ∧ (h.cl = false → (skR x k 1).2.1 = 0) ∧ (h.cl = true → (skR x k 1).1 = x) := by
  have hs : Rel (c + 8192) x n h := r.to (by omega)
  have e16 : (s.skip k).op = 16 := rfl
  have r2 := r.cl
  have px := r.px
  have ph := r.ph
  unfold skR
  cases hc : h.cl with
  | true =>
    rw [fileN_cl (by rw [e16]; omega) hc, if_pos (by rw [r2, hc])]
    exact ⟨hs, (fun e => by cases e), fun _ => rfl⟩
  | false =>
    have xp := r.pos hc
    rw [fileN_16 e16 hc, if_neg (by rw [r2, hc]; exact Bool.false_ne_true)]
    have e1 : seekX x k 1 = x.pos + k := by unfold seekX; rw [if_neg (by omega), if_pos rfl]
    have e2 : seekN n h (s.skip k) = h.pos + k := by
      unfold seekN
      rw [if_neg (by show ¬ (1 : Int) = 0; omega), if_pos (by rfl)]
      rfl
    rw [e1, e2]
    exact ⟨⟨r.bytes, r.cl, r.ro, r.dx, r.dn, r.nm, r.mode, r.mt, r.len, r.nl, r.md, (fun _ => by simp only; omega), by simp only; omega, by simp only; omega, hs.c0⟩, (fun _ => rfl), fun e => by cases e⟩
theorem wov_gen (po : 12 ≤ s.op ∧ s.op ≤ 23) (no : s.op ≠ 12 ∧ s.op ≠ 13 ∧ s.op ≠ 21 ∧ s.op ≠ 22) : wovX x1 x2 s = ((onX x1 s).1, if (onX x1 s).2.e = 0 then (onX x2 s).1 else x2, if (onX x1 s).2.e = 0 then { (onX x1 s).2 with e := (onX x2 s).2.e } else (onX x1 s).2) := by
  unfold wovX
  rw [if_neg no.1]
  by_cases e14 : s.op = 14
  · rw [if_pos e14, onX_14 x1 e14, onX_14 x2 e14]
    unfold wrU
    simp only
    by_cases c : (wrR x1 s.data).2.1 = 0
    · rw [if_pos c, if_pos c, if_pos c]
    · rw [if_neg c, if_neg c, if_neg c]
  rw [if_neg e14]
  by_cases e15 : s.op = 15
  · rw [if_pos e15, onX_15 x1 e15, onX_15 x2 e15]
    unfold waU
    simp only
    by_cases c : (wrR { x1 with pos := s.off } s.data).2.1 = 0
    · rw [if_pos c, if_pos c, if_pos c]
    · rw [if_neg c, if_neg c, if_neg c]
  rw [if_neg e15]
  by_cases e16 : s.op = 16
  · rw [if_pos e16, onX_16 x1 e16, onX_16 x2 e16]
    unfold skU
    simp only
    by_cases c : (skR x1 s.off s.wh).2.1 = 0
    · rw [if_pos c, if_pos c, if_pos c]
    · rw [if_neg c, if_neg c, if_neg c]
  rw [if_neg e16]
  by_cases e17 : s.op = 17
  · rw [if_pos e17, onX_17 x1 e17, onX_17 x2 e17]
    unfold trU
    simp only
    by_cases c : (trR x1 s.off).2 = 0
    · rw [if_pos c, if_pos c, if_pos c]
    · rw [if_neg c, if_neg c, if_neg c]
  rw [if_neg e17]
  by_cases e18 : s.op = 18
  · rw [if_pos e18, onX_18 x1 e18, onX_18 x2 e18]
    rfl
  rw [if_neg e18]
  by_cases e19 : s.op = 19
  · rw [if_pos e19, onX_19 x1 (.inl e19), onX_19 x2 (.inl e19)]
    rfl
  rw [if_neg e19]
  by_cases e20 : s.op = 20
  · rw [if_pos e20, onX_19 x1 (.inr e20), onX_19 x2 (.inr e20)]
    rfl
  rw [if_neg e20, if_neg no.2.2.1, if_neg no.2.2.2, onX_23 x1 (by omega), onX_23 x2 (by omega)]
  rfl
theorem RelU.step {x : FX × FX} (r : RelU c x u) (p : SpU u s) : RelU (c + 8192) (wovS x s).1 (u.next s).1 ∧ (wovS x s).2 = (u.next s).2 := by
  obtain ⟨x1, x2⟩ := x
  obtain ⟨rl, rb, hc, hr⟩ := r
  obtain ⟨sl, se⟩ := rl.step p.l
  obtain ⟨sb, sf⟩ := rb.step p.b
  have k1 := fileN_keep (n := u.n1) (h := u.h1) (s := s)
  have k2 := fileN_keep (n := u.n2) (h := u.h2) (s := s)
  have k3 := fun k => fileN_keep (n := u.n2) (h := u.h2) (s := s.skip k)
  have po := p.l.op
  unfold wovS U4.next
  simp only at rl rb sl se sb sf ⊢
  by_cases e12 : s.op = 12
  · have nn := p.l.nn (by omega)
    simp only [if_pos e12]
    unfold wovX
    rw [if_pos e12]
    rw [onX_12 x1 e12] at sl se
    have hd : (rdR x1 (want s.n)).2.1 = (fileN u.n1 u.h1 s).2.2.data := by rw [← se]
    have he : (rdR x1 (want s.n)).2.2 = (fileN u.n1 u.h1 s).2.2.e := by rw [← se]
    have hl : (fileN u.n1 u.h1 s).2.2.data.length ≤ 4096 := by
      cases q : u.h1.cl with
      | true => rw [fileN_cl (by omega) q]; exact Nat.zero_le _
      | false =>
        rw [fileN_12 e12 q]
        have := (readFrom_len u.n1.data u.h1.pos s.n nn.2).1
        simp only
        omega
    obtain ⟨g1, g2, g3⟩ := rb.skip s hl
    have kk : (fileN u.n1 u.h1 s).2.1.cl = (fileN u.n2 u.h2 (s.skip (fileN u.n1 u.h1 s).2.2.data.length)).2.1.cl ∧ (fileN u.n1 u.h1 s).2.1.ro = (fileN u.n2 u.h2 (s.skip (fileN u.n1 u.h1 s).2.2.data.length)).2.1.ro := by
      rw [k1.1, k1.2, (k3 _).1, (k3 _).2, if_neg (by omega), if_neg (by show ¬ (16 : Int) = 18; omega)]
      exact ⟨hc, hr⟩
    unfold rdU
    rw [hd]
    by_cases ce : (rdR x1 (want s.n)).2.2 = 0 ∨ (rdR x1 (want s.n)).2.2 = 4
    · rw [if_pos ce]
      have hcf : u.h1.cl = false := by
        cases q : u.h1.cl with
        | false => rfl
        | true =>
          rw [he, fileN_cl (by omega) q] at ce
          rcases ce with e | e <;> cases e
      have z := g2 (by rw [← hc, hcf])
      refine ⟨⟨sl, g1, kk.1, kk.2⟩, ?_⟩
      simp only
      rw [if_pos z, ← se]
    · rw [if_neg ce]
      have hz : (skR x2 ((fileN u.n1 u.h1 s).2.2.data.length) 1).1 = x2 ∨ (fileN u.n1 u.h1 s).2.2.data.length = 0 := by
        cases q : u.h1.cl with
        | true => exact .inl (g3 (by rw [← hc, q]))
        | false =>
          right
          rw [he, fileN_12 e12 q] at ce
          rw [fileN_12 e12 q]
          simp only at ce ⊢
          unfold SM.readFrom at ce ⊢
          repeat' split
          all_goals first | rfl | skip
          rename_i q1 q2 q3
          rw [if_neg q1, if_neg q2, if_neg q3] at ce
          exact absurd (Or.inl rfl) ce
      have hz2 : (skR x2 ((fileN u.n1 u.h1 s).2.2.data.length) 1).1 = x2 := by
        rcases hz with e | e
        · exact e
        · rw [e]
          unfold skR
          by_cases q : x2.cl = true
          · rw [if_pos q]
          · rw [if_neg q]
            unfold seekX
            simp
      rw [hz2] at g1
      refine ⟨⟨sl, g1, kk.1, kk.2⟩, ?_⟩
      simp only
      rw [← se]
  · rw [wov_gen po ⟨e12, p.no⟩]
    simp only [if_neg e12]
    have ee : (onX x1 s).2.e = (fileN u.n1 u.h1 s).2.2.e := by rw [se]
    have ef : (onX x2 s).2.e = (fileN u.n2 u.h2 s).2.2.e := by rw [sf]
    have eq := fileN_e p.l p.b hc hr ⟨e12, p.no.1⟩
    by_cases ce : (fileN u.n1 u.h1 s).2.2.e = 0
    · rw [ee, if_pos ce, if_pos ce, if_pos ce]
      refine ⟨⟨sl, sb, ?_, ?_⟩, ?_⟩
      · show (fileN u.n1 u.h1 s).2.1.cl = (fileN u.n2 u.h2 s).2.1.cl
        rw [k1.2, k2.2, hc]
      · show (fileN u.n1 u.h1 s).2.1.ro = (fileN u.n2 u.h2 s).2.1.ro
        rw [k1.1, k2.1, hr]
      · show ({ (onX x1 s).2 with e := (onX x2 s).2.e } : SM.Ans) = (fileN u.n1 u.h1 s).2.2
        rw [ef, ← eq, ← ee, ← se]
    · rw [ee, if_neg ce, if_neg ce, if_neg ce]
      refine ⟨⟨sl, rb.to (by omega), ?_, ?_⟩, se⟩
      · show (fileN u.n1 u.h1 s).2.1.cl = u.h2.cl
        have n18 : s.op ≠ 18 := fun e => ce (by rw [fileN_18 e])
        rw [k1.2, if_neg n18, hc]
      · show (fileN u.n1 u.h1 s).2.1.ro = u.h2.ro
        rw [k1.1, hr]
end
end Go.Proofs.YteblpejgenehfaaDoor.X
end
section
namespace Go.Proofs.YteblpejgenehfaaDoor.X
open Go Go.X Go.Proofs Go.RowKit
abbrev at0 (s : SM.Stp) : SM.Stp := { s with h := 0 }
theorem OkX.at0 {x : FX} {q : SM.Stp} (h : OkX x (at0 q)) : OkX x q := ⟨h.op, h.dir, h.len, h.nm, h.mode, h.dat, h.off, h.pos, h.rd, h.ra, h.wr, h.wa, h.tr⟩
theorem fileN_listed (n : SM.Node) (h : SM.Hnd) (s : SM.Stp) : (fileN n h s).2.1.listed = h.listed := by
  unfold fileN
  repeat' apply iteP (Q := fun r : SM.Node × SM.Hnd × SM.Ans => r.2.1.listed = h.listed)
  all_goals first | rfl | (by_cases c : s.op = 15 <;> simp [c])
section
variable {c : Int} {n : SM.Node} {h : SM.Hnd} {s : SM.Stp} {x : FX} {u : U4}
theorem DoOk_one (hn : h.node = 1) (hl : h.listed = 0) (hd : n.data.length ≤ 8192) (hm : n.name.length ≤ 400) (hp : -4398046511104 - c ≤ h.pos ∧ h.pos ≤ 4398046511104 + c) (hc : c ≤ 1000000000) (hh : s.h = 0) (ho : 11 < s.op) (hf : s.op < 18 → -1099511627776 ≤ s.off ∧ s.off ≤ 1099511627776) (hnn : s.op < 18 → s.n ≤ 4096) (hdl : s.data.length ≤ 4096) : DoOk (one n h) s := by
  have hb : HB (one n h) := fun k h' e => by
    have e : (if (0 : Int) = k then some h else none) = some h' := e
    split at e
    · injection e with e; rw [← e, hn]; show 1 < 2; omega
    · cases e
  refine ⟨⟨by show 2 ≤ _; omega, by show 2 ≤ _; omega, rfl, fun a ha => ?_, fun x hx => ?_, fun x hx => ?_⟩, hb, .inr ho, fun hd' e => ?_⟩
  · have ha : a ∈ [0, 1] := ha
    show a < 2
    simp at ha; omega
  · have hx : x ∈ [[47], [47, 102]] := hx
    simp at hx
    rcases hx with rfl | rfl <;> decide
  · have hx : x ∈ [(⟨true, 2147484141, [], 0, [47]⟩ : SM.Node), n] := hx
    simp at hx
    rcases hx with rfl | rfl
    · decide
    · omega
  · rw [hh] at e
    have e : some h = some hd' := e
    injection e with e
    rw [← e]
    have en : (one n h).node h.node = n := by rw [hn]; rfl
    refine ⟨⟨by rw [hn]; show 1 < 2; omega, by rw [en]; omega, by rw [en]; omega, by omega, fun q => by have := hf q; omega, fun q => by have := hnn q; omega, by omega, by omega⟩, by omega⟩
end
end Go.Proofs.YteblpejgenehfaaDoor.X
end
section
namespace Go.X
open Go Go.RowKit Go.WideShapes Go.Deep
section
variable {H : Type} {enc : TypeId × Value → H} {P : Program} {W : World}
theorem open_elems {t e : TypeId} {size fuel : Nat} {cs : List Value} {x : DataW H × List MemPlace} (ht : P.underlying t = some (.slice e)) (hc : P.cellsOf e = size) (h0 : 0 < size) (h : DataW.trod enc P W 0 (fun _ => true) true fuel t cs = some x) :
    (∃ a cap, cs = [.slice a 0 cap]) ∨ ∃ b o n cap, cs = [sl b o n cap] ∧ n ≤ cap ∧ cap ≤ maxLen ∧ b < W.heap.size ∧ n ≠ 0 ∧ ∃ m, ∀ i, i < n → ∃ c y, rowOf (bk W b) (o + i * size) size = some c ∧ DataW.trod enc P W 0 (fun _ => true) true m e c = some y := by
  rcases open_slice ht h with ⟨h1, _⟩ | ⟨a, n, cap, m, k, D, Pl, rfl, _, h2, h3, h4, _, h5⟩
  · exact .inl ⟨none, 0, h1⟩
  · by_cases hn : n = 0
    · subst hn; exact .inl ⟨_, _, rfl⟩
    simp only [if_true] at h4
    subst h4
    obtain ⟨c0, hc0, _⟩ := h5 0 (by omega)
    obtain ⟨_, hl0, hg0⟩ := World.cells?_some hc0
    rw [hc] at hl0
    have h00 := hg0 0 (by omega)
    have hne : c0[0]? ≠ none := by rw [List.getElem?_eq_getElem (by omega)]; simp
    have hspot : a.spot = none := by
      cases hs : a.spot with
      | none => rfl
      | some s =>
        exfalso
        have hs2 : ((a.add (0 * P.cellsOf e)).add 0).spot = some s := by
          rw [Nat.zero_mul]
          exact hs
        unfold World.cell? at h00
        rw [hs2] at h00
        split at h00
        · simp at h00; rw [h00] at hl0; simp at hl0; omega
        · exact hne h00.symm
    obtain ⟨b, o, sp⟩ := a
    simp only at hspot
    subst hspot
    have row : ∀ i, i < n → ∃ c y, rowOf (bk W b) (o + i * size) size = some c ∧ DataW.trod enc P W 0 (fun _ => true) true k e c = some y := fun i hi => by
      obtain ⟨c, hc1, hc2⟩ := h5 i (by omega)
      obtain ⟨_, hl, hg⟩ := World.cells?_some hc1
      rw [hc] at hl hg
      refine ⟨c, _, ?_, hc2⟩
      have cell : ∀ j, j < size → cellOf (bk W b) (o + i * size + j) = c[j]? := fun j hj => by
        have := hg j hj
        rw [Addr.add_lit, Addr.add_lit, cell?_eq] at this
        exact this
      have hz := cell (size - 1) (by omega)
      have hlt : c[size - 1]? ≠ none := by rw [List.getElem?_eq_getElem (by omega)]; simp
      unfold cellOf at hz
      split at hz
      · rename_i cc tt fz hb
        rw [hb] at cell ⊢
        simp only [rowOf]
        have hlast : o + i * size + (size - 1) < cc.size := by
          refine Nat.lt_of_not_le fun hle => hlt ?_
          rw [← hz, Array.getElem?_eq_none hle]
        rw [if_pos (by omega)]
        congr 1
        apply List.ext_getElem?
        intro j
        by_cases hj : j < size
        · rw [List.getElem?_take_of_lt hj, List.getElem?_drop]
          have : cc[o + i * size + j]? = c[j]? := cell j hj
          rw [Array.getElem?_toList, this]
        · rw [List.getElem?_eq_none (by simp; omega), List.getElem?_eq_none (by omega)]
      · exact absurd hz.symm hlt
    refine .inr ⟨b, o, n, _, rfl, h2, h3, ?_, hn, k, row⟩
    obtain ⟨c, y, hr, _⟩ := row 0 (by omega)
    obtain ⟨c', t', fz, e1, _⟩ := rowOf_inv hr
    exact bk_lt e1
theorem open_bytes_cell {t e : TypeId} {fuel : Nat} {cs : List Value} {x : DataW H × List MemPlace} (ht : P.underlying t = some (.slice e)) (he : P.underlying e = some (.int .u8)) (hc : P.cellsOf e = 1) (h : DataW.trod enc P W 0 (fun _ => true) true fuel t cs = some x) :
    ∃ v l, cs = [v] ∧ BS W v l ∧ l.length ≤ maxLen := by
  rcases open_elems ht hc (by omega) h with ⟨a, cap, rfl⟩ | ⟨b, o, n, cap, rfl, h1, h2, h3, h4, m, h5⟩
  · exact ⟨_, [], rfl, .inl ⟨rfl, _, _, rfl⟩, by simp⟩
  · have hx : ∀ i, i < n → ∃ z : UInt8, rowOf (bk W b) (o + i) 1 = some [byt z] := fun i hi => by
      obtain ⟨c, y, e1, e2⟩ := h5 i hi
      obtain ⟨q, rfl, _, e3⟩ := DataW.trod_int he e2
      simp only [Lit.wf, Bool.and_eq_true, decide_eq_true_eq] at e3
      have z0 : 0 ≤ q := e3.1
      have z1 : q ≤ 255 := e3.2
      refine ⟨UInt8.ofNat q.toNat, ?_⟩
      rw [Nat.mul_one] at e1
      rw [e1, byt]
      congr 3
      simp
      omega
    have hlist : ∃ l : List UInt8, l.length = n ∧ ∀ i (hi : i < l.length), rowOf (bk W b) (o + i) 1 = some [byt l[i]] := by
      refine ⟨(List.range n).map fun i => match rowOf (bk W b) (o + i) 1 with | some [.int _ q] => UInt8.ofNat q.toNat | _ => 0, by simp, fun i hi => ?_⟩
      obtain ⟨z, hz⟩ := hx i (by simpa using hi)
      simp only [List.getElem_map, List.getElem_range, hz, byt]
      simp
    obtain ⟨l, hl, hV⟩ := hlist
    subst hl
    refine ⟨_, l, rfl, .inr ⟨b, o, cap, rfl, h1, ?_, h3⟩, by omega⟩
    have cell : ∀ i (hi : i < l.length), cellOf (bk W b) (o + i) = some (byt l[i]) := fun i hi => by
      have hr := hV i hi
      obtain ⟨c, tt, fz, e1, e2, e3⟩ := rowOf_inv hr
      rw [e1]
      show c[o + i]? = _
      have := congrArg (·[0]?) e3
      simp only [List.getElem?_take_of_lt (show 0 < 1 by omega), List.getElem?_drop, Nat.add_zero, Array.getElem?_toList] at this
      simpa using this
    unfold rowB
    have hlast := hV (l.length - 1) (by omega)
    obtain ⟨c, tt, fz, e1, e2, e3⟩ := rowOf_inv hlast
    rw [e1] at cell ⊢
    simp only [rowOf]
    have e2' : o + (l.length - 1) + 1 ≤ c.size := e2
    rw [if_pos (by omega)]
    congr 1
    apply List.ext_getElem?
    intro i
    by_cases hi : i < l.length
    · rw [List.getElem?_take_of_lt hi, List.getElem?_drop, Array.getElem?_toList]
      have : c[o + i]? = some (byt l[i]) := cell i hi
      rw [this]
      simp [hi]
    · rw [List.getElem?_eq_none (by simp; omega), List.getElem?_eq_none (by simp; omega)]
end
end Go.X
end
section
namespace Go.Proofs.YteblpejgenehfaaDoor.X
open Go Go.X Go.Proofs Go.RowKit Go.WideShapes
abbrev i64 (n : Int) : Prop := -9223372036854775808 ≤ n ∧ n ≤ 9223372036854775807
structure FitS (q : SM.Stp) : Prop where
  op : i64 q.op
  flag : i64 q.flag
  perm : i64 q.perm
  h : i64 q.h
  off : i64 q.off
  wh : i64 q.wh
  n : i64 q.n
  name : q.name.length ≤ maxLen
  other : q.other.length ≤ maxLen
  data : q.data.length ≤ maxLen
section
variable {H : Type} {enc : TypeId × Value → H} {W : World}
theorem open_i64 {t : TypeId} {fuel : Nat} {cs : List Value} {x : DataW H × List MemPlace} (ht : P.underlying t = some (.int .i64)) (h : DataW.trod enc P W 0 (fun _ => true) true fuel t cs = some x) : ∃ n, cs = [.int .i64 n] ∧ i64 n := by
  obtain ⟨n, e, _, w⟩ := DataW.trod_int ht h
  simp only [Lit.wf, Bool.and_eq_true, decide_eq_true_eq] at w
  exact ⟨n, e, w.1, w.2⟩
theorem open_S {t : TypeId} {fuel : Nat} {cs : List Value} {x : DataW H × List MemPlace} (ht : P.underlying t = some .string) (h : DataW.trod enc P W 0 (fun _ => true) true fuel t cs = some x) : ∃ l, cs = [S l] ∧ l.length ≤ maxLen := by
  obtain ⟨s, e, _, w⟩ := DataW.trod_string ht h
  exact ⟨s.data.toList, e, w⟩
theorem choose_range {β : Type} (R : Nat → β → Prop) : ∀ (n : Nat), (∀ i, i < n → ∃ b, R i b) → ∃ m : List β, m.length = n ∧ ∀ i (h : i < m.length), R i m[i]
  | 0, _ => ⟨[], rfl, fun i h => absurd h (by simp)⟩
  | n + 1, h => by
    obtain ⟨m, e, hm⟩ := choose_range R n fun i hi => h i (by omega)
    obtain ⟨b, hb⟩ := h n (by omega)
    refine ⟨m ++ [b], by simp [e], fun i hi => ?_⟩
    by_cases q : i < m.length
    · rw [List.getElem_append_left q]; exact hm i q
    · have : i = m.length := by simp at hi; omega
      subst this
      rw [List.getElem_append_right (by omega)]
      simp only [Nat.sub_self, List.getElem_cons_zero]
      rw [e]; exact hb
theorem open_step {fuel : Nat} {c : List Value} {x : DataW H × List MemPlace} (h : DataW.trod enc P W 0 (fun _ => true) true fuel T.impl_Step c = some x) : ∃ (q : SM.Stp) (v : Value), c = stepC q v ∧ FitS q ∧ BS W v q.data := by
  obtain ⟨xs, n, _, _, hl, hlen, hf⟩ := DataW.trod_struct Tryd.underlying27 h
  have hl : c.length = 10 := hl
  match c, hl with
  | [c0, c1, c2, c3, c4, c5, c6, c7, c8, c9], _ =>
    have g : ∀ i, i < 10 → ∃ y, xs[i]? = some y := fun i hi => ⟨xs[i]'(by rw [hlen]; exact hi), List.getElem?_eq_getElem _⟩
    obtain ⟨y0, z0⟩ := g 0 (by omega)
    obtain ⟨y1, z1⟩ := g 1 (by omega)
    obtain ⟨y2, z2⟩ := g 2 (by omega)
    obtain ⟨y3, z3⟩ := g 3 (by omega)
    obtain ⟨y4, z4⟩ := g 4 (by omega)
    obtain ⟨y5, z5⟩ := g 5 (by omega)
    obtain ⟨y6, z6⟩ := g 6 (by omega)
    obtain ⟨y7, z7⟩ := g 7 (by omega)
    obtain ⟨y8, z8⟩ := g 8 (by omega)
    obtain ⟨y9, z9⟩ := g 9 (by omega)
    obtain ⟨n0, e0, w0⟩ := open_i64 U.int ((hf 0 _ rfl).trans z0)
    obtain ⟨l1, e1, w1⟩ := open_S U.string ((hf 1 _ rfl).trans z1)
    obtain ⟨l2, e2, w2⟩ := open_S U.string ((hf 2 _ rfl).trans z2)
    obtain ⟨n3, e3, w3⟩ := open_i64 U.int ((hf 3 _ rfl).trans z3)
    obtain ⟨n4, e4, w4⟩ := open_i64 U.int ((hf 4 _ rfl).trans z4)
    obtain ⟨n5, e5, w5⟩ := open_i64 U.int ((hf 5 _ rfl).trans z5)
    obtain ⟨v6, l6, e6, b6, w6⟩ := open_bytes_cell U.sl_uint8 U.uint8 (by kernel_rfl) ((hf 6 _ rfl).trans z6)
    obtain ⟨n7, e7, w7⟩ := open_i64 U.int64 ((hf 7 _ rfl).trans z7)
    obtain ⟨n8, e8, w8⟩ := open_i64 U.int ((hf 8 _ rfl).trans z8)
    obtain ⟨n9, e9, w9⟩ := open_i64 U.int ((hf 9 _ rfl).trans z9)
    replace e0 : [c0] = [.int .i64 n0] := e0
    replace e1 : [c1] = [S l1] := e1
    replace e2 : [c2] = [S l2] := e2
    replace e3 : [c3] = [.int .i64 n3] := e3
    replace e4 : [c4] = [.int .i64 n4] := e4
    replace e5 : [c5] = [.int .i64 n5] := e5
    replace e6 : [c6] = [v6] := e6
    replace e7 : [c7] = [.int .i64 n7] := e7
    replace e8 : [c8] = [.int .i64 n8] := e8
    replace e9 : [c9] = [.int .i64 n9] := e9
    obtain rfl : c0 = .int .i64 n0 := by injection e0
    obtain rfl : c1 = S l1 := by injection e1
    obtain rfl : c2 = S l2 := by injection e2
    obtain rfl : c3 = .int .i64 n3 := by injection e3
    obtain rfl : c4 = .int .i64 n4 := by injection e4
    obtain rfl : c5 = .int .i64 n5 := by injection e5
    obtain rfl : c6 = v6 := by injection e6
    obtain rfl : c7 = .int .i64 n7 := by injection e7
    obtain rfl : c8 = .int .i64 n8 := by injection e8
    obtain rfl : c9 = .int .i64 n9 := by injection e9
    exact ⟨⟨n0, l1, l2, n3, n4, n5, l6, n7, n8, n9⟩, _, rfl, ⟨w0, w3, w4, w5, w7, w8, w9, w1, w2, w6⟩, b6⟩
theorem open_steps {r : Reach} {b0 : Nat} {v : Value} {d : DataW H} {p : List MemPlace} (hv : Value.okWide P W r b0 T.sl_impl_Step v) (h : DataW.Trod enc P W 0 (fun _ => true) true T.sl_impl_Step v d p) : ∃ qs : List SM.Stp, (∃ vs, StepsAt W v qs vs) ∧ (∀ q ∈ qs, FitS q) ∧ qs.length ≤ maxLen := by
  obtain ⟨a, n, cap, rfl⟩ := okWide_slice U.sl_impl_Step hv
  obtain ⟨fuel, hf⟩ := h
  have hf : DataW.trod enc P W 0 (fun _ => true) true fuel T.sl_impl_Step [.slice a n cap] = some (d, p) := hf
  rcases open_elems (size := 10) U.sl_impl_Step (by kernel_rfl) (by omega) hf with ⟨a', cap', e⟩ | ⟨b, o, n', cap', e, h1, h2, h3, h4, m, h5⟩
  · injection e with e
    rw [e]
    exact ⟨[], ⟨[], rfl, (fun i h1 => absurd h1 (by simp)), .inl ⟨rfl, a', cap', rfl⟩⟩, fun q hq => (by cases hq), by simp⟩
  · injection e with e
    rw [e]
    obtain ⟨qs, hl, hq⟩ := choose_range (fun i (q : SM.Stp × Value) => rowOf (bk W b) (o + i * 10) 10 = some (stepC q.1 q.2) ∧ FitS q.1 ∧ BS W q.2 q.1.data) n' fun i hi => by
      obtain ⟨c, y, e1, e2⟩ := h5 i hi
      obtain ⟨q, v, rfl, q1, q2⟩ := open_step e2
      exact ⟨(q, v), e1, q1, q2⟩
    subst hl
    refine ⟨qs.map (·.1), ⟨qs.map (·.2), by simp, fun i h1 h2 => ?_, .inr ⟨b, o, cap', by simp, h3, fun i g1 g2 => ?_⟩⟩, fun q hm => ?_, by simp; omega⟩
    · simp only [List.getElem_map]
      exact (hq i (by simpa using h1)).2.2
    · simp only [List.getElem_map]
      exact (hq i (by simpa using g1)).1
    · obtain ⟨x, hx, rfl⟩ := List.mem_map.1 hm
      obtain ⟨i, hi, rfl⟩ := List.getElem_of_mem hx
      exact (hq i hi).2.1
end
theorem Sn.mono {w : World} {B C : Nat} {m : Nat → Nat × Nat} (h : Sn w B m) (hC : B ≤ C) : Sn w C m :=
  ⟨fun g hg => ⟨by have := (h.at_ g hg).1; omega, (h.at_ g hg).2⟩, fun g hg => ⟨by have := (h.cell g hg).1; omega, (h.cell g hg).2⟩, h.inj⟩
theorem Sn.next {w w' : World} {m : Nat → Nat × Nat} (h : Sn w w.heap.size m) (b : Below w.heap.size w w') : Sn w' w'.heap.size m := (h.below b).mono b.size
theorem fits2_spec {w : World} {K : Value → World → Prop} {q : SM.Stp} {v : Value} (hv : BS w v q.data) (hk : ∀ b w', Below w.heap.size w w' → K (.bool b) w') : Cl P Fn.laws_zzFits2 #[AG (stepC q v)] w K := by
  apply S_laws_zzFits2
  unfold F_laws_zzFits2
  have one := BS_one' hv
  obtain ⟨a, cap, hvv⟩ := BS_slice hv
  rw [oBox_agg]
  have h0 : bk (w.alloc (CB (stepC q v) T.impl_Step)) w.heap.size = some (CB (stepC q v) T.impl_Step) := bk_alloc_eq _ _ _ rfl
  have BB : Below w.heap.size w (w.alloc (CB (stepC q v) T.impl_Step)) := Below.alloc (Below.refl _ _) (Nat.le_refl _) _
  generalize w.alloc (CB (stepC q v) T.impl_Step) = w1 at *
  refine jn_with (fun t w' => w' = w1) ?_ ?_
  · rintro t e w2 rfl
    refine jn_with (fun t w' => w' = w2) ?_ ?_
    · rintro t e w3 rfl
      refine jn_with (fun t w' => w' = w3) ?_ ?_
      · rintro t e w4 rfl
        exact hk _ _ BB
      · by_cases c : (2147483647 : Int) < q.data.length
        · simp (disch := first | omega | (simp only [sZb, sZa, sZd] <;> omega) | (simp (disch := first | omega | (simp only [sZb, sZa, sZd] <;> omega) | fail) only [go_sem, h0, hvv]; done) | fail) only [go_sem, dec_t, dec_f, w_u32, w_u64, w_u16, w_u8, w_i64, Int.reduceToNat, Int.reducePow, Nat.reducePow, h0, hvv]
          exact hk _ _ BB
        · simp (disch := first | omega | (simp only [sZb, sZa, sZd] <;> omega) | (simp (disch := first | omega | (simp only [sZb, sZa, sZd] <;> omega) | fail) only [go_sem, h0, hvv]; done) | fail) only [go_sem, dec_t, dec_f, w_u32, w_u64, w_u16, w_u8, w_i64, Int.reduceToNat, Int.reducePow, Nat.reducePow, h0, hvv]
    · by_cases c : (2147483647 : Int) < q.other.length
      · simp (disch := first | omega | (simp only [sZb, sZa, sZd] <;> omega) | (simp (disch := first | omega | (simp only [sZb, sZa, sZd] <;> omega) | fail) only [go_sem, h0]; done) | fail) only [go_sem, dec_t, dec_f, w_u32, w_u64, w_u16, w_u8, w_i64, Int.reduceToNat, Int.reducePow, Nat.reducePow, h0]
        exact hk _ _ BB
      · simp (disch := first | omega | (simp only [sZb, sZa, sZd] <;> omega) | (simp (disch := first | omega | (simp only [sZb, sZa, sZd] <;> omega) | fail) only [go_sem, h0]; done) | fail) only [go_sem, dec_t, dec_f, w_u32, w_u64, w_u16, w_u8, w_i64, Int.reduceToNat, Int.reducePow, Nat.reducePow, h0]
  · by_cases c : (2147483647 : Int) < q.name.length
    · simp (disch := first | omega | (simp only [sZb, sZa, sZd] <;> omega) | (simp (disch := first | omega | (simp only [sZb, sZa, sZd] <;> omega) | fail) only [go_sem, h0]; done) | fail) only [go_sem, dec_t, dec_f, w_u32, w_u64, w_u16, w_u8, w_i64, Int.reduceToNat, Int.reducePow, Nat.reducePow, h0]
      exact hk _ _ BB
    · simp (disch := first | omega | (simp only [sZb, sZa, sZd] <;> omega) | (simp (disch := first | omega | (simp only [sZb, sZa, sZd] <;> omega) | fail) only [go_sem, h0]; done) | fail) only [go_sem, dec_t, dec_f, w_u32, w_u64, w_u16, w_u8, w_i64, Int.reduceToNat, Int.reducePow, Nat.reducePow, h0]
theorem fits1_spec {w : World} {K : Value → World → Prop} {v : Value} {qs : List SM.Stp} {vs : List Value} (h : StepsAt w v qs vs) (hk : ∀ b w', Below w.heap.size w w' → K (.bool b) w') : Cl P Fn.laws_zzFits1 #[v] w K := by
  apply S_laws_zzFits1
  unfold F_laws_zzFits1
  obtain ⟨a, cap, rfl⟩ := h.slice
  by_cases c : (2147483647 : Int) < qs.length
  · refine jn_with (fun _ _ => False) (fun _ _ _ h => h.elim) ?_
    simp (disch := first | omega | (simp only [sZb, sZa, sZd] <;> omega) | (simp (disch := first | omega | (simp only [sZb, sZa, sZd] <;> omega) | fail) only [go_sem]; done) | fail) only [go_sem, dec_t, dec_f, w_u32, w_u64, w_u16, w_u8, w_i64, Int.reduceToNat, Int.reducePow, Nat.reducePow]
    exact hk _ _ (Below.refl _ _)
  refine jn_with (fun t w' => w' = w) ?_ (by simp (disch := first | omega | (simp only [sZb, sZa, sZd] <;> omega) | (simp (disch := first | omega | (simp only [sZb, sZa, sZd] <;> omega) | fail) only [go_sem]; done) | fail) only [go_sem, dec_t, dec_f, w_u32, w_u64, w_u16, w_u8, w_i64, Int.reduceToNat, Int.reducePow, Nat.reducePow])
  rintro t e w1 rfl
  refine jn_with (fun t w' => Below w1.heap.size w1 w') ?_ ?_
  · rintro t e w2 b2
    exact hk _ _ b2
  simp (disch := first | omega | (simp only [sZb, sZa, sZd] <;> omega) | (simp (disch := first | omega | (simp only [sZb, sZa, sZd] <;> omega) | fail) only [go_sem]; done) | fail) only [go_sem, dec_t, dec_f, w_u32, w_u64, w_u16, w_u8, w_i64, Int.reduceToNat, Int.reducePow, Nat.reducePow]
  refine lp_intro (fun t w' => Below w1.heap.size w1 w' ∧ ∃ i : Nat, t = [.int .i64 i] ∧ i ≤ qs.length) (fun t _ => qs.length - (RowKit.intOf (gs t 0)).toNat) ⟨Below.refl _ _, 0, rfl, by omega⟩ ?_
  rintro t e w2 ⟨b2, i, rfl, hi⟩
  by_cases g : (i : Int) < qs.length
  · have hix : i < qs.length := by omega
    simp (disch := first | omega | (simp only [sZb, sZa, sZd] <;> omega) | (simp (disch := first | omega | (simp only [sZb, sZa, sZd] <;> omega) | fail) only [go_sem]; done) | fail) only [go_sem, dec_t, dec_f, w_u32, w_u64, w_u16, w_u8, w_i64, Int.reduceToNat, Int.reducePow, Nat.reducePow]
    refine jn_with (fun t w' => t = [] ∧ w' = w2) ?_ ⟨rfl, rfl⟩
    rintro t e w3 ⟨rfl, rfl⟩
    have hiv : i < vs.length := by rw [h.1]; exact hix
    have hq2 := h.old b2
    obtain ⟨b, o, hrow, hb, ix⟩ := hq2.idx hix hiv
    have hv := hq2.2.1 i hix hiv
    generalize qs[i] = q at *
    generalize vs[i] = vq at *
    have one := BS_one' hv
    have z := b2.size
    refine jn_with (fun t w' => t = [] ∧ Below w1.heap.size w1 w') ?_ ?_
    · rintro t e w4 ⟨rfl, b4⟩
      refine ⟨⟨b4, i + 1, rfl, by omega⟩, ?_⟩
      simp only [RowKit.intOf]
      omega
    · simp (disch := first | omega | (simp only [sZb, sZa, sZd] <;> omega) | (simp (disch := first | omega | (simp only [sZb, sZa, sZd] <;> omega) | fail) only [go_sem, ix, hrow, one]; done) | fail) only [go_sem, dec_t, dec_f, w_u32, w_u64, w_u16, w_u8, w_i64, Int.reduceToNat, Int.reducePow, Nat.reducePow, ix, hrow, one]
      obtain ⟨wA, hwA⟩ : ∃ wA, wA = setb (w3.alloc (CB [.int .i64 0, S [], S [], .int .i64 0, .int .i64 0, .int .i64 0, .slice none 0 0, .int .i64 0, .int .i64 0, .int .i64 0] T.impl_Step)) w3.heap.size (CB (stepC q vq) T.impl_Step) := ⟨_, rfl⟩
      rw [← hwA]
      have BA : Below w3.heap.size w3 wA := by rw [hwA]; repeat (first | exact Below.refl _ _ | assumption | refine bel_setb ?_ (by first | exact Nat.le_refl _ | omega | (simp only [go_sem] <;> omega)) _ | refine Below.alloc ?_ (by first | exact Nat.le_refl _ | omega | (simp only [go_sem]; omega)) _ | refine Below.drew ?_)
      refine fits2_spec (BS_old hv BA (Nat.le_refl _)) fun bb w4 b4 => ?_
      have B4 := (b2.trans (BA.mono z)).trans (b4.mono (by have := BA.size; omega))
      cases bb with
      | true =>
        simp (disch := first | omega | (simp only [sZb, sZa, sZd] <;> omega) | (simp (disch := first | omega | (simp only [sZb, sZa, sZd] <;> omega) | fail) only [go_sem]; done) | fail) only [go_sem, dec_t, dec_f, w_u32, w_u64, w_u16, w_u8, w_i64, Int.reduceToNat, Int.reducePow, Nat.reducePow]
        exact ⟨trivial, B4⟩
      | false =>
        simp (disch := first | omega | (simp only [sZb, sZa, sZd] <;> omega) | (simp (disch := first | omega | (simp only [sZb, sZa, sZd] <;> omega) | fail) only [go_sem]; done) | fail) only [go_sem, dec_t, dec_f, w_u32, w_u64, w_u16, w_u8, w_i64, Int.reduceToNat, Int.reducePow, Nat.reducePow]
        exact hk _ _ B4
  · have e1 : i = qs.length := by omega
    subst e1
    simp (disch := first | omega | (simp only [sZb, sZa, sZd] <;> omega) | (simp (disch := first | omega | (simp only [sZb, sZa, sZd] <;> omega) | fail) only [go_sem]; done) | fail) only [go_sem, dec_t, dec_f, w_u32, w_u64, w_u16, w_u8, w_i64, Int.reduceToNat, Int.reducePow, Nat.reducePow]
    exact jn_with (fun _ _ => False) (fun _ _ _ h => h.elim) b2
end Go.Proofs.YteblpejgenehfaaDoor.X
end
section
namespace Go.Proofs.YteblpejgenehfaaDoor.X
open Go Go.X Go.Proofs Go.RowKit
section
variable {w w' : World} {K : Value → World → Prop} {B p : Nat} {F : Fp} {c : Int} {n : SM.Node} {h : SM.Hnd} {s : SM.Stp} {v : Value} {x : FX}
theorem onFile_spec (hv : v.oneCell' = true) (hk : ∀ w', Below w.heap.size w w' → K (.bool (decide (12 ≤ s.op ∧ s.op ≤ 23))) w') : Cl P Fn.laws_onFile #[AG (stepC s v)] w K := by
  apply S_laws_onFile
  unfold F_laws_onFile
  by_cases c1 : 12 ≤ s.op
  · by_cases c2 : s.op ≤ 23
    · rw [decide_eq_true ⟨c1, c2⟩] at hk
      simp (disch := first | omega | (simp only [sZb, sZa, sZd] <;> omega) | (simp (disch := first | omega | (simp only [sZb, sZa, sZd] <;> omega) | fail) only [go_sem, hv]; done) | fail) only [go_sem, dec_t, dec_f, w_u32, w_u64, w_u16, w_u8, w_i64, Int.reduceToNat, Int.reducePow, Nat.reducePow, hv]
      exact hk _ (by repeat (first | exact Below.refl _ _ | assumption | refine bel_setb ?_ (by first | exact Nat.le_refl _ | omega | (simp only [go_sem] <;> omega)) _ | refine Below.alloc ?_ (by first | exact Nat.le_refl _ | omega | (simp only [go_sem]; omega)) _ | refine Below.drew ?_))
    · rw [decide_eq_false fun h => c2 h.2] at hk
      simp (disch := first | omega | (simp only [sZb, sZa, sZd] <;> omega) | (simp (disch := first | omega | (simp only [sZb, sZa, sZd] <;> omega) | fail) only [go_sem, hv]; done) | fail) only [go_sem, dec_t, dec_f, w_u32, w_u64, w_u16, w_u8, w_i64, Int.reduceToNat, Int.reducePow, Nat.reducePow, hv]
      exact hk _ (by repeat (first | exact Below.refl _ _ | assumption | refine bel_setb ?_ (by first | exact Nat.le_refl _ | omega | (simp only [go_sem] <;> omega)) _ | refine Below.alloc ?_ (by first | exact Nat.le_refl _ | omega | (simp only [go_sem]; omega)) _ | refine Below.drew ?_))
  · rw [decide_eq_false fun h => c1 h.1] at hk
    simp (disch := first | omega | (simp only [sZb, sZa, sZd] <;> omega) | (simp (disch := first | omega | (simp only [sZb, sZa, sZd] <;> omega) | fail) only [go_sem, hv]; done) | fail) only [go_sem, dec_t, dec_f, w_u32, w_u64, w_u16, w_u8, w_i64, Int.reduceToNat, Int.reducePow, Nat.reducePow, hv]
    exact hk _ (by repeat (first | exact Below.refl _ _ | assumption | refine bel_setb ?_ (by first | exact Nat.le_refl _ | omega | (simp only [go_sem] <;> omega)) _ | refine Below.alloc ?_ (by first | exact Nat.le_refl _ | omega | (simp only [go_sem]; omega)) _ | refine Below.drew ?_))
theorem do_one (hm : MemS w B p (one n h) F) (hn : h.node = 1) (hl : h.listed = 0) (r : Rel c x n h) (hc : c ≤ 1000000000) (p' : SpF n h s) (hh : s.h = 0) (hv : BS w v s.data) (i : Int)
    (hk : FileK w B p F (one (fileN n h s).1 (fileN n h s).2.1, (fileN n h s).2.2) K) : Cl P Fn.spec_Mem_Do #[pt p 0, .int .i64 i, AG (stepC s v)] w K := by
  have po := p'.op
  have d := DoOk_one (s := s) hn hl r.len r.nl r.ph hc hh (by omega) p'.off (fun q => (p'.nn q).2) p'.dl
  rw [← doS_one hn r.dn po hh i] at hk
  exact doH_spec hm hv d.mb d.hb d.op d.fb i hk
theorem one_hnd (hm : MemS w B p (one n h) F) : ∃ vn va vd q y, bk w p = some (CB [vn, va, vd, .map (some q)] T.spec_Mem) ∧ ∀ L : Value → World → Prop, st P (oLookup T.map_int_p_spec_MemHandle (.map (some q)) (.int .i64 0) false) w L = L (pt y 0) w := by
  obtain ⟨vn, va, vd, q, ds, hl', c, hb, ρ, m2⟩ := hm
  have bq := m2.bq
  have gh : SM.hget (one n h).hs 0 = some h := rfl
  have hm0 := m2.hm 0
  rw [gh] at hm0
  refine ⟨vn, va, vd, q, hb 0, m2.bm, fun L => ?_⟩
  rw [luI1 w U.map_int_p_spec_MemHandle U.int zeroH, bq, mlI_MO, optE_some]
  simp only [hm0]
  rfl
set_option maxHeartbeats 4000000 in
theorem handleSpoken_spec {t0 tv : Value} {ro : Bool} {data : List UInt8} {qs : List SM.Stp} {vs : List Value} (hd : BS w t0 data) (hq : StepsAt w tv qs vs)
    (hk : ∀ w' b, Below w.heap.size w w' → (b = true → data.length ≤ 4096 ∧ qs.length ≤ 60 ∧ okX onX OkX (fx0 data ro) qs ∧ (runX onX (fx0 data ro) qs).1.bytes.length ≤ 8192) → K (.bool b) w') : Cl P Fn.laws_handleSpoken #[t0, .bool ro, tv] w K := by
  apply S_laws_handleSpoken
  unfold F_laws_handleSpoken
  obtain ⟨a0, c0, rfl⟩ := BS_slice hd
  obtain ⟨ta, tc, etv⟩ := hq.slice
  refine jn_with (fun t w' => w' = w ∧ data.length ≤ 4096 ∧ qs.length ≤ 60) ?_ ?_
  rotate_left
  · rw [etv]
    by_cases h1 : (4096 : Int) < data.length
    · simp (disch := first | omega | (simp only [sZb, sZa, sZd] <;> omega) | (simp (disch := first | omega | (simp only [sZb, sZa, sZd] <;> omega) | fail) only [go_sem]; done) | fail) only [go_sem, dec_t, dec_f, w_u32, w_u64, w_u16, w_u8, w_i64, Int.reduceToNat, Int.reducePow, Nat.reducePow]
      exact hk _ _ (Below.refl _ _) fun h => by cases h
    by_cases h2 : (60 : Int) < qs.length
    · simp (disch := first | omega | (simp only [sZb, sZa, sZd] <;> omega) | (simp (disch := first | omega | (simp only [sZb, sZa, sZd] <;> omega) | fail) only [go_sem]; done) | fail) only [go_sem, dec_t, dec_f, w_u32, w_u64, w_u16, w_u8, w_i64, Int.reduceToNat, Int.reducePow, Nat.reducePow]
      exact hk _ _ (Below.refl _ _) fun h => by cases h
    · simp (disch := first | omega | (simp only [sZb, sZa, sZd] <;> omega) | (simp (disch := first | omega | (simp only [sZb, sZa, sZd] <;> omega) | fail) only [go_sem]; done) | fail) only [go_sem, dec_t, dec_f, w_u32, w_u64, w_u16, w_u8, w_i64, Int.reduceToNat, Int.reducePow, Nat.reducePow]
      exact ⟨trivial, by omega, by omega⟩
  rintro t e w1 ⟨rfl, g1, g2⟩
  have fail : ∀ w', Below w1.heap.size w1 w' → K (.bool false) w' := fun w' b => hk w' false b fun h => by cases h
  rw [C.laws_oneFile]
  refine oneFile_spec hd (by omega) (Nat.le_refl _) fun w2 p F0 hb0 h2 u2 B2 => ?_
  simp (disch := first | omega | (simp only [sZb, sZa, sZd] <;> omega) | (simp (disch := first | omega | (simp only [sZb, sZa, sZd] <;> omega) | fail) only [go_sem]; done) | fail) only [go_sem, dec_t, dec_f, w_u32, w_u64, w_u16, w_u8, w_i64, Int.reduceToNat, Int.reducePow, Nat.reducePow]
  refine jn_with (fun t w' => ∃ y, t = [pt y 0] ∧ Below w1.heap.size w1 w' ∧ okX onX OkX (fx0 data ro) qs ∧ (runX onX (fx0 data ro) qs).1.bytes.length ≤ 8192) ?_ ?_
  · rintro t e w3 ⟨y, rfl, B3, k3, l3⟩
    have hne : ∀ L : Value → Prop, pu P (oBin .neq T.p_spec_MemHandle false true (pt y 0) (.pointer none)) L = L (.bool true) := fun L => oNeqP U.p_spec_MemHandle _ _ _
    simp (disch := first | omega | (simp only [sZb, sZa, sZd] <;> omega) | (simp (disch := first | omega | (simp only [sZb, sZa, sZd] <;> omega) | fail) only [go_sem, hne]; done) | fail) only [go_sem, dec_t, dec_f, w_u32, w_u64, w_u16, w_u8, w_i64, Int.reduceToNat, Int.reducePow, Nat.reducePow, hne]
    exact hk _ true B3 fun _ => ⟨g1, g2, k3, l3⟩
  rw [etv, V.len_sl_impl_Step, ← etv]
  refine lp_intro (fun t w' => ∃ y n h F x, ∃ i : Nat, t = [pt y 0, .int .i64 i] ∧ i ≤ qs.length ∧ MemS w' w1.heap.size p (one n h) F ∧ h.node = 1 ∧ h.listed = 0 ∧ Rel (i * 8192) x n h ∧ (∀ k, F.use k → w1.heap.size ≤ k) ∧ Below w1.heap.size w1 w' ∧ (okX onX OkX x (qs.drop i) → okX onX OkX (fx0 data ro) qs) ∧ (runX onX x (qs.drop i)).1 = (runX onX (fx0 data ro) qs).1)
    (fun t _ => qs.length - (RowKit.intOf (gs t 1)).toNat) ⟨_, file0 data, hnd0 ro, F0, fx0 data ro, 0, rfl, Nat.zero_le _, h2, rfl, rfl, ⟨rfl, rfl, rfl, rfl, rfl, rfl, rfl, rfl, by show data.length ≤ _; omega, by show 2 ≤ 400; omega, by show 0 ≤ (268435456 : Int) ∧ (268435456 : Int) ≤ _; omega, fun _ => rfl, by show _ ≤ (0 : Int) ∧ (0 : Int) ≤ _; omega, by show _ ≤ (0 : Int) ∧ (0 : Int) ≤ _; omega, by omega⟩, u2, B2, by simp, by simp⟩ ?_
  rintro t e w3 ⟨y, n, h, F3, x, i, rfl, hi, h3, hn3, hl3, r3, hU3, B3, hok3, hr1⟩
  rw [gs1, oLss]
  by_cases g : (i : Int) < qs.length
  · have hix : i < qs.length := by omega
    have hiv : i < vs.length := by rw [hq.1]; exact hix
    simp (disch := first | omega | (simp only [sZb, sZa, sZd] <;> omega) | (simp (disch := first | omega | (simp only [sZb, sZa, sZd] <;> omega) | fail) only [go_sem]; done) | fail) only [go_sem, dec_t, dec_f, w_u32, w_u64, w_u16, w_u8, w_i64, Int.reduceToNat, Int.reducePow, Nat.reducePow]
    refine jn_with (fun t w' => t = [] ∧ w' = w3) ?_ ⟨rfl, rfl⟩
    rintro t e w4 ⟨rfl, rfl⟩
    rw [List.drop_eq_getElem_cons hix] at hok3 hr1
    rw [(runX_drop onX x _ _).1] at hr1
    have hq4 := hq.old B3
    obtain ⟨b, o, hrow, hbl, ix⟩ := hq4.idx hix hiv
    have hqi := hq4.2.1 i hix hiv
    generalize qs[i] = q at *
    generalize vs[i] = vq at *
    have one' := BS_one' hqi
    obtain ⟨pa, pn, epl⟩ := BS_slice hqi
    refine jn_with (fun t w' => ∃ y F', t = [pt y 0] ∧ SpF n h (at0 q) ∧ MemS w' w1.heap.size p (one (fileN n h (at0 q)).1 (fileN n h (at0 q)).2.1) F' ∧ (∀ k, F'.use k → w1.heap.size ≤ k) ∧ Below w1.heap.size w1 w') ?_ ?_
    · rintro t e w5 ⟨y5, F5, rfl, sp5, h5, hU5, B5⟩
      obtain ⟨rs1, rs2⟩ := r3.step sp5
      have ex : onX x (at0 q) = onX x q := rfl
      rw [ex] at rs1 rs2
      simp (disch := first | omega | (simp only [sZb, sZa, sZd] <;> omega) | (simp (disch := first | omega | (simp only [sZb, sZa, sZd] <;> omega) | fail) only [go_sem]; done) | fail) only [go_sem, dec_t, dec_f, w_u32, w_u64, w_u16, w_u8, w_i64, Int.reduceToNat, Int.reducePow, Nat.reducePow]
      refine ⟨⟨y5, _, _, F5, (onX x q).1, i + 1, rfl, by omega, h5, (fileN_node n h (at0 q)).1.trans hn3, (fileN_listed n h (at0 q)).trans hl3, ?_, hU5, B5, fun h => hok3 ⟨(r3.okX sp5 (by omega)).at0, h⟩, hr1⟩, ?_⟩
      · have e : ((i : Nat) : Int) * 8192 + 8192 = ((i + 1 : Nat) : Int) * 8192 := by omega
        rw [← e]; exact rs1
      · simp only [RowKit.intOf, gs1]
        omega
    rw [ix]
    simp (disch := first | omega | (simp only [sZb, sZa, sZd] <;> omega) | (simp (disch := first | omega | (simp only [sZb, sZa, sZd] <;> omega) | fail) only [go_sem, hrow, one']; done) | fail) only [go_sem, dec_t, dec_f, w_u32, w_u64, w_u16, w_u8, w_i64, Int.reduceToNat, Int.reducePow, Nat.reducePow, hrow, one']
    obtain ⟨wA, hwA⟩ : ∃ wA, wA = setb (setb (w4.alloc (CB [.int .i64 0, S [], S [], .int .i64 0, .int .i64 0, .int .i64 0, .slice none 0 0, .int .i64 0, .int .i64 0, .int .i64 0] T.impl_Step)) w4.heap.size (CB (stepC q vq) T.impl_Step)) w4.heap.size (CB (stepC (at0 q) vq) T.impl_Step) := ⟨_, rfl⟩
    have BA : Below w4.heap.size w4 wA := by rw [hwA]; repeat (first | exact Below.refl _ _ | assumption | refine bel_setb ?_ (by first | exact Nat.le_refl _ | omega | (simp only [go_sem] <;> omega)) _ | refine Below.alloc ?_ (by first | exact Nat.le_refl _ | omega | (simp only [go_sem]; omega)) _ | refine Below.drew ?_)
    have zA : wA.heap.size = w4.heap.size + 1 := by rw [hwA]; simp only [go_sem]
    have rA : bk wA w4.heap.size = some (CB (stepC (at0 q) vq) T.impl_Step) := by rw [hwA]; exact bk_setb_eq _ _ _ _ rfl (by simp only [go_sem]; omega)
    have z3 := B3.size
    have B4 : Below w1.heap.size w1 wA := B3.trans (BA.mono (by omega))
    have h4 := h3.old BA
    rw [← hwA]
    clear hwA
    have fail2 : ∀ w', Below wA.heap.size wA w' → K (.bool false) w' := fun w' b => fail w' (B4.trans (b.mono (by omega)))
    have hvA := BS_old hqi BA (Nat.le_refl _)
    refine jn_with (fun t w' => SpF n h (at0 q) ∧ Below wA.heap.size wA w') ?_ ?_
    · rintro t e w5 ⟨sp, b5⟩
      have z5 := b5.size
      have r5 := (bel_bk b5 (by omega)).trans rA
      have hv5 := BS_old hvA b5 (Nat.le_refl _)
      have o5 := BS_one' hv5
      simp (disch := first | omega | (simp only [sZb, sZa, sZd] <;> omega) | (simp (disch := first | omega | (simp only [sZb, sZa, sZd] <;> omega) | fail) only [go_sem, r5, o5]; done) | fail) only [go_sem, dec_t, dec_f, w_u32, w_u64, w_u16, w_u8, w_i64, Int.reduceToNat, Int.reducePow, Nat.reducePow, r5, o5]
      refine do_one (s := at0 q) (h4.old b5) hn3 hl3 r3 (by omega) sp rfl hv5 1 fun w6 F6 c6 h6 t6 a6 => ?_
      obtain ⟨vn, va, vd, qq, y6, bm, lu⟩ := one_hnd h6
      simp (disch := first | omega | (simp only [sZb, sZa, sZd] <;> omega) | (simp (disch := first | omega | (simp only [sZb, sZa, sZd] <;> omega) | fail) only [go_sem, bm, lu]; done) | fail) only [go_sem, dec_t, dec_f, w_u32, w_u64, w_u16, w_u8, w_i64, Int.reduceToNat, Int.reducePow, Nat.reducePow, bm, lu]
      refine ⟨y6, F6, rfl, sp, h6, fun k hk' => ?_, (B4.trans (b5.mono (by omega))).trans (t6.kp.below (fun b hb e => by have := hU3 b (h4.sub b e); omega) (by omega))⟩
      by_cases hb : k < w5.heap.size
      · exact hU3 k ((t6.st k hb).2 hk')
      · omega
    · refine speaks_spec (s := at0 q) h4 ⟨pa, pn, epl⟩ (MB_one r3.nl) (HB_one hn3) fun w5 b5 => ?_
      have z5 := b5.size
      have r5 := (bel_bk b5 (by omega)).trans rA
      have hv5 := BS_old hvA b5 (Nat.le_refl _)
      have o5 := BS_one' hv5
      cases sb : (one n h).speaks (at0 q) with
      | false =>
        simp (disch := first | omega | (simp only [sZb, sZa, sZd] <;> omega) | (simp (disch := first | omega | (simp only [sZb, sZa, sZd] <;> omega) | fail) only [go_sem]; done) | fail) only [go_sem, dec_t, dec_f, w_u32, w_u64, w_u16, w_u8, w_i64, Int.reduceToNat, Int.reducePow, Nat.reducePow]
        exact fail2 _ b5
      | true =>
        simp (disch := first | omega | (simp only [sZb, sZa, sZd] <;> omega) | (simp (disch := first | omega | (simp only [sZb, sZa, sZd] <;> omega) | fail) only [go_sem, r5, o5]; done) | fail) only [go_sem, dec_t, dec_f, w_u32, w_u64, w_u16, w_u8, w_i64, Int.reduceToNat, Int.reducePow, Nat.reducePow, r5, o5]
        refine onFile_spec (s := at0 q) o5 fun w6 b6 => ?_
        have b56 := b5.trans (b6.mono (by omega))
        by_cases c0 : 12 ≤ q.op ∧ q.op ≤ 23
        · rw [show (decide (12 ≤ (at0 q).op ∧ (at0 q).op ≤ 23)) = true from decide_eq_true c0]
          simp (disch := first | omega | (simp only [sZb, sZa, sZd] <;> omega) | (simp (disch := first | omega | (simp only [sZb, sZa, sZd] <;> omega) | fail) only [go_sem]; done) | fail) only [go_sem, dec_t, dec_f, w_u32, w_u64, w_u16, w_u8, w_i64, Int.reduceToNat, Int.reducePow, Nat.reducePow]
          obtain ⟨d1, k1⟩ := speaks_one (s := at0 q) hn3 c0 rfl sb
          exact ⟨SpF_of (by rw [hn3]; rfl) r3.dn c0 d1 k1, b56⟩
        · rw [show (decide (12 ≤ (at0 q).op ∧ (at0 q).op ≤ 23)) = false from decide_eq_false c0]
          simp (disch := first | omega | (simp only [sZb, sZa, sZd] <;> omega) | (simp (disch := first | omega | (simp only [sZb, sZa, sZd] <;> omega) | fail) only [go_sem]; done) | fail) only [go_sem, dec_t, dec_f, w_u32, w_u64, w_u16, w_u8, w_i64, Int.reduceToNat, Int.reducePow, Nat.reducePow]
          exact fail2 _ b56
  · have e1 : i = qs.length := by omega
    subst e1
    simp (disch := first | omega | (simp only [sZb, sZa, sZd] <;> omega) | (simp (disch := first | omega | (simp only [sZb, sZa, sZd] <;> omega) | fail) only [go_sem]; done) | fail) only [go_sem, dec_t, dec_f, w_u32, w_u64, w_u16, w_u8, w_i64, Int.reduceToNat, Int.reducePow, Nat.reducePow]
    refine jn_with (fun _ _ => False) (fun _ _ _ h => h.elim) ?_
    rw [List.drop_length] at hr1 hok3
    have hr1' : x = (runX onX (fx0 data ro) qs).1 := hr1
    refine ⟨_, rfl, B3, hok3 trivial, ?_⟩
    rw [← hr1', r3.bytes]
    exact r3.len
end
end Go.Proofs.YteblpejgenehfaaDoor.X
end
section
namespace Go.Proofs.YteblpejgenehfaaDoor.X
open Go Go.X Go.Proofs Go.RowKit
theorem rowOf_sub {ob : Option Obj} {p n : Nat} {l : List Value} (h : rowOf ob p n = some l) {q k : Nat} (hq : q + k ≤ n) : rowOf ob (p + q) k = some ((l.drop q).take k) := by
  obtain ⟨c, t, fz, rfl, h2, h3⟩ := rowOf_inv h
  simp only [rowOf]
  rw [if_pos (by omega), ← h3]
  congr 1
  rw [List.drop_take, List.drop_drop, List.take_take, Nat.min_eq_left (by omega)]
theorem cellOf_sub {ob : Option Obj} {p n : Nat} {l : List Value} (h : rowOf ob p n = some l) {q : Nat} (hq : q < n) : cellOf ob (p + q) = l[q]? := by
  obtain ⟨c, t, fz, rfl, h2, h3⟩ := rowOf_inv h
  simp only [cellOf]
  rw [← h3, List.getElem?_take_of_lt hq, List.getElem?_drop, Array.getElem?_toList]
theorem flat_at {α : Type} (f : α → List Value) (k : Nat) : ∀ (l : List α) (i : Nat) (h : i < l.length), (∀ x, (f x).length = k) → (((l.map f).flatten).drop (i * k)).take k = f l[i]
  | x :: l, 0, _, hf => by
    simp only [List.map_cons, List.flatten_cons, Nat.zero_mul, List.drop_zero, List.getElem_cons_zero]
    rw [List.take_append_of_le_length (by rw [hf]; omega), List.take_of_length_le (by rw [hf]; omega)]
  | x :: l, i + 1, h, hf => by
    simp only [List.map_cons, List.flatten_cons, List.getElem_cons_succ]
    rw [List.drop_append, List.drop_of_length_le (by rw [hf, Nat.succ_mul]; omega), List.nil_append, hf, show (i + 1) * k - k = i * k by rw [Nat.succ_mul]; omega]
    exact flat_at f k l i (by simpa using h) hf
theorem flat_len {α : Type} (f : α → List Value) (k : Nat) (hf : ∀ x, (f x).length = k) : ∀ l : List α, ((l.map f).flatten).length = l.length * k
  | [] => by simp
  | x :: l => by
    simp only [List.map_cons, List.flatten_cons, List.length_append, List.length_cons, hf, flat_len f k hf l, Nat.succ_mul]
    omega
section
variable {w w' : World} {K : Value → World → Prop}
theorem names_idx {y : Value} {l : List Str} (h : RowS w y l.length (l.map S)) {i : Nat} (hi : i < l.length) : ∃ b o, cellOf (bk w b) o = some (S l[i]) ∧ ∀ M : Value → Prop, pu P (oIdxA T.sl_string y (.int .i64 i)) M = M (pt b o) := by
  rcases h with ⟨b, o, c, rfl, hr⟩ | ⟨h0, _⟩
  · rw [List.length_map] at hr
    refine ⟨b, o + i, ?_, fun M => ?_⟩
    · rw [cellOf_sub hr hi]
      simp [hi]
    · rw [oIdxA_sl (size := 1) M U.sl_string (by kernel_rfl) (by omega) (by omega), Int.toNat_natCast, Nat.mul_one]
  · omega
theorem infos_idx {z : Value} {l : List SM.Info} (h : RowS w z l.length (infosC l)) {i : Nat} (hi : i < l.length) : ∃ b o, rowOf (bk w b) o 5 = some (infoC l[i]) ∧ ∀ M : Value → Prop, pu P (oIdxA T.sl_impl_Info z (.int .i64 i)) M = M (pt b o) := by
  rcases h with ⟨b, o, c, rfl, hr⟩ | ⟨h0, _⟩
  · have e : (infosC l).length = l.length * 5 := flat_len infoC 5 (fun _ => rfl) l
    rw [e] at hr
    refine ⟨b, o + i * 5, ?_, fun M => ?_⟩
    · rw [rowOf_sub hr (by omega)]
      exact congrArg some (flat_at infoC 5 l i hi fun _ => rfl)
    · rw [oIdxA_sl (size := 5) M U.sl_impl_Info (by kernel_rfl) (by omega) (by omega), Int.toNat_natCast]
  · omega
set_option maxHeartbeats 4000000 in
theorem same_eq {a : SM.Ans} {c c' : List Value} {lo lo' : Nat} {N N' : Nat → Prop} (h1 : AnsN w lo N a c) (h2 : AnsN w lo' N' a c') (hn : a.names.length ≤ 1000000000000) (hi : a.infos.length ≤ 1000000000000) (hk : ∀ w', Below w.heap.size w w' → K (.bool true) w') : Cl P Fn.spec_SameAnswer #[AG c, AG c'] w K := by
  apply S_spec_SameAnswer
  unfold F_spec_SameAnswer
  obtain ⟨x, y, z, rfl, hx, hy, hz, _⟩ := h1
  obtain ⟨x', y', z', rfl, hx', hy', hz', _⟩ := h2
  obtain ⟨p1, c1, ex⟩ := BS_slice hx
  obtain ⟨p2, c2, ey⟩ := RowS_slice hy
  obtain ⟨p3, c3, ez⟩ := RowS_slice hz
  obtain ⟨q1, d1, ex'⟩ := BS_slice hx'
  obtain ⟨q2, d2, ey'⟩ := RowS_slice hy'
  obtain ⟨q3, d3, ez'⟩ := RowS_slice hz'
  rw [oBox_agg, oBox_agg]
  obtain ⟨W, eW⟩ : ∃ W, W = (w.alloc (CB (answC a x y z) T.impl_Answer)).alloc (CB (answC a x' y' z') T.impl_Answer) := ⟨_, rfl⟩
  have zW : (w.alloc (CB (answC a x y z) T.impl_Answer)).heap.size = w.heap.size + 1 := by simp only [go_sem]
  have BW : Below w.heap.size w W := by rw [eW]; repeat (first | exact Below.refl _ _ | assumption | refine bel_setb ?_ (by first | exact Nat.le_refl _ | omega | (simp only [go_sem] <;> omega)) _ | refine Below.alloc ?_ (by first | exact Nat.le_refl _ | omega | (simp only [go_sem]; omega)) _ | refine Below.drew ?_)
  have l0 : bk W w.heap.size = some (CB (answC a x y z) T.impl_Answer) := by rw [eW, bk_alloc_ne _ _ _ (by rw [zW]; omega)]; exact bk_alloc_eq _ _ _ rfl
  have l1 : bk W (w.heap.size + 1) = some (CB (answC a x' y' z') T.impl_Answer) := by rw [eW]; exact bk_alloc_eq _ _ _ zW.symm
  rw [← eW, zW]
  clear eW
  have fin := hk W BW
  have cx : ∀ L : Value → World → Prop, st P (oConv T.sl_uint8 T.string x) W L = L (S a.data) W := fun L => stConvBS U.string U.sl_uint8 U.uint8 (BS_old hx BW (Nat.le_refl _))
  have cx' : ∀ L : Value → World → Prop, st P (oConv T.sl_uint8 T.string x') W L = L (S a.data) W := fun L => stConvBS U.string U.sl_uint8 U.uint8 (BS_old hx' BW (Nat.le_refl _))
  have ey1 := hy.old BW
  have ey1' := hy'.old BW
  have ez1 := hz.old BW
  have ez1' := hz'.old BW
  rw [ex] at l0 cx
  rw [ex'] at l1 cx'
  have nd : decide (a.data ≠ a.data) = false := decide_eq_false fun h => h rfl
  have ns : ∀ l : Str, decide (l ≠ l) = false := fun l => decide_eq_false fun h => h rfl
  rw [ey, ez] at l0
  rw [ey', ez'] at l1
  have lW := bk_lt l1
  refine jn_with (fun t w' => w' = W) ?_ ?_
  · rintro t e w3 rfl
    refine jn_with (fun t w' => Below w3.heap.size w3 w') ?_ ?_
    · rintro t e w4 b4
      refine jn_with (fun t w' => Below w3.heap.size w3 w') ?_ ?_
      · rintro t e w5 b5
        exact hk w5 (BW.trans (b5.mono BW.size))
      · have m0 := (bel_bk b4 (by omega)).trans l0
        simp (disch := first | omega | (simp only [sZb, sZa, sZd] <;> omega) | (simp (disch := first | omega | (simp only [sZb, sZa, sZd] <;> omega) | fail) only [go_sem, m0]; done) | fail) only [go_sem, dec_t, dec_f, w_u32, w_u64, w_u16, w_u8, w_i64, Int.reduceToNat, Int.reducePow, Nat.reducePow, m0]
        refine lp_intro (fun t w' => Below w3.heap.size w3 w' ∧ ∃ i : Nat, t = [.int .i64 i] ∧ i ≤ a.infos.length) (fun t _ => a.infos.length - (RowKit.intOf (gs t 0)).toNat) ⟨b4, 0, rfl, Nat.zero_le _⟩ ?_
        rintro t e w6 ⟨b6, i, rfl, hi'⟩
        by_cases g : (i : Int) < a.infos.length
        · have hix : i < a.infos.length := by omega
          have k0 := (bel_bk b6 (by omega)).trans l0
          have k1 := (bel_bk b6 (by omega)).trans l1
          obtain ⟨b, o, r1, x1⟩ := infos_idx (ez1.old b6) hix
          obtain ⟨b', o', r2, x2⟩ := infos_idx (ez1'.old b6) hix
          rw [ez] at x1
          rw [ez'] at x2
          generalize a.infos[i] = f at *
          simp (disch := first | omega | (simp only [sZb, sZa, sZd] <;> omega) | (simp (disch := first | omega | (simp only [sZb, sZa, sZd] <;> omega) | fail) only [go_sem]; done) | fail) only [go_sem, dec_t, dec_f, w_u32, w_u64, w_u16, w_u8, w_i64, Int.reduceToNat, Int.reducePow, Nat.reducePow]
          refine jn_with (fun t w' => t = [] ∧ w' = w6) ?_ ⟨rfl, rfl⟩
          rintro t e w7 ⟨rfl, rfl⟩
          refine jn_with (fun t w' => t = [] ∧ Below w3.heap.size w3 w') ?_ ?_
          · rintro t e w8 ⟨rfl, b8⟩
            refine ⟨⟨b8, i + 1, rfl, by omega⟩, ?_⟩
            simp only [RowKit.intOf, gs0]
            omega
          · simp (disch := first | omega | (simp only [sZb, sZa, sZd] <;> omega) | (simp (disch := first | omega | (simp only [sZb, sZa, sZd] <;> omega) | fail) only [go_sem, k0, k1, x1, x2, r1, r2, ns]; done) | fail) only [go_sem, dec_t, dec_f, w_u32, w_u64, w_u16, w_u8, w_i64, Int.reduceToNat, Int.reducePow, Nat.reducePow, k0, k1, x1, x2, r1, r2, ns]
            exact ⟨trivial, by repeat (first | exact Below.refl _ _ | assumption | refine bel_setb ?_ (by first | exact Nat.le_refl _ | omega | (simp only [go_sem] <;> omega)) _ | refine Below.alloc ?_ (by first | exact Nat.le_refl _ | omega | (simp only [go_sem]; omega)) _ | refine Below.drew ?_)⟩
        · simp (disch := first | omega | (simp only [sZb, sZa, sZd] <;> omega) | (simp (disch := first | omega | (simp only [sZb, sZa, sZd] <;> omega) | fail) only [go_sem]; done) | fail) only [go_sem, dec_t, dec_f, w_u32, w_u64, w_u16, w_u8, w_i64, Int.reduceToNat, Int.reducePow, Nat.reducePow]
          exact jn_with (fun _ _ => False) (fun _ _ _ h => h.elim) b6
    · simp (disch := first | omega | (simp only [sZb, sZa, sZd] <;> omega) | (simp (disch := first | omega | (simp only [sZb, sZa, sZd] <;> omega) | fail) only [go_sem, l0]; done) | fail) only [go_sem, dec_t, dec_f, w_u32, w_u64, w_u16, w_u8, w_i64, Int.reduceToNat, Int.reducePow, Nat.reducePow, l0]
      refine lp_intro (fun t w' => Below w3.heap.size w3 w' ∧ ∃ i : Nat, t = [.int .i64 i] ∧ i ≤ a.names.length) (fun t _ => a.names.length - (RowKit.intOf (gs t 0)).toNat) ⟨Below.refl _ _, 0, rfl, Nat.zero_le _⟩ ?_
      rintro t e w6 ⟨b6, i, rfl, hi'⟩
      by_cases g : (i : Int) < a.names.length
      · have hix : i < a.names.length := by omega
        have k0 := (bel_bk b6 (by omega)).trans l0
        have k1 := (bel_bk b6 (by omega)).trans l1
        obtain ⟨b, o, r1, x1⟩ := names_idx (ey1.old b6) hix
        obtain ⟨b', o', r2, x2⟩ := names_idx (ey1'.old b6) hix
        rw [ey] at x1
        rw [ey'] at x2
        generalize a.names[i] = f at *
        simp (disch := first | omega | (simp only [sZb, sZa, sZd] <;> omega) | (simp (disch := first | omega | (simp only [sZb, sZa, sZd] <;> omega) | fail) only [go_sem]; done) | fail) only [go_sem, dec_t, dec_f, w_u32, w_u64, w_u16, w_u8, w_i64, Int.reduceToNat, Int.reducePow, Nat.reducePow]
        refine jn_with (fun t w' => t = [] ∧ w' = w6) ?_ ⟨rfl, rfl⟩
        rintro t e w7 ⟨rfl, rfl⟩
        refine jn_with (fun t w' => t = [] ∧ Below w3.heap.size w3 w') ?_ ?_
        · rintro t e w8 ⟨rfl, b8⟩
          refine ⟨⟨b8, i + 1, rfl, by omega⟩, ?_⟩
          simp only [RowKit.intOf, gs0]
          omega
        · simp (disch := first | omega | (simp only [sZb, sZa, sZd] <;> omega) | (simp (disch := first | omega | (simp only [sZb, sZa, sZd] <;> omega) | fail) only [go_sem, k0, k1, x1, x2, r1, r2, ns]; done) | fail) only [go_sem, dec_t, dec_f, w_u32, w_u64, w_u16, w_u8, w_i64, Int.reduceToNat, Int.reducePow, Nat.reducePow, k0, k1, x1, x2, r1, r2, ns]
          exact ⟨trivial, by repeat (first | exact Below.refl _ _ | assumption | refine bel_setb ?_ (by first | exact Nat.le_refl _ | omega | (simp only [go_sem] <;> omega)) _ | refine Below.alloc ?_ (by first | exact Nat.le_refl _ | omega | (simp only [go_sem]; omega)) _ | refine Below.drew ?_)⟩
      · simp (disch := first | omega | (simp only [sZb, sZa, sZd] <;> omega) | (simp (disch := first | omega | (simp only [sZb, sZa, sZd] <;> omega) | fail) only [go_sem]; done) | fail) only [go_sem, dec_t, dec_f, w_u32, w_u64, w_u16, w_u8, w_i64, Int.reduceToNat, Int.reducePow, Nat.reducePow]
        exact jn_with (fun _ _ => False) (fun _ _ _ h => h.elim) b6
  · simp (disch := first | omega | (simp only [sZb, sZa, sZd] <;> omega) | (simp (disch := first | omega | (simp only [sZb, sZa, sZd] <;> omega) | fail) only [go_sem, l0, l1, cx, cx', nd]; done) | fail) only [go_sem, dec_t, dec_f, w_u32, w_u64, w_u16, w_u8, w_i64, Int.reduceToNat, Int.reducePow, Nat.reducePow, l0, l1, cx, cx', nd]
theorem AnsAt.idx {lo B n cap : Nat} {N : Nat → Prop} {az : List SM.Ans} {cs : List (List Value)} {a : Option Addr} (h : AnsAt w lo N az cs) (o : w.ownsRow B T.impl_Answer 6 (.slice a n cap) n (List.flatten cs)) (hn : az.length = n) {i : Nat} (hi : i < n) :
    ∃ b p, rowOf (bk w b) p 6 = some (cs[i]'(by rw [h.1, hn]; exact hi)) ∧ ∀ M : Value → Prop, pu P (oIdxA T.sl_impl_Answer (.slice a n cap) (.int .i64 i)) M = M (pt b p) := by
  have hc : ∀ c ∈ cs, c.length = 6 := fun c hc => by
    obtain ⟨j, hj, rfl⟩ := List.getElem_of_mem hc
    exact (ans_oneCells (h.2 j hj (by rw [← h.1]; exact hj))).1
  have hl : cs.length = n := by rw [h.1, hn]
  obtain ⟨b, cap', cur, e, h1, h2, h3, h4, h5, h6⟩ := own_row o (by omega)
  injection e with e1 e2 e3
  subst e1 e3
  have fl : ∀ (l : List (List Value)) (j : Nat) (hj : j < l.length), (∀ c ∈ l, c.length = 6) → (l.flatten.drop (j * 6)).take 6 = l[j] := fun l => by
    induction l with
    | nil => intro j hj; exact absurd hj (by simp)
    | cons c l ih =>
      intro j hj hh
      have hc0 := hh c (List.mem_cons_self ..)
      cases j with
      | zero =>
        simp only [List.flatten_cons, Nat.zero_mul, List.drop_zero, List.getElem_cons_zero]
        rw [List.take_append_of_le_length (by omega), List.take_of_length_le (by omega)]
      | succ j =>
        simp only [List.flatten_cons, List.getElem_cons_succ]
        rw [List.drop_append, List.drop_of_length_le (by omega), List.nil_append, hc0, show (j + 1) * 6 - 6 = j * 6 by omega]
        exact ih j (by simpa using hj) fun c hc => hh c (List.mem_cons_of_mem _ hc)
  refine ⟨b, i * 6, ?_, fun M => ?_⟩
  · rw [h4, rowOf_CB _ _ _ _ (by omega)]
    congr 1
    rw [← fl cs i (by omega) hc, ← h6, List.drop_take, List.take_take, Nat.min_eq_left (by omega)]
  · show pu P (oIdxA T.sl_impl_Answer (sl b 0 n cap) (.int .i64 i)) M = _
    rw [oIdxA_sl (size := 6) M U.sl_impl_Answer (by kernel_rfl) (by omega) (by omega), Int.toNat_natCast, Nat.zero_add]
end
end Go.Proofs.YteblpejgenehfaaDoor.X
end
section
namespace Go.Proofs.YteblpejgenehfaaDoor.X
open Go Go.X Go.Proofs Go.RowKit Go.WideShapes
def IntsAt (w : World) (v : Value) (l : List Int) : Prop := (l = [] ∧ ∃ a cap, v = .slice a 0 cap) ∨ ∃ b o cap, v = sl b o l.length cap ∧ b < w.heap.size ∧ ∀ i (hi : i < l.length), cellOf (bk w b) (o + i) = some (.int .i64 l[i])
theorem IntsAt.slice {w : World} {v : Value} {l : List Int} (h : IntsAt w v l) : ∃ a cap, v = .slice a l.length cap := by
  rcases h with ⟨rfl, a, cap, rfl⟩ | ⟨b, o, cap, rfl, _⟩
  · exact ⟨a, cap, rfl⟩
  · exact ⟨_, cap, rfl⟩
theorem IntsAt.at_ {w : World} {v : Value} {l : List Int} (h : IntsAt w v l) {tB tE : TypeId} (h2 : P.underlying tB = some (.slice tE)) (hs : (P.info? tE).map (·.size) = some 1) {i : Nat} (hi : i < l.length) :
    ∃ b o cap, v = sl b o l.length cap ∧ cellOf (bk w b) (o + i) = some (.int .i64 l[i]) ∧ ∀ (L : Value → Prop), pu P (oIdxA tB (sl b o l.length cap) (.int .i64 i)) L = L (pt b (o + i)) := by
  rcases h with ⟨rfl, _⟩ | ⟨b, o, cap, rfl, _, h3⟩
  · exact absurd hi (by simp)
  · refine ⟨b, o, cap, rfl, h3 i hi, fun L => ?_⟩
    rw [oIdxA_sl (size := 1) L h2 hs (by omega) (by omega)]
    rw [Int.toNat_natCast, Nat.mul_one]
theorem own_steps {w : World} {B n : Nat} {sv : Value} {qs : List SM.Stp} {vs : List Value} (o : w.ownsRow B T.impl_Step 10 sv n ((List.zipWith stepC qs vs).flatten)) (hn : qs.length = n) (hv : vs.length = n) (hb : ∀ i (h1 : i < qs.length) (h2 : i < vs.length), BS w vs[i] qs[i].data) : StepsAt w sv qs vs := by
  refine ⟨by omega, hb, ?_⟩
  by_cases hn0 : n = 0
  · subst hn0
    obtain ⟨a, cap, rfl⟩ := own_slice o
    exact .inl ⟨List.length_eq_zero_iff.1 hn, a, cap, rfl⟩
  · obtain ⟨b, cap, cur, rfl, h1, h2, h3, h4, h5, h6⟩ := own_row o hn0
    refine .inr ⟨b, 0, cap, by rw [hn], h3, fun i g1 g2 => ?_⟩
    have fl : ∀ (qs : List SM.Stp) (vs : List Value) (j : Nat) (hj : j < qs.length) (hk : j < vs.length), ((List.zipWith stepC qs vs).flatten.drop (j * 10)).take 10 = stepC qs[j] vs[j] := fun qs => by
      induction qs with
      | nil => intro vs j hj; exact absurd hj (by simp)
      | cons q qs ih =>
        intro vs j hj hk
        cases vs with
        | nil => exact absurd hk (by simp)
        | cons v vs =>
          cases j with
          | zero =>
            simp only [List.zipWith_cons_cons, List.flatten_cons, Nat.zero_mul, List.drop_zero, List.getElem_cons_zero]
            rw [List.take_append_of_le_length (by simp), List.take_of_length_le (by simp)]
          | succ j =>
            simp only [List.zipWith_cons_cons, List.flatten_cons, List.getElem_cons_succ]
            rw [List.drop_append, List.drop_of_length_le (by simp; omega), List.nil_append, show (stepC q v).length = 10 from rfl, show (j + 1) * 10 - 10 = j * 10 by omega]
            exact ih vs j (by simpa using hj) (by simpa using hk)
    rw [h4, rowOf_CB _ _ _ _ (by omega), Nat.zero_add, ← fl qs vs i g1 g2, ← h6, List.drop_take, List.take_take, Nat.min_eq_left (by omega)]
theorem step_put {w : World} {L : Value → World → Prop} {B n : Nat} {sv : Value} {xs : List Value} (o : w.ownsRow B T.impl_Step 10 sv n xs) (hn : n ≤ 1000000) (hB : B ≤ w.heap.size) {q : SM.Stp} {v : Value} (hv : BS w v q.data)
    (hk : ∀ sv' w', w'.ownsRow B T.impl_Step 10 sv' (n + 1) (xs ++ stepC q v) → Below B w w' → (∀ k, sv'.ownBlock = some k → sv.ownBlock = some k ∨ w.heap.size ≤ k) → Kp w w' (fun k => sv.ownBlock = some k) → L sv' w') :
    st P (oBuildSlice T.sl_impl_Step 1 #[(0, AG (stepC q v))]) w fun t w1 => st P (oBuiltin .append #[T.sl_impl_Step, T.sl_impl_Step] T.sl_impl_Step #[false, false] #[sv, t]) w1 L := by
  obtain ⟨a, c, rfl⟩ := BS_slice hv
  rw [oBuildSliceN (size := 10) (z := AG (stepC ⟨0, [], [], 0, 0, 0, [], 0, 0, 0⟩ (.slice none 0 0))) _ _ U.sl_impl_Step (by kernel_rfl) (by omega) (by omega) (l := stepC q (.slice a q.data.length c)) rfl]
  have B1 : Below w.heap.size w (w.alloc (CB (stepC q (.slice a q.data.length c)) T.impl_Step)) := by repeat (first | exact Below.refl _ _ | assumption | refine bel_setb ?_ (by first | exact Nat.le_refl _ | omega | (simp only [go_sem] <;> omega)) _ | refine Below.alloc ?_ (by first | exact Nat.le_refl _ | omega | (simp only [go_sem]; omega)) _ | refine Below.drew ?_)
  have r1 : bk (w.alloc (CB (stepC q (.slice a q.data.length c)) T.impl_Step)) w.heap.size = some (CB (stepC q (.slice a q.data.length c)) T.impl_Step) := bk_alloc_eq _ _ _ rfl
  have z1 : (w.alloc (CB (stepC q (.slice a q.data.length c)) T.impl_Step)).heap.size = w.heap.size + 1 := by simp only [go_sem]
  generalize w.alloc (CB (stepC q (.slice a q.data.length c)) T.impl_Step) = w1 at *
  have o1 := own_old o B1 (Nat.le_refl _)
  have lo := own_lt o1
  refine oAppendR (size := 10) (bytes := 112) (z := AG (stepC ⟨0, [], [], 0, 0, 0, [], 0, 0, 0⟩ (.slice none 0 0))) (m := 1) (news := stepC q (.slice a q.data.length c)) U.sl_impl_Step (by kernel_rfl) rfl (by omega) o1 (.inl ⟨_, _, _, rfl, by rw [r1]; rfl⟩) rfl (fun u hu => ?_) (by simp only [maxLen]; omega) (by omega) (by omega) fun sv' w2 o2 g2 l2 => ?_
  · simp only [List.mem_cons, List.not_mem_nil, or_false] at hu
    rcases hu with rfl | rfl | rfl | rfl | rfl | rfl | rfl | rfl | rfl | rfl <;> rfl
  have K2 := Kp.of_grown g2
  have z2 := K2.size
  refine hk sv' w2 o2 ((B1.mono hB).trans (K2.below (fun k hk e => by have := (lo k e).1; omega) (by omega))) (fun k hk => ?_) ((Kp.of_below B1 _).trans K2 fun _ _ h => h)
  rcases l2 with h | h
  · exact .inl (by rw [← h]; exact hk)
  · rw [hk] at h; injection h with h; exact .inr (by omega)
end Go.Proofs.YteblpejgenehfaaDoor.X
end
section
namespace Go.X
open Go Go.RowKit Go.ChangeShapes
end Go.X
end
section
namespace Go.Proofs.YteblpejgenehfaaDoor.X
open Go Go.X Go.Proofs Go.RowKit Go.ChangeShapes
theorem star : ("*" : String) ++ "errors.errorString" = "*errors.errorString" := by decide
theorem errRow (u : TypeId) (h : P.typeName? 3 u = some "*errors.errorString") : u = T.p_errors_errorString :=
  typeName_ptr_named (nm := "errors.errorString") (by rw [star]; kernel_rfl) (by kernel_rfl) (by decide) u (by rw [star]; exact h)
abbrev senL : List (Nat × String × List UInt8) := [(G.os_ErrExist, "pub-marram/pub/afero/inner/os.ErrExist", [102, 105, 108, 101, 32, 97, 108, 114, 101, 97, 100, 121, 32, 101, 120, 105, 115, 116, 115]), (G.os_ErrNotExist, "pub-marram/pub/afero/inner/os.ErrNotExist", [102, 105, 108, 101, 32, 100, 111, 101, 115, 32, 110, 111, 116, 32, 101, 120, 105, 115, 116]), (G.os_ENOENT, "pub-marram/pub/afero/inner/os.ENOENT", [110, 111, 32, 115, 117, 99, 104, 32, 102, 105, 108, 101, 32, 111, 114, 32, 100, 105, 114, 101, 99, 116, 111, 114, 121]), (G.os_ENOTDIR, "pub-marram/pub/afero/inner/os.ENOTDIR", [110, 111, 116, 32, 97, 32, 100, 105, 114, 101, 99, 116, 111, 114, 121]), (G.os_EPERM, "pub-marram/pub/afero/inner/os.EPERM", [111, 112, 101, 114, 97, 116, 105, 111, 110, 32, 110, 111, 116, 32, 112, 101, 114, 109, 105, 116, 116, 101, 100]), (G.os_EIO, "pub-marram/pub/afero/inner/os.EIO", [105, 110, 112, 117, 116, 47, 111, 117, 116, 112, 117, 116, 32, 101, 114, 114, 111, 114]), (G.os_EBADFD, "pub-marram/pub/afero/inner/os.EBADFD", [102, 105, 108, 101, 32, 100, 101, 115, 99, 114, 105, 112, 116, 111, 114, 32, 105, 110, 32, 98, 97, 100, 32, 115, 116, 97, 116, 101]), (G.io_EOF, "io.EOF", [69, 79, 70]), (G.io_ErrUnexpectedEOF, "io.ErrUnexpectedEOF", [117, 110, 101, 120, 112, 101, 99, 116, 101, 100, 32, 69, 79, 70]), (G.mem_ErrFileClosed, "pub-marram/pub/afero/mem.ErrFileClosed", [70, 105, 108, 101, 32, 105, 115, 32, 99, 108, 111, 115, 101, 100]), (G.mem_ErrOutOfRange, "pub-marram/pub/afero/mem.ErrOutOfRange", [111, 117, 116, 32, 111, 102, 32, 114, 97, 110, 103, 101])]
abbrev senD (x : Nat × String × List UInt8) : String × DataW Unit := (x.2.1, .iface "*errors.errorString" (.ptr (.agg [.lit (.string x.2.2)])))
theorem sents_of {W : World} : ∀ (l : List (Nat × String × List UInt8)) (ps : List MemPlace), (∀ x ∈ l, P.globalNamed x.2.1 = some x.1 ∧ (P.globals[x.1]?).map (·.type) = some T.error) → DataW.LaidVars P W (l.map senD) ps → ps.Nodup →
    (∀ b off, MemPlace.cell b off ∈ ps → (∃ c t, W.heap[b]? = some (.cells c t (0, 0))) ∧ ∀ u v, W.cell? ⟨b, off, none⟩ = some (.iface u v) → Value.okWide P W .any 0 u v) →
    ∃ aa : List (Nat × Nat), aa.length = l.length ∧ aa.Nodup ∧ (∀ a ∈ aa, MemPlace.cell a.1 a.2 ∈ ps ∧ ∃ c t, bk W a.1 = some (CB c t)) ∧ ∀ i (h1 : i < l.length) (h2 : i < aa.length), ∃ tt, bk W l[i].1 = some (CB [er aa[i]] tt)
  | [], ps, _, _, _, _ => ⟨[], rfl, List.nodup_nil, fun a h => (by cases h), fun i h1 => absurd h1 (by simp)⟩
  | x :: r, ps, hx, hv, hn, hr => by
    obtain ⟨n, nm, tx⟩ := x
    obtain ⟨g0, t0, cs0, f0, p0, q0, hg0, ht0, hv0, hd0, hq, rfl⟩ := hv
    have hx0 := hx _ (List.mem_cons_self ..)
    obtain rfl := Option.some.inj (hx0.1.symm.trans hg0)
    obtain rfl := Option.some.inj (hx0.2.symm.trans ht0)
    obtain ⟨l0⟩ := cs0
    have ok0 : ∀ u v, l0 = [.iface u v] → Value.okWide P W .any 0 u v := fun u v e => by
      subst e
      exact (hr n 0 (by simp [MemPlace.row])).2 u v (by simpa using World.var?_cell hg0 hv0 0)
    obtain ⟨a, s, rfl, hc, hs, hz, rfl⟩ := errorString_of_trod Tryd.underlying99 errRow U.p_errors_errorString Tryd.underlying153 rfl rfl U.string (by kernel_rfl) (by kernel_rfl) hd0 ok0
    have hspot : a.spot = none := by
      unfold World.cell? at hc
      split at hc
      · cases h : a.spot with
        | none => rfl
        | some s => rw [h] at hc; simp at hc
      · cases hc
    obtain ⟨b, o, sp⟩ := a
    simp only at hspot
    subst hspot
    have hrow1 : MemPlace.row ⟨b, o, none⟩ 1 = [MemPlace.cell b o] := by simp [MemPlace.row]
    have mem1 : MemPlace.cell b o ∈ MemPlace.row ⟨n, 0, none⟩ (#[Value.iface T.p_errors_errorString (pt b o)] : Array Value).size ++ MemPlace.row ⟨b, o, none⟩ 1 ++ q0 := List.mem_append_left _ (List.mem_append_right _ (by rw [hrow1]; exact List.mem_cons_self ..))
    have mem0 : MemPlace.cell n 0 ∈ MemPlace.row ⟨n, 0, none⟩ (#[Value.iface T.p_errors_errorString (pt b o)] : Array Value).size ++ MemPlace.row ⟨b, o, none⟩ 1 ++ q0 := List.mem_append_left _ (List.mem_append_left _ (by simp [MemPlace.row]))
    obtain ⟨⟨c1, tt1, hb1⟩, _⟩ := hr b o mem1
    obtain ⟨⟨c0, tt0, hb0⟩, _⟩ := hr n 0 mem0
    obtain ⟨aa, e1, e2, e3, e4⟩ := sents_of r q0 (fun y hy => hx y (List.mem_cons_of_mem _ hy)) hq (List.nodup_append.1 hn).2.1 fun b off hm => hr b off (List.mem_append_right _ hm)
    refine ⟨(b, o) :: aa, by simp [e1], List.nodup_cons.2 ⟨fun hm => ?_, e2⟩, fun a ha => ?_, fun i h1 h2 => ?_⟩
    · exact (List.nodup_append.1 hn).2.2 _ (List.mem_append_right _ (by rw [hrow1]; exact List.mem_cons_self ..)) _ (e3 _ hm).1 rfl
    · rcases List.mem_cons.1 ha with rfl | ha
      · exact ⟨mem1, c1.toList, tt1, hb1⟩
      · exact ⟨List.mem_append_right _ (e3 a ha).1, (e3 a ha).2⟩
    · cases i with
      | zero =>
        refine ⟨tt0, ?_⟩
        have e : W.var? P nm = some #[.iface T.p_errors_errorString (pt b o)] := hv0
        simp only [World.var?, hg0, Option.bind_some, hb0] at e
        injection e with e
        subst e
        exact hb0
      | succ i => exact e4 i (by simpa using h1) (by simpa using h2)
theorem sn_of {W : World} (h : laidMet P (senL.map senD) W) : ∃ m, Sn W W.heap.size m := by
  obtain ⟨ps, hv, hn, hr⟩ := h
  have hx : ∀ x ∈ senL, P.globalNamed x.2.1 = some x.1 ∧ (P.globals[x.1]?).map (·.type) = some T.error := by
    have : (senL.all fun x => P.globalNamed x.2.1 == some x.1 && (P.globals[x.1]?).map (·.type) == some T.error) = true := by kernel_rfl
    intro x hx
    have := List.all_eq_true.1 this x hx
    simpa using this
  obtain ⟨aa, e1, e2, e3, e4⟩ := sents_of senL ps hx hv hn hr
  have hs : ∀ g ∈ sents, ∃ i, i < 11 ∧ (senL.map (·.1))[i]? = some g ∧ (senL.map (·.1)).idxOf g = i := by decide
  refine ⟨fun g => aa.getD ((senL.map (·.1)).idxOf g) (0, 0), fun g hg => ?_, fun g hg => ?_, fun g hg g' hg' e => ?_⟩
  · obtain ⟨i, hi, h1, h2⟩ := hs g hg
    obtain ⟨tt, h3⟩ := e4 i (by simpa using hi) (by rw [e1]; simpa using hi)
    rw [h2]
    have h4 : senL[i]'(by simpa using hi) = senL[i]'(by simpa using hi) := rfl
    have h5 : (senL[i]'(by simpa using hi)).1 = g := by
      rw [List.getElem?_map, List.getElem?_eq_getElem (by simpa using hi)] at h1
      exact Option.some.inj h1
    rw [h5] at h3
    have h6 : aa.getD i (0, 0) = aa[i]'(by rw [e1]; simpa using hi) := by simp [List.getD, show i < aa.length by rw [e1]; simpa using hi]
    rw [h6]
    exact ⟨bk_lt h3, tt, h3⟩
  · obtain ⟨i, hi, h1, h2⟩ := hs g hg
    rw [h2]
    have h6 : aa.getD i (0, 0) = aa[i]'(by rw [e1]; simpa using hi) := by simp [List.getD, show i < aa.length by rw [e1]; simpa using hi]
    rw [h6]
    obtain ⟨_, c, t, h7⟩ := e3 _ (List.getElem_mem (by rw [e1]; simpa using hi : i < aa.length))
    exact ⟨bk_lt h7, c, t, h7⟩
  · obtain ⟨i, hi, h1, h2⟩ := hs g hg
    obtain ⟨i', hi', h1', h2'⟩ := hs g' hg'
    simp only [h2, h2'] at e
    have h6 : aa.getD i (0, 0) = aa[i]'(by rw [e1]; simpa using hi) := by simp [List.getD, show i < aa.length by rw [e1]; simpa using hi]
    have h6' : aa.getD i' (0, 0) = aa[i']'(by rw [e1]; simpa using hi') := by simp [List.getD, show i' < aa.length by rw [e1]; simpa using hi']
    rw [h6, h6'] at e
    have := (List.getElem_inj e2).1 e
    subst this
    rw [h1] at h1'
    exact Option.some.inj h1'
end Go.Proofs.YteblpejgenehfaaDoor.X
end
