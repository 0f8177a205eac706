/- What the claim needs of the texts on it, laid together. No condition. -/
import Derived.Test.YteblpejgenehfaaDoorZUnionScript4
import Derived.ChangeArms
import Derived.LaidMore
import Derived.OpenShut
import Derived.Stop.LaidErr
set_option linter.unusedVariables false
set_option linter.unusedSimpArgs false
set_option maxRecDepth 100000
section
namespace Go.Proofs.YteblpejgenehfaaDoor.X
open Go Go.X Go.Proofs Go.RowKit
abbrev at0 (s : SM.Stp) : SM.Stp := { s with h := 0 }
theorem wovS_at0 (x : FX × FX) (s : SM.Stp) : wovS x (at0 s) = wovS x s := rfl
theorem fileN_listed (n : SM.Node) (h : SM.Hnd) (s : SM.Stp) : (fileN n h s).2.1.listed = h.listed := by
  unfold fileN
  repeat' apply iteP (Q := fun r : SM.Node × SM.Hnd × SM.Ans => r.2.1.listed = h.listed)
  all_goals first | rfl | (by_cases c : s.op = 15 <;> simp [c])
section
variable {c : Int} {n : SM.Node} {h : SM.Hnd} {s : SM.Stp} {x : FX} {u : U4}
theorem DoOk_one (hn : h.node = 1) (hl : h.listed = 0) (hd : n.data.length ≤ 8192) (hm : n.name.length ≤ 400) (hp : -4398046511104 - c ≤ h.pos ∧ h.pos ≤ 4398046511104 + c) (hc : c ≤ 1000000000) (hh : s.h = 0) (ho : 11 < s.op) (hf : s.op < 18 → -1099511627776 ≤ s.off ∧ s.off ≤ 1099511627776) (hnn : s.op < 18 → s.n ≤ 4096) (hdl : s.data.length ≤ 4096) : DoOk (one n h) s := by
  have hb : HB (one n h) := fun k h' e => by
    have e : (if (0 : Int) = k then some h else none) = some h' := e
    split at e
    · injection e with e; rw [← e, hn]; show 1 < 2; omega
    · cases e
  refine ⟨⟨by show 2 ≤ _; omega, by show 2 ≤ _; omega, rfl, fun a ha => ?_, fun x hx => ?_, fun x hx => ?_⟩, hb, .inr ho, fun hd' e => ?_⟩
  · have ha : a ∈ [0, 1] := ha
    show a < 2
    simp at ha; omega
  · have hx : x ∈ [[47], [47, 102]] := hx
    simp at hx
    rcases hx with rfl | rfl <;> decide
  · have hx : x ∈ [(⟨true, 2147484141, [], 0, [47]⟩ : SM.Node), n] := hx
    simp at hx
    rcases hx with rfl | rfl
    · decide
    · omega
  · rw [hh] at e
    have e : some h = some hd' := e
    injection e with e
    rw [← e]
    have en : (one n h).node h.node = n := by rw [hn]; rfl
    refine ⟨⟨by rw [hn]; show 1 < 2; omega, by rw [en]; omega, by rw [en]; omega, by omega, fun q => by have := hf q; omega, fun q => by have := hnn q; omega, by omega, by omega⟩, by omega⟩
structure U4.Ok2 (u : U4) : Prop where
  o : u.Ok
  l1 : u.h1.listed = 0
  l2 : u.h2.listed = 0
theorem U4.next_ok2 (o : u.Ok2) (s : SM.Stp) : (u.next s).1.Ok2 := by
  refine ⟨U4.next_ok o.o s, ?_, ?_⟩
  · unfold U4.next
    exact (fileN_listed _ _ _).trans o.l1
  · unfold U4.next
    simp only
    split
    · exact (fileN_listed _ _ _).trans o.l2
    · split
      · exact (fileN_listed _ _ _).trans o.l2
      · exact o.l2
theorem RelU.doL {y : FX × FX} (r : RelU c y u) (o : u.Ok2) (hc : c ≤ 1000000000) (hh : s.h = 0) (p : SpF u.n1 u.h1 s) : DoOk u.pair.layer s :=
  DoOk_one o.o.k1 o.l1 r.l.len r.l.nl r.l.ph hc hh (by have := p.op; omega) p.off (fun q => (p.nn q).2) p.dl
theorem RelU.doB {y : FX × FX} (r : RelU c y u) (o : u.Ok2) (hc : c ≤ 1000000000) (hh : s.h = 0) (p : SpF u.n2 u.h2 s) : DoOk u.pair.base s :=
  DoOk_one o.o.k2 o.l2 r.b.len r.b.nl r.b.ph hc hh (by have := p.op; omega) p.off (fun q => (p.nn q).2) p.dl
theorem RelU.doK {y : FX × FX} (r : RelU c y u) (o : u.Ok2) (hc : c ≤ 1000000000) (hh : s.h = 0) {k : Nat} (hk : k ≤ 4096) : DoOk u.pair.base (s.skip k) :=
  DoOk_one o.o.k2 o.l2 r.b.len r.b.nl r.b.ph hc hh (by show 11 < (16 : Int); omega) (fun _ => by show _ ≤ ((k : Nat) : Int) ∧ ((k : Nat) : Int) ≤ _; omega) (fun _ => by show (0 : Int) ≤ _; omega) (by show 0 ≤ _; omega)
theorem fileN_dl (p : SpF n h s) : (fileN n h s).2.2.data.length ≤ 4096 := by
  by_cases e12 : s.op = 12 ∨ s.op = 13
  · have nn := p.nn (by omega)
    cases q : h.cl with
    | true => rw [fileN_cl (by omega) q]; exact Nat.zero_le _
    | false =>
      rcases e12 with e | e
      · rw [fileN_12 e q]
        have := (readFrom_len n.data h.pos s.n nn.2).1
        simp only
        omega
      · rw [fileN_13 e q]
        have := (readFrom_len n.data s.off s.n nn.2).1
        simp only
        omega
  · unfold fileN
    rw [if_neg (show ¬ s.op = 12 by omega), if_neg (show ¬ s.op = 13 by omega)]
    repeat' apply iteP (Q := fun r : SM.Node × SM.Hnd × SM.Ans => r.2.2.data.length ≤ 4096)
    all_goals exact Nat.zero_le _
end
section
variable {w w' : World} {K : Value → World → Prop} {B pp : Nat} {F : Fp} {c : Int} {u : U4} {s : SM.Stp} {v : Value} {y : FX × FX}
theorem cache_any (h : PairS w B pp u.pair F) (o : u.Ok2) (r : RelU c y u) (hc : c ≤ 1000000000) (p : SpU u s) (hh : s.h = 0) (hv : BS w v s.data) (hvo : s.data = [] ∨ ∀ b, v.ownBlock = some b → ¬ F.own b)
    (hk : PairK w B pp F ((u.next s).1.pair, (u.next s).2) K) : Cl P Fn.spec_Pair_cacheHandle #[pt pp 0, AG (stepC s v)] w K := by
  have po := p.l.op
  rw [← cacheH_one o.o po hh] at hk
  have e3 : SM.ofGet u.pair.of s.h = 3 := by rw [hh]; rfl
  have el : u.pair.layer.doS s.h s = (one (fileN u.n1 u.h1 s).1 (fileN u.n1 u.h1 s).2.1, (fileN u.n1 u.h1 s).2.2) := doS_one o.o.k1 o.o.d1 po hh _
  by_cases e : s.op = 19 ∨ s.op = 20
  · exact cacheH_list h hv hvo e3 e (r.doL o hc hh p.l) (r.doB o hc hh p.b) (by rw [el]; simp only; rw [fileN_19 e]; show (8 : Int) ≠ 0; omega) hk
  · refine cacheH_spec h hv hvo e3 (by omega) (r.doL o hc hh p.l) (fun _ => r.doK o hc hh ?_) (fun _ _ => r.doB o hc hh p.b) hk
    rw [el]
    exact fileN_dl p.l
theorem onHandles_spec (hv : v.oneCell' = true) (hk : ∀ w', Below w.heap.size w w' → K (.bool (decide (12 ≤ s.op ∧ s.op ≤ 23))) w') : Cl P Fn.spec_onHandles #[AG (stepC s v)] w K := by
  apply S_spec_onHandles
  unfold F_spec_onHandles
  by_cases c1 : 12 ≤ s.op
  · by_cases c2 : s.op ≤ 23
    · rw [decide_eq_true ⟨c1, c2⟩] at hk
      simp (disch := first | omega | (simp only [sZb, sZa, sZd] <;> omega) | (simp (disch := first | omega | (simp only [sZb, sZa, sZd] <;> omega) | fail) only [go_sem, hv]; done) | fail) only [go_sem, dec_t, dec_f, w_u32, w_u64, w_u16, w_u8, w_i64, Int.reduceToNat, Int.reducePow, Nat.reducePow, hv]
      exact hk _ (by repeat (first | exact Below.refl _ _ | assumption | refine bel_setb ?_ (by first | exact Nat.le_refl _ | omega | (simp only [go_sem] <;> omega)) _ | refine Below.alloc ?_ (by first | exact Nat.le_refl _ | omega | (simp only [go_sem]; omega)) _ | refine Below.drew ?_))
    · rw [decide_eq_false fun h => c2 h.2] at hk
      simp (disch := first | omega | (simp only [sZb, sZa, sZd] <;> omega) | (simp (disch := first | omega | (simp only [sZb, sZa, sZd] <;> omega) | fail) only [go_sem, hv]; done) | fail) only [go_sem, dec_t, dec_f, w_u32, w_u64, w_u16, w_u8, w_i64, Int.reduceToNat, Int.reducePow, Nat.reducePow, hv]
      exact hk _ (by repeat (first | exact Below.refl _ _ | assumption | refine bel_setb ?_ (by first | exact Nat.le_refl _ | omega | (simp only [go_sem] <;> omega)) _ | refine Below.alloc ?_ (by first | exact Nat.le_refl _ | omega | (simp only [go_sem]; omega)) _ | refine Below.drew ?_))
  · rw [decide_eq_false fun h => c1 h.1] at hk
    simp (disch := first | omega | (simp only [sZb, sZa, sZd] <;> omega) | (simp (disch := first | omega | (simp only [sZb, sZa, sZd] <;> omega) | fail) only [go_sem, hv]; done) | fail) only [go_sem, dec_t, dec_f, w_u32, w_u64, w_u16, w_u8, w_i64, Int.reduceToNat, Int.reducePow, Nat.reducePow, hv]
    exact hk _ (by repeat (first | exact Below.refl _ _ | assumption | refine bel_setb ?_ (by first | exact Nat.le_refl _ | omega | (simp only [go_sem] <;> omega)) _ | refine Below.alloc ?_ (by first | exact Nat.le_refl _ | omega | (simp only [go_sem]; omega)) _ | refine Below.drew ?_))
end
def ux0 (l1 l2 : List UInt8) (ro : Bool) : FX × FX := (fx0 l1 ro, fx0 l2 ro)
def u0 (l1 l2 : List UInt8) (ro : Bool) : U4 := ⟨⟨false, 268435456, l1, 0, [47, 102]⟩, ⟨1, 0, 0, false, ro⟩, ⟨false, 268435456, l2, 0, [47, 102]⟩, ⟨1, 0, 0, false, ro⟩⟩
theorem relU0 {l1 l2 : List UInt8} {ro : Bool} (h1 : l1.length ≤ 8192) (h2 : l2.length ≤ 8192) : RelU 0 (ux0 l1 l2 ro) (u0 l1 l2 ro) :=
  ⟨⟨rfl, rfl, rfl, rfl, rfl, rfl, rfl, rfl, h1, by show 2 ≤ 400; omega, by show 0 ≤ (268435456 : Int) ∧ (268435456 : Int) ≤ _; omega, fun _ => rfl, by show _ ≤ (0 : Int) ∧ (0 : Int) ≤ _; omega, by show _ ≤ (0 : Int) ∧ (0 : Int) ≤ _; omega, by omega⟩,
   ⟨rfl, rfl, rfl, rfl, rfl, rfl, rfl, rfl, h2, by show 2 ≤ 400; omega, by show 0 ≤ (268435456 : Int) ∧ (268435456 : Int) ≤ _; omega, fun _ => rfl, by show _ ≤ (0 : Int) ∧ (0 : Int) ≤ _; omega, by show _ ≤ (0 : Int) ∧ (0 : Int) ≤ _; omega, by omega⟩, rfl, rfl⟩
theorem u0_ok (l1 l2 : List UInt8) (ro : Bool) : (u0 l1 l2 ro).Ok2 := ⟨⟨rfl, rfl, rfl, rfl⟩, rfl, rfl⟩
end Go.Proofs.YteblpejgenehfaaDoor.X
end
section
namespace Go.Proofs.YteblpejgenehfaaDoor.X
open Go Go.X Go.Proofs Go.RowKit
section
variable {w w' : World} {K : Value → World → Prop} {B pp : Nat} {F : Fp} {c : Int} {u : U4} {s : SM.Stp} {v : Value} {y : FX × FX}
theorem spU_of (o : u.Ok2) (hh : s.h = 0) (h1 : 12 ≤ s.op ∧ s.op ≤ 23) (h2 : s.op ≠ 13 ∧ s.op ≠ 21 ∧ s.op ≠ 22) (b : u.pair.base.speaks s = true) (l : u.pair.layer.speaks s = true) : SpU u s := by
  obtain ⟨d1, k1⟩ := speaks_one o.o.k1 h1 hh l
  obtain ⟨d2, k2⟩ := speaks_one o.o.k2 h1 hh b
  exact ⟨SpF_of (by rw [o.o.k1]; rfl) o.o.d1 h1 d1 k1, SpF_of (by rw [o.o.k2]; rfl) o.o.d2 h1 d2 k2, h2⟩
theorem RelU.mbL (r : RelU c y u) (o : u.Ok2) (hc : c ≤ 1000000000) : (MB u.pair.layer ∧ HB u.pair.layer) ∧ MB u.pair.base ∧ HB u.pair.base := by
  have q : SM.Stp := ⟨23, [], [], 0, 0, 0, [], 0, 0, 0⟩
  have a := DoOk_one (s := ⟨23, [], [], 0, 0, 0, [], 0, 0, 0⟩) o.o.k1 o.l1 r.l.len r.l.nl r.l.ph hc rfl (by show 11 < (23 : Int); omega) (fun h => absurd h (by show ¬ (23 : Int) < 18; omega)) (fun h => absurd h (by show ¬ (23 : Int) < 18; omega)) (by show 0 ≤ _; omega)
  have b := DoOk_one (s := ⟨23, [], [], 0, 0, 0, [], 0, 0, 0⟩) o.o.k2 o.l2 r.b.len r.b.nl r.b.ph hc rfl (by show 11 < (23 : Int); omega) (fun h => absurd h (by show ¬ (23 : Int) < 18; omega)) (fun h => absurd h (by show ¬ (23 : Int) < 18; omega)) (by show 0 ≤ _; omega)
  exact ⟨⟨a.mb, a.hb⟩, b.mb, b.hb⟩
theorem OkX.at0 {x : FX} {q : SM.Stp} (h : OkX x (at0 q)) : OkX x q := ⟨h.op, h.dir, h.len, h.nm, h.mode, h.dat, h.off, h.pos, h.rd, h.ra, h.wr, h.wa, h.tr⟩
set_option maxHeartbeats 4000000 in
theorem unionRun_spec {t0 t1 tv : Value} {ro : Bool} {l1 l2 : List UInt8} {qs : List SM.Stp} {vs : List Value} (hd1 : BS w t0 l1) (hd2 : BS w t1 l2) (hl1 : l1.length ≤ 4096) (hl2 : l2.length ≤ 4096) (hq : StepsAt w tv qs vs) (hql : qs.length ≤ 20)
    (hk0 : ∀ w', Below w.heap.size w w' → K (tup [.slice none 0 0, .slice none 0 0, .slice none 0 0, .bool false]) w')
    (hk1 : ∀ w' av lv bv cs u c, Below w.heap.size w w' → w'.ownsRow w.heap.size T.impl_Answer 6 av qs.length (List.flatten cs) → AnsAt w' w.heap.size (fun k => av.ownBlock = some k) (runX wovS (ux0 l1 l2 ro) qs).2 cs → BS w' lv (runX wovS (ux0 l1 l2 ro) qs).1.1.bytes → BS w' bv (runX wovS (ux0 l1 l2 ro) qs).1.2.bytes → okX wovS (fun s q => OkU s.1 s.2 q) (ux0 l1 l2 ro) qs → RelU c (runX wovS (ux0 l1 l2 ro) qs).1 u → K (tup [av, lv, bv, .bool true]) w') :
    Cl P Fn.spec_UnionRun #[t0, t1, .bool ro, tv] w K := by
  apply S_spec_UnionRun
  unfold F_spec_UnionRun
  rw [C.spec_oneOpen]
  refine oneOpen_spec hd2 (by omega) (Nat.le_refl _) fun w1 pb Fb hB uB b1 => ?_
  have z1 := b1.size
  rw [C.spec_oneOpen]
  refine oneOpen_spec (BS_old hd1 b1 (Nat.le_refl _)) (by omega) z1 fun w2 pl Fl hL uL b2 => ?_
  have z2 := b2.size
  rw [mkI]
  have eq0 : bk (w2.alloc (MO emI [] 0)) w2.heap.size = some (MO emI [] 0) := bk_alloc_eq _ _ _ rfl
  rw [upI _ U.map_int_int U.int, eq0, mlI_MO, optE_some]
  simp (disch := first | omega | (simp only [sZb, sZa, sZd] <;> omega) | (simp (disch := first | omega | (simp only [sZb, sZa, sZd] <;> omega) | fail) only [go_sem]; done) | fail) only [go_sem, dec_t, dec_f, w_u32, w_u64, w_u16, w_u8, w_i64, Int.reduceToNat, Int.reducePow, Nat.reducePow]
  obtain ⟨W5, e5⟩ : ∃ W5, W5 = (setb (w2.alloc (MO emI [] 0)) w2.heap.size (MO emI (mputL [] (0 : Int) (Value.int IntKind.i64 3) 0) (mputC [] (0 : Int) 0))).alloc (CB [pt pb 0, pt pl 0, .map (some w2.heap.size)] T.spec_Pair) := ⟨_, rfl⟩
  rw [← e5]
  have b25 : Below w2.heap.size w2 W5 := by rw [e5]; repeat (first | exact Below.refl _ _ | assumption | refine bel_setb ?_ (by first | exact Nat.le_refl _ | omega | (simp only [go_sem] <;> omega)) _ | refine Below.alloc ?_ (by first | exact Nat.le_refl _ | omega | (simp only [go_sem]; omega)) _ | refine Below.drew ?_)
  have z5 : W5.heap.size = w2.heap.size + 2 := by rw [e5]; simp only [go_sem]
  have h5 : PairX W5 w.heap.size (w2.heap.size + 1) (u0 l1 l2 ro).pair Fb Fl pb pl w2.heap.size (mputL [] (0 : Int) (Value.int IntKind.i64 3) 0) (mputC [] (0 : Int) 0) := by
    refine ⟨?_, ?_, MWF.put (MWF.nil 0) _ _, fun k => ?_, ?_, ?_, fun b => ⟨fun h1 h2 => ?_, fun h1 h2 => ?_⟩, by omega, by omega, by omega, ⟨fun e => ?_, fun e => ?_⟩, ⟨fun e => ?_, fun e => ?_⟩⟩
    · rw [e5]; exact bk_alloc_eq _ _ _ (by simp only [go_sem])
    · rw [e5, bk_alloc_ne _ _ _ (by simp only [go_sem]; omega)]; exact bk_setb_eq _ _ _ _ rfl (by simp only [go_sem]; omega)
    · show (mget (mputL [] (0 : Int) (Value.int IntKind.i64 3) 0) k).getD (.int .i64 0) = .int .i64 (SM.ofGet [(0, 3)] k)
      simp only [mputL, mget, SM.ofGet]
      by_cases e : (0 : Int) = k
      · simp [mget, e]
      · simp [mget, e]
    · exact (hB.old b2).old b25
    · exact hL.old b25
    · have := hB.lt b (hB.sub b h1); have := uL b h2; omega
    · have := hB.lt b h2; have := uL b (hL.sub b h1); omega
    · have := hB.lt _ e; omega
    · have := hL.lt _ e; omega
    · have := hB.lt _ e; omega
    · have := hL.lt _ e; omega
  have B5 : Below w.heap.size w W5 := (b1.trans (b2.mono z1)).trans (b25.mono (by omega))
  have u5 : ∀ b, (uni Fb Fl (w2.heap.size + 1) w2.heap.size).use b → w.heap.size ≤ b := by
    rintro b (e | e | e | e)
    · exact uB b e
    · have := uL b e; omega
    · omega
    · omega
  have S5 := h5.S
  generalize uni Fb Fl (w2.heap.size + 1) w2.heap.size = F0 at *
  generalize w2.heap.size + 1 = pp at *
  clear h5 e5 eq0
  rw [oBuildSlice0 (n := 6) _ _ U.sl_impl_Answer (by kernel_rfl)]
  obtain ⟨W6, e6⟩ : ∃ W6, W6 = W5.alloc (CB [] T.impl_Answer) := ⟨_, rfl⟩
  have b56 : Below W5.heap.size W5 W6 := by rw [e6]; repeat (first | exact Below.refl _ _ | assumption | refine bel_setb ?_ (by first | exact Nat.le_refl _ | omega | (simp only [go_sem] <;> omega)) _ | refine Below.alloc ?_ (by first | exact Nat.le_refl _ | omega | (simp only [go_sem]; omega)) _ | refine Below.drew ?_)
  have r6 : bk W6 W5.heap.size = some (CB [] T.impl_Answer) := by rw [e6]; exact bk_alloc_eq _ _ _ rfl
  have o6 : W6.ownsRow w.heap.size T.impl_Answer 6 (sl W5.heap.size 0 0 0) 0 [] := own_lit r6 rfl (by omega) (Nat.zero_le _)
  rw [← e6]
  have z6 : W6.heap.size = W5.heap.size + 1 := by rw [e6]; simp only [go_sem]
  have B6 : Below w.heap.size w W6 := B5.trans (b56.mono (by omega))
  have lF0 : ∀ k, F0.use k → k < W5.heap.size := by
    obtain ⟨_, _, _, _, _, _, _, h, rfl⟩ := S5
    exact h.lt
  have S6 : PairS W6 w.heap.size pp (u0 l1 l2 ro).pair F0 := S5.kp (Kp.of_below b56 fun _ => False) fun _ _ h => h
  clear e6
  obtain ⟨ta, tc, etv⟩ := hq.slice
  refine jn_with (fun t w' => ∃ av cs F u c, t = [av] ∧ Below w.heap.size w w' ∧ PairS w' w.heap.size pp u.pair F ∧ u.Ok2 ∧ RelU c (runX wovS (ux0 l1 l2 ro) qs).1 u ∧ w'.ownsRow w.heap.size T.impl_Answer 6 av qs.length (List.flatten cs) ∧ AnsAt w' w.heap.size (fun k => av.ownBlock = some k) (runX wovS (ux0 l1 l2 ro) qs).2 cs ∧ okX wovS (fun s q => OkU s.1 s.2 q) (ux0 l1 l2 ro) qs) ?_ ?_
  · rintro t e w7 ⟨av, cs, F7, u, c, rfl, B7, S7, ok7, r7, o7, A7, k7⟩
    unfold J_spec_UnionRun_1
    obtain ⟨Fb7, Fl7, pb7, pl7, qo7, ol7, oc7, h7, rfl⟩ := S7
    have bp := h7.bp
    obtain ⟨vn1, va1, vd1, q1, ds1, hm1, cc1, hb1, ρ1, m1⟩ := h7.l
    obtain ⟨vn2, va2, vd2, q2, ds2, hm2, cc2, hb2, ρ2, m2⟩ := h7.b
    have i1 : 1 < u.pair.layer.nodes.length := by show 1 < 2; omega
    have i2 : 1 < u.pair.base.nodes.length := by show 1 < 2; omega
    obtain ⟨g1, cur1, n1, _⟩ := m1.node i1
    obtain ⟨g2, cur2, n2, _⟩ := m2.node i2
    have bm1 := m1.bm
    have bm2 := m2.bm
    have x1 : ∀ M : Value → Prop, pu P (oIdxA T.sl_spec_MemNode vd1 (.int .i64 1)) M = M (pt g1 5) := fun M => n1.ix .i64 M
    have x2 : ∀ M : Value → Prop, pu P (oIdxA T.sl_spec_MemNode vd2 (.int .i64 1)) M = M (pt g2 5) := fun M => n2.ix .i64 M
    have y1 : cur1[7]? = _ := n1.c2
    have y2 : cur2[7]? = _ := n2.c2
    have z1 := n1.bg
    have z2 := n2.bg
    have d1 := (m1.data i1).1
    have d2 := (m2.data i2).1
    simp (disch := first | omega | (simp only [sZb, sZa, sZd] <;> omega) | (simp (disch := first | omega | (simp only [sZb, sZa, sZd] <;> omega) | fail) only [go_sem, bp, bm1, bm2, x1, x2, y1, y2, z1, z2]; done) | fail) only [go_sem, dec_t, dec_f, w_u32, w_u64, w_u16, w_u8, w_i64, Int.reduceToNat, Int.reducePow, Nat.reducePow, bp, bm1, bm2, x1, x2, y1, y2, z1, z2]
    have bD : Below w7.heap.size w7 w7.drew := by repeat (first | exact Below.refl _ _ | assumption | refine bel_setb ?_ (by first | exact Nat.le_refl _ | omega | (simp only [go_sem] <;> omega)) _ | refine Below.alloc ?_ (by first | exact Nat.le_refl _ | omega | (simp only [go_sem]; omega)) _ | refine Below.drew ?_)
    refine hk1 _ av _ _ cs u c (B7.trans (bD.mono B7.size)) (own_old o7 bD (Nat.le_refl _)) (A7.kp (Kp.of_below bD fun _ => False) fun _ _ _ _ h => h) ?_ ?_ k7 r7
    · rw [r7.l.bytes]; exact BS_old d1 bD (Nat.le_refl _)
    · rw [r7.b.bytes]; exact BS_old d2 bD (Nat.le_refl _)
  rw [etv, V.len_sl_impl_Step, ← etv]
  refine lp_intro (fun t w' => ∃ av cs F u x az, ∃ i : Nat, t = [av, .int .i64 i] ∧ i ≤ qs.length ∧ PairS w' w.heap.size pp u.pair F ∧ u.Ok2 ∧ RelU (i * 8192) x u ∧ (∀ k, F.use k → w.heap.size ≤ k) ∧ Below w.heap.size w w' ∧ w'.ownsRow w.heap.size T.impl_Answer 6 av i (List.flatten cs) ∧ (∀ k, av.ownBlock = some k → ¬ F.use k) ∧ az.length = i ∧ AnsAt w' w.heap.size (fun k => F.use k ∨ av.ownBlock = some k) az cs ∧ (okX wovS (fun s q => OkU s.1 s.2 q) x (qs.drop i) → okX wovS (fun s q => OkU s.1 s.2 q) (ux0 l1 l2 ro) qs) ∧ (runX wovS x (qs.drop i)).1 = (runX wovS (ux0 l1 l2 ro) qs).1 ∧ az ++ (runX wovS x (qs.drop i)).2 = (runX wovS (ux0 l1 l2 ro) qs).2)
    (fun t _ => qs.length - (RowKit.intOf (gs t 1)).toNat) ⟨_, [], F0, u0 l1 l2 ro, ux0 l1 l2 ro, [], 0, rfl, Nat.zero_le _, S6, u0_ok _ _ _, relU0 (by omega) (by omega), u5, B6, o6, fun k e => ?_, rfl, ⟨rfl, fun i h1 => absurd h1 (by simp)⟩, by simp, by simp, by simp⟩ ?_
  · have e : W5.heap.size = k := Option.some.inj e
    intro h
    have := lF0 k h
    omega
  rintro t e w3 ⟨av, cs, F3, u, x, az, i, rfl, hi, S3, ok3, r3, hU3, B3, o3, hav, hal, hA, hok3, hr1, hr2⟩
  rw [gs1, gs0, oLss]
  by_cases g : (i : Int) < qs.length
  · have hix : i < qs.length := by omega
    have hiv : i < vs.length := by rw [hq.1]; exact hix
    simp (disch := first | omega | (simp only [sZb, sZa, sZd] <;> omega) | (simp (disch := first | omega | (simp only [sZb, sZa, sZd] <;> omega) | fail) only [go_sem]; done) | fail) only [go_sem, dec_t, dec_f, w_u32, w_u64, w_u16, w_u8, w_i64, Int.reduceToNat, Int.reducePow, Nat.reducePow]
    refine jn_with (fun t w' => t = [] ∧ w' = w3) ?_ ⟨rfl, rfl⟩
    rintro t e w4 ⟨rfl, rfl⟩
    rw [List.drop_eq_getElem_cons hix] at hok3 hr1 hr2
    rw [(runX_drop wovS x _ _).1] at hr1
    rw [(runX_drop wovS x _ _).2] at hr2
    have hq4 := hq.old B3
    obtain ⟨b, o, hrow, hbl, ix⟩ := hq4.idx hix hiv
    have hqi := hq4.2.1 i hix hiv
    have hqo : qs[i].data = [] ∨ ∀ b, vs[i].ownBlock = some b → b < w.heap.size := BS_lt (hq.2.1 i hix hiv)
    generalize qs[i] = q at *
    generalize vs[i] = vq at *
    have one := BS_one' hqi
    unfold J_spec_UnionRun_4
    refine jn_with (fun t w' => ∃ av' cs' F', t = [av'] ∧ u.Ok2 ∧ SpU u (at0 q) ∧ PairS w' w.heap.size pp (u.next (at0 q)).1.pair F' ∧ (∀ k, F'.use k → w.heap.size ≤ k) ∧ Below w.heap.size w w' ∧ w'.ownsRow w.heap.size T.impl_Answer 6 av' (i + 1) (List.flatten cs') ∧ (∀ k, av'.ownBlock = some k → ¬ F'.use k) ∧ AnsAt w' w.heap.size (fun k => F'.use k ∨ av'.ownBlock = some k) (az ++ [(u.next (at0 q)).2]) cs') ?_ ?_
    · rintro t e w5 ⟨av5, cs5, F5, rfl, ok5, sp5, S5, hU5, B5', o5, hav5, A5⟩
      obtain ⟨rs1, rs2⟩ := r3.step sp5
      rw [wovS_at0] at rs1 rs2
      unfold J_spec_UnionRun_2
      simp (disch := first | omega | (simp only [sZb, sZa, sZd] <;> omega) | (simp (disch := first | omega | (simp only [sZb, sZa, sZd] <;> omega) | fail) only [go_sem]; done) | fail) only [go_sem, dec_t, dec_f, w_u32, w_u64, w_u16, w_u8, w_i64, Int.reduceToNat, Int.reducePow, Nat.reducePow]
      refine ⟨⟨av5, cs5, F5, (u.next (at0 q)).1, (wovS x q).1, az ++ [(wovS x q).2], i + 1, rfl, by omega, S5, U4.next_ok2 ok3 _, ?_, hU5, B5', o5, hav5, by simp [hal], by rw [rs2]; exact A5, fun h => hok3 ⟨?_, h⟩, hr1, by rw [List.append_assoc]; exact hr2⟩, ?_⟩
      · have e : ((i : Nat) : Int) * 8192 + 8192 = ((i + 1 : Nat) : Int) * 8192 := by omega
        rw [← e]; exact rs1
      · have := r3.okU sp5 (by omega)
        exact ⟨this.l.at0, this.b.at0, this.n13⟩
      · simp only [RowKit.intOf, gs1]
        omega
    rw [gs1, ix]
    simp (disch := first | omega | (simp only [sZb, sZa, sZd] <;> omega) | (simp (disch := first | omega | (simp only [sZb, sZa, sZd] <;> omega) | fail) only [go_sem, hrow, one]; done) | fail) only [go_sem, dec_t, dec_f, w_u32, w_u64, w_u16, w_u8, w_i64, Int.reduceToNat, Int.reducePow, Nat.reducePow, hrow, one]
    obtain ⟨pa, pn, epl⟩ := BS_slice hqi
    obtain ⟨wA, hwA⟩ : ∃ wA, wA = setb (setb (w4.alloc (CB [.int .i64 0, S [], S [], .int .i64 0, .int .i64 0, .int .i64 0, .slice none 0 0, .int .i64 0, .int .i64 0, .int .i64 0] T.impl_Step)) w4.heap.size (CB (stepC q vq) T.impl_Step)) w4.heap.size (CB (stepC (at0 q) vq) T.impl_Step) := ⟨_, rfl⟩
    have BA : Below w4.heap.size w4 wA := by rw [hwA]; repeat (first | exact Below.refl _ _ | assumption | refine bel_setb ?_ (by first | exact Nat.le_refl _ | omega | (simp only [go_sem] <;> omega)) _ | refine Below.alloc ?_ (by first | exact Nat.le_refl _ | omega | (simp only [go_sem]; omega)) _ | refine Below.drew ?_)
    have zA : wA.heap.size = w4.heap.size + 1 := by rw [hwA]; simp only [go_sem]
    have rA : bk wA w4.heap.size = some (CB (stepC (at0 q) vq) T.impl_Step) := by rw [hwA]; exact bk_setb_eq _ _ _ _ rfl (by simp only [go_sem]; omega)
    have z3 := B3.size
    have B4 : Below w.heap.size w wA := B3.trans (BA.mono (by omega))
    have S4 : PairS wA w.heap.size pp u.pair F3 := S3.kp (Kp.of_below BA fun _ => False) fun _ _ h => h
    rw [← hwA]
    clear hwA
    have fail : ∀ w', Below wA.heap.size wA w' → K (tup [.slice none 0 0, .slice none 0 0, .slice none 0 0, .bool false]) w' := fun w' b => hk0 w' (B4.trans (b.mono (by omega)))
    refine jn_with (fun t w' => t = [] ∧ u.Ok2 ∧ SpU u (at0 q) ∧ Below wA.heap.size wA w') ?_ ?_
    rotate_left
    · refine onHandles_spec (s := at0 q) (v := vq) (by rw [epl]; rfl) fun w9 b9 => ?_
      have z9 := b9.size
      have bA9 : Below wA.heap.size wA w9 := (show Below wA.heap.size wA wA.drew by repeat (first | exact Below.refl _ _ | assumption | refine bel_setb ?_ (by first | exact Nat.le_refl _ | omega | (simp only [go_sem] <;> omega)) _ | refine Below.alloc ?_ (by first | exact Nat.le_refl _ | omega | (simp only [go_sem]; omega)) _ | refine Below.drew ?_)).trans b9
      have r9 := (bel_bk bA9 (by omega)).trans rA
      have hv9 := BS_one' (BS_old (BS_old hqi BA (Nat.le_refl _)) bA9 (by omega))
      by_cases c0 : 12 ≤ q.op ∧ q.op ≤ 23
      · rw [show (decide (12 ≤ (at0 q).op ∧ (at0 q).op ≤ 23)) = true from decide_eq_true c0]
        by_cases c13 : q.op = 13
        · simp (disch := first | omega | (simp only [sZb, sZa, sZd] <;> omega) | (simp (disch := first | omega | (simp only [sZb, sZa, sZd] <;> omega) | fail) only [go_sem, r9]; done) | fail) only [go_sem, dec_t, dec_f, w_u32, w_u64, w_u16, w_u8, w_i64, Int.reduceToNat, Int.reducePow, Nat.reducePow, r9]
          exact fail _ bA9
        by_cases c22 : q.op = 22
        · simp (disch := first | omega | (simp only [sZb, sZa, sZd] <;> omega) | (simp (disch := first | omega | (simp only [sZb, sZa, sZd] <;> omega) | fail) only [go_sem, r9]; done) | fail) only [go_sem, dec_t, dec_f, w_u32, w_u64, w_u16, w_u8, w_i64, Int.reduceToNat, Int.reducePow, Nat.reducePow, r9]
          exact fail _ bA9
        by_cases c21 : q.op = 21
        · simp (disch := first | omega | (simp only [sZb, sZa, sZd] <;> omega) | (simp (disch := first | omega | (simp only [sZb, sZa, sZd] <;> omega) | fail) only [go_sem, r9]; done) | fail) only [go_sem, dec_t, dec_f, w_u32, w_u64, w_u16, w_u8, w_i64, Int.reduceToNat, Int.reducePow, Nat.reducePow, r9]
          exact fail _ bA9
        obtain ⟨Fb4, Fl4, pb4, pl4, qo4, ol4, oc4, h4, rfl⟩ := S4
        have h9 := h4.old bA9
        have bp := h9.bp
        obtain ⟨⟨mb1, hb1⟩, mb2, hb2⟩ := r3.mbL ok3 (by omega)
        simp (disch := first | omega | (simp only [sZb, sZa, sZd] <;> omega) | (simp (disch := first | omega | (simp only [sZb, sZa, sZd] <;> omega) | fail) only [go_sem, r9, bp, hv9]; done) | fail) only [go_sem, dec_t, dec_f, w_u32, w_u64, w_u16, w_u8, w_i64, Int.reduceToNat, Int.reducePow, Nat.reducePow, r9, bp, hv9]
        refine speaks_spec (s := at0 q) h9.b ⟨pa, pn, epl⟩ mb2 hb2 fun w35 b35 => ?_
        have z9a := bA9.size
        have bA35 := bA9.trans (b35.mono z9a)
        have z35 := b35.size
        have h35 := h9.old b35
        have bp35 := h35.bp
        have r35 := (bel_bk b35 (by omega)).trans r9
        cases sb : u.pair.base.speaks (at0 q) with
        | false =>
          simp (disch := first | omega | (simp only [sZb, sZa, sZd] <;> omega) | (simp (disch := first | omega | (simp only [sZb, sZa, sZd] <;> omega) | fail) only [go_sem]; done) | fail) only [go_sem, dec_t, dec_f, w_u32, w_u64, w_u16, w_u8, w_i64, Int.reduceToNat, Int.reducePow, Nat.reducePow]
          exact fail _ bA35
        | true =>
          simp (disch := first | omega | (simp only [sZb, sZa, sZd] <;> omega) | (simp (disch := first | omega | (simp only [sZb, sZa, sZd] <;> omega) | fail) only [go_sem, r35, bp35, hv9]; done) | fail) only [go_sem, dec_t, dec_f, w_u32, w_u64, w_u16, w_u8, w_i64, Int.reduceToNat, Int.reducePow, Nat.reducePow, r35, bp35, hv9]
          refine speaks_spec (s := at0 q) h35.l ⟨pa, pn, epl⟩ mb1 hb1 fun w36 b36 => ?_
          have bA36 := bA35.trans (b36.mono (by omega))
          cases sl : u.pair.layer.speaks (at0 q) with
          | false =>
            simp (disch := first | omega | (simp only [sZb, sZa, sZd] <;> omega) | (simp (disch := first | omega | (simp only [sZb, sZa, sZd] <;> omega) | fail) only [go_sem]; done) | fail) only [go_sem, dec_t, dec_f, w_u32, w_u64, w_u16, w_u8, w_i64, Int.reduceToNat, Int.reducePow, Nat.reducePow]
            exact fail _ bA36
          | true =>
            simp (disch := first | omega | (simp only [sZb, sZa, sZd] <;> omega) | (simp (disch := first | omega | (simp only [sZb, sZa, sZd] <;> omega) | fail) only [go_sem]; done) | fail) only [go_sem, dec_t, dec_f, w_u32, w_u64, w_u16, w_u8, w_i64, Int.reduceToNat, Int.reducePow, Nat.reducePow]
            exact ⟨trivial, ok3, spU_of ok3 rfl c0 ⟨c13, c21, c22⟩ sb sl, bA36⟩
      · rw [show (decide (12 ≤ (at0 q).op ∧ (at0 q).op ≤ 23)) = false from decide_eq_false c0]
        simp (disch := first | omega | (simp only [sZb, sZa, sZd] <;> omega) | (simp (disch := first | omega | (simp only [sZb, sZa, sZd] <;> omega) | fail) only [go_sem]; done) | fail) only [go_sem, dec_t, dec_f, w_u32, w_u64, w_u16, w_u8, w_i64, Int.reduceToNat, Int.reducePow, Nat.reducePow]
        exact fail _ bA9
    rintro t e w10 ⟨rfl, ok10, sp10, b10⟩
    unfold J_spec_UnionRun_3
    have z10 := b10.size
    have r10 := (bel_bk b10 (by omega)).trans rA
    have B10 := B4.trans (b10.mono (by omega))
    have hq10 := BS_old (BS_old hqi BA (Nat.le_refl _)) b10 (Nat.le_refl _)
    have hv10 := BS_one' hq10
    have S10 : PairS w10 w.heap.size pp u.pair F3 := S4.kp (Kp.of_below b10 fun _ => False) fun _ _ h => h
    have lF3 : ∀ k, F3.use k → k < w4.heap.size := by
      obtain ⟨_, _, _, _, _, _, _, h, rfl⟩ := S3
      exact h.lt
    have sF3 : ∀ k, F3.own k → F3.use k := by
      obtain ⟨_, _, _, _, _, _, _, h, rfl⟩ := S3
      rintro k (e | e | e)
      · exact .inl (h.b.sub _ e)
      · exact .inr (.inl (h.l.sub _ e))
      · exact .inr (.inr e)
    simp (disch := first | omega | (simp only [sZb, sZa, sZd] <;> omega) | (simp (disch := first | omega | (simp only [sZb, sZa, sZd] <;> omega) | fail) only [go_sem, r10, hv10]; done) | fail) only [go_sem, dec_t, dec_f, w_u32, w_u64, w_u16, w_u8, w_i64, Int.reduceToNat, Int.reducePow, Nat.reducePow, r10, hv10]
    refine cache_any (s := at0 q) S10 ok3 r3 (by omega) sp10 rfl hq10 (hqo.imp id fun h b hb e => by have := h b hb; have := hU3 b (sF3 b e); omega) fun w5 F5 cc S5 T5 bc => ?_
    have z5 := T5.kp.size
    have lF5 : ∀ k, F5.use k → k < w5.heap.size := by
      obtain ⟨_, _, _, _, _, _, _, h, rfl⟩ := S5
      exact h.lt
    have hU5 : ∀ k, F5.use k → F3.use k ∨ w10.heap.size ≤ k := fun k hk => by
      by_cases h : k < w10.heap.size
      · exact .inl ((T5.st k h).2 hk)
      · exact .inr (by omega)
    have oav := own_lt o3
    have B5 : Below w.heap.size w w5 := B10.trans (T5.kp.below (fun k hk e => by have := hU3 k (sF3 k e); omega) (by omega))
    obtain ⟨cl, c1⟩ := ans_oneCells bc
    rw [oBuildSliceN (size := 6) (z := AG ansZ) _ _ U.sl_impl_Answer (by kernel_rfl) (by omega) (by omega) (l := cc) cl]
    obtain ⟨w6, e6⟩ : ∃ w6, w6 = w5.alloc (CB cc T.impl_Answer) := ⟨_, rfl⟩
    have B56 : Below w5.heap.size w5 w6 := by rw [e6]; repeat (first | exact Below.refl _ _ | assumption | refine bel_setb ?_ (by first | exact Nat.le_refl _ | omega | (simp only [go_sem] <;> omega)) _ | refine Below.alloc ?_ (by first | exact Nat.le_refl _ | omega | (simp only [go_sem]; omega)) _ | refine Below.drew ?_)
    have zz6 : w6.heap.size = w5.heap.size + 1 := by rw [e6]; simp only [go_sem]
    have rr6 : bk w6 w5.heap.size = some (CB cc T.impl_Answer) := by rw [e6]; exact bk_alloc_eq _ _ _ rfl
    rw [← e6]
    clear e6
    have kA : Kp w4 w10 (fun _ => False) := Kp.of_below (BA.trans (b10.mono (by omega))) _
    have k56 : Kp w5 w6 (fun _ => False) := Kp.of_below B56 _
    have avF : ∀ k, av.ownBlock = some k → ¬ F3.own k := fun k hk e => hav k hk (sF3 k e)
    have o5 : w6.ownsRow w.heap.size T.impl_Answer 6 av i (List.flatten cs) := own_old (own_kp (own_kp o3 kA fun _ _ h => h) T5.kp avF) B56 (Nat.le_refl _)
    refine oAppendR (size := 6) (bytes := 96) (z := AG ansZ) (news := cc) U.sl_impl_Answer (by kernel_rfl) rfl (by omega) o5 (.inl ⟨_, _, _, rfl, by rw [rr6]; simp only [rowOf]; rw [if_pos (by simp)]; simp⟩) cl c1 (by simp only [maxLen]; omega) (by omega) (by omega) fun av6 w7 o6 g6 l6 => ?_
    have K6 := Kp.of_grown g6
    have zz7 := K6.size
    have hav6 : ∀ k, av6.ownBlock = some k → av.ownBlock = some k ∨ k = w5.heap.size + 1 := fun k hk => by
      rcases l6 with h | h
      · exact .inl (by rw [← h]; exact hk)
      · rw [hk] at h; injection h with h; exact .inr (by omega)
    have avn : ∀ k, av.ownBlock = some k → ¬ F5.use k := fun k hk e => by
      rcases hU5 k e with h | h
      · exact hav k hk h
      · have := (oav k hk).2; omega
    have S7 : PairS w7 w.heap.size pp (u.next (at0 q)).1.pair F5 := (S5.kp k56 fun _ _ h => h).kp K6 fun k hk e => avn k e hk
    have B7 : Below w.heap.size w w7 := (B5.trans (B56.mono (by omega))).trans (K6.below (fun k hk e => by have := (oav k e).1; omega) (by omega))
    refine ⟨av6, cs ++ [cc], F5, rfl, ok10, sp10, S7, fun k hk => ?_, B7, ?_, fun k hk => ?_, ?_⟩
    · rcases hU5 k hk with h | h
      · exact hU3 k h
      · omega
    · rw [List.flatten_append]
      simpa using o6
    · intro e
      rcases hav6 k hk with h | h
      · exact avn k h e
      · have := lF5 k e; omega
    · have tr : ∀ b, w.heap.size ≤ b → b < w4.heap.size → ¬ (F3.use b ∨ av.ownBlock = some b) → ¬ (F5.use b ∨ av6.ownBlock = some b) := fun b h1 h2 hn h => by
        rcases h with h | h
        · rcases hU5 b h with h | h
          · exact hn (.inl h)
          · omega
        · rcases hav6 b h with h | h
          · exact hn (.inr h)
          · omega
      have q1 := hA.to tr
      refine AnsAt.snoc ?_ ?_
      · have q2 := ((hA.kp kA fun _ _ _ _ h => h).kp T5.kp fun b _ _ hn h => hn (.inl (sF3 b h))).kp k56 fun _ _ _ _ h => h
        have q3 := q2.kp K6 fun b _ _ hn h => hn (.inr h)
        refine ⟨q3.1, fun j h1 h2 => ?_⟩
        obtain ⟨x1, x2, x3, e1, r1, r2, r3, r4⟩ := q3.2 j h1 h2
        obtain ⟨y1, y2, y3, f1, _, _, _, g4⟩ := q1.2 j h1 h2
        rw [e1] at f1
        simp only [answC, List.cons.injEq, and_true, true_and] at f1
        obtain ⟨rfl, rfl, rfl⟩ := f1
        exact ⟨_, _, _, e1, r1, r2, r3, fun b hb => ⟨(r4 b hb).1, (r4 b hb).2.1, (g4 b hb).2.2⟩⟩
      · have q0 : AnsN w5 w10.heap.size (fun k => F5.use k ∨ av6.ownBlock = some k) (u.next (at0 q)).2 cc := bc.to fun b h1 h2 hn h => by
          rcases h with h | h
          · exact hn h
          · rcases hav6 b h with h | h
            · have := (oav b h).2; omega
            · omega
        exact ((q0.kp k56 fun _ _ _ _ h => h).kp K6 fun b h1 h2 hn h => by have := (oav b h).2; omega).less (by omega)
  · have e1 : i = qs.length := by omega
    subst e1
    simp (disch := first | omega | (simp only [sZb, sZa, sZd] <;> omega) | (simp (disch := first | omega | (simp only [sZb, sZa, sZd] <;> omega) | fail) only [go_sem]; done) | fail) only [go_sem, dec_t, dec_f, w_u32, w_u64, w_u16, w_u8, w_i64, Int.reduceToNat, Int.reducePow, Nat.reducePow]
    refine jn_with (fun _ _ => False) (fun _ _ _ h => h.elim) ?_
    rw [List.drop_length] at hr1 hr2 hok3
    have hr1' : x = (runX wovS (ux0 l1 l2 ro) qs).1 := hr1
    have hr2' : az = (runX wovS (ux0 l1 l2 ro) qs).2 := by simpa [runX] using hr2
    refine ⟨av, cs, F3, u, _, rfl, B3, S3, ok3, by rw [← hr1']; exact r3, o3, ?_, hok3 trivial⟩
    rw [← hr2']
    exact hA.to fun b _ _ hn h => hn (.inr h)
end
end Go.Proofs.YteblpejgenehfaaDoor.X
end
section
namespace Go.X
open Go Go.RowKit Go.WideShapes Go.Deep
section
variable {H : Type} {enc : TypeId × Value → H} {P : Program} {W : World}
theorem open_elems {t e : TypeId} {size fuel : Nat} {cs : List Value} {x : DataW H × List MemPlace} (ht : P.underlying t = some (.slice e)) (hc : P.cellsOf e = size) (h0 : 0 < size) (h : DataW.trod enc P W 0 (fun _ => true) true fuel t cs = some x) :
    (∃ a cap, cs = [.slice a 0 cap]) ∨ ∃ b o n cap, cs = [sl b o n cap] ∧ n ≤ cap ∧ cap ≤ maxLen ∧ b < W.heap.size ∧ n ≠ 0 ∧ ∃ m, ∀ i, i < n → ∃ c y, rowOf (bk W b) (o + i * size) size = some c ∧ DataW.trod enc P W 0 (fun _ => true) true m e c = some y := by
  rcases open_slice ht h with ⟨h1, _⟩ | ⟨a, n, cap, m, k, D, Pl, rfl, _, h2, h3, h4, _, h5⟩
  · exact .inl ⟨none, 0, h1⟩
  · by_cases hn : n = 0
    · subst hn; exact .inl ⟨_, _, rfl⟩
    simp only [if_true] at h4
    subst h4
    obtain ⟨c0, hc0, _⟩ := h5 0 (by omega)
    obtain ⟨_, hl0, hg0⟩ := World.cells?_some hc0
    rw [hc] at hl0
    have h00 := hg0 0 (by omega)
    have hne : c0[0]? ≠ none := by rw [List.getElem?_eq_getElem (by omega)]; simp
    have hspot : a.spot = none := by
      cases hs : a.spot with
      | none => rfl
      | some s =>
        exfalso
        have hs2 : ((a.add (0 * P.cellsOf e)).add 0).spot = some s := by
          rw [Nat.zero_mul]
          exact hs
        unfold World.cell? at h00
        rw [hs2] at h00
        split at h00
        · simp at h00; rw [h00] at hl0; simp at hl0; omega
        · exact hne h00.symm
    obtain ⟨b, o, sp⟩ := a
    simp only at hspot
    subst hspot
    have row : ∀ i, i < n → ∃ c y, rowOf (bk W b) (o + i * size) size = some c ∧ DataW.trod enc P W 0 (fun _ => true) true k e c = some y := fun i hi => by
      obtain ⟨c, hc1, hc2⟩ := h5 i (by omega)
      obtain ⟨_, hl, hg⟩ := World.cells?_some hc1
      rw [hc] at hl hg
      refine ⟨c, _, ?_, hc2⟩
      have cell : ∀ j, j < size → cellOf (bk W b) (o + i * size + j) = c[j]? := fun j hj => by
        have := hg j hj
        rw [Addr.add_lit, Addr.add_lit, cell?_eq] at this
        exact this
      have hz := cell (size - 1) (by omega)
      have hlt : c[size - 1]? ≠ none := by rw [List.getElem?_eq_getElem (by omega)]; simp
      unfold cellOf at hz
      split at hz
      · rename_i cc tt fz hb
        rw [hb] at cell ⊢
        simp only [rowOf]
        have hlast : o + i * size + (size - 1) < cc.size := by
          refine Nat.lt_of_not_le fun hle => hlt ?_
          rw [← hz, Array.getElem?_eq_none hle]
        rw [if_pos (by omega)]
        congr 1
        apply List.ext_getElem?
        intro j
        by_cases hj : j < size
        · rw [List.getElem?_take_of_lt hj, List.getElem?_drop]
          have : cc[o + i * size + j]? = c[j]? := cell j hj
          rw [Array.getElem?_toList, this]
        · rw [List.getElem?_eq_none (by simp; omega), List.getElem?_eq_none (by omega)]
      · exact absurd hz.symm hlt
    refine .inr ⟨b, o, n, _, rfl, h2, h3, ?_, hn, k, row⟩
    obtain ⟨c, y, hr, _⟩ := row 0 (by omega)
    obtain ⟨c', t', fz, e1, _⟩ := rowOf_inv hr
    exact bk_lt e1
theorem open_bytes_cell {t e : TypeId} {fuel : Nat} {cs : List Value} {x : DataW H × List MemPlace} (ht : P.underlying t = some (.slice e)) (he : P.underlying e = some (.int .u8)) (hc : P.cellsOf e = 1) (h : DataW.trod enc P W 0 (fun _ => true) true fuel t cs = some x) :
    ∃ v l, cs = [v] ∧ BS W v l ∧ l.length ≤ maxLen := by
  rcases open_elems ht hc (by omega) h with ⟨a, cap, rfl⟩ | ⟨b, o, n, cap, rfl, h1, h2, h3, h4, m, h5⟩
  · exact ⟨_, [], rfl, .inl ⟨rfl, _, _, rfl⟩, by simp⟩
  · have hx : ∀ i, i < n → ∃ z : UInt8, rowOf (bk W b) (o + i) 1 = some [byt z] := fun i hi => by
      obtain ⟨c, y, e1, e2⟩ := h5 i hi
      obtain ⟨q, rfl, _, e3⟩ := DataW.trod_int he e2
      simp only [Lit.wf, Bool.and_eq_true, decide_eq_true_eq] at e3
      have z0 : 0 ≤ q := e3.1
      have z1 : q ≤ 255 := e3.2
      refine ⟨UInt8.ofNat q.toNat, ?_⟩
      rw [Nat.mul_one] at e1
      rw [e1, byt]
      congr 3
      simp
      omega
    have hlist : ∃ l : List UInt8, l.length = n ∧ ∀ i (hi : i < l.length), rowOf (bk W b) (o + i) 1 = some [byt l[i]] := by
      refine ⟨(List.range n).map fun i => match rowOf (bk W b) (o + i) 1 with | some [.int _ q] => UInt8.ofNat q.toNat | _ => 0, by simp, fun i hi => ?_⟩
      obtain ⟨z, hz⟩ := hx i (by simpa using hi)
      simp only [List.getElem_map, List.getElem_range, hz, byt]
      simp
    obtain ⟨l, hl, hV⟩ := hlist
    subst hl
    refine ⟨_, l, rfl, .inr ⟨b, o, cap, rfl, h1, ?_, h3⟩, by omega⟩
    have cell : ∀ i (hi : i < l.length), cellOf (bk W b) (o + i) = some (byt l[i]) := fun i hi => by
      have hr := hV i hi
      obtain ⟨c, tt, fz, e1, e2, e3⟩ := rowOf_inv hr
      rw [e1]
      show c[o + i]? = _
      have := congrArg (·[0]?) e3
      simp only [List.getElem?_take_of_lt (show 0 < 1 by omega), List.getElem?_drop, Nat.add_zero, Array.getElem?_toList] at this
      simpa using this
    unfold rowB
    have hlast := hV (l.length - 1) (by omega)
    obtain ⟨c, tt, fz, e1, e2, e3⟩ := rowOf_inv hlast
    rw [e1] at cell ⊢
    simp only [rowOf]
    have e2' : o + (l.length - 1) + 1 ≤ c.size := e2
    rw [if_pos (by omega)]
    congr 1
    apply List.ext_getElem?
    intro i
    by_cases hi : i < l.length
    · rw [List.getElem?_take_of_lt hi, List.getElem?_drop, Array.getElem?_toList]
      have : c[o + i]? = some (byt l[i]) := cell i hi
      rw [this]
      simp [hi]
    · rw [List.getElem?_eq_none (by simp; omega), List.getElem?_eq_none (by simp; omega)]
end
end Go.X
end
section
namespace Go.Proofs.YteblpejgenehfaaDoor.X
open Go Go.X Go.Proofs Go.RowKit Go.WideShapes
abbrev i64 (n : Int) : Prop := -9223372036854775808 ≤ n ∧ n ≤ 9223372036854775807
structure FitS (q : SM.Stp) : Prop where
  op : i64 q.op
  flag : i64 q.flag
  perm : i64 q.perm
  h : i64 q.h
  off : i64 q.off
  wh : i64 q.wh
  n : i64 q.n
  name : q.name.length ≤ maxLen
  other : q.other.length ≤ maxLen
  data : q.data.length ≤ maxLen
section
variable {H : Type} {enc : TypeId × Value → H} {W : World}
theorem open_i64 {t : TypeId} {fuel : Nat} {cs : List Value} {x : DataW H × List MemPlace} (ht : P.underlying t = some (.int .i64)) (h : DataW.trod enc P W 0 (fun _ => true) true fuel t cs = some x) : ∃ n, cs = [.int .i64 n] ∧ i64 n := by
  obtain ⟨n, e, _, w⟩ := DataW.trod_int ht h
  simp only [Lit.wf, Bool.and_eq_true, decide_eq_true_eq] at w
  exact ⟨n, e, w.1, w.2⟩
theorem open_S {t : TypeId} {fuel : Nat} {cs : List Value} {x : DataW H × List MemPlace} (ht : P.underlying t = some .string) (h : DataW.trod enc P W 0 (fun _ => true) true fuel t cs = some x) : ∃ l, cs = [S l] ∧ l.length ≤ maxLen := by
  obtain ⟨s, e, _, w⟩ := DataW.trod_string ht h
  exact ⟨s.data.toList, e, w⟩
theorem choose_range {β : Type} (R : Nat → β → Prop) : ∀ (n : Nat), (∀ i, i < n → ∃ b, R i b) → ∃ m : List β, m.length = n ∧ ∀ i (h : i < m.length), R i m[i]
  | 0, _ => ⟨[], rfl, fun i h => absurd h (by simp)⟩
  | n + 1, h => by
    obtain ⟨m, e, hm⟩ := choose_range R n fun i hi => h i (by omega)
    obtain ⟨b, hb⟩ := h n (by omega)
    refine ⟨m ++ [b], by simp [e], fun i hi => ?_⟩
    by_cases q : i < m.length
    · rw [List.getElem_append_left q]; exact hm i q
    · have : i = m.length := by simp at hi; omega
      subst this
      rw [List.getElem_append_right (by omega)]
      simp only [Nat.sub_self, List.getElem_cons_zero]
      rw [e]; exact hb
theorem open_step {fuel : Nat} {c : List Value} {x : DataW H × List MemPlace} (h : DataW.trod enc P W 0 (fun _ => true) true fuel T.impl_Step c = some x) : ∃ (q : SM.Stp) (v : Value), c = stepC q v ∧ FitS q ∧ BS W v q.data := by
  obtain ⟨xs, n, _, _, hl, hlen, hf⟩ := DataW.trod_struct Tryd.underlying27 h
  have hl : c.length = 10 := hl
  match c, hl with
  | [c0, c1, c2, c3, c4, c5, c6, c7, c8, c9], _ =>
    have g : ∀ i, i < 10 → ∃ y, xs[i]? = some y := fun i hi => ⟨xs[i]'(by rw [hlen]; exact hi), List.getElem?_eq_getElem _⟩
    obtain ⟨y0, z0⟩ := g 0 (by omega)
    obtain ⟨y1, z1⟩ := g 1 (by omega)
    obtain ⟨y2, z2⟩ := g 2 (by omega)
    obtain ⟨y3, z3⟩ := g 3 (by omega)
    obtain ⟨y4, z4⟩ := g 4 (by omega)
    obtain ⟨y5, z5⟩ := g 5 (by omega)
    obtain ⟨y6, z6⟩ := g 6 (by omega)
    obtain ⟨y7, z7⟩ := g 7 (by omega)
    obtain ⟨y8, z8⟩ := g 8 (by omega)
    obtain ⟨y9, z9⟩ := g 9 (by omega)
    obtain ⟨n0, e0, w0⟩ := open_i64 U.int ((hf 0 _ rfl).trans z0)
    obtain ⟨l1, e1, w1⟩ := open_S U.string ((hf 1 _ rfl).trans z1)
    obtain ⟨l2, e2, w2⟩ := open_S U.string ((hf 2 _ rfl).trans z2)
    obtain ⟨n3, e3, w3⟩ := open_i64 U.int ((hf 3 _ rfl).trans z3)
    obtain ⟨n4, e4, w4⟩ := open_i64 U.int ((hf 4 _ rfl).trans z4)
    obtain ⟨n5, e5, w5⟩ := open_i64 U.int ((hf 5 _ rfl).trans z5)
    obtain ⟨v6, l6, e6, b6, w6⟩ := open_bytes_cell U.sl_uint8 U.uint8 (by kernel_rfl) ((hf 6 _ rfl).trans z6)
    obtain ⟨n7, e7, w7⟩ := open_i64 U.int64 ((hf 7 _ rfl).trans z7)
    obtain ⟨n8, e8, w8⟩ := open_i64 U.int ((hf 8 _ rfl).trans z8)
    obtain ⟨n9, e9, w9⟩ := open_i64 U.int ((hf 9 _ rfl).trans z9)
    replace e0 : [c0] = [.int .i64 n0] := e0
    replace e1 : [c1] = [S l1] := e1
    replace e2 : [c2] = [S l2] := e2
    replace e3 : [c3] = [.int .i64 n3] := e3
    replace e4 : [c4] = [.int .i64 n4] := e4
    replace e5 : [c5] = [.int .i64 n5] := e5
    replace e6 : [c6] = [v6] := e6
    replace e7 : [c7] = [.int .i64 n7] := e7
    replace e8 : [c8] = [.int .i64 n8] := e8
    replace e9 : [c9] = [.int .i64 n9] := e9
    obtain rfl : c0 = .int .i64 n0 := by injection e0
    obtain rfl : c1 = S l1 := by injection e1
    obtain rfl : c2 = S l2 := by injection e2
    obtain rfl : c3 = .int .i64 n3 := by injection e3
    obtain rfl : c4 = .int .i64 n4 := by injection e4
    obtain rfl : c5 = .int .i64 n5 := by injection e5
    obtain rfl : c6 = v6 := by injection e6
    obtain rfl : c7 = .int .i64 n7 := by injection e7
    obtain rfl : c8 = .int .i64 n8 := by injection e8
    obtain rfl : c9 = .int .i64 n9 := by injection e9
    exact ⟨⟨n0, l1, l2, n3, n4, n5, l6, n7, n8, n9⟩, _, rfl, ⟨w0, w3, w4, w5, w7, w8, w9, w1, w2, w6⟩, b6⟩
theorem open_steps {r : Reach} {b0 : Nat} {v : Value} {d : DataW H} {p : List MemPlace} (hv : Value.okWide P W r b0 T.sl_impl_Step v) (h : DataW.Trod enc P W 0 (fun _ => true) true T.sl_impl_Step v d p) : ∃ qs : List SM.Stp, (∃ vs, StepsAt W v qs vs) ∧ (∀ q ∈ qs, FitS q) ∧ qs.length ≤ maxLen := by
  obtain ⟨a, n, cap, rfl⟩ := okWide_slice U.sl_impl_Step hv
  obtain ⟨fuel, hf⟩ := h
  have hf : DataW.trod enc P W 0 (fun _ => true) true fuel T.sl_impl_Step [.slice a n cap] = some (d, p) := hf
  rcases open_elems (size := 10) U.sl_impl_Step (by kernel_rfl) (by omega) hf with ⟨a', cap', e⟩ | ⟨b, o, n', cap', e, h1, h2, h3, h4, m, h5⟩
  · injection e with e
    rw [e]
    exact ⟨[], ⟨[], rfl, (fun i h1 => absurd h1 (by simp)), .inl ⟨rfl, a', cap', rfl⟩⟩, fun q hq => (by cases hq), by simp⟩
  · injection e with e
    rw [e]
    obtain ⟨qs, hl, hq⟩ := choose_range (fun i (q : SM.Stp × Value) => rowOf (bk W b) (o + i * 10) 10 = some (stepC q.1 q.2) ∧ FitS q.1 ∧ BS W q.2 q.1.data) n' fun i hi => by
      obtain ⟨c, y, e1, e2⟩ := h5 i hi
      obtain ⟨q, v, rfl, q1, q2⟩ := open_step e2
      exact ⟨(q, v), e1, q1, q2⟩
    subst hl
    refine ⟨qs.map (·.1), ⟨qs.map (·.2), by simp, fun i h1 h2 => ?_, .inr ⟨b, o, cap', by simp, h3, fun i g1 g2 => ?_⟩⟩, fun q hm => ?_, by simp; omega⟩
    · simp only [List.getElem_map]
      exact (hq i (by simpa using h1)).2.2
    · simp only [List.getElem_map]
      exact (hq i (by simpa using g1)).1
    · obtain ⟨x, hx, rfl⟩ := List.mem_map.1 hm
      obtain ⟨i, hi, rfl⟩ := List.getElem_of_mem hx
      exact (hq i hi).2.1
end
theorem Sn.mono {w : World} {B C : Nat} {m : Nat → Nat × Nat} (h : Sn w B m) (hC : B ≤ C) : Sn w C m :=
  ⟨fun g hg => ⟨by have := (h.at_ g hg).1; omega, (h.at_ g hg).2⟩, fun g hg => ⟨by have := (h.cell g hg).1; omega, (h.cell g hg).2⟩, h.inj⟩
theorem Sn.next {w w' : World} {m : Nat → Nat × Nat} (h : Sn w w.heap.size m) (b : Below w.heap.size w w') : Sn w' w'.heap.size m := (h.below b).mono b.size
theorem fits2_spec {w : World} {K : Value → World → Prop} {q : SM.Stp} {v : Value} (hv : BS w v q.data) (hk : ∀ b w', Below w.heap.size w w' → K (.bool b) w') : Cl P Fn.laws_zzFits2 #[AG (stepC q v)] w K := by
  apply S_laws_zzFits2
  unfold F_laws_zzFits2
  have one := BS_one' hv
  obtain ⟨a, cap, hvv⟩ := BS_slice hv
  rw [oBox_agg]
  have h0 : bk (w.alloc (CB (stepC q v) T.impl_Step)) w.heap.size = some (CB (stepC q v) T.impl_Step) := bk_alloc_eq _ _ _ rfl
  have BB : Below w.heap.size w (w.alloc (CB (stepC q v) T.impl_Step)) := Below.alloc (Below.refl _ _) (Nat.le_refl _) _
  generalize w.alloc (CB (stepC q v) T.impl_Step) = w1 at *
  refine jn_with (fun t w' => w' = w1) ?_ ?_
  · rintro t e w2 rfl
    refine jn_with (fun t w' => w' = w2) ?_ ?_
    · rintro t e w3 rfl
      refine jn_with (fun t w' => w' = w3) ?_ ?_
      · rintro t e w4 rfl
        exact hk _ _ BB
      · by_cases c : (2147483647 : Int) < q.data.length
        · simp (disch := first | omega | (simp only [sZb, sZa, sZd] <;> omega) | (simp (disch := first | omega | (simp only [sZb, sZa, sZd] <;> omega) | fail) only [go_sem, h0, hvv]; done) | fail) only [go_sem, dec_t, dec_f, w_u32, w_u64, w_u16, w_u8, w_i64, Int.reduceToNat, Int.reducePow, Nat.reducePow, h0, hvv]
          exact hk _ _ BB
        · simp (disch := first | omega | (simp only [sZb, sZa, sZd] <;> omega) | (simp (disch := first | omega | (simp only [sZb, sZa, sZd] <;> omega) | fail) only [go_sem, h0, hvv]; done) | fail) only [go_sem, dec_t, dec_f, w_u32, w_u64, w_u16, w_u8, w_i64, Int.reduceToNat, Int.reducePow, Nat.reducePow, h0, hvv]
    · by_cases c : (2147483647 : Int) < q.other.length
      · simp (disch := first | omega | (simp only [sZb, sZa, sZd] <;> omega) | (simp (disch := first | omega | (simp only [sZb, sZa, sZd] <;> omega) | fail) only [go_sem, h0]; done) | fail) only [go_sem, dec_t, dec_f, w_u32, w_u64, w_u16, w_u8, w_i64, Int.reduceToNat, Int.reducePow, Nat.reducePow, h0]
        exact hk _ _ BB
      · simp (disch := first | omega | (simp only [sZb, sZa, sZd] <;> omega) | (simp (disch := first | omega | (simp only [sZb, sZa, sZd] <;> omega) | fail) only [go_sem, h0]; done) | fail) only [go_sem, dec_t, dec_f, w_u32, w_u64, w_u16, w_u8, w_i64, Int.reduceToNat, Int.reducePow, Nat.reducePow, h0]
  · by_cases c : (2147483647 : Int) < q.name.length
    · simp (disch := first | omega | (simp only [sZb, sZa, sZd] <;> omega) | (simp (disch := first | omega | (simp only [sZb, sZa, sZd] <;> omega) | fail) only [go_sem, h0]; done) | fail) only [go_sem, dec_t, dec_f, w_u32, w_u64, w_u16, w_u8, w_i64, Int.reduceToNat, Int.reducePow, Nat.reducePow, h0]
      exact hk _ _ BB
    · simp (disch := first | omega | (simp only [sZb, sZa, sZd] <;> omega) | (simp (disch := first | omega | (simp only [sZb, sZa, sZd] <;> omega) | fail) only [go_sem, h0]; done) | fail) only [go_sem, dec_t, dec_f, w_u32, w_u64, w_u16, w_u8, w_i64, Int.reduceToNat, Int.reducePow, Nat.reducePow, h0]
theorem fits1_spec {w : World} {K : Value → World → Prop} {v : Value} {qs : List SM.Stp} {vs : List Value} (h : StepsAt w v qs vs) (hk : ∀ b w', Below w.heap.size w w' → K (.bool b) w') : Cl P Fn.laws_zzFits1 #[v] w K := by
  apply S_laws_zzFits1
  unfold F_laws_zzFits1
  obtain ⟨a, cap, rfl⟩ := h.slice
  by_cases c : (2147483647 : Int) < qs.length
  · refine jn_with (fun _ _ => False) (fun _ _ _ h => h.elim) ?_
    simp (disch := first | omega | (simp only [sZb, sZa, sZd] <;> omega) | (simp (disch := first | omega | (simp only [sZb, sZa, sZd] <;> omega) | fail) only [go_sem]; done) | fail) only [go_sem, dec_t, dec_f, w_u32, w_u64, w_u16, w_u8, w_i64, Int.reduceToNat, Int.reducePow, Nat.reducePow]
    exact hk _ _ (Below.refl _ _)
  refine jn_with (fun t w' => w' = w) ?_ (by simp (disch := first | omega | (simp only [sZb, sZa, sZd] <;> omega) | (simp (disch := first | omega | (simp only [sZb, sZa, sZd] <;> omega) | fail) only [go_sem]; done) | fail) only [go_sem, dec_t, dec_f, w_u32, w_u64, w_u16, w_u8, w_i64, Int.reduceToNat, Int.reducePow, Nat.reducePow])
  rintro t e w1 rfl
  refine jn_with (fun t w' => Below w1.heap.size w1 w') ?_ ?_
  · rintro t e w2 b2
    exact hk _ _ b2
  simp (disch := first | omega | (simp only [sZb, sZa, sZd] <;> omega) | (simp (disch := first | omega | (simp only [sZb, sZa, sZd] <;> omega) | fail) only [go_sem]; done) | fail) only [go_sem, dec_t, dec_f, w_u32, w_u64, w_u16, w_u8, w_i64, Int.reduceToNat, Int.reducePow, Nat.reducePow]
  refine lp_intro (fun t w' => Below w1.heap.size w1 w' ∧ ∃ i : Nat, t = [.int .i64 i] ∧ i ≤ qs.length) (fun t _ => qs.length - (RowKit.intOf (gs t 0)).toNat) ⟨Below.refl _ _, 0, rfl, by omega⟩ ?_
  rintro t e w2 ⟨b2, i, rfl, hi⟩
  by_cases g : (i : Int) < qs.length
  · have hix : i < qs.length := by omega
    simp (disch := first | omega | (simp only [sZb, sZa, sZd] <;> omega) | (simp (disch := first | omega | (simp only [sZb, sZa, sZd] <;> omega) | fail) only [go_sem]; done) | fail) only [go_sem, dec_t, dec_f, w_u32, w_u64, w_u16, w_u8, w_i64, Int.reduceToNat, Int.reducePow, Nat.reducePow]
    refine jn_with (fun t w' => t = [] ∧ w' = w2) ?_ ⟨rfl, rfl⟩
    rintro t e w3 ⟨rfl, rfl⟩
    have hiv : i < vs.length := by rw [h.1]; exact hix
    have hq2 := h.old b2
    obtain ⟨b, o, hrow, hb, ix⟩ := hq2.idx hix hiv
    have hv := hq2.2.1 i hix hiv
    generalize qs[i] = q at *
    generalize vs[i] = vq at *
    have one := BS_one' hv
    have z := b2.size
    refine jn_with (fun t w' => t = [] ∧ Below w1.heap.size w1 w') ?_ ?_
    · rintro t e w4 ⟨rfl, b4⟩
      refine ⟨⟨b4, i + 1, rfl, by omega⟩, ?_⟩
      simp only [RowKit.intOf]
      omega
    · simp (disch := first | omega | (simp only [sZb, sZa, sZd] <;> omega) | (simp (disch := first | omega | (simp only [sZb, sZa, sZd] <;> omega) | fail) only [go_sem, ix, hrow, one]; done) | fail) only [go_sem, dec_t, dec_f, w_u32, w_u64, w_u16, w_u8, w_i64, Int.reduceToNat, Int.reducePow, Nat.reducePow, ix, hrow, one]
      obtain ⟨wA, hwA⟩ : ∃ wA, wA = setb (w3.alloc (CB [.int .i64 0, S [], S [], .int .i64 0, .int .i64 0, .int .i64 0, .slice none 0 0, .int .i64 0, .int .i64 0, .int .i64 0] T.impl_Step)) w3.heap.size (CB (stepC q vq) T.impl_Step) := ⟨_, rfl⟩
      rw [← hwA]
      have BA : Below w3.heap.size w3 wA := by rw [hwA]; repeat (first | exact Below.refl _ _ | assumption | refine bel_setb ?_ (by first | exact Nat.le_refl _ | omega | (simp only [go_sem] <;> omega)) _ | refine Below.alloc ?_ (by first | exact Nat.le_refl _ | omega | (simp only [go_sem]; omega)) _ | refine Below.drew ?_)
      refine fits2_spec (BS_old hv BA (Nat.le_refl _)) fun bb w4 b4 => ?_
      have B4 := (b2.trans (BA.mono z)).trans (b4.mono (by have := BA.size; omega))
      cases bb with
      | true =>
        simp (disch := first | omega | (simp only [sZb, sZa, sZd] <;> omega) | (simp (disch := first | omega | (simp only [sZb, sZa, sZd] <;> omega) | fail) only [go_sem]; done) | fail) only [go_sem, dec_t, dec_f, w_u32, w_u64, w_u16, w_u8, w_i64, Int.reduceToNat, Int.reducePow, Nat.reducePow]
        exact ⟨trivial, B4⟩
      | false =>
        simp (disch := first | omega | (simp only [sZb, sZa, sZd] <;> omega) | (simp (disch := first | omega | (simp only [sZb, sZa, sZd] <;> omega) | fail) only [go_sem]; done) | fail) only [go_sem, dec_t, dec_f, w_u32, w_u64, w_u16, w_u8, w_i64, Int.reduceToNat, Int.reducePow, Nat.reducePow]
        exact hk _ _ B4
  · have e1 : i = qs.length := by omega
    subst e1
    simp (disch := first | omega | (simp only [sZb, sZa, sZd] <;> omega) | (simp (disch := first | omega | (simp only [sZb, sZa, sZd] <;> omega) | fail) only [go_sem]; done) | fail) only [go_sem, dec_t, dec_f, w_u32, w_u64, w_u16, w_u8, w_i64, Int.reduceToNat, Int.reducePow, Nat.reducePow]
    exact jn_with (fun _ _ => False) (fun _ _ _ h => h.elim) b2
end Go.Proofs.YteblpejgenehfaaDoor.X
end
section
namespace Go.X
open Go Go.RowKit Go.ChangeShapes
end Go.X
end
section
namespace Go.Proofs.YteblpejgenehfaaDoor.X
open Go Go.X Go.Proofs Go.RowKit Go.ChangeShapes
theorem star : ("*" : String) ++ "errors.errorString" = "*errors.errorString" := by decide
theorem errRow (u : TypeId) (h : P.typeName? 3 u = some "*errors.errorString") : u = T.p_errors_errorString :=
  typeName_ptr_named (nm := "errors.errorString") (by rw [star]; kernel_rfl) (by kernel_rfl) (by decide) u (by rw [star]; exact h)
abbrev senL : List (Nat × String × List UInt8) := [(G.os_ErrExist, "pub-marram/pub/afero/inner/os.ErrExist", [102, 105, 108, 101, 32, 97, 108, 114, 101, 97, 100, 121, 32, 101, 120, 105, 115, 116, 115]), (G.os_ErrNotExist, "pub-marram/pub/afero/inner/os.ErrNotExist", [102, 105, 108, 101, 32, 100, 111, 101, 115, 32, 110, 111, 116, 32, 101, 120, 105, 115, 116]), (G.os_ENOENT, "pub-marram/pub/afero/inner/os.ENOENT", [110, 111, 32, 115, 117, 99, 104, 32, 102, 105, 108, 101, 32, 111, 114, 32, 100, 105, 114, 101, 99, 116, 111, 114, 121]), (G.os_ENOTDIR, "pub-marram/pub/afero/inner/os.ENOTDIR", [110, 111, 116, 32, 97, 32, 100, 105, 114, 101, 99, 116, 111, 114, 121]), (G.os_EPERM, "pub-marram/pub/afero/inner/os.EPERM", [111, 112, 101, 114, 97, 116, 105, 111, 110, 32, 110, 111, 116, 32, 112, 101, 114, 109, 105, 116, 116, 101, 100]), (G.os_EIO, "pub-marram/pub/afero/inner/os.EIO", [105, 110, 112, 117, 116, 47, 111, 117, 116, 112, 117, 116, 32, 101, 114, 114, 111, 114]), (G.os_EBADFD, "pub-marram/pub/afero/inner/os.EBADFD", [102, 105, 108, 101, 32, 100, 101, 115, 99, 114, 105, 112, 116, 111, 114, 32, 105, 110, 32, 98, 97, 100, 32, 115, 116, 97, 116, 101]), (G.io_EOF, "io.EOF", [69, 79, 70]), (G.io_ErrUnexpectedEOF, "io.ErrUnexpectedEOF", [117, 110, 101, 120, 112, 101, 99, 116, 101, 100, 32, 69, 79, 70]), (G.mem_ErrFileClosed, "pub-marram/pub/afero/mem.ErrFileClosed", [70, 105, 108, 101, 32, 105, 115, 32, 99, 108, 111, 115, 101, 100]), (G.mem_ErrOutOfRange, "pub-marram/pub/afero/mem.ErrOutOfRange", [111, 117, 116, 32, 111, 102, 32, 114, 97, 110, 103, 101])]
abbrev senD (x : Nat × String × List UInt8) : String × DataW Unit := (x.2.1, .iface "*errors.errorString" (.ptr (.agg [.lit (.string x.2.2)])))
theorem sents_of {W : World} : ∀ (l : List (Nat × String × List UInt8)) (ps : List MemPlace), (∀ x ∈ l, P.globalNamed x.2.1 = some x.1 ∧ (P.globals[x.1]?).map (·.type) = some T.error) → DataW.LaidVars P W (l.map senD) ps → ps.Nodup →
    (∀ b off, MemPlace.cell b off ∈ ps → (∃ c t, W.heap[b]? = some (.cells c t (0, 0))) ∧ ∀ u v, W.cell? ⟨b, off, none⟩ = some (.iface u v) → Value.okWide P W .any 0 u v) →
    ∃ aa : List (Nat × Nat), aa.length = l.length ∧ aa.Nodup ∧ (∀ a ∈ aa, MemPlace.cell a.1 a.2 ∈ ps ∧ ∃ c t, bk W a.1 = some (CB c t)) ∧ ∀ i (h1 : i < l.length) (h2 : i < aa.length), ∃ tt, bk W l[i].1 = some (CB [er aa[i]] tt)
  | [], ps, _, _, _, _ => ⟨[], rfl, List.nodup_nil, fun a h => (by cases h), fun i h1 => absurd h1 (by simp)⟩
  | x :: r, ps, hx, hv, hn, hr => by
    obtain ⟨n, nm, tx⟩ := x
    obtain ⟨g0, t0, cs0, f0, p0, q0, hg0, ht0, hv0, hd0, hq, rfl⟩ := hv
    have hx0 := hx _ (List.mem_cons_self ..)
    obtain rfl := Option.some.inj (hx0.1.symm.trans hg0)
    obtain rfl := Option.some.inj (hx0.2.symm.trans ht0)
    obtain ⟨l0⟩ := cs0
    have ok0 : ∀ u v, l0 = [.iface u v] → Value.okWide P W .any 0 u v := fun u v e => by
      subst e
      exact (hr n 0 (by simp [MemPlace.row])).2 u v (by simpa using World.var?_cell hg0 hv0 0)
    obtain ⟨a, s, rfl, hc, hs, hz, rfl⟩ := errorString_of_trod Tryd.underlying99 errRow U.p_errors_errorString Tryd.underlying153 rfl rfl U.string (by kernel_rfl) (by kernel_rfl) hd0 ok0
    have hspot : a.spot = none := by
      unfold World.cell? at hc
      split at hc
      · cases h : a.spot with
        | none => rfl
        | some s => rw [h] at hc; simp at hc
      · cases hc
    obtain ⟨b, o, sp⟩ := a
    simp only at hspot
    subst hspot
    have hrow1 : MemPlace.row ⟨b, o, none⟩ 1 = [MemPlace.cell b o] := by simp [MemPlace.row]
    have mem1 : MemPlace.cell b o ∈ MemPlace.row ⟨n, 0, none⟩ (#[Value.iface T.p_errors_errorString (pt b o)] : Array Value).size ++ MemPlace.row ⟨b, o, none⟩ 1 ++ q0 := List.mem_append_left _ (List.mem_append_right _ (by rw [hrow1]; exact List.mem_cons_self ..))
    have mem0 : MemPlace.cell n 0 ∈ MemPlace.row ⟨n, 0, none⟩ (#[Value.iface T.p_errors_errorString (pt b o)] : Array Value).size ++ MemPlace.row ⟨b, o, none⟩ 1 ++ q0 := List.mem_append_left _ (List.mem_append_left _ (by simp [MemPlace.row]))
    obtain ⟨⟨c1, tt1, hb1⟩, _⟩ := hr b o mem1
    obtain ⟨⟨c0, tt0, hb0⟩, _⟩ := hr n 0 mem0
    obtain ⟨aa, e1, e2, e3, e4⟩ := sents_of r q0 (fun y hy => hx y (List.mem_cons_of_mem _ hy)) hq (List.nodup_append.1 hn).2.1 fun b off hm => hr b off (List.mem_append_right _ hm)
    refine ⟨(b, o) :: aa, by simp [e1], List.nodup_cons.2 ⟨fun hm => ?_, e2⟩, fun a ha => ?_, fun i h1 h2 => ?_⟩
    · exact (List.nodup_append.1 hn).2.2 _ (List.mem_append_right _ (by rw [hrow1]; exact List.mem_cons_self ..)) _ (e3 _ hm).1 rfl
    · rcases List.mem_cons.1 ha with rfl | ha
      · exact ⟨mem1, c1.toList, tt1, hb1⟩
      · exact ⟨List.mem_append_right _ (e3 a ha).1, (e3 a ha).2⟩
    · cases i with
      | zero =>
        refine ⟨tt0, ?_⟩
        have e : W.var? P nm = some #[.iface T.p_errors_errorString (pt b o)] := hv0
        simp only [World.var?, hg0, Option.bind_some, hb0] at e
        injection e with e
        subst e
        exact hb0
      | succ i => exact e4 i (by simpa using h1) (by simpa using h2)
theorem sn_of {W : World} (h : laidMet P (senL.map senD) W) : ∃ m, Sn W W.heap.size m := by
  obtain ⟨ps, hv, hn, hr⟩ := h
  have hx : ∀ x ∈ senL, P.globalNamed x.2.1 = some x.1 ∧ (P.globals[x.1]?).map (·.type) = some T.error := by
    have : (senL.all fun x => P.globalNamed x.2.1 == some x.1 && (P.globals[x.1]?).map (·.type) == some T.error) = true := by kernel_rfl
    intro x hx
    have := List.all_eq_true.1 this x hx
    simpa using this
  obtain ⟨aa, e1, e2, e3, e4⟩ := sents_of senL ps hx hv hn hr
  have hs : ∀ g ∈ sents, ∃ i, i < 11 ∧ (senL.map (·.1))[i]? = some g ∧ (senL.map (·.1)).idxOf g = i := by decide
  refine ⟨fun g => aa.getD ((senL.map (·.1)).idxOf g) (0, 0), fun g hg => ?_, fun g hg => ?_, fun g hg g' hg' e => ?_⟩
  · obtain ⟨i, hi, h1, h2⟩ := hs g hg
    obtain ⟨tt, h3⟩ := e4 i (by simpa using hi) (by rw [e1]; simpa using hi)
    rw [h2]
    have h4 : senL[i]'(by simpa using hi) = senL[i]'(by simpa using hi) := rfl
    have h5 : (senL[i]'(by simpa using hi)).1 = g := by
      rw [List.getElem?_map, List.getElem?_eq_getElem (by simpa using hi)] at h1
      exact Option.some.inj h1
    rw [h5] at h3
    have h6 : aa.getD i (0, 0) = aa[i]'(by rw [e1]; simpa using hi) := by simp [List.getD, show i < aa.length by rw [e1]; simpa using hi]
    rw [h6]
    exact ⟨bk_lt h3, tt, h3⟩
  · obtain ⟨i, hi, h1, h2⟩ := hs g hg
    rw [h2]
    have h6 : aa.getD i (0, 0) = aa[i]'(by rw [e1]; simpa using hi) := by simp [List.getD, show i < aa.length by rw [e1]; simpa using hi]
    rw [h6]
    obtain ⟨_, c, t, h7⟩ := e3 _ (List.getElem_mem (by rw [e1]; simpa using hi : i < aa.length))
    exact ⟨bk_lt h7, c, t, h7⟩
  · obtain ⟨i, hi, h1, h2⟩ := hs g hg
    obtain ⟨i', hi', h1', h2'⟩ := hs g' hg'
    simp only [h2, h2'] at e
    have h6 : aa.getD i (0, 0) = aa[i]'(by rw [e1]; simpa using hi) := by simp [List.getD, show i < aa.length by rw [e1]; simpa using hi]
    have h6' : aa.getD i' (0, 0) = aa[i']'(by rw [e1]; simpa using hi') := by simp [List.getD, show i' < aa.length by rw [e1]; simpa using hi']
    rw [h6, h6'] at e
    have := (List.getElem_inj e2).1 e
    subst this
    rw [h1] at h1'
    exact Option.some.inj h1'
end Go.Proofs.YteblpejgenehfaaDoor.X
end
section
namespace Go.Proofs.YteblpejgenehfaaDoor.X
open Go Go.X Go.Proofs Go.RowKit
theorem rowOf_sub {ob : Option Obj} {p n : Nat} {l : List Value} (h : rowOf ob p n = some l) {q k : Nat} (hq : q + k ≤ n) : rowOf ob (p + q) k = some ((l.drop q).take k) := by
  obtain ⟨c, t, fz, rfl, h2, h3⟩ := rowOf_inv h
  simp only [rowOf]
  rw [if_pos (by omega), ← h3]
  congr 1
  rw [List.drop_take, List.drop_drop, List.take_take, Nat.min_eq_left (by omega)]
theorem cellOf_sub {ob : Option Obj} {p n : Nat} {l : List Value} (h : rowOf ob p n = some l) {q : Nat} (hq : q < n) : cellOf ob (p + q) = l[q]? := by
  obtain ⟨c, t, fz, rfl, h2, h3⟩ := rowOf_inv h
  simp only [cellOf]
  rw [← h3, List.getElem?_take_of_lt hq, List.getElem?_drop, Array.getElem?_toList]
theorem flat_at {α : Type} (f : α → List Value) (k : Nat) : ∀ (l : List α) (i : Nat) (h : i < l.length), (∀ x, (f x).length = k) → (((l.map f).flatten).drop (i * k)).take k = f l[i]
  | x :: l, 0, _, hf => by
    simp only [List.map_cons, List.flatten_cons, Nat.zero_mul, List.drop_zero, List.getElem_cons_zero]
    rw [List.take_append_of_le_length (by rw [hf]; omega), List.take_of_length_le (by rw [hf]; omega)]
  | x :: l, i + 1, h, hf => by
    simp only [List.map_cons, List.flatten_cons, List.getElem_cons_succ]
    rw [List.drop_append, List.drop_of_length_le (by rw [hf, Nat.succ_mul]; omega), List.nil_append, hf, show (i + 1) * k - k = i * k by rw [Nat.succ_mul]; omega]
    exact flat_at f k l i (by simpa using h) hf
theorem flat_len {α : Type} (f : α → List Value) (k : Nat) (hf : ∀ x, (f x).length = k) : ∀ l : List α, ((l.map f).flatten).length = l.length * k
  | [] => by simp
  | x :: l => by
    simp only [List.map_cons, List.flatten_cons, List.length_append, List.length_cons, hf, flat_len f k hf l, Nat.succ_mul]
    omega
section
variable {w w' : World} {K : Value → World → Prop}
theorem names_idx {y : Value} {l : List Str} (h : RowS w y l.length (l.map S)) {i : Nat} (hi : i < l.length) : ∃ b o, cellOf (bk w b) o = some (S l[i]) ∧ ∀ M : Value → Prop, pu P (oIdxA T.sl_string y (.int .i64 i)) M = M (pt b o) := by
  rcases h with ⟨b, o, c, rfl, hr⟩ | ⟨h0, _⟩
  · rw [List.length_map] at hr
    refine ⟨b, o + i, ?_, fun M => ?_⟩
    · rw [cellOf_sub hr hi]
      simp [hi]
    · rw [oIdxA_sl (size := 1) M U.sl_string (by kernel_rfl) (by omega) (by omega), Int.toNat_natCast, Nat.mul_one]
  · omega
theorem infos_idx {z : Value} {l : List SM.Info} (h : RowS w z l.length (infosC l)) {i : Nat} (hi : i < l.length) : ∃ b o, rowOf (bk w b) o 5 = some (infoC l[i]) ∧ ∀ M : Value → Prop, pu P (oIdxA T.sl_impl_Info z (.int .i64 i)) M = M (pt b o) := by
  rcases h with ⟨b, o, c, rfl, hr⟩ | ⟨h0, _⟩
  · have e : (infosC l).length = l.length * 5 := flat_len infoC 5 (fun _ => rfl) l
    rw [e] at hr
    refine ⟨b, o + i * 5, ?_, fun M => ?_⟩
    · rw [rowOf_sub hr (by omega)]
      exact congrArg some (flat_at infoC 5 l i hi fun _ => rfl)
    · rw [oIdxA_sl (size := 5) M U.sl_impl_Info (by kernel_rfl) (by omega) (by omega), Int.toNat_natCast]
  · omega
set_option maxHeartbeats 4000000 in
theorem same_eq {a : SM.Ans} {c c' : List Value} {lo lo' : Nat} {N N' : Nat → Prop} (h1 : AnsN w lo N a c) (h2 : AnsN w lo' N' a c') (hn : a.names.length ≤ 1000000000000) (hi : a.infos.length ≤ 1000000000000) (hk : ∀ w', Below w.heap.size w w' → K (.bool true) w') : Cl P Fn.spec_SameAnswer #[AG c, AG c'] w K := by
  apply S_spec_SameAnswer
  unfold F_spec_SameAnswer
  obtain ⟨x, y, z, rfl, hx, hy, hz, _⟩ := h1
  obtain ⟨x', y', z', rfl, hx', hy', hz', _⟩ := h2
  obtain ⟨p1, c1, ex⟩ := BS_slice hx
  obtain ⟨p2, c2, ey⟩ := RowS_slice hy
  obtain ⟨p3, c3, ez⟩ := RowS_slice hz
  obtain ⟨q1, d1, ex'⟩ := BS_slice hx'
  obtain ⟨q2, d2, ey'⟩ := RowS_slice hy'
  obtain ⟨q3, d3, ez'⟩ := RowS_slice hz'
  rw [oBox_agg, oBox_agg]
  obtain ⟨W, eW⟩ : ∃ W, W = (w.alloc (CB (answC a x y z) T.impl_Answer)).alloc (CB (answC a x' y' z') T.impl_Answer) := ⟨_, rfl⟩
  have zW : (w.alloc (CB (answC a x y z) T.impl_Answer)).heap.size = w.heap.size + 1 := by simp only [go_sem]
  have BW : Below w.heap.size w W := by rw [eW]; repeat (first | exact Below.refl _ _ | assumption | refine bel_setb ?_ (by first | exact Nat.le_refl _ | omega | (simp only [go_sem] <;> omega)) _ | refine Below.alloc ?_ (by first | exact Nat.le_refl _ | omega | (simp only [go_sem]; omega)) _ | refine Below.drew ?_)
  have l0 : bk W w.heap.size = some (CB (answC a x y z) T.impl_Answer) := by rw [eW, bk_alloc_ne _ _ _ (by rw [zW]; omega)]; exact bk_alloc_eq _ _ _ rfl
  have l1 : bk W (w.heap.size + 1) = some (CB (answC a x' y' z') T.impl_Answer) := by rw [eW]; exact bk_alloc_eq _ _ _ zW.symm
  rw [← eW, zW]
  clear eW
  have fin := hk W BW
  have cx : ∀ L : Value → World → Prop, st P (oConv T.sl_uint8 T.string x) W L = L (S a.data) W := fun L => stConvBS U.string U.sl_uint8 U.uint8 (BS_old hx BW (Nat.le_refl _))
  have cx' : ∀ L : Value → World → Prop, st P (oConv T.sl_uint8 T.string x') W L = L (S a.data) W := fun L => stConvBS U.string U.sl_uint8 U.uint8 (BS_old hx' BW (Nat.le_refl _))
  have ey1 := hy.old BW
  have ey1' := hy'.old BW
  have ez1 := hz.old BW
  have ez1' := hz'.old BW
  rw [ex] at l0 cx
  rw [ex'] at l1 cx'
  have nd : decide (a.data ≠ a.data) = false := decide_eq_false fun h => h rfl
  have ns : ∀ l : Str, decide (l ≠ l) = false := fun l => decide_eq_false fun h => h rfl
  rw [ey, ez] at l0
  rw [ey', ez'] at l1
  have lW := bk_lt l1
  refine jn_with (fun t w' => w' = W) ?_ ?_
  · rintro t e w3 rfl
    refine jn_with (fun t w' => Below w3.heap.size w3 w') ?_ ?_
    · rintro t e w4 b4
      refine jn_with (fun t w' => Below w3.heap.size w3 w') ?_ ?_
      · rintro t e w5 b5
        exact hk w5 (BW.trans (b5.mono BW.size))
      · have m0 := (bel_bk b4 (by omega)).trans l0
        simp (disch := first | omega | (simp only [sZb, sZa, sZd] <;> omega) | (simp (disch := first | omega | (simp only [sZb, sZa, sZd] <;> omega) | fail) only [go_sem, m0]; done) | fail) only [go_sem, dec_t, dec_f, w_u32, w_u64, w_u16, w_u8, w_i64, Int.reduceToNat, Int.reducePow, Nat.reducePow, m0]
        refine lp_intro (fun t w' => Below w3.heap.size w3 w' ∧ ∃ i : Nat, t = [.int .i64 i] ∧ i ≤ a.infos.length) (fun t _ => a.infos.length - (RowKit.intOf (gs t 0)).toNat) ⟨b4, 0, rfl, Nat.zero_le _⟩ ?_
        rintro t e w6 ⟨b6, i, rfl, hi'⟩
        by_cases g : (i : Int) < a.infos.length
        · have hix : i < a.infos.length := by omega
          have k0 := (bel_bk b6 (by omega)).trans l0
          have k1 := (bel_bk b6 (by omega)).trans l1
          obtain ⟨b, o, r1, x1⟩ := infos_idx (ez1.old b6) hix
          obtain ⟨b', o', r2, x2⟩ := infos_idx (ez1'.old b6) hix
          rw [ez] at x1
          rw [ez'] at x2
          generalize a.infos[i] = f at *
          simp (disch := first | omega | (simp only [sZb, sZa, sZd] <;> omega) | (simp (disch := first | omega | (simp only [sZb, sZa, sZd] <;> omega) | fail) only [go_sem]; done) | fail) only [go_sem, dec_t, dec_f, w_u32, w_u64, w_u16, w_u8, w_i64, Int.reduceToNat, Int.reducePow, Nat.reducePow]
          refine jn_with (fun t w' => t = [] ∧ w' = w6) ?_ ⟨rfl, rfl⟩
          rintro t e w7 ⟨rfl, rfl⟩
          refine jn_with (fun t w' => t = [] ∧ Below w3.heap.size w3 w') ?_ ?_
          · rintro t e w8 ⟨rfl, b8⟩
            refine ⟨⟨b8, i + 1, rfl, by omega⟩, ?_⟩
            simp only [RowKit.intOf, gs0]
            omega
          · simp (disch := first | omega | (simp only [sZb, sZa, sZd] <;> omega) | (simp (disch := first | omega | (simp only [sZb, sZa, sZd] <;> omega) | fail) only [go_sem, k0, k1, x1, x2, r1, r2, ns]; done) | fail) only [go_sem, dec_t, dec_f, w_u32, w_u64, w_u16, w_u8, w_i64, Int.reduceToNat, Int.reducePow, Nat.reducePow, k0, k1, x1, x2, r1, r2, ns]
            exact ⟨trivial, by repeat (first | exact Below.refl _ _ | assumption | refine bel_setb ?_ (by first | exact Nat.le_refl _ | omega | (simp only [go_sem] <;> omega)) _ | refine Below.alloc ?_ (by first | exact Nat.le_refl _ | omega | (simp only [go_sem]; omega)) _ | refine Below.drew ?_)⟩
        · simp (disch := first | omega | (simp only [sZb, sZa, sZd] <;> omega) | (simp (disch := first | omega | (simp only [sZb, sZa, sZd] <;> omega) | fail) only [go_sem]; done) | fail) only [go_sem, dec_t, dec_f, w_u32, w_u64, w_u16, w_u8, w_i64, Int.reduceToNat, Int.reducePow, Nat.reducePow]
          exact jn_with (fun _ _ => False) (fun _ _ _ h => h.elim) b6
    · simp (disch := first | omega | (simp only [sZb, sZa, sZd] <;> omega) | (simp (disch := first | omega | (simp only [sZb, sZa, sZd] <;> omega) | fail) only [go_sem, l0]; done) | fail) only [go_sem, dec_t, dec_f, w_u32, w_u64, w_u16, w_u8, w_i64, Int.reduceToNat, Int.reducePow, Nat.reducePow, l0]
      refine lp_intro (fun t w' => Below w3.heap.size w3 w' ∧ ∃ i : Nat, t = [.int .i64 i] ∧ i ≤ a.names.length) (fun t _ => a.names.length - (RowKit.intOf (gs t 0)).toNat) ⟨Below.refl _ _, 0, rfl, Nat.zero_le _⟩ ?_
      rintro t e w6 ⟨b6, i, rfl, hi'⟩
      by_cases g : (i : Int) < a.names.length
      · have hix : i < a.names.length := by omega
        have k0 := (bel_bk b6 (by omega)).trans l0
        have k1 := (bel_bk b6 (by omega)).trans l1
        obtain ⟨b, o, r1, x1⟩ := names_idx (ey1.old b6) hix
        obtain ⟨b', o', r2, x2⟩ := names_idx (ey1'.old b6) hix
        rw [ey] at x1
        rw [ey'] at x2
        generalize a.names[i] = f at *
        simp (disch := first | omega | (simp only [sZb, sZa, sZd] <;> omega) | (simp (disch := first | omega | (simp only [sZb, sZa, sZd] <;> omega) | fail) only [go_sem]; done) | fail) only [go_sem, dec_t, dec_f, w_u32, w_u64, w_u16, w_u8, w_i64, Int.reduceToNat, Int.reducePow, Nat.reducePow]
        refine jn_with (fun t w' => t = [] ∧ w' = w6) ?_ ⟨rfl, rfl⟩
        rintro t e w7 ⟨rfl, rfl⟩
        refine jn_with (fun t w' => t = [] ∧ Below w3.heap.size w3 w') ?_ ?_
        · rintro t e w8 ⟨rfl, b8⟩
          refine ⟨⟨b8, i + 1, rfl, by omega⟩, ?_⟩
          simp only [RowKit.intOf, gs0]
          omega
        · simp (disch := first | omega | (simp only [sZb, sZa, sZd] <;> omega) | (simp (disch := first | omega | (simp only [sZb, sZa, sZd] <;> omega) | fail) only [go_sem, k0, k1, x1, x2, r1, r2, ns]; done) | fail) only [go_sem, dec_t, dec_f, w_u32, w_u64, w_u16, w_u8, w_i64, Int.reduceToNat, Int.reducePow, Nat.reducePow, k0, k1, x1, x2, r1, r2, ns]
          exact ⟨trivial, by repeat (first | exact Below.refl _ _ | assumption | refine bel_setb ?_ (by first | exact Nat.le_refl _ | omega | (simp only [go_sem] <;> omega)) _ | refine Below.alloc ?_ (by first | exact Nat.le_refl _ | omega | (simp only [go_sem]; omega)) _ | refine Below.drew ?_)⟩
      · simp (disch := first | omega | (simp only [sZb, sZa, sZd] <;> omega) | (simp (disch := first | omega | (simp only [sZb, sZa, sZd] <;> omega) | fail) only [go_sem]; done) | fail) only [go_sem, dec_t, dec_f, w_u32, w_u64, w_u16, w_u8, w_i64, Int.reduceToNat, Int.reducePow, Nat.reducePow]
        exact jn_with (fun _ _ => False) (fun _ _ _ h => h.elim) b6
  · simp (disch := first | omega | (simp only [sZb, sZa, sZd] <;> omega) | (simp (disch := first | omega | (simp only [sZb, sZa, sZd] <;> omega) | fail) only [go_sem, l0, l1, cx, cx', nd]; done) | fail) only [go_sem, dec_t, dec_f, w_u32, w_u64, w_u16, w_u8, w_i64, Int.reduceToNat, Int.reducePow, Nat.reducePow, l0, l1, cx, cx', nd]
theorem AnsAt.idx {lo B n cap : Nat} {N : Nat → Prop} {az : List SM.Ans} {cs : List (List Value)} {a : Option Addr} (h : AnsAt w lo N az cs) (o : w.ownsRow B T.impl_Answer 6 (.slice a n cap) n (List.flatten cs)) (hn : az.length = n) {i : Nat} (hi : i < n) :
    ∃ b p, rowOf (bk w b) p 6 = some (cs[i]'(by rw [h.1, hn]; exact hi)) ∧ ∀ M : Value → Prop, pu P (oIdxA T.sl_impl_Answer (.slice a n cap) (.int .i64 i)) M = M (pt b p) := by
  have hc : ∀ c ∈ cs, c.length = 6 := fun c hc => by
    obtain ⟨j, hj, rfl⟩ := List.getElem_of_mem hc
    exact (ans_oneCells (h.2 j hj (by rw [← h.1]; exact hj))).1
  have hl : cs.length = n := by rw [h.1, hn]
  obtain ⟨b, cap', cur, e, h1, h2, h3, h4, h5, h6⟩ := own_row o (by omega)
  injection e with e1 e2 e3
  subst e1 e3
  have fl : ∀ (l : List (List Value)) (j : Nat) (hj : j < l.length), (∀ c ∈ l, c.length = 6) → (l.flatten.drop (j * 6)).take 6 = l[j] := fun l => by
    induction l with
    | nil => intro j hj; exact absurd hj (by simp)
    | cons c l ih =>
      intro j hj hh
      have hc0 := hh c (List.mem_cons_self ..)
      cases j with
      | zero =>
        simp only [List.flatten_cons, Nat.zero_mul, List.drop_zero, List.getElem_cons_zero]
        rw [List.take_append_of_le_length (by omega), List.take_of_length_le (by omega)]
      | succ j =>
        simp only [List.flatten_cons, List.getElem_cons_succ]
        rw [List.drop_append, List.drop_of_length_le (by omega), List.nil_append, hc0, show (j + 1) * 6 - 6 = j * 6 by omega]
        exact ih j (by simpa using hj) fun c hc => hh c (List.mem_cons_of_mem _ hc)
  refine ⟨b, i * 6, ?_, fun M => ?_⟩
  · rw [h4, rowOf_CB _ _ _ _ (by omega)]
    congr 1
    rw [← fl cs i (by omega) hc, ← h6, List.drop_take, List.take_take, Nat.min_eq_left (by omega)]
  · show pu P (oIdxA T.sl_impl_Answer (sl b 0 n cap) (.int .i64 i)) M = _
    rw [oIdxA_sl (size := 6) M U.sl_impl_Answer (by kernel_rfl) (by omega) (by omega), Int.toNat_natCast, Nat.zero_add]
set_option maxHeartbeats 4000000 in
theorem sames_eq {lo lo' B B' n : Nat} {N N' : Nat → Prop} {az : List SM.Ans} {cs cs' : List (List Value)} {v v' : Value} (h1 : AnsAt w lo N az cs) (o1 : w.ownsRow B T.impl_Answer 6 v n (List.flatten cs)) (h2 : AnsAt w lo' N' az cs') (o2 : w.ownsRow B' T.impl_Answer 6 v' n (List.flatten cs')) (hn : az.length = n) (hn2 : n ≤ 1000000000)
    (hb : ∀ a ∈ az, a.names.length ≤ 1000000000000 ∧ a.infos.length ≤ 1000000000000) (hk : ∀ w', Below w.heap.size w w' → K (.bool true) w') : Cl P Fn.spec_SameAnswers #[v, v'] w K := by
  apply S_spec_SameAnswers
  unfold F_spec_SameAnswers
  obtain ⟨a, c, rfl⟩ := own_slice o1
  obtain ⟨a', c', rfl⟩ := own_slice o2
  refine jn_with (fun t w' => w' = w) ?_ (by simp (disch := first | omega | (simp only [sZb, sZa, sZd] <;> omega) | (simp (disch := first | omega | (simp only [sZb, sZa, sZd] <;> omega) | fail) only [go_sem]; done) | fail) only [go_sem, dec_t, dec_f, w_u32, w_u64, w_u16, w_u8, w_i64, Int.reduceToNat, Int.reducePow, Nat.reducePow])
  rintro t e w1 rfl
  refine jn_with (fun t w' => Below w1.heap.size w1 w') ?_ ?_
  · rintro t e w2 b2
    exact hk _ b2
  simp (disch := first | omega | (simp only [sZb, sZa, sZd] <;> omega) | (simp (disch := first | omega | (simp only [sZb, sZa, sZd] <;> omega) | fail) only [go_sem]; done) | fail) only [go_sem, dec_t, dec_f, w_u32, w_u64, w_u16, w_u8, w_i64, Int.reduceToNat, Int.reducePow, Nat.reducePow]
  refine lp_intro (fun t w' => Below w1.heap.size w1 w' ∧ ∃ i : Nat, t = [.int .i64 i] ∧ i ≤ n) (fun t _ => n - (RowKit.intOf (gs t 0)).toNat) ⟨Below.refl _ _, 0, rfl, Nat.zero_le _⟩ ?_
  rintro t e w2 ⟨b2, i, rfl, hi⟩
  by_cases g : (i : Int) < n
  · have hix : i < n := by omega
    simp (disch := first | omega | (simp only [sZb, sZa, sZd] <;> omega) | (simp (disch := first | omega | (simp only [sZb, sZa, sZd] <;> omega) | fail) only [go_sem]; done) | fail) only [go_sem, dec_t, dec_f, w_u32, w_u64, w_u16, w_u8, w_i64, Int.reduceToNat, Int.reducePow, Nat.reducePow]
    refine jn_with (fun t w' => t = [] ∧ w' = w2) ?_ ⟨rfl, rfl⟩
    rintro t e w3 ⟨rfl, rfl⟩
    have z2 := b2.size
    have k2 : Kp w1 w3 (fun _ => False) := Kp.of_below b2 _
    have H1 := h1.kp k2 fun _ _ _ _ h => h
    have H2 := h2.kp k2 fun _ _ _ _ h => h
    have hl1 : i < cs.length := by rw [h1.1, hn]; exact hix
    have hl2 : i < cs'.length := by rw [h2.1, hn]; exact hix
    have hl3 : i < az.length := by rw [hn]; exact hix
    obtain ⟨b, p, r1, x1⟩ := H1.idx (own_old o1 b2 (Nat.le_refl _)) hn hix
    obtain ⟨b', p', r2, x2⟩ := H2.idx (own_old o2 b2 (Nat.le_refl _)) hn hix
    have q1 := H1.2 i (by rw [h1.1, hn]; exact hix) (by rw [hn]; exact hix)
    have q2 := H2.2 i (by rw [h2.1, hn]; exact hix) (by rw [hn]; exact hix)
    have hbi := hb az[i] (List.getElem_mem _)
    generalize az[i] = A at *
    generalize cs[i] = C at *
    generalize cs'[i] = C' at *
    refine jn_with (fun t w' => t = [] ∧ Below w1.heap.size w1 w') ?_ ?_
    · rintro t e w4 ⟨rfl, b4⟩
      refine ⟨⟨b4, i + 1, rfl, by omega⟩, ?_⟩
      simp only [RowKit.intOf, gs0]
      omega
    · have bD : Below w3.heap.size w3 w3.drew := by repeat (first | exact Below.refl _ _ | assumption | refine bel_setb ?_ (by first | exact Nat.le_refl _ | omega | (simp only [go_sem] <;> omega)) _ | refine Below.alloc ?_ (by first | exact Nat.le_refl _ | omega | (simp only [go_sem]; omega)) _ | refine Below.drew ?_)
      have kD : Kp w3 w3.drew (fun _ => False) := Kp.of_below bD _
      have z1 : C.length = 6 := (ans_oneCells q1).1
      have z2 : C'.length = 6 := (ans_oneCells q2).1
      simp (disch := first | omega | (simp only [sZb, sZa, sZd] <;> omega) | (simp (disch := first | omega | (simp only [sZb, sZa, sZd] <;> omega) | fail) only [go_sem, x1, x2, r1, r2]; done) | fail) only [go_sem, dec_t, dec_f, w_u32, w_u64, w_u16, w_u8, w_i64, Int.reduceToNat, Int.reducePow, Nat.reducePow, x1, x2, r1, r2]
      refine same_eq (q1.kp kD fun _ _ _ _ h => h) (q2.kp kD fun _ _ _ _ h => h) hbi.1 hbi.2 fun w4 b4 => ?_
      simp (disch := first | omega | (simp only [sZb, sZa, sZd] <;> omega) | (simp (disch := first | omega | (simp only [sZb, sZa, sZd] <;> omega) | fail) only [go_sem]; done) | fail) only [go_sem, dec_t, dec_f, w_u32, w_u64, w_u16, w_u8, w_i64, Int.reduceToNat, Int.reducePow, Nat.reducePow]
      exact ⟨trivial, b2.trans ((bD.trans b4).mono (by omega))⟩
  · simp (disch := first | omega | (simp only [sZb, sZa, sZd] <;> omega) | (simp (disch := first | omega | (simp only [sZb, sZa, sZd] <;> omega) | fail) only [go_sem]; done) | fail) only [go_sem, dec_t, dec_f, w_u32, w_u64, w_u16, w_u8, w_i64, Int.reduceToNat, Int.reducePow, Nat.reducePow]
    exact jn_with (fun _ _ => False) (fun _ _ _ h => h.elim) b2
end
end Go.Proofs.YteblpejgenehfaaDoor.X
end
section
namespace Go.Proofs.YteblpejgenehfaaDoor.X
open Go Go.X Go.Proofs Go.RowKit
theorem wovX_plain {x1 x2 : FX} {q : SM.Stp} : (wovX x1 x2 q).2.2.names.length ≤ 1 ∧ (wovX x1 x2 q).2.2.infos.length ≤ 1 := by
  unfold wovX
  repeat' apply iteP (Q := fun r : FX × FX × SM.Ans => r.2.2.names.length ≤ 1 ∧ r.2.2.infos.length ≤ 1)
  all_goals exact ⟨by simp, by simp⟩
theorem runX_all {σ : Type} {stp : σ → SM.Stp → σ × SM.Ans} {Q : SM.Ans → Prop} (h : ∀ s q, Q (stp s q).2) : ∀ (qs : List SM.Stp) (s : σ), ∀ a ∈ (runX stp s qs).2, Q a
  | [], s, a, ha => by cases ha
  | q :: qs, s, a, ha => by
    rcases List.mem_cons.1 ha with rfl | ha
    · exact h s q
    · exact runX_all h qs _ a ha
section
variable {w : World} {t0 t1 tv : Value} {l1 l2 : List UInt8} {ro : Bool} {qs : List SM.Stp} {vs : List Value} {m : Nat → Nat × Nat}
set_option maxHeartbeats 4000000 in
theorem FnUnionScript_law (hd1 : BS w t0 l1) (hd2 : BS w t1 l2) (hq : StepsAt w tv qs vs) (hs : Sn w w.heap.size m) :
    Cl P Fn.laws_FnUnionScript #[t0, t1, .bool ro, tv] w fun v w' => v = .bool true ∧ Below w.heap.size w w' := by
  apply S_laws_FnUnionScript
  unfold F_laws_FnUnionScript
  obtain ⟨a0, c0, rfl⟩ := BS_slice hd1
  obtain ⟨a1, c1, rfl⟩ := BS_slice hd2
  obtain ⟨av, cv, etv⟩ := hq.slice
  refine jn_with (fun t w' => Below w.heap.size w w') ?_ ?_
  rotate_left
  · by_cases h1 : (2147483647 : Int) < l1.length
    · simp (disch := first | omega | (simp only [sZb, sZa, sZd] <;> omega) | (simp (disch := first | omega | (simp only [sZb, sZa, sZd] <;> omega) | fail) only [go_sem]; done) | fail) only [go_sem, dec_t, dec_f, w_u32, w_u64, w_u16, w_u8, w_i64, Int.reduceToNat, Int.reducePow, Nat.reducePow]
      exact ⟨trivial, Below.refl _ _⟩
    by_cases h2 : (2147483647 : Int) < l2.length
    · simp (disch := first | omega | (simp only [sZb, sZa, sZd] <;> omega) | (simp (disch := first | omega | (simp only [sZb, sZa, sZd] <;> omega) | fail) only [go_sem]; done) | fail) only [go_sem, dec_t, dec_f, w_u32, w_u64, w_u16, w_u8, w_i64, Int.reduceToNat, Int.reducePow, Nat.reducePow]
      exact ⟨trivial, Below.refl _ _⟩
    · simp (disch := first | omega | (simp only [sZb, sZa, sZd] <;> omega) | (simp (disch := first | omega | (simp only [sZb, sZa, sZd] <;> omega) | fail) only [go_sem]; done) | fail) only [go_sem, dec_t, dec_f, w_u32, w_u64, w_u16, w_u8, w_i64, Int.reduceToNat, Int.reducePow, Nat.reducePow]
      refine fits1_spec hq fun b w1 b1 => ?_
      cases b with
      | true => simp (disch := first | omega | (simp only [sZb, sZa, sZd] <;> omega) | (simp (disch := first | omega | (simp only [sZb, sZa, sZd] <;> omega) | fail) only [go_sem]; done) | fail) only [go_sem, dec_t, dec_f, w_u32, w_u64, w_u16, w_u8, w_i64, Int.reduceToNat, Int.reducePow, Nat.reducePow]; exact b1
      | false => simp (disch := first | omega | (simp only [sZb, sZa, sZd] <;> omega) | (simp (disch := first | omega | (simp only [sZb, sZa, sZd] <;> omega) | fail) only [go_sem]; done) | fail) only [go_sem, dec_t, dec_f, w_u32, w_u64, w_u16, w_u8, w_i64, Int.reduceToNat, Int.reducePow, Nat.reducePow]; exact ⟨trivial, b1⟩
  rintro t e w1 B1
  unfold J_laws_FnUnionScript_3
  refine jn_with (fun t w' => w' = w1 ∧ qs.length ≤ 20 ∧ l1.length ≤ 4096 ∧ l2.length ≤ 4096) ?_ ?_
  rotate_left
  · rw [etv]
    by_cases h1 : (20 : Int) < qs.length
    · simp (disch := first | omega | (simp only [sZb, sZa, sZd] <;> omega) | (simp (disch := first | omega | (simp only [sZb, sZa, sZd] <;> omega) | fail) only [go_sem]; done) | fail) only [go_sem, dec_t, dec_f, w_u32, w_u64, w_u16, w_u8, w_i64, Int.reduceToNat, Int.reducePow, Nat.reducePow]
      exact ⟨trivial, B1⟩
    by_cases h2 : (4096 : Int) < l1.length
    · simp (disch := first | omega | (simp only [sZb, sZa, sZd] <;> omega) | (simp (disch := first | omega | (simp only [sZb, sZa, sZd] <;> omega) | fail) only [go_sem]; done) | fail) only [go_sem, dec_t, dec_f, w_u32, w_u64, w_u16, w_u8, w_i64, Int.reduceToNat, Int.reducePow, Nat.reducePow]
      exact ⟨trivial, B1⟩
    by_cases h3 : (4096 : Int) < l2.length
    · simp (disch := first | omega | (simp only [sZb, sZa, sZd] <;> omega) | (simp (disch := first | omega | (simp only [sZb, sZa, sZd] <;> omega) | fail) only [go_sem]; done) | fail) only [go_sem, dec_t, dec_f, w_u32, w_u64, w_u16, w_u8, w_i64, Int.reduceToNat, Int.reducePow, Nat.reducePow]
      exact ⟨trivial, B1⟩
    · simp (disch := first | omega | (simp only [sZb, sZa, sZd] <;> omega) | (simp (disch := first | omega | (simp only [sZb, sZa, sZd] <;> omega) | fail) only [go_sem]; done) | fail) only [go_sem, dec_t, dec_f, w_u32, w_u64, w_u16, w_u8, w_i64, Int.reduceToNat, Int.reducePow, Nat.reducePow]
      exact ⟨trivial, by omega, by omega, by omega⟩
  rintro t e w2 ⟨rfl, g1, g2, g3⟩
  unfold J_laws_FnUnionScript_2
  have hq2 := hq.old B1
  have hd12 := BS_old hd1 B1 (Nat.le_refl _)
  have hd22 := BS_old hd2 B1 (Nat.le_refl _)
  rw [C.spec_UnionRun]
  refine unionRun_spec hd12 hd22 g2 g3 hq2 g1 (fun w' b => ?_) fun w3 wv lv bv cs u c b3 o3 A3 bl bb ok r => ?_
  · simp (disch := first | omega | (simp only [sZb, sZa, sZd] <;> omega) | (simp (disch := first | omega | (simp only [sZb, sZa, sZd] <;> omega) | fail) only [go_sem]; done) | fail) only [go_sem, dec_t, dec_f, w_u32, w_u64, w_u16, w_u8, w_i64, Int.reduceToNat, Int.reducePow, Nat.reducePow]
    refine jn_with (fun _ _ => False) (fun _ _ _ h => h.elim) ?_
    exact ⟨trivial, B1.trans (b.mono B1.size)⟩
  have B3 := B1.trans (b3.mono B1.size)
  simp (disch := first | omega | (simp only [sZb, sZa, sZd] <;> omega) | (simp (disch := first | omega | (simp only [sZb, sZa, sZd] <;> omega) | fail) only [go_sem]; done) | fail) only [go_sem, dec_t, dec_f, w_u32, w_u64, w_u16, w_u8, w_i64, Int.reduceToNat, Int.reducePow, Nat.reducePow]
  refine jn_with (fun t w' => w' = w3) ?_ ?_
  rotate_left
  · simp (disch := first | omega | (simp only [sZb, sZa, sZd] <;> omega) | (simp (disch := first | omega | (simp only [sZb, sZa, sZd] <;> omega) | fail) only [go_sem]; done) | fail) only [go_sem, dec_t, dec_f, w_u32, w_u64, w_u16, w_u8, w_i64, Int.reduceToNat, Int.reducePow, Nat.reducePow]
  rintro t e w4 rfl
  unfold J_laws_FnUnionScript_1
  have hq3 := hq.old B3
  have hd13 := BS_old hd1 B3 (Nat.le_refl _)
  have hd23 := BS_old hd2 B3 (Nat.le_refl _)
  have k1 := r.l.len
  have k2 := r.b.len
  rw [C.impl_UnionScript]
  refine union_script (m := m) hd13 hd23 (by omega) (by omega) (hs.next B3) hq3 (by omega) ok (by show (runX wovS (ux0 l1 l2 ro) qs).1.1.bytes.length ≤ _; rw [r.l.bytes]; omega) (by show (runX wovS (ux0 l1 l2 ro) qs).1.2.bytes.length ≤ _; rw [r.b.bytes]; omega) fun w5 gv xv yv cs' b5 o5 A5 ox oy => ?_
  have B5 := B3.trans (b5.mono B3.size)
  simp (disch := first | omega | (simp only [sZb, sZa, sZd] <;> omega) | (simp (disch := first | omega | (simp only [sZb, sZa, sZd] <;> omega) | fail) only [go_sem]; done) | fail) only [go_sem, dec_t, dec_f, w_u32, w_u64, w_u16, w_u8, w_i64, Int.reduceToNat, Int.reducePow, Nat.reducePow]
  refine sames_eq A5 o5 (A3.kp (Kp.of_below b5 fun _ => False) fun _ _ _ _ h => h) (own_old o3 b5 (Nat.le_refl _)) (runX_len _ _ _) (by omega) (fun a ha => ?_) fun w6 b6 => ?_
  · have := runX_all (stp := wovS) (Q := fun a => a.names.length ≤ 1 ∧ a.infos.length ≤ 1) (fun s q => wovX_plain) qs (fx0 l1 ro, fx0 l2 ro) a ha
    omega
  have z5 := B5.size
  have B6 := B5.trans (b6.mono z5)
  have bx := BS_old (BS_own ox) b6 (Nat.le_refl _)
  have b_y := BS_old (BS_own oy) b6 (Nat.le_refl _)
  have bl' := BS_old (BS_old bl b5 (Nat.le_refl _)) b6 (Nat.le_refl _)
  have bb' := BS_old (BS_old bb b5 (Nat.le_refl _)) b6 (Nat.le_refl _)
  have cx : ∀ L : Value → World → Prop, st P (oConv T.sl_uint8 T.string xv) w6 L = L (S _) w6 := fun L => stConvBS U.string U.sl_uint8 U.uint8 bx
  have cy : ∀ L : Value → World → Prop, st P (oConv T.sl_uint8 T.string yv) w6 L = L (S _) w6 := fun L => stConvBS U.string U.sl_uint8 U.uint8 b_y
  have cl : ∀ L : Value → World → Prop, st P (oConv T.sl_uint8 T.string lv) w6 L = L (S (runX wovS (fx0 l1 ro, fx0 l2 ro) qs).1.1.bytes) w6 := fun L => stConvBS U.string U.sl_uint8 U.uint8 bl'
  have cb : ∀ L : Value → World → Prop, st P (oConv T.sl_uint8 T.string bv) w6 L = L (S (runX wovS (fx0 l1 ro, fx0 l2 ro) qs).1.2.bytes) w6 := fun L => stConvBS U.string U.sl_uint8 U.uint8 bb'
  have ns : ∀ l : List UInt8, decide (l = l) = true := fun l => decide_eq_true rfl
  simp (disch := first | omega | (simp only [sZb, sZa, sZd] <;> omega) | (simp (disch := first | omega | (simp only [sZb, sZa, sZd] <;> omega) | fail) only [go_sem, cx, cy, cl, cb, ns]; done) | fail) only [go_sem, dec_t, dec_f, w_u32, w_u64, w_u16, w_u8, w_i64, Int.reduceToNat, Int.reducePow, Nat.reducePow, cx, cy, cl, cb, ns]
  exact ⟨trivial, B6⟩
theorem FnUnionScript_walk (v0 : Value) (l0 : List UInt8) (v1 : Value) (l1 : List UInt8) (a2 : Bool) (v3 : Value) (qs : List SM.Stp) (w : World) (b0 : BS w v0 l0) (w0 : l0.length ≤ 140737488351232) (b1 : BS w v1 l1) (w1 : l1.length ≤ 140737488351232) (h : (∃ vs, StepsAt w v3 qs vs) ∧ (∀ q ∈ qs, FitS q) ∧ qs.length ≤ maxLen) (hL : laidMet P (senL.map senD) w) :
    Cl P Fn.laws_FnUnionScript #[v0, v1, .bool a2, v3] w fun v w' => v = .bool true ∧ Below w.heap.size w w' := by
  obtain ⟨m, hs⟩ := sn_of hL
  obtain ⟨⟨vs, hq⟩, _⟩ := h
  exact FnUnionScript_law b0 b1 hq hs
end
end Go.Proofs.YteblpejgenehfaaDoor.X
end
