/- 'CW' is sound for 'Calls': the theorem by which each function's text is laid. No condition. -/
import Derived.Test.YtfiepdikejoeeaaDoorXSound
set_option linter.unusedVariables false
set_option linter.unusedSimpArgs false
namespace Go.X
open Go
section
variable {P : Program} {T : Tab}

def Ps (m : Nat) (a : Act) (Q : Exit → Env → World → Prop) : Exit → Act → World → Prop
  | .panic _, _, _ => False
  | .outgrown, _, _ => False
  | .goto _, _, _ => False
  | x, a', w' => Fr m a a' ∧ Q x (envOf a') w'

theorem Fr.weaken {m m1 : Nat} {a b : Act} (h : Fr m1 a b) (s : ∀ t, Nat.testBit m t = false → Nat.testBit m1 t = false) : Fr m a b :=
  ⟨h.1, h.2.1, fun t ht => h.2.2 t (s t ht)⟩

theorem Ps.weaken {m m1 : Nat} {a b : Act} {Q : Exit → Env → World → Prop} (hf : Fr m a b) (s : ∀ t, Nat.testBit m t = false → Nat.testBit m1 t = false) {x : Exit} {a' : Act} {w' : World}
    (h : Ps m1 b Q x a' w') : Ps m a Q x a' w' := by
  cases x <;> first | exact h | exact ⟨hf.trans h.1 (fun _ h => h) s, h.2⟩

theorem idx_spec : ∀ (L : List Nat) (t n i : Nat), idx L t n = some i → ∃ k, i = n + k ∧ L[k]? = some t
  | [], _, _, _, h => by cases h
  | l :: ls, t, n, i, h => by
    simp only [idx] at h
    cases hb : Nat.beq l t with
    | true =>
      simp only [hb, cond_true] at h
      injection h with h
      exact ⟨0, by omega, by simp [Nat.eq_of_beq_eq_true hb]⟩
    | false =>
      simp only [hb, cond_false] at h
      obtain ⟨k, h1, h2⟩ := idx_spec ls t (n + 1) i h
      exact ⟨k + 1, by omega, by simpa using h2⟩

theorem mix_eq {m : Nat} {L : List Nat} {e e1 : Env} (h : ∀ t, Nat.testBit m t = false → e1 t = e t) : mix m L (L.map e1) e1 e = e1 := by
  funext t
  unfold mix
  cases hb : Nat.testBit m t with
  | false => simp only [cond_false]; exact (h t hb).symm
  | true =>
    simp only [cond_true]
    cases hi : idx L t 0 with
    | none => rfl
    | some i =>
      obtain ⟨k, h1, h2⟩ := idx_spec L t 0 i hi
      have : i = k := by omega
      subst this
      simp [List.getD, h2]

theorem okOps_all {n : Nat} {ops : Array Oper} (h : okOps n ops.toList = true) : ∀ o ∈ ops.toList, ∀ x, o.dst = some x → x < n ∧ Nat.testBit (asgOps ops.toList 0) x = true :=
  fun _ ho x hx => ⟨okOps_mem h ho x hx, asgOps_mem ho 0 x hx⟩

def Qn (R : Act → World → Prop) : Exit → Act → World → Prop
  | .normal, a, w => R a w
  | _, _, _ => False

theorem bit_or {a b t : Nat} (h : Nat.testBit (a ||| b) t = false) : Nat.testBit a t = false ∧ Nat.testBit b t = false := by
  rw [Nat.testBit_or, Bool.or_eq_false_iff] at h; exact h

theorem CW_sound (hm : P.follows .mixedOrders = true) : ∀ (c : Code) (Q : Exit → Env → World → Prop) (a : Act) (w : World), okDst a.tmps.size c = true → CW P T c Q (envOf a) w → c.wp P (Ps (asg c) a Q) a w
  | .skip, Q, a, w, _, h => wp_skip ⟨Fr.refl _ _, h⟩
  | .region id ops draw, Q, a, w, hok, h => by
    simp only [CW] at h
    simp only [okDst] at hok
    have hd := okOps_all hok
    cases draw with
    | false =>
      simp only [regW] at h
      exact wp_region_list (seqW_sound (m := asgOps ops.toList 0) (a0 := a) _ (fun a' w' hf hk => ⟨hf, hk⟩) _ _ _ hok (fun o ho x hx => (hd o ho x hx).2) (Fr.refl _ _) h)
    | true =>
      simp only [regW] at h
      cases hb : (befOk (befores ops.toList []) ops.toList (befores ops.toList []) && !ops.toList.any isSel) with
      | false => rw [hb] at h; exact h.elim
      | true =>
        rw [hb] at h
        simp only [Bool.and_eq_true, Bool.not_eq_true'] at hb
        have hsel : ∀ (j : Nat) (o : Oper) cs b, ops[j]? = some o → o.op ≠ .select cs b := fun j o cs b ho hop => by
          have h1 := hb.2
          rw [List.any_eq_false] at h1
          exact h1 o (List.mem_of_getElem? (by simpa using ho)) (by unfold isSel; rw [hop])
        have key := drawW_sound (Q := Qn fun a' w' => Fr (asgOps ops.toList 0) a a' ∧ Q .normal (envOf a') w') (K := Q .normal) (m := asgOps ops.toList 0) (a0 := a) hb.1 hsel (fun c a w h => h) (fun a' w' hf hk => ⟨hf, hk⟩)
          hd ops.toList.length (List.replicate ops.toList.length false) [] a w.drew h (Fr.refl _ _)
          (fun k b i _ hk _ => by rw [List.getElem?_replicate] at hk; split at hk <;> cases hk) (by simp) (by simp)
        have key2 := wpAny_of_anyF _ _ _ _ key
        have e1 : ops.toList.length = ops.size := by simp
        have e2 : (List.replicate ops.size false).toArray = Array.replicate ops.size false := by simp
        rw [e1, e2] at key2
        refine wp_mono (wp_region_any hm key2) fun e a' w' hq => ?_
        cases e <;> first | exact hq.elim | exact hq
  | .seq x y, Q, a, w, hok, h => by
    simp only [okDst, Bool.and_eq_true] at hok
    have done : ∀ a1 w1, Fr (asg x) a a1 → CW P T y Q (envOf a1) w1 → y.wp P (Ps (asg (.seq x y)) a Q) a1 w1 := fun a1 w1 hf hy =>
      wp_mono (CW_sound hm y Q a1 w1 (by rw [hf.1]; exact hok.2) hy) fun e a2 w2 hq => Ps.weaken (hf.weaken fun t ht => (bit_or ht).1) (fun t ht => (bit_or ht).2) hq
    have out : ∀ (K : Env → World → Prop) e a1 w1, Ps (asg x) a (thn K Q) e a1 w1 → (e = .normal → K (envOf a1) w1 → Fr (asg x) a a1 → y.wp P (Ps (asg (.seq x y)) a Q) a1 w1) → Exit.then (y.wp P (Ps (asg (.seq x y)) a Q)) (Ps (asg (.seq x y)) a Q) e a1 w1 := fun K e a1 w1 hq hn => by
      cases e <;> simp only [Exit.then] <;> first
        | exact hn rfl hq.2 hq.1
        | exact hq
        | exact ⟨hq.1.weaken fun t ht => (bit_or ht).1, hq.2⟩
    simp only [CW] at h
    cases hb : branches x with
    | false =>
      rw [hb] at h
      exact wp_seq (wp_mono (CW_sound hm x _ a w hok.1 h) fun e a1 w1 hq => out _ e a1 w1 hq fun _ hk hf => done a1 w1 hf hk)
    | true =>
      rw [hb] at h
      obtain ⟨⟨k, hk, hx⟩⟩ := h
      exact wp_seq (wp_mono (CW_sound hm x _ a w hok.1 hx) fun e a1 w1 hq => out _ e a1 w1 hq fun _ hk1 hf => done a1 w1 hf (by
        have := hk _ (envOf a1) w1 hk1
        simp only [mix_eq hf.2.2] at this
        exact this))
  | .cond c x y, Q, a, w, hok, h => by
    simp only [okDst, Bool.and_eq_true] at hok
    simp only [CW] at h
    replace h := h.h
    unfold cd0 at h
    cases hv : ev (envOf a) c with
    | bool b =>
      simp only [hv] at h
      have hc : a.eval c = .bool b := by rw [eval_eq]; exact hv
      cases b with
      | true =>
        rw [if_pos rfl] at h
        exact wp_cond_true hc (wp_mono (CW_sound hm x Q a w hok.1 h) fun e a1 w1 hq => Ps.weaken (Fr.refl _ _) (fun t ht => (bit_or ht).1) hq)
      | false =>
        rw [if_neg Bool.false_ne_true] at h
        exact wp_cond_false hc (wp_mono (CW_sound hm y Q a w hok.2 h) fun e a1 w1 hq => Ps.weaken (Fr.refl _ _) (fun t ht => (bit_or ht).2) hq)
    | _ => rw [hv] at h; exact h.elim
  | .block id c, Q, a, w, hok, h => by
    simp only [okDst] at hok
    simp only [CW] at h
    refine wp_block (wp_mono (CW_sound hm c _ a w hok h) fun e a1 w1 hq => ?_)
    cases e with
    | exit id' =>
      simp only [Exit.inBlock]
      obtain ⟨hf, hq⟩ := hq
      simp only [inb] at hq
      by_cases e : id' = id
      · subst e
        rw [if_pos rfl]
        have : Nat.beq id' id' = true := Nat.beq_refl ..
        rw [this] at hq
        exact ⟨hf, hq⟩
      · rw [if_neg e]
        rw [beq_ne e] at hq
        exact ⟨hf, hq⟩
    | _ => exact hq
  | .loop c, Q, a, w, hok, h => by
    simp only [okDst] at hok
    simp only [CW] at h
    obtain ⟨⟨I, μ, h0, hr⟩⟩ := h
    refine wp_loop (fun a1 w1 => Fr (asg c) a a1 ∧ I ((T.loop (keyD c)).map (envOf a1)) w1) (fun a1 w1 => μ ((T.loop (keyD c)).map (envOf a1)) w1) ⟨Fr.refl _ _, h0⟩ fun a1 w1 ⟨hf, hI⟩ => ?_
    have h1 := hr _ (envOf a1) w1 hI
    simp only [mix_eq hf.2.2] at h1
    refine wp_mono (CW_sound hm c _ a1 w1 (by rw [hf.1]; exact hok) h1) fun e a2 w2 hq => ?_
    cases e <;> simp only [Exit.then] <;> first
      | exact ⟨⟨hf.trans hq.1 (fun _ h => h) (fun _ h => h), hq.2.1⟩, hq.2.2⟩
      | exact hq
      | exact ⟨hf.trans hq.1 (fun _ h => h) (fun _ h => h), hq.2⟩
  | .exit id, Q, a, w, _, h => wp_exit ⟨Fr.refl _ _, h⟩
  | .ret, Q, a, w, _, h => wp_ret ⟨Fr.refl _ _, h⟩
  | .rangeFunc .., _, _, _, _, h => by simp only [CW] at h
  | .scope _, _, _, _, _, h => by simp only [CW] at h
  | .label _, _, _, _, _, h => by simp only [CW] at h
  | .goto _, _, _, _, _, h => by simp only [CW] at h
  | .refuse _, _, _, _, _, h => by simp only [CW] at h

def resM (tmps : Array Value) : ResultVar → Sem Value
  | .tmp t => pure (tmps.getD t undef)
  | .cell a t => do loadVar t (← asAddr (tmps.getD a undef))

theorem resW_sound {K : Value → World → Prop} {e : Env} {w : World} (tmps : Array Value) (he : e = fun t => tmps.getD t undef) : ∀ (rs : List ResultVar) (acc : List Value), resW P rs acc e w K →
    ∃ vs : List Value, (rs.mapM (resM tmps)).run P w = .ok vs w ∧ K (tup (acc ++ vs)) w
  | [], acc, h => ⟨[], by rw [List.mapM_nil]; rfl, by rw [List.append_nil]; exact h⟩
  | .tmp t :: r, acc, h => by
    simp only [resW] at h
    obtain ⟨vs, h1, h2⟩ := resW_sound tmps he r _ h
    refine ⟨e t :: vs, ?_, by simpa using h2⟩
    have hv' : (resM tmps (.tmp t)).run P w = .ok (e t) w := by rw [he]; rfl
    simp only [List.mapM_cons, Sem.run_bind, h1, hv', Result.andThen_ok]
    rfl
  | .cell a t :: r, acc, h => by
    simp only [resW] at h
    obtain ⟨⟨v, hv, h⟩⟩ := h
    obtain ⟨vs, h1, h2⟩ := resW_sound tmps he r _ h
    refine ⟨v :: vs, ?_, by simpa using h2⟩
    have hv' : (resM tmps (.cell a t)).run P w = .ok v w := by rw [← hv, he]; rfl
    simp only [List.mapM_cons, Sem.run_bind, h1, hv', Result.andThen_ok]
    rfl

theorem results_run {K : Value → World → Prop} {fn : Func} {a : Act} {w : World} (h : resW P fn.results.toList [] (envOf a) w K) : ∃ v, (results fn a.tmps).run P w = .ok v w ∧ K v w := by
  obtain ⟨vs, h1, h2⟩ := resW_sound a.tmps rfl _ _ h
  refine ⟨tup vs, ?_, by simpa using h2⟩
  have e : fn.results.mapM (resM a.tmps) = (fun l : List Value => l.toArray) <$> fn.results.toList.mapM (resM a.tmps) := by
    rw [Array.mapM_eq_mapM_toList]
  have e2 : results fn a.tmps = (do
      let vs ← fn.results.mapM (resM a.tmps)
      pure (if h : vs.size = 1 then vs[0] else .tuple vs)) := by
    unfold results
    congr 1
  rw [e2, e, Sem.run_bind, Sem.run_map, h1]
  simp only [Result.andThen_ok]
  match vs with
  | [] => rfl
  | [v] => rfl
  | v :: u :: r => rfl

theorem envOf_enter (args : List Value) (n : Nat) : envOf { tmps := args.toArray ++ Array.replicate n undef, defers := [] } = env0 args := by
  funext t
  simp only [envOf, env0, Array.getD_eq_getD_getElem?, List.getD_eq_getElem?_getD]
  by_cases h : t < args.length
  · rw [Array.getElem?_append_left (by simpa using h)]; simp
  · rw [Array.getElem?_append_right (by simpa using h)]
    rw [List.getElem?_eq_none (by omega)]
    simp only [Array.getElem?_replicate]
    split <;> rfl

theorem cl_of_cw {f : FuncId} {fn : Func} {c : Code} {args : List Value} {w : World} {K : Value → World → Prop} (hf : P.funcs[f]? = some fn) (hb : fn.body = some c) (hm : P.follows .mixedOrders = true)
    (hd : okDst fn.ntmps c = true) (ha : args.length ≤ fn.ntmps) (h : CW P T c (retQ P fn.results.toList K) (env0 args) w) : Cl P f args.toArray w K := by
  refine calls_of_wp hf hb ?_
  have hs : (args.toArray ++ Array.replicate (fn.ntmps - args.toArray.size) undef).size = fn.ntmps := by simp; omega
  refine wp_mono (CW_sound (T := T) hm c (retQ P fn.results.toList K) _ w (by rw [hs]; exact hd) (by rw [envOf_enter]; exact h)) fun e a' w' hq => ?_
  have fin : ∀ x, Ps (asg c) { tmps := args.toArray ++ Array.replicate (fn.ntmps - args.toArray.size) undef, defers := [] } (retQ P fn.results.toList K) x a' w' → (x = .normal ∨ x = .ret) →
      a'.defers = [] ∧ ∃ v, (results fn a'.tmps).run P w' = .ok v w' ∧ ∃ v', Ending.returned v = .returned v' ∧ K v' w' := fun x hx hor => by
    have hres : Fr (asg c) { tmps := args.toArray ++ Array.replicate (fn.ntmps - args.toArray.size) undef, defers := [] } a' ∧ resW P fn.results.toList [] (envOf a') w' K := by
      rcases hor with rfl | rfl <;> exact hx
    obtain ⟨v, h1, h2⟩ := results_run hres.2
    exact ⟨hres.1.2.1, v, h1, v, rfl, h2⟩
  cases e with
  | normal => exact fin _ hq (.inl rfl)
  | ret => exact fin _ hq (.inr rfl)
  | exit id => exact hq.2.elim
  | goto l => exact hq.elim
  | panic c => exact hq.elim
  | outgrown => exact hq.elim
end
end Go.X
