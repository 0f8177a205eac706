/- 'CW' is sound for the kit's 'Code.wp': what it asks is enough. No condition. -/
import Derived.Test.YtfiepdikejoeeaaDoorXCore
import Derived.OrdersHeld
set_option linter.unusedVariables false
set_option linter.unusedSimpArgs false
namespace Go.X
open Go

theorem eval_eq (a : Act) : a.eval = ev (envOf a) := by
  funext x; cases x <;> rfl

theorem runPure_run {P : Program} {v : Value} (w : World) : ∀ s : Sem Next, runPure P s = some v →
    s.run P w = .ok (.value v) w
  | .pure n, h => by cases n <;> simp [runPure] at h <;> simp [Sem.run, h]
  | .program k, h => by simp only [runPure] at h; simp only [Sem.run]; exact runPure_run w _ h
  | .mark _ k, h => by simp only [runPure] at h; simp only [Sem.run]; exact runPure_run w _ h
  | .load .., h | .store .., h | .new .., h | .shape .., h | .freeze .., h | .frozen .., h | .getObj .., h | .setObj .., h | .choose .., h | .sys .., h | .halt _, h => by simp [runPure] at h

/-- The frame's size, its deferred calls and the slots outside 'm' are as they were. -/
def Fr (m : Nat) (a0 a : Act) : Prop := a.tmps.size = a0.tmps.size ∧ a.defers = a0.defers ∧ ∀ t, Nat.testBit m t = false → envOf a t = envOf a0 t

theorem Fr.refl (m : Nat) (a : Act) : Fr m a a := ⟨rfl, rfl, fun _ _ => rfl⟩
theorem Fr.trans {m m1 m2 : Nat} {a b c : Act} (h1 : Fr m1 a b) (h2 : Fr m2 b c) (s1 : ∀ t, Nat.testBit m t = false → Nat.testBit m1 t = false) (s2 : ∀ t, Nat.testBit m t = false → Nat.testBit m2 t = false) : Fr m a c :=
  ⟨h2.1.trans h1.1, h2.2.1.trans h1.2.1, fun t ht => (h2.2.2 t (s2 t ht)).trans (h1.2.2 t (s1 t ht))⟩

theorem put_size (a : Act) (d : Option Tmp) (v : Value) : (a.put d v).tmps.size = a.tmps.size := by cases d <;> simp [Act.put]
theorem put_defers (a : Act) (d : Option Tmp) (v : Value) : (a.put d v).defers = a.defers := by cases d <;> rfl

theorem beq_ne {t d : Nat} (h : t ≠ d) : Nat.beq t d = false := by
  cases e : Nat.beq t d with
  | false => rfl
  | true => exact absurd (Nat.eq_of_beq_eq_true e) h

theorem envOf_put (a : Act) (d : Option Tmp) (v : Value) (h : ∀ x, d = some x → x < a.tmps.size) : envOf (a.put d v) = put (envOf a) d v := by
  cases d with
  | none => rfl
  | some d =>
    funext t
    simp only [envOf, Act.put, put]
    by_cases e : t = d
    · subst e
      have := h t rfl
      simp [this]
    · have e1 : Nat.beq t d = false := beq_ne e
      simp [Array.getElem?_setIfInBounds_ne (Ne.symm e)]
      rw [e1]; rfl

theorem okOps_mem {n : Nat} {l : List Oper} (h : okOps n l = true) {o : Oper} (ho : o ∈ l) : ∀ x, o.dst = some x → x < n := by
  induction l with
  | nil => cases ho
  | cons b l ih =>
    simp only [okOps, Bool.and_eq_true] at h
    cases ho with
    | head => intro x hx; have := h.1; rw [hx] at this; exact Nat.le_of_ble_eq_true this
    | tail _ ho => exact ih h.2 ho

theorem asgOps_keep (l : List Oper) (m t : Nat) (h : Nat.testBit m t = true) : Nat.testBit (asgOps l m) t = true := by
  induction l generalizing m with
  | nil => exact h
  | cons o l ih =>
    simp only [asgOps]
    apply ih
    cases o.dst <;> simp [h, Nat.testBit_or]

theorem asgOps_mem {l : List Oper} {o : Oper} (ho : o ∈ l) : ∀ (m x : Nat), o.dst = some x → Nat.testBit (asgOps l m) x = true := by
  induction l with
  | nil => cases ho
  | cons b l ih =>
    intro m x hx
    simp only [asgOps]
    cases ho with
    | head =>
      apply asgOps_keep
      rw [hx]
      simp [Nat.testBit_or, Nat.testBit_shiftLeft]
    | tail _ ho => exact ih ho _ x hx

theorem Fr.put {m : Nat} {a0 a : Act} {d : Option Tmp} {v : Value} (h : Fr m a0 a) (hd : ∀ x, d = some x → x < a0.tmps.size ∧ Nat.testBit m x = true) : Fr m a0 (a.put d v) := by
  refine ⟨(put_size ..).trans h.1, (put_defers ..).trans h.2.1, fun t ht => ?_⟩
  rw [envOf_put _ _ _ (fun x hx => by rw [h.1]; exact (hd x hx).1)]
  cases d with
  | none => exact h.2.2 t ht
  | some d =>
    simp only [X.put]
    have : t ≠ d := fun e => by subst e; rw [(hd t rfl).2] at ht; cases ht
    have e1 : Nat.beq t d = false := beq_ne this
    rw [e1]
    exact h.2.2 t ht

theorem wanted_iff (ops : Array Oper) (a : Act) (o : Oper) : Region.wanted o (yielded ops a.tmps) = (match o.guard with | none => true | some (j, want) => isb (yv ops.toList (envOf a) j) want) := by
  unfold Region.wanted
  cases o.guard with
  | none => rfl
  | some g =>
    obtain ⟨j, want⟩ := g
    simp only [yielded, yv, Array.getElem?_toList]
    cases h : (ops[j]?).bind (·.dst) with
    | none => simp [isb, undef]
    | some d =>
      simp only [Option.bind_some, envOf]
      cases h2 : a.tmps[d]? with
      | none => simp [h2, isb, undef]
      | some v => cases v <;> simp [h2, isb]

section
variable {P : Program} {T : Tab}

theorem st_wp {o : Oper} {a : Act} {w : World} {K : Value → World → Prop} {next : Act → World → Prop} {Q : Exit → Act → World → Prop}
    (h : st P (execOp (ev (envOf a)) o) w K) (hk : ∀ v w', K v w' → next (a.put o.dst v) w') : o.wp P a w next Q := by
  unfold Oper.wp
  rw [eval_eq]
  replace h := h.h
  unfold st0 at h
  generalize (execOp (ev (envOf a)) o).run P w = r at *
  cases r with
  | ok n w' =>
    cases n <;> simp only at h <;> simp only [Oper.upon]
    case value v => exact hk _ _ h
    case skip => exact hk _ _ h
    case enter f args => exact Calls.mono h fun e w'' ⟨v, he, hv⟩ => by subst he; exact hk _ _ hv
  | halt x w' => simp only at h

theorem pu_wp {o : Oper} {a : Act} {w : World} {K : Value → Prop} {next : Act → World → Prop} {Q : Exit → Act → World → Prop}
    (h : pu P (execOp (ev (envOf a)) o) K) (hk : ∀ v, K v → next (a.put o.dst v) w) : o.wp P a w next Q := by
  replace h := h.h
  unfold pu0 at h
  cases hr : runPure P (execOp (ev (envOf a)) o) with
  | none => rw [hr] at h; exact h.elim
  | some v =>
    rw [hr] at h
    unfold Oper.wp
    rw [eval_eq]
    rw [runPure_run w _ hr]; exact hk _ h

theorem clsLen_plain {ts : Array TypeId} {x : Operand} (h : clsLen P ts = .plain x) : False := by
  unfold clsLen at h; split at h <;> cases h
theorem clsConv_plain {s d : TypeId} {x : Operand} (h : clsConv P s d = .plain x) : False := by
  unfold clsConv at h; split at h <;> cases h
theorem clsBin_plain {op : BinOp} {t : TypeId} {y z x : Operand} (h : clsBin P op t y z = .plain x) : False := by
  unfold clsBin at h; split at h <;> first | (cases h; done) | (split at h <;> cases h)
theorem cls_plain {op : Op} {x : Operand} (h : clsOf P op = .plain x) : op = .move x ∨ op = .assign x := by
  unfold clsOf at h
  split at h
  · injection h with h; subst h; exact .inl rfl
  · injection h with h; subst h; exact .inr rfl
  all_goals first
    | (cases h; done)
    | exact (clsLen_plain h).elim
    | exact (clsConv_plain h).elim
    | exact (clsBin_plain h).elim

theorem plain_wp {o : Oper} {x : Operand} (hc : clsOf P o.op = .plain x) {a : Act} {w : World} {next : Act → World → Prop} {Q : Exit → Act → World → Prop}
    (hk : next (a.put o.dst (ev (envOf a) x)) w) : o.wp P a w next Q := by
  unfold Oper.wp
  rw [eval_eq]
  have : execOp (ev (envOf a)) o = (Pure.pure (.value (ev (envOf a) x)) : Sem Next) := by
    rcases cls_plain hc with h | h <;> (unfold execOp; rw [h])
  rw [this]
  exact hk

theorem opW_wp {o : Oper} {a : Act} {w : World} {K : Value → World → Prop} {next : Act → World → Prop} {Q : Exit → Act → World → Prop}
    (h : opW P o (envOf a) w K) (hk : ∀ v w', K v w' → next (a.put o.dst v) w') : o.wp P a w next Q := by
  unfold opW at h
  cases hc : clsOf P o.op with
  | plain x => rw [hc] at h; exact plain_wp hc (hk _ _ h)
  | pure => rw [hc] at h; exact pu_wp h fun v hv => hk _ _ hv
  | read => rw [hc] at h; exact st_wp h hk
  | eff => rw [hc] at h; exact st_wp h hk

theorem seqW_sound {ops : Array Oper} {K : Env → World → Prop} {m : Nat} {a0 : Act} (Q : Exit → Act → World → Prop) (hQ : ∀ a w, Fr m a0 a → K (envOf a) w → Q .normal a w) :
    ∀ (l : List Oper) (a : Act) (w : World), okOps a0.tmps.size l = true → (∀ o ∈ l, ∀ x, o.dst = some x → Nat.testBit m x = true) → Fr m a0 a →
      seqW P ops.toList K l (envOf a) w → wpList P ops Q l a w
  | [], a, w, _, _, hf, h => hQ a w hf h
  | o :: l, a, w, hok, hm, hf, h => by
    have hdst : ∀ x, o.dst = some x → x < a0.tmps.size ∧ Nat.testBit m x = true := fun x hx => ⟨okOps_mem hok (List.mem_cons_self ..) x hx, hm o (List.mem_cons_self ..) x hx⟩
    have hok' : okOps a0.tmps.size l = true := by simp only [okOps, Bool.and_eq_true] at hok; exact hok.2
    have hm' : ∀ o ∈ l, ∀ x, o.dst = some x → Nat.testBit m x = true := fun o' ho => hm o' (List.mem_cons_of_mem _ ho)
    have step : ∀ v w', seqW P ops.toList K l (put (envOf a) o.dst v) w' → wpList P ops Q l (a.put o.dst v) w' := fun v w' hv =>
      seqW_sound Q hQ l _ w' hok' hm' (hf.put hdst) (by rw [envOf_put _ _ _ (fun x hx => by rw [hf.1]; exact (hdst x hx).1)]; exact hv)
    simp only [seqW, grd] at h
    simp only [wpList, wanted_iff]
    cases hg : o.guard with
    | none =>
      simp only [hg] at h
      rw [if_pos rfl]
      exact .inl (opW_wp h step)
    | some g =>
      obtain ⟨j, want⟩ := g
      simp only [hg] at h
      replace h := h.h
      unfold gd0 at h
      cases hb : isb (yv ops.toList (envOf a) j) want with
      | true =>
        simp only [hb, cond_true] at h
        rw [if_pos hb]
        exact .inl (opW_wp h step)
      | false =>
        simp only [hb, cond_false] at h
        rw [if_neg (show ¬ (isb (yv ops.toList (envOf a) j) want = true) from by rw [hb]; exact Bool.false_ne_true)]
        exact step _ _ h

/-! ### A region that draws its order -/

theorem ready_go {listed : List Bool} : ∀ (os : List Oper) (ls : List Bool) (n i : Nat) (o : Oper),
    (i, o) ∈ readyL.go listed os ls n ↔ ∃ k, i = n + k ∧ os[k]? = some o ∧ ls[k]? = some false ∧ readyB listed o = true
  | [], ls, n, i, o => by simp [readyL.go]
  | o' :: os, [], n, i, o => by simp [readyL.go]
  | o' :: os, l :: ls, n, i, o => by
    have ih := ready_go (listed := listed) os ls (n + 1) i o
    have key : (∃ k, i = n + k ∧ (o' :: os)[k]? = some o ∧ (l :: ls)[k]? = some false ∧ readyB listed o = true) ↔
        (i = n ∧ o' = o ∧ l = false ∧ readyB listed o = true) ∨ (∃ k, i = n + 1 + k ∧ os[k]? = some o ∧ ls[k]? = some false ∧ readyB listed o = true) := by
      constructor
      · rintro ⟨k, h1, h2, h3, h4⟩
        cases k with
        | zero => left; simp at h1 h2 h3; exact ⟨h1, h2, h3, h4⟩
        | succ k => right; simp at h2 h3; exact ⟨k, by omega, h2, h3, h4⟩
      · rintro (⟨h1, h2, h3, h4⟩ | ⟨k, h1, h2, h3, h4⟩)
        · exact ⟨0, by omega, by simp [h2], by simp [h3], h4⟩
        · exact ⟨k + 1, by omega, by simpa using h2, by simpa using h3, h4⟩
    rw [key]
    simp only [readyL.go]
    cases hb : (!l && readyB listed o') with
    | true =>
      simp only [cond_true, List.mem_cons, ih]
      simp only [Bool.and_eq_true, Bool.not_eq_true'] at hb
      constructor
      · rintro (h | h)
        · left; injection h with h1 h2; subst h1 h2; exact ⟨rfl, rfl, hb.1, hb.2⟩
        · exact .inr h
      · rintro (⟨h1, h2, _, _⟩ | h)
        · left; rw [h1, h2]
        · exact .inr h
    | false =>
      simp only [cond_false, ih]
      constructor
      · exact .inr
      · rintro (⟨h1, h2, h3, h4⟩ | h)
        · subst h2 h3; rw [h4] at hb; cases hb
        · exact h

theorem mem_readyL {ops : List Oper} {l : List Bool} {i : Nat} {o : Oper} : (i, o) ∈ readyL ops l ↔ ops[i]? = some o ∧ l[i]? = some false ∧ readyB l o = true := by
  unfold readyL
  rw [ready_go]
  constructor
  · rintro ⟨k, h1, h⟩; have : i = k := by omega
    subst this; exact h
  · intro h; exact ⟨i, by omega, h⟩

theorem getD_true_iff {l : List Bool} {i : Nat} : l.toArray.getD i true = false ↔ l[i]? = some false := by
  cases h : l[i]? with
  | none => simp [h]
  | some b => simp [h]

theorem readyB_iff {l : List Bool} {o : Oper} : readyB l o = true ↔ ∀ e ∈ o.after, Region.binds .any e = true → l.toArray.getD e.on false = true := by
  unfold readyB
  rw [List.all_eq_true]
  constructor
  · intro h e he hb
    have := h e (Array.mem_toList_iff.2 he)
    simpa [hb] using this
  · intro h e he
    have h2 := h e (Array.mem_toList_iff.1 he)
    cases hb : Region.binds .any e with
    | false => rfl
    | true => have := h2 hb; simpa using this

theorem ready_iff {ops : Array Oper} {l : List Bool} {i : Nat} : i ∈ Region.ready .any ops l.toArray ↔ ∃ o, (i, o) ∈ readyL ops.toList l := by
  rw [mem_ready, getD_true_iff]
  constructor
  · rintro ⟨h1, o, h2, h3⟩
    exact ⟨o, mem_readyL.2 ⟨by simpa using h2, h1, readyB_iff.2 h3⟩⟩
  · rintro ⟨o, h⟩
    obtain ⟨h1, h2, h3⟩ := mem_readyL.1 h
    exact ⟨h2, o, by simpa using h1, readyB_iff.1 h3⟩

theorem alive_go {i : Nat} : ∀ (os : List Oper) (bs : List Nat) (ls : List Bool), alive.go P i os bs ls = true ↔
    ∀ (k : Nat) (o : Oper) (b : Nat), os[k]? = some o → bs[k]? = some b → ls[k]? = some true → isEff P o = true → Nat.testBit b i = false
  | [], bs, ls => by simp [alive.go]
  | o' :: os, [], ls => by simp [alive.go]
  | o' :: os, b' :: bs, [] => by simp [alive.go]
  | o' :: os, b' :: bs, l' :: ls => by
    simp only [alive.go, Bool.and_eq_true, alive_go os bs ls]
    constructor
    · rintro ⟨h1, h2⟩ k o b ho hb hl he
      cases k with
      | zero =>
        simp at ho hb hl
        subst ho hb hl
        simpa [he] using h1
      | succ k => exact h2 k o b (by simpa using ho) (by simpa using hb) (by simpa using hl) he
    · intro h
      refine ⟨?_, fun k o b ho hb hl he => h (k + 1) o b (by simpa using ho) (by simpa using hb) (by simpa using hl) he⟩
      cases hl : l' <;> cases he : isEff P o' <;> simp
      exact h 0 o' b' (by simp) (by simp) (by simp [hl]) he

theorem alive_iff {ops : List Oper} {B : List Nat} {l : List Bool} {i : Nat} : alive P ops B l i = true ↔
    ∀ (k : Nat) (o : Oper) (b : Nat), ops[k]? = some o → B[k]? = some b → l[k]? = some true → isEff P o = true → Nat.testBit b i = false := alive_go ops B l

theorem facts_spec {ops : List Oper} {B : List Nat} {l : List Bool} {w : World} {K : Prop} : ∀ {F : List Fact}, facts P ops B l w F K → (∀ f ∈ F, alive P ops B l f.1 = true → f.2 w) ∧ K
  | [], h => ⟨by simp, h⟩
  | (i, f) :: F, h => by
    simp only [facts] at h
    cases ha : alive P ops B l i with
    | true =>
      simp only [ha, cond_true] at h
      obtain ⟨h1, h2⟩ := facts_spec h.2
      refine ⟨fun g hg hal => ?_, h2⟩
      cases hg with
      | head => exact h.1
      | tail _ hg => exact h1 g hg hal
    | false =>
      simp only [ha, cond_false] at h
      obtain ⟨h1, h2⟩ := facts_spec h
      refine ⟨fun g hg hal => ?_, h2⟩
      cases hg with
      | head => rw [ha] at hal; cases hal
      | tail _ hg => exact h1 g hg hal

/-- What is listed has all that comes ahead of it listed. -/
def DC (B : List Nat) (l : List Bool) : Prop := ∀ (k b i : Nat), B[k]? = some b → l[k]? = some true → Nat.testBit b i = true → l[i]? = some true

def foldB (B : List Nat) (es : List Edge) (s : Nat) : Nat := es.foldl (fun s e => bif Region.binds .any e then s ||| ((1 <<< e.on) ||| B.getD e.on 0) else s) s

theorem foldB_bit {B : List Nat} {i : Nat} : ∀ {es : List Edge} {s : Nat}, Nat.testBit (foldB B es s) i = true →
    Nat.testBit s i = true ∨ ∃ e ∈ es, Region.binds .any e = true ∧ (e.on = i ∨ Nat.testBit (B.getD e.on 0) i = true)
  | [], s, h => .inl h
  | e :: es, s, h => by
    have h' : Nat.testBit (foldB B es (bif Region.binds .any e then s ||| ((1 <<< e.on) ||| B.getD e.on 0) else s)) i = true := h
    rcases foldB_bit h' with h1 | ⟨e', he', hb, h2⟩
    · cases hb : Region.binds .any e with
      | false => simp only [hb, cond_false] at h1; exact .inl h1
      | true =>
        simp only [hb, cond_true, Nat.testBit_or, Bool.or_eq_true] at h1
        rcases h1 with h1 | h1 | h1
        · exact .inl h1
        · right
          refine ⟨e, List.mem_cons_self .., hb, .inl ?_⟩
          simp only [Nat.testBit_shiftLeft, Bool.and_eq_true, decide_eq_true_eq] at h1
          have h3 := h1.2
          have : i - e.on = 0 := by
            rcases Nat.eq_zero_or_pos (i - e.on) with h4 | h4
            · exact h4
            · exfalso
              obtain ⟨k, hk⟩ : ∃ k, i - e.on = k + 1 := ⟨i - e.on - 1, by omega⟩
              rw [hk, Nat.testBit_succ] at h3
              simp at h3
          omega
        · exact .inr ⟨e, List.mem_cons_self .., hb, .inr h1⟩
    · exact .inr ⟨e', List.mem_cons_of_mem _ he', hb, h2⟩

theorem befOk_spec {B : List Nat} : ∀ {os : List Oper} {bs : List Nat}, befOk B os bs = true → os.length = bs.length ∧ ∀ (k : Nat) (o : Oper) (b : Nat), os[k]? = some o → bs[k]? = some b → b = foldB B o.after.toList 0
  | [], [], _ => ⟨rfl, by simp⟩
  | [], b :: bs, h => by simp [befOk] at h
  | o :: os, [], h => by simp [befOk] at h
  | o :: os, b :: bs, h => by
    simp only [befOk, Bool.and_eq_true] at h
    obtain ⟨h1, h2⟩ := befOk_spec h.2
    refine ⟨by simp [h1], fun k o' b' ho hb => ?_⟩
    cases k with
    | zero => simp at ho hb; subst ho hb; exact Nat.eq_of_beq_eq_true h.1
    | succ k => exact h2 k o' b' (by simpa using ho) (by simpa using hb)

theorem ready_dc {ops : List Oper} {B : List Nat} (hB : befOk B ops B = true) {l : List Bool} (hdc : DC B l) {j i b : Nat} {o : Oper} (ho : ops[j]? = some o) (hb : B[j]? = some b)
    (hr : readyB l o = true) (ht : Nat.testBit b i = true) : l[i]? = some true := by
  have e := (befOk_spec hB).2 j o b ho hb
  subst e
  rcases foldB_bit ht with h | ⟨e, he, hbd, h⟩
  · simp at h
  · have hl := readyB_iff.1 hr e (Array.mem_toList_iff.1 he) hbd
    have hl' : l[e.on]? = some true := by
      cases hx : l[e.on]? with
      | none => simp [hx] at hl
      | some b => simp [hx] at hl; rw [hl]
    rcases h with h | h
    · rw [← h]; exact hl'
    · cases hx : B[e.on]? with
      | none => simp [hx] at h
      | some b' => simp [hx] at h; exact hdc e.on b' i hx hl' h

theorem set_true_get {l : List Bool} {j k : Nat} (h : l[k]? = some true) : (l.set j true)[k]? = some true := by
  by_cases e : j = k
  · subst e; rw [List.getElem?_set_self (List.getElem?_eq_some_iff.1 h).1]
  · rw [List.getElem?_set_ne e]; exact h

theorem DC.set {ops : List Oper} {B : List Nat} (hB : befOk B ops B = true) {l : List Bool} (hdc : DC B l) {j : Nat} {o : Oper} (ho : ops[j]? = some o) (hr : readyB l o = true) : DC B (l.set j true) := by
  intro k b i hb hk ht
  by_cases e : j = k
  · subst e; exact set_true_get (ready_dc hB hdc ho hb hr ht)
  · rw [List.getElem?_set_ne e] at hk
    exact set_true_get (hdc k b i hb hk ht)

/-- Whatever order is picked from here on, each told fact standing as long as nobody who comes behind it has turned the world. -/
def anyF (P : Program) (ops : Array Oper) (B : List Nat) (Q : Exit → Act → World → Prop) (F : List Fact) : Nat → List Bool → Act → World → Prop
  | 0, l, a, w => Region.ready .any ops l.toArray = [] ∧ Q .normal a w
  | n + 1, l, a, w => (Region.ready .any ops l.toArray = [] → Q .normal a w) ∧
    ∀ i ∈ Region.ready .any ops l.toArray, wpOp P ops Q i (fun a' w' => (∀ f ∈ F, alive P ops.toList B (l.set i true) f.1 = true → f.2 w') ∧ anyF P ops B Q F n (l.set i true) a' w') a w

theorem toArray_set (l : List Bool) (i : Nat) : (l.set i true).toArray = l.toArray.setIfInBounds i true := by simp

theorem wpAny_of_anyF {ops : Array Oper} {B : List Nat} {Q : Exit → Act → World → Prop} {F : List Fact} : ∀ (n : Nat) (l : List Bool) (a : Act) (w : World),
    anyF P ops B Q F n l a w → wpAny P .any ops Q n l.toArray a w
  | 0, _, _, _, h => h
  | n + 1, l, a, w, h => ⟨h.1, fun i hi => wpOp_mono (fun a' w' h' => by rw [← toArray_set]; exact wpAny_of_anyF n _ a' w' h'.2) (h.2 i hi)⟩

theorem anyF_mono {ops : Array Oper} {B : List Nat} {Q : Exit → Act → World → Prop} {F F' : List Fact} (hF : ∀ f ∈ F, f ∈ F') : ∀ (n : Nat) (l : List Bool) (a : Act) (w : World),
    anyF P ops B Q F' n l a w → anyF P ops B Q F n l a w
  | 0, _, _, _, h => h
  | n + 1, l, a, w, h => ⟨h.1, fun i hi => wpOp_mono (fun a' w' h' => ⟨fun f hf => h'.1 f (hF f hf), anyF_mono hF n _ a' w' h'.2⟩) (h.2 i hi)⟩

theorem alive_unset {ops : List Oper} {B : List Nat} {l : List Bool} {j x : Nat} (h : alive P ops B (l.set j true) x = true) : alive P ops B l x = true :=
  alive_iff.2 fun k o b ho hb hl he => alive_iff.1 h k o b ho hb (set_true_get hl) he

theorem alive_float {ops : List Oper} {B : List Nat} {l : List Bool} {i x : Nat} {oi : Oper} (hi : ops[i]? = some oi) (hne : isEff P oi = false) (h : alive P ops B l x = true) : alive P ops B (l.set i true) x = true :=
  alive_iff.2 fun k o b ho hb hl he => by
    by_cases e : i = k
    · subst e; rw [hi] at ho; injection ho with ho; subst ho; rw [hne] at he; cases he
    · rw [List.getElem?_set_ne e] at hl; exact alive_iff.1 h k o b ho hb hl he

theorem anyF_first {ops : Array Oper} {B : List Nat} {Q : Exit → Act → World → Prop} {F : List Fact} {i : Nat} {oi : Oper} {v : Value} {ρ : World → Prop} (hB : befOk B ops.toList B = true)
    (hi : ops[i]? = some oi) (hsel : ∀ (j : Nat) (o : Oper) cs b, ops[j]? = some o → o.op ≠ .select cs b) (hQ : ∀ c a w, ¬ Q (.panic c) a w) (hne : isEff P oi = false) :
    ∀ (n : Nat) (l : List Bool) (a : Act) (w : World), (∀ j oj, ops[j]? = some oj → j ≠ i → l[j]? = some false → (∀ e ∈ oj.after, Region.binds .any e = true → e.on ≠ i) → oi.apart ops oj = true) →
      i ∈ Region.ready .any ops l.toArray → YieldsIf P ops ρ oi v a → ρ w → DC B l → (∀ f ∈ F, alive P ops.toList B l f.1 = true → f.2 w) →
      anyF P ops B Q ((i, ρ) :: F) n (l.set i true) (a.put oi.dst v) w → anyF P ops B Q F (n + 1) l a w := by
  have hi' : ops.toList[i]? = some oi := by simpa using hi
  intro n
  induction n with
  | zero =>
    intro l a w _ hr hy hρ hdc hF H
    refine ⟨fun h => (by rw [h] at hr; cases hr), fun j hj => ?_⟩
    by_cases hji : j = i
    · subst hji
      exact hy.wpOp hi hρ ⟨fun f hf hal => hF f hf (alive_unset hal), H⟩
    · have := ready_mono hj hji
      rw [← toArray_set, H.1] at this
      cases this
  | succ n ih =>
    intro l a w hfree hr hy hρ hdc hF H
    refine ⟨fun h => (by rw [h] at hr; cases hr), fun j hj => ?_⟩
    by_cases hji : j = i
    · subst hji
      exact hy.wpOp hi hρ ⟨fun f hf hal => hF f hf (alive_unset hal), anyF_mono (fun f hf => List.mem_cons_of_mem _ hf) _ _ _ _ H⟩
    · have h1 := H.2 j (by rw [toArray_set]; exact ready_mono hj hji)
      obtain ⟨oj, hoj⟩ := ready_iff.1 hj
      obtain ⟨hoj', hlj, hrj⟩ := mem_readyL.1 hoj
      have hoj2 : ops[j]? = some oj := by simpa using hoj'
      obtain ⟨oi', hoi⟩ := ready_iff.1 hr
      obtain ⟨hoi', hli, hri⟩ := mem_readyL.1 hoi
      have hnot : ∀ e ∈ oj.after, Region.binds .any e = true → e.on ≠ i := fun e he hb heq => by
        have h2 := readyB_iff.1 hrj e he hb
        rw [heq] at h2
        simp [hli] at h2
      have h2 := wpOp_putIf hoj2 (hfree j oj hoj2 hji hlj hnot) (fun cs b => hsel i oi cs b hi) (fun cs b => hsel j oj cs b hoj2) (fun c a w h => absurd h (hQ c _ w)) hy h1
      have hji' : i ≠ j := Ne.symm hji
      have hali : ∀ x, alive P ops.toList B (l.set j true) x = true → alive P ops.toList B ((l.set i true).set j true) x = true := fun x hx => by
        rw [List.set_comm _ _ hji']; exact alive_float hi' hne hx
      have haliI : alive P ops.toList B ((l.set i true).set j true) i = true := alive_iff.2 fun k o b ho hb hl he => by
        cases ht : Nat.testBit b i with
        | false => rfl
        | true =>
          exfalso
          by_cases e1 : k = j
          · subst e1
            have := ready_dc hB hdc ho hb (by rw [hoj'] at ho; injection ho with ho; subst ho; exact hrj) ht
            rw [hli] at this; cases this
          · by_cases e2 : k = i
            · subst e2; rw [hi'] at ho; injection ho with ho; subst ho; rw [hne] at he; cases he
            · rw [List.getElem?_set_ne (Ne.symm e1), List.getElem?_set_ne (Ne.symm e2)] at hl
              have := hdc k b i hb hl ht
              rw [hli] at this; cases this
      refine wpOp_mono (fun a' w' h3 => ⟨fun f hf hal => h3.2.1 f (List.mem_cons_of_mem _ hf) (hali f.1 hal), ?_⟩) h2
      refine ih (l.set j true) a' w' (fun k ok hk hki hun hno => ?_) (by rw [toArray_set]; exact ready_mono hr hji') h3.1 (h3.2.1 (i, ρ) (List.mem_cons_self ..) haliI) (hdc.set hB hoj' hrj) (fun f hf hal => h3.2.1 f (List.mem_cons_of_mem _ hf) (hali f.1 hal)) ?_
      · refine hfree k ok hk hki ?_ hno
        by_cases e : j = k
        · subst e
          rw [List.getElem?_set_self (List.getElem?_eq_some_iff.1 hlj).1] at hun; cases hun
        · rw [List.getElem?_set_ne e] at hun; exact hun
      · rw [List.set_comm _ _ hji]; exact h3.2.2

theorem free_go {ops : List Oper} {i : Nat} {oi : Oper} : ∀ (os : List Oper) (ls : List Bool) (n : Nat), freeB.go ops i oi os ls n = true → os.length = ls.length →
    ∀ (k : Nat) (o : Oper), os[k]? = some o → n + k ≠ i → ls[k]? = some false → (∀ e ∈ o.after, Region.binds .any e = true → e.on ≠ i) → oi.apart ops.toArray o = true
  | [], ls, n, _, _ => by simp
  | o' :: os, [], n, _, hl => by simp at hl
  | o' :: os, l' :: ls, n, h, hl => by
    intro k o ho hne hls hno
    simp only [freeB.go, Bool.and_eq_true] at h
    cases k with
    | zero =>
      simp at ho hls
      subst ho hls
      have h1 := h.1
      rw [beq_ne (show n ≠ i by omega)] at h1
      simp only [Bool.false_or, Bool.or_eq_true] at h1
      rcases h1 with h1 | h1
      · obtain ⟨e, he, hb⟩ := List.any_eq_true.1 h1
        simp only [Bool.and_eq_true] at hb
        exact absurd (Nat.eq_of_beq_eq_true hb.2) (hno e (Array.mem_toList_iff.1 he) hb.1)
      · exact h1
    | succ k => exact free_go os ls (n + 1) h.2 (by simpa using hl) k o (by simpa using ho) (by omega) (by simpa using hls) hno

theorem firstFloat_mem {l : List (Nat × Oper)} {i : Nat} {o : Oper} (h : firstFloat P l = some (i, o)) : (i, o) ∈ l ∧ isEff P o = false := by
  induction l with
  | nil => cases h
  | cons x l ih =>
    obtain ⟨i', o'⟩ := x
    simp only [firstFloat] at h
    cases he : isEff P o' with
    | true => simp only [he, cond_true] at h; exact ⟨List.mem_cons_of_mem _ (ih h).1, (ih h).2⟩
    | false => simp only [he, cond_false] at h; injection h with h; injection h with h1 h2; subst h1 h2; exact ⟨List.mem_cons_self .., he⟩

theorem allOf_mem {K : Nat → Oper → Prop} : ∀ {l : List (Nat × Oper)}, allOf K l → ∀ i o, (i, o) ∈ l → K i o
  | [], _, _, _, h => by cases h
  | [(i, o)], h, i', o', hm => by simp at hm; obtain ⟨rfl, rfl⟩ := hm; exact h
  | (i, o) :: x :: r, h, i', o', hm => by
    simp only [allOf] at h
    cases hm with
    | head => exact h.1
    | tail _ hm => exact allOf_mem h.2 i' o' hm

theorem run_plain {o : Oper} {x : Operand} (hc : clsOf P o.op = .plain x) (ρ : Operand → Value) (w : World) : (execOp ρ o).run P w = .ok (.value (ρ x)) w := by
  have : execOp ρ o = (Pure.pure (.value (ρ x)) : Sem Next) := by
    rcases cls_plain hc with h | h <;> (unfold execOp; rw [h])
  rw [this]; rfl

theorem anyF_addTrue {ops : Array Oper} {B : List Nat} {Q : Exit → Act → World → Prop} {F : List Fact} {i : Nat} : ∀ (n : Nat) (l : List Bool) (a : Act) (w : World),
    anyF P ops B Q F n l a w → anyF P ops B Q ((i, fun _ => True) :: F) n l a w
  | 0, _, _, _, h => h
  | n + 1, l, a, w, h => ⟨h.1, fun j hj => wpOp_mono (fun a' w' h' => ⟨fun f hf => by
      cases hf with
      | head => exact fun _ => trivial
      | tail _ hf => exact h'.1 f hf, anyF_addTrue n _ a' w' h'.2⟩) (h.2 j hj)⟩

theorem drawW_sound {ops : Array Oper} {B : List Nat} {K : Env → World → Prop} {Q : Exit → Act → World → Prop} {m : Nat} {a0 : Act} (hB : befOk B ops.toList B = true)
    (hsel : ∀ (j : Nat) (o : Oper) cs b, ops[j]? = some o → o.op ≠ .select cs b) (hQ : ∀ c a w, ¬ Q (.panic c) a w)
    (hK : ∀ a w, Fr m a0 a → K (envOf a) w → Q .normal a w) (hd : ∀ o ∈ ops.toList, ∀ x, o.dst = some x → x < a0.tmps.size ∧ Nat.testBit m x = true) :
    ∀ (n : Nat) (l : List Bool) (F : List Fact) (a : Act) (w : World), drawW P ops.toList B K n l F (envOf a) w → Fr m a0 a → DC B l → l.length = ops.size →
      (∀ f ∈ F, alive P ops.toList B l f.1 = true → f.2 w) → anyF P ops B Q F n l a w
  | 0, l, F, a, w, h, hf, _, _, _ => by
    simp only [drawW] at h
    cases hr : readyL ops.toList l with
    | nil =>
      rw [hr] at h
      refine ⟨?_, hK a w hf h⟩
      cases hx : Region.ready .any ops l.toArray with
      | nil => rfl
      | cons y ys =>
        obtain ⟨o, ho⟩ := ready_iff.1 (show y ∈ Region.ready .any ops l.toArray by rw [hx]; exact List.mem_cons_self ..)
        rw [hr] at ho; cases ho
    | cons y ys => rw [hr] at h; exact h.elim
  | n + 1, l, F, a, w, h, hf, hdc, hlen, hF => by
    simp only [drawW] at h
    cases hff : firstFloat P (readyL ops.toList l) with
    | some p =>
      obtain ⟨i, o⟩ := p
      obtain ⟨hmem, hne⟩ := firstFloat_mem hff
      obtain ⟨hoi, hli, hri⟩ := mem_readyL.1 hmem
      have hoi' : ops[i]? = some o := by simpa using hoi
      have hdst := hd o (List.mem_of_getElem? hoi)
      simp only [hff] at h
      cases hfr : freeB ops.toList l i o with
      | false => rw [hfr] at h; exact h.elim
      | true =>
        simp only [hfr] at h
        have hfree : ∀ j oj, ops[j]? = some oj → j ≠ i → l[j]? = some false → (∀ e ∈ oj.after, Region.binds .any e = true → e.on ≠ i) → o.apart ops oj = true := fun j oj hj hji hun hno => by
          have := free_go ops.toList l 0 hfr (by simpa using hlen.symm) j oj (by simpa using hj) (by omega) hun hno
          simpa using this
        have hready : i ∈ Region.ready .any ops l.toArray := ready_iff.2 ⟨o, hmem⟩
        have henv : ∀ v, envOf (a.put o.dst v) = put (envOf a) o.dst v := fun v => envOf_put _ _ _ (fun x hx => by rw [hf.1]; exact (hdst x hx).1)
        have hlen' : (l.set i true).length = ops.size := by simpa using hlen
        have hdc' : DC B (l.set i true) := hdc.set hB hoi hri
        have hFi : ∀ f ∈ F, alive P ops.toList B (l.set i true) f.1 = true → f.2 w := fun f hf' hal => hF f hf' (alive_unset hal)
        -- an operation that yields whatever the world is
        have goAll : ∀ v, YieldsIf P ops (fun _ => True) o v a → drawW P ops.toList B K n (l.set i true) F (put (envOf a) o.dst v) w → anyF P ops B Q F (n + 1) l a w := fun v hy hrest => by
          refine anyF_first hB hoi' hsel hQ hne n l a w hfree hready hy trivial hdc hF ?_
          have ih := drawW_sound hB hsel hQ hK hd n (l.set i true) F (a.put o.dst v) w (by rw [henv]; exact hrest) (hf.put hdst) hdc' hlen' hFi
          exact anyF_addTrue n _ _ _ ih
        have hw := wanted_iff ops a o
        have passed : Region.wanted o (yielded ops a.tmps) = false → drawW P ops.toList B K n (l.set i true) F (put (envOf a) o.dst undef) w → anyF P ops B Q F (n + 1) l a w := fun hwf hrest =>
          goAll undef (.inr ⟨hwf, rfl⟩) hrest
        cases hc : clsOf P o.op with
        | eff => rw [hc] at h; exact h.elim
        | plain x =>
          simp only [hc, grd] at h
          cases hg : o.guard with
          | none =>
            simp only [hg] at h hw
            exact goAll _ (.inl ⟨hw, fun w' _ => by rw [eval_eq]; exact run_plain hc _ w'⟩) h
          | some g =>
            obtain ⟨j, want⟩ := g
            simp only [hg] at h hw
            replace h := h.h
            unfold gd0 at h
            cases hb : isb (yv ops.toList (envOf a) j) want with
            | true =>
              simp only [hb, cond_true] at h hw
              exact goAll _ (.inl ⟨hw, fun w' _ => by rw [eval_eq]; exact run_plain hc _ w'⟩) h
            | false =>
              simp only [hb, cond_false] at h hw
              exact passed hw h
        | pure =>
          have pureGo : Region.wanted o (yielded ops a.tmps) = true → pu P (execOp (ev (envOf a)) o) (fun v => drawW P ops.toList B K n (l.set i true) F (put (envOf a) o.dst v) w) → anyF P ops B Q F (n + 1) l a w := fun hwt hp => by
            replace hp := hp.h
            unfold pu0 at hp
            cases hrp : runPure P (execOp (ev (envOf a)) o) with
            | none => rw [hrp] at hp; exact hp.elim
            | some v =>
              rw [hrp] at hp
              exact goAll v (.inl ⟨hwt, fun w' _ => by rw [eval_eq]; exact runPure_run w' _ hrp⟩) hp
          simp only [hc, grd] at h
          cases hg : o.guard with
          | none => simp only [hg] at h hw; exact pureGo hw h
          | some g =>
            obtain ⟨j, want⟩ := g
            simp only [hg] at h hw
            replace h := h.h
            unfold gd0 at h
            cases hb : isb (yv ops.toList (envOf a) j) want with
            | true => simp only [hb, cond_true] at h hw; exact pureGo hw h
            | false => simp only [hb, cond_false] at h hw; exact passed hw h
        | read =>
          have readGo : ∀ v, YieldsIf P ops (gfact P ops.toList o (envOf a) v) o v a → gfact P ops.toList o (envOf a) v w →
              drawW P ops.toList B K n (l.set i true) ((i, gfact P ops.toList o (envOf a) v) :: F) (put (envOf a) o.dst v) w → anyF P ops B Q F (n + 1) l a w := fun v hy hv hp => by
            refine anyF_first (ρ := gfact P ops.toList o (envOf a) v) hB hoi' hsel hQ hne n l a w hfree hready hy hv hdc hF ?_
            refine drawW_sound hB hsel hQ hK hd n (l.set i true) _ (a.put o.dst v) w (by rw [henv]; exact hp) (hf.put hdst) hdc' hlen' ?_
            intro f hf' hal
            cases hf' with
            | head => exact hv
            | tail _ hf' => exact hFi f hf' hal
          simp only [hc, grd] at h
          cases hg : o.guard with
          | none =>
            simp only [hg] at h hw
            obtain ⟨⟨v, hv, hp⟩⟩ := h
            have hgf : gfact P ops.toList o (envOf a) v = hold P (execOp (ev (envOf a)) o) v := by unfold gfact; rw [hg]
            exact readGo v (.inl ⟨hw, fun w' h' => by rw [hgf] at h'; rw [eval_eq]; exact h'.h⟩) (by rw [hgf]; exact ⟨hv⟩) hp
          | some g =>
            obtain ⟨j, want⟩ := g
            simp only [hg] at h hw
            replace h := h.h
            unfold gd0 at h
            have hgf : ∀ v, gfact P ops.toList o (envOf a) v = fun w => isb (yv ops.toList (envOf a) j) want = true → hold P (execOp (ev (envOf a)) o) v w := fun v => by unfold gfact; rw [hg]
            cases hb : isb (yv ops.toList (envOf a) j) want with
            | true =>
              simp only [hb, cond_true] at h hw
              obtain ⟨⟨v, hv, hp⟩⟩ := h
              exact readGo v (.inl ⟨hw, fun w' h' => by rw [hgf] at h'; rw [eval_eq]; exact (h' hb).h⟩) (by rw [hgf]; exact fun _ => ⟨hv⟩) hp
            | false =>
              simp only [hb, cond_false] at h hw
              exact readGo undef (.inr ⟨hw, rfl⟩) (by rw [hgf]; intro h'; rw [hb] at h'; cases h') h
    | none =>
      simp only [hff] at h
      have empty : readyL ops.toList l = [] → Region.ready .any ops l.toArray = [] := fun hr => by
        cases hx : Region.ready .any ops l.toArray with
        | nil => rfl
        | cons y ys =>
          obtain ⟨o, ho⟩ := ready_iff.1 (show y ∈ Region.ready .any ops l.toArray by rw [hx]; exact List.mem_cons_self ..)
          rw [hr] at ho; cases ho
      cases hr : readyL ops.toList l with
      | nil =>
        simp only [hr] at h
        exact ⟨fun _ => hK a w hf h, fun i hi => by rw [empty hr] at hi; cases hi⟩
      | cons x xs =>
        simp only [hr] at h
        have hall := allOf_mem h
        refine ⟨fun h0 => ?_, fun i hi => ?_⟩
        · have : x.1 ∈ Region.ready .any ops l.toArray := ready_iff.2 ⟨x.2, by rw [hr]; exact List.mem_cons_self ..⟩
          rw [h0] at this; cases this
        · obtain ⟨o, ho⟩ := ready_iff.1 hi
          obtain ⟨hoi, hli, hri⟩ := mem_readyL.1 ho
          have hoi' : ops[i]? = some o := by simpa using hoi
          have hdst := hd o (List.mem_of_getElem? hoi)
          have henv : ∀ v, envOf (a.put o.dst v) = put (envOf a) o.dst v := fun v => envOf_put _ _ _ (fun x hx => by rw [hf.1]; exact (hdst x hx).1)
          have hx := hall i o (by rw [← hr]; exact ho)
          have next : ∀ v w', facts P ops.toList B (l.set i true) w' F (drawW P ops.toList B K n (l.set i true) F (put (envOf a) o.dst v) w') →
              (∀ f ∈ F, alive P ops.toList B (l.set i true) f.1 = true → f.2 w') ∧ anyF P ops B Q F n (l.set i true) (a.put o.dst v) w' := fun v w' h' => by
            obtain ⟨h1, h2⟩ := facts_spec h'
            exact ⟨h1, drawW_sound hB hsel hQ hK hd n (l.set i true) F (a.put o.dst v) w' (by rw [henv]; exact h2) (hf.put hdst) (hdc.set hB hoi hri) (by simpa using hlen) h1⟩
          unfold wpOp
          simp only [hoi']
          have hw := wanted_iff ops a o
          simp only [grd] at hx
          cases hg : o.guard with
          | none =>
            simp only [hg] at hx hw
            rw [if_pos hw]
            exact .inl (st_wp hx next)
          | some g =>
            obtain ⟨j, want⟩ := g
            simp only [hg] at hx hw
            replace hx := hx.h
            unfold gd0 at hx
            cases hb : isb (yv ops.toList (envOf a) j) want with
            | true =>
              simp only [hb, cond_true] at hx hw
              rw [if_pos hw]
              exact .inl (st_wp hx next)
            | false =>
              simp only [hb, cond_false] at hx hw
              rw [if_neg (by rw [hw]; exact Bool.false_ne_true)]
              exact next _ _ hx
end
end Go.X
