/- What the claim needs of the texts on it, laid together. No condition. -/
import Derived.WalkKit
import Derived.KernelRfl
import Derived.Orders
import Derived.OrdersHeld
import Derived.Test.YteblpejgenehfaaDoorProg
import Derived.Lib.Bytealg
import Derived.WalkLawsBesides
import Derived.Deep.MidRow
import Derived.Below
import Derived.Laws.RangeAny
import Derived.Laws.BytesString
import Derived.Deep.AppendSrc
import Derived.Lib.ConvBytes
import Derived.Great.BuildSlice
import Derived.Deep.Upon
import Derived.Deep.Slices
import Derived.WideShapes
import Derived.SizedLaws
import Derived.Laws.AppendOwn
import Derived.LaidEql
import Derived.Deep.OwnRows
import Derived.Maps.AppendAt
import Derived.Lib.AppendZerosOnto
set_option linter.unusedVariables false
set_option linter.unusedSimpArgs false
set_option maxRecDepth 100000
section
namespace Go.X
open Go
abbrev Env := Nat → Value
def put (e : Env) (d : Option Nat) (v : Value) : Env :=
  match d with
  | some d => fun t => bif Nat.beq t d then v else e t
  | none => e
def ev (e : Env) : Operand → Value
  | .tmp t => e t
  | .const v => v
  | .global g => .pointer (some ⟨g, 0, none⟩)
  | .func f => .func (.func f) #[] #[]
def envOf (a : Act) : Env := fun t => a.tmps.getD t undef
def Cl (P : Program) (f : FuncId) (args : Array Value) (w : World) (K : Value → World → Prop) : Prop :=
  Calls P f args w fun e w' => ∃ v, e = .returned v ∧ K v w'
theorem Cl.mono {P : Program} {f : FuncId} {args : Array Value} {w : World} {K K' : Value → World → Prop} (h : Cl P f args w K) (hk : ∀ v w', K v w' → K' v w') : Cl P f args w K' :=
  Calls.mono h fun _ _ ⟨v, he, hv⟩ => ⟨v, he, hk _ _ hv⟩
def st0 (P : Program) (s : Sem Next) (w : World) (K : Value → World → Prop) : Prop :=
  match s.run P w with
  | .ok (.value v) w' => K v w'
  | .ok .skip w' => K undef w'
  | .ok (.enter f args) w' => Cl P f args w' K
  | _ => False
structure st (P : Program) (s : Sem Next) (w : World) (K : Value → World → Prop) : Prop where
  h : st0 P s w K
def runPure (P : Program) : Sem Next → Option Value
  | .pure (.value v) => some v
  | .program k => runPure P (k P)
  | .mark _ k => runPure P k
  | _ => none
def pu0 (P : Program) (s : Sem Next) (K : Value → Prop) : Prop :=
  match runPure P s with
  | some v => K v
  | none => False
structure pu (P : Program) (s : Sem Next) (K : Value → Prop) : Prop where
  h : pu0 P s K
def rd0 (P : Program) (s : Sem Next) (w : World) (K : Value → Prop) : Prop :=
  ∃ v, s.run P w = .ok (.value v) w ∧ K v
structure rd (P : Program) (s : Sem Next) (w : World) (K : Value → Prop) : Prop where
  h : rd0 P s w K
def hold0 (P : Program) (s : Sem Next) (v : Value) (w : World) : Prop := s.run P w = .ok (.value v) w
structure hold (P : Program) (s : Sem Next) (v : Value) (w : World) : Prop where
  h : hold0 P s v w
def rsl0 (P : Program) (t : TypeId) (x : Value) (w : World) (K : Value → Prop) : Prop := ∃ v, (do loadVar t (← asAddr x) : Sem Value).run P w = .ok v w ∧ K v
structure rsl (P : Program) (t : TypeId) (x : Value) (w : World) (K : Value → Prop) : Prop where
  h : rsl0 P t x w K
inductive Cls where
  | plain (x : Operand) | pure | read | eff
def clsConv (P : Program) (src dst : TypeId) : Cls :=
  match Region.shape P.types src, Region.shape P.types dst with
  | some (.int _), some (.int _) => .pure
  | some .string, some .string => .pure
  | some (.slice _), some .string => .read
  | some (.int _), some .string => .pure
  | _, _ => .eff
def clsLen (P : Program) (ts : Array TypeId) : Cls :=
  match (ts.toList.head?).bind (Region.shape P.types) with
  | some .string | some (.slice _) | some (.array ..) => .pure
  | _ => .read
def clsBin (P : Program) (op : BinOp) (t : TypeId) (x y : Operand) : Cls :=
  match op, x, y with
  | _, .const _, _ | _, _, .const _ => .pure
  | .eql, _, _ | .neq, _, _ =>
    match Region.shape P.types t with
    | some (.interface _) | some (.pointer _) => .read
    | _ => .pure
  | _, _, _ => .pure
def clsOf (P : Program) : Op → Cls
  | .move x | .assign x => .plain x
  | .binOp op t x y _ => clsBin P op t x y
  | .pick .. | .nilCheck _ | .unOp .. | .makeInterface .. | .makeFunc .. | .slice .. | .fieldAddr .. | .field .. | .indexAddr .. | .index .. | .typeAssert .. | .extract .. | .build .. => .pure
  | .load .. | .lookup .. => .read
  | .convert src dst _ => clsConv P src dst
  | .call { callee := .builtin .len, argTypes, .. } => clsLen P argTypes
  | .call { callee := .builtin .cap, argTypes, .. } => clsLen P argTypes
  | .call { callee := .builtin .max, .. } => .pure
  | .call { callee := .builtin .min, .. } => .pure
  | _ => .eff
def isb (v : Value) (want : Bool) : Bool :=
  match v with
  | .bool b => b == want
  | _ => false
def gd0 (v : Value) (want : Bool) (w : World) (X : (Value → World → Prop) → Prop) (K : Value → World → Prop) : Prop :=
  bif isb v want then X K else K undef w
structure gd (v : Value) (want : Bool) (w : World) (X : (Value → World → Prop) → Prop) (K : Value → World → Prop) : Prop where
  h : gd0 v want w X K
def yv (ops : List Oper) (e : Env) (j : Nat) : Value :=
  match (ops[j]?).bind (·.dst) with
  | some d => e d
  | none => undef
def grd (ops : List Oper) (o : Oper) (e : Env) (w : World) (X : (Value → World → Prop) → Prop) (K : Value → World → Prop) : Prop :=
  match o.guard with
  | none => X K
  | some (j, want) => gd (yv ops e j) want w X K
def opW (P : Program) (o : Oper) (e : Env) (w : World) (K : Value → World → Prop) : Prop :=
  match clsOf P o.op with
  | .plain x => K (ev e x) w
  | .pure => pu P (execOp (ev e) o) fun v => K v w
  | .read => st P (execOp (ev e) o) w K
  | .eff => st P (execOp (ev e) o) w K
def seqW (P : Program) (ops : List Oper) (K : Env → World → Prop) : List Oper → Env → World → Prop
  | [], e, w => K e w
  | o :: rest, e, w => grd ops o e w (opW P o e w) fun v w' => seqW P ops K rest (put e o.dst v) w'

abbrev Fact := Nat × (World → Prop)
def isEff (P : Program) (o : Oper) : Bool :=
  match clsOf P o.op with
  | .eff => true
  | _ => false
def alive (P : Program) (ops : List Oper) (B : List Nat) (listed : List Bool) (i : Nat) : Bool :=
  go ops B listed
  where
  go : List Oper → List Nat → List Bool → Bool
    | o :: os, b :: bs, l :: ls => (!(l && isEff P o && Nat.testBit b i)) && go os bs ls
    | _, _, _ => true
def facts (P : Program) (ops : List Oper) (B : List Nat) (listed : List Bool) (w : World) : List Fact → Prop → Prop
  | [], K => K
  | (i, f) :: F, K => bif alive P ops B listed i then f w ∧ facts P ops B listed w F K else facts P ops B listed w F K
def readyB (listed : List Bool) (o : Oper) : Bool := o.after.toList.all fun e => !Region.binds .any e || listed.getD e.on false
def readyL (ops : List Oper) (listed : List Bool) : List (Nat × Oper) :=
  go ops listed 0
  where
  go : List Oper → List Bool → Nat → List (Nat × Oper)
    | o :: os, l :: ls, n => bif !l && readyB listed o then (n, o) :: go os ls (n + 1) else go os ls (n + 1)
    | _, _, _ => []
def firstFloat (P : Program) : List (Nat × Oper) → Option (Nat × Oper)
  | [] => none
  | (i, o) :: r => bif isEff P o then firstFloat P r else some (i, o)
def freeB (ops : List Oper) (listed : List Bool) (i : Nat) (oi : Oper) : Bool :=
  go ops listed 0
  where
  go : List Oper → List Bool → Nat → Bool
    | o :: os, l :: ls, n => (Nat.beq n i || l || o.after.toList.any (fun e => Region.binds .any e && Nat.beq e.on i) || oi.apart ops.toArray o) && go os ls (n + 1)
    | _, _, _ => true
def allOf (K : Nat → Oper → Prop) : List (Nat × Oper) → Prop
  | [] => True
  | [(i, o)] => K i o
  | (i, o) :: r => K i o ∧ allOf K r
def gfact (P : Program) (ops : List Oper) (o : Oper) (e : Env) (v : Value) : World → Prop :=
  match o.guard with
  | none => hold P (execOp (ev e) o) v
  | some (j, want) => fun w => isb (yv ops e j) want = true → hold P (execOp (ev e) o) v w
def drawW (P : Program) (ops : List Oper) (B : List Nat) (K : Env → World → Prop) : Nat → List Bool → List Fact → Env → World → Prop
  | 0, listed, _, e, w =>
    match readyL ops listed with
    | [] => K e w
    | _ => False
  | n + 1, listed, F, e, w =>
    match firstFloat P (readyL ops listed) with
    | some (i, o) =>
      match freeB ops listed i o with
      | false => False
      | true =>
        match clsOf P o.op with
        | .plain x => grd ops o e w (fun K' => K' (ev e x) w) fun v w' => drawW P ops B K n (listed.set i true) F (put e o.dst v) w'
        | .pure => grd ops o e w (fun K' => pu P (execOp (ev e) o) fun v => K' v w) fun v w' => drawW P ops B K n (listed.set i true) F (put e o.dst v) w'
        | .read => grd ops o e w (fun K' => rd P (execOp (ev e) o) w fun v => K' v w) fun v w' => drawW P ops B K n (listed.set i true) ((i, gfact P ops o e v) :: F) (put e o.dst v) w'
        | .eff => False
    | none =>
      match readyL ops listed with
      | [] => K e w
      | rs => allOf (fun i o => grd ops o e w (st P (execOp (ev e) o) w) fun v w' =>
          facts P ops B (listed.set i true) w' F (drawW P ops B K n (listed.set i true) F (put e o.dst v) w')) rs
def befores : List Oper → List Nat → List Nat
  | [], acc => acc
  | o :: os, acc => befores os (acc ++ [o.after.toList.foldl (fun s e => bif Region.binds .any e then s ||| ((1 <<< e.on) ||| acc.getD e.on 0) else s) 0])
def befOk (B : List Nat) : List Oper → List Nat → Bool
  | o :: os, b :: bs => Nat.beq b (o.after.toList.foldl (fun s e => bif Region.binds .any e then s ||| ((1 <<< e.on) ||| B.getD e.on 0) else s) 0) && befOk B os bs
  | [], [] => true
  | _, _ => false
def isSel (o : Oper) : Bool := match o.op with | .select .. => true | _ => false
def regW (P : Program) (ops : List Oper) (draw : Bool) (K : Env → World → Prop) (e : Env) (w : World) : Prop :=
  match draw with
  | false => seqW P ops K ops e w
  | true =>
    let B := befores ops []
    match befOk B ops B && !ops.any isSel with
    | true => drawW P ops B K ops.length (List.replicate ops.length false) [] e w.drew
    | false => False

structure Tab where
  join : Nat → List Nat
  loop : Nat → List Nat
def asgOps : List Oper → Nat → Nat
  | [], m => m
  | o :: os, m => asgOps os (match o.dst with | some d => m ||| (1 <<< d) | none => m)
def asg : Code → Nat
  | .region _ ops _ => asgOps ops.toList 0
  | .seq x y => asg x ||| asg y
  | .cond _ x y => asg x ||| asg y
  | .block _ c => asg c
  | .loop c => asg c
  | .scope c => asg c
  | _ => 0
def okOps (n : Nat) : List Oper → Bool
  | [] => true
  | o :: os => (match o.dst with | some d => Nat.blt d n | none => true) && okOps n os
def okDst (n : Nat) : Code → Bool
  | .region _ ops _ => okOps n ops.toList
  | .seq x y => okDst n x && okDst n y
  | .cond _ x y => okDst n x && okDst n y
  | .block _ c => okDst n c
  | .loop c => okDst n c
  | .scope c => okDst n c
  | _ => true
def branches : Code → Bool
  | .cond .. => true
  | .loop .. => true
  | .seq x y => branches x || branches y
  | .block _ c => branches c
  | .scope c => branches c
  | _ => false
def key : Code → Option Nat
  | .region i _ _ => some i
  | .seq x y => match key x with | some i => some i | none => key y
  | .cond _ x y => match key x with | some i => some i | none => key y
  | .block _ c => key c
  | .loop c => key c
  | .scope c => key c
  | _ => none
def keyD (c : Code) : Nat := match key c with | some i => i | none => 1000000
def idx : List Nat → Nat → Nat → Option Nat
  | [], _, _ => none
  | l :: ls, t, n => bif Nat.beq l t then some n else idx ls t (n + 1)
def mix (m : Nat) (L : List Nat) (s : List Value) (u : Env) (e : Env) : Env := fun t =>
  bif Nat.testBit m t then (match idx L t 0 with | some i => s.getD i undef | none => u t) else e t
def thn (K : Env → World → Prop) (Q : Exit → Env → World → Prop) : Exit → Env → World → Prop
  | .normal, e, w => K e w
  | x, e, w => Q x e w
def inb (id : Nat) (Q : Exit → Env → World → Prop) : Exit → Env → World → Prop
  | .exit id', e, w => bif Nat.beq id' id then Q .normal e w else Q (.exit id') e w
  | x, e, w => Q x e w
def cd0 (v : Value) (X Y : Prop) : Prop :=
  match v with
  | .bool b => if b = true then X else Y
  | _ => False
structure cd (v : Value) (X Y : Prop) : Prop where
  h : cd0 v X Y
def jn0 (R : List Value → Env → World → Prop) (X : (List Value → World → Prop) → Prop) : Prop :=
  ∃ k : List Value → World → Prop, (∀ s u w, k s w → R s u w) ∧ X k
structure jn (R : List Value → Env → World → Prop) (X : (List Value → World → Prop) → Prop) : Prop where
  h : jn0 R X
def lp0 (s0 : List Value) (w0 : World) (R : List Value → Env → World → (List Value → World → Prop) → Prop) : Prop :=
  ∃ (I : List Value → World → Prop) (μ : List Value → World → Nat), I s0 w0 ∧ ∀ s u w, I s w → R s u w fun s' w' => I s' w' ∧ μ s' w' < μ s w
structure lp (s0 : List Value) (w0 : World) (R : List Value → Env → World → (List Value → World → Prop) → Prop) : Prop where
  h : lp0 s0 w0 R
def CW (P : Program) (T : Tab) : Code → (Exit → Env → World → Prop) → Env → World → Prop
  | .skip, Q, e, w => Q .normal e w
  | .region _ ops draw, Q, e, w => regW P ops.toList draw (Q .normal) e w
  | .seq x y, Q, e, w =>
    match branches x with
    | false => CW P T x (thn (CW P T y Q) Q) e w
    | true => jn (fun s u w' => CW P T y Q (mix (asg x) (T.join (keyD y)) s u e) w') fun k =>
        CW P T x (thn (fun e' w' => k ((T.join (keyD y)).map e') w') Q) e w
  | .cond c x y, Q, e, w => cd (ev e c) (CW P T x Q e w) (CW P T y Q e w)
  | .block id c, Q, e, w => CW P T c (inb id Q) e w
  | .loop c, Q, e, w => lp ((T.loop (keyD c)).map e) w fun s u w' C =>
      CW P T c (thn (fun e' w'' => C ((T.loop (keyD c)).map e') w'') Q) (mix (asg c) (T.loop (keyD c)) s u e) w'
  | .exit id, Q, e, w => Q (.exit id) e w
  | .ret, Q, e, w => Q .ret e w
  | _, _, _, _ => False

def tup : List Value → Value
  | [v] => v
  | vs => .tuple vs.toArray
def resW (P : Program) : List ResultVar → List Value → Env → World → (Value → World → Prop) → Prop
  | [], acc, _, w, K => K (tup acc) w
  | .tmp t :: r, acc, e, w, K => resW P r (acc ++ [e t]) e w K
  | .cell a t :: r, acc, e, w, K => rsl P t (e a) w fun v => resW P r (acc ++ [v]) e w K
def retQ (P : Program) (rs : List ResultVar) (K : Value → World → Prop) : Exit → Env → World → Prop
  | .normal, e, w => resW P rs [] e w K
  | .ret, e, w => resW P rs [] e w K
  | _, _, _ => False
def env0 (l : List Value) : Env := fun t => l.getD t undef
end Go.X
end
section
namespace Go.X
open Go
theorem eval_eq (a : Act) : a.eval = ev (envOf a) := by
  funext x; cases x <;> rfl
theorem runPure_run {P : Program} {v : Value} (w : World) : ∀ s : Sem Next, runPure P s = some v →
    s.run P w = .ok (.value v) w
  | .pure n, h => by cases n <;> simp [runPure] at h <;> simp [Sem.run, h]
  | .program k, h => by simp only [runPure] at h; simp only [Sem.run]; exact runPure_run w _ h
  | .mark _ k, h => by simp only [runPure] at h; simp only [Sem.run]; exact runPure_run w _ h
  | .load .., h | .store .., h | .new .., h | .shape .., h | .freeze .., h | .frozen .., h | .getObj .., h | .setObj .., h | .choose .., h | .sys .., h | .halt _, h => by simp [runPure] at h
def Fr (m : Nat) (a0 a : Act) : Prop := a.tmps.size = a0.tmps.size ∧ a.defers = a0.defers ∧ ∀ t, Nat.testBit m t = false → envOf a t = envOf a0 t
theorem Fr.refl (m : Nat) (a : Act) : Fr m a a := ⟨rfl, rfl, fun _ _ => rfl⟩
theorem Fr.trans {m m1 m2 : Nat} {a b c : Act} (h1 : Fr m1 a b) (h2 : Fr m2 b c) (s1 : ∀ t, Nat.testBit m t = false → Nat.testBit m1 t = false) (s2 : ∀ t, Nat.testBit m t = false → Nat.testBit m2 t = false) : Fr m a c :=
  ⟨h2.1.trans h1.1, h2.2.1.trans h1.2.1, fun t ht => (h2.2.2 t (s2 t ht)).trans (h1.2.2 t (s1 t ht))⟩
theorem put_size (a : Act) (d : Option Tmp) (v : Value) : (a.put d v).tmps.size = a.tmps.size := by cases d <;> simp [Act.put]
theorem put_defers (a : Act) (d : Option Tmp) (v : Value) : (a.put d v).defers = a.defers := by cases d <;> rfl
theorem beq_ne {t d : Nat} (h : t ≠ d) : Nat.beq t d = false := by
  cases e : Nat.beq t d with
  | false => rfl
  | true => exact absurd (Nat.eq_of_beq_eq_true e) h
theorem envOf_put (a : Act) (d : Option Tmp) (v : Value) (h : ∀ x, d = some x → x < a.tmps.size) : envOf (a.put d v) = put (envOf a) d v := by
  cases d with
  | none => rfl
  | some d =>
    funext t
    simp only [envOf, Act.put, put]
    by_cases e : t = d
    · subst e
      have := h t rfl
      simp [this]
    · have e1 : Nat.beq t d = false := beq_ne e
      simp [Array.getElem?_setIfInBounds_ne (Ne.symm e)]
      rw [e1]; rfl
theorem okOps_mem {n : Nat} {l : List Oper} (h : okOps n l = true) {o : Oper} (ho : o ∈ l) : ∀ x, o.dst = some x → x < n := by
  induction l with
  | nil => cases ho
  | cons b l ih =>
    simp only [okOps, Bool.and_eq_true] at h
    cases ho with
    | head => intro x hx; have := h.1; rw [hx] at this; exact Nat.le_of_ble_eq_true this
    | tail _ ho => exact ih h.2 ho
theorem asgOps_keep (l : List Oper) (m t : Nat) (h : Nat.testBit m t = true) : Nat.testBit (asgOps l m) t = true := by
  induction l generalizing m with
  | nil => exact h
  | cons o l ih =>
    simp only [asgOps]
    apply ih
    cases o.dst <;> simp [h, Nat.testBit_or]
theorem asgOps_mem {l : List Oper} {o : Oper} (ho : o ∈ l) : ∀ (m x : Nat), o.dst = some x → Nat.testBit (asgOps l m) x = true := by
  induction l with
  | nil => cases ho
  | cons b l ih =>
    intro m x hx
    simp only [asgOps]
    cases ho with
    | head =>
      apply asgOps_keep
      rw [hx]
      simp [Nat.testBit_or, Nat.testBit_shiftLeft]
    | tail _ ho => exact ih ho _ x hx
theorem Fr.put {m : Nat} {a0 a : Act} {d : Option Tmp} {v : Value} (h : Fr m a0 a) (hd : ∀ x, d = some x → x < a0.tmps.size ∧ Nat.testBit m x = true) : Fr m a0 (a.put d v) := by
  refine ⟨(put_size ..).trans h.1, (put_defers ..).trans h.2.1, fun t ht => ?_⟩
  rw [envOf_put _ _ _ (fun x hx => by rw [h.1]; exact (hd x hx).1)]
  cases d with
  | none => exact h.2.2 t ht
  | some d =>
    simp only [X.put]
    have : t ≠ d := fun e => by subst e; rw [(hd t rfl).2] at ht; cases ht
    have e1 : Nat.beq t d = false := beq_ne this
    rw [e1]
    exact h.2.2 t ht
theorem wanted_iff (ops : Array Oper) (a : Act) (o : Oper) : Region.wanted o (yielded ops a.tmps) = (match o.guard with | none => true | some (j, want) => isb (yv ops.toList (envOf a) j) want) := by
  unfold Region.wanted
  cases o.guard with
  | none => rfl
  | some g =>
    obtain ⟨j, want⟩ := g
    simp only [yielded, yv, Array.getElem?_toList]
    cases h : (ops[j]?).bind (·.dst) with
    | none => simp [isb, undef]
    | some d =>
      simp only [Option.bind_some, envOf]
      cases h2 : a.tmps[d]? with
      | none => simp [h2, isb, undef]
      | some v => cases v <;> simp [h2, isb]
section
variable {P : Program} {T : Tab}
theorem st_wp {o : Oper} {a : Act} {w : World} {K : Value → World → Prop} {next : Act → World → Prop} {Q : Exit → Act → World → Prop}
    (h : st P (execOp (ev (envOf a)) o) w K) (hk : ∀ v w', K v w' → next (a.put o.dst v) w') : o.wp P a w next Q := by
  unfold Oper.wp
  rw [eval_eq]
  replace h := h.h
  unfold st0 at h
  generalize (execOp (ev (envOf a)) o).run P w = r at *
  cases r with
  | ok n w' =>
    cases n <;> simp only at h <;> simp only [Oper.upon]
    case value v => exact hk _ _ h
    case skip => exact hk _ _ h
    case enter f args => exact Calls.mono h fun e w'' ⟨v, he, hv⟩ => by subst he; exact hk _ _ hv
  | halt x w' => simp only at h
theorem pu_wp {o : Oper} {a : Act} {w : World} {K : Value → Prop} {next : Act → World → Prop} {Q : Exit → Act → World → Prop}
    (h : pu P (execOp (ev (envOf a)) o) K) (hk : ∀ v, K v → next (a.put o.dst v) w) : o.wp P a w next Q := by
  replace h := h.h
  unfold pu0 at h
  cases hr : runPure P (execOp (ev (envOf a)) o) with
  | none => rw [hr] at h; exact h.elim
  | some v =>
    rw [hr] at h
    unfold Oper.wp
    rw [eval_eq]
    rw [runPure_run w _ hr]; exact hk _ h
theorem clsLen_plain {ts : Array TypeId} {x : Operand} (h : clsLen P ts = .plain x) : False := by
  unfold clsLen at h; split at h <;> cases h
theorem clsConv_plain {s d : TypeId} {x : Operand} (h : clsConv P s d = .plain x) : False := by
  unfold clsConv at h; split at h <;> cases h
theorem clsBin_plain {op : BinOp} {t : TypeId} {y z x : Operand} (h : clsBin P op t y z = .plain x) : False := by
  unfold clsBin at h; split at h <;> first | (cases h; done) | (split at h <;> cases h)
theorem cls_plain {op : Op} {x : Operand} (h : clsOf P op = .plain x) : op = .move x ∨ op = .assign x := by
  unfold clsOf at h
  split at h
  · injection h with h; subst h; exact .inl rfl
  · injection h with h; subst h; exact .inr rfl
  all_goals first
    | (cases h; done)
    | exact (clsLen_plain h).elim
    | exact (clsConv_plain h).elim
    | exact (clsBin_plain h).elim
theorem plain_wp {o : Oper} {x : Operand} (hc : clsOf P o.op = .plain x) {a : Act} {w : World} {next : Act → World → Prop} {Q : Exit → Act → World → Prop}
    (hk : next (a.put o.dst (ev (envOf a) x)) w) : o.wp P a w next Q := by
  unfold Oper.wp
  rw [eval_eq]
  have : execOp (ev (envOf a)) o = (Pure.pure (.value (ev (envOf a) x)) : Sem Next) := by
    rcases cls_plain hc with h | h <;> (unfold execOp; rw [h])
  rw [this]
  exact hk
theorem opW_wp {o : Oper} {a : Act} {w : World} {K : Value → World → Prop} {next : Act → World → Prop} {Q : Exit → Act → World → Prop}
    (h : opW P o (envOf a) w K) (hk : ∀ v w', K v w' → next (a.put o.dst v) w') : o.wp P a w next Q := by
  unfold opW at h
  cases hc : clsOf P o.op with
  | plain x => rw [hc] at h; exact plain_wp hc (hk _ _ h)
  | pure => rw [hc] at h; exact pu_wp h fun v hv => hk _ _ hv
  | read => rw [hc] at h; exact st_wp h hk
  | eff => rw [hc] at h; exact st_wp h hk
theorem seqW_sound {ops : Array Oper} {K : Env → World → Prop} {m : Nat} {a0 : Act} (Q : Exit → Act → World → Prop) (hQ : ∀ a w, Fr m a0 a → K (envOf a) w → Q .normal a w) :
    ∀ (l : List Oper) (a : Act) (w : World), okOps a0.tmps.size l = true → (∀ o ∈ l, ∀ x, o.dst = some x → Nat.testBit m x = true) → Fr m a0 a →
      seqW P ops.toList K l (envOf a) w → wpList P ops Q l a w
  | [], a, w, _, _, hf, h => hQ a w hf h
  | o :: l, a, w, hok, hm, hf, h => by
    have hdst : ∀ x, o.dst = some x → x < a0.tmps.size ∧ Nat.testBit m x = true := fun x hx => ⟨okOps_mem hok (List.mem_cons_self ..) x hx, hm o (List.mem_cons_self ..) x hx⟩
    have hok' : okOps a0.tmps.size l = true := by simp only [okOps, Bool.and_eq_true] at hok; exact hok.2
    have hm' : ∀ o ∈ l, ∀ x, o.dst = some x → Nat.testBit m x = true := fun o' ho => hm o' (List.mem_cons_of_mem _ ho)
    have step : ∀ v w', seqW P ops.toList K l (put (envOf a) o.dst v) w' → wpList P ops Q l (a.put o.dst v) w' := fun v w' hv =>
      seqW_sound Q hQ l _ w' hok' hm' (hf.put hdst) (by rw [envOf_put _ _ _ (fun x hx => by rw [hf.1]; exact (hdst x hx).1)]; exact hv)
    simp only [seqW, grd] at h
    simp only [wpList, wanted_iff]
    cases hg : o.guard with
    | none =>
      simp only [hg] at h
      rw [if_pos rfl]
      exact .inl (opW_wp h step)
    | some g =>
      obtain ⟨j, want⟩ := g
      simp only [hg] at h
      replace h := h.h
      unfold gd0 at h
      cases hb : isb (yv ops.toList (envOf a) j) want with
      | true =>
        simp only [hb, cond_true] at h
        rw [if_pos hb]
        exact .inl (opW_wp h step)
      | false =>
        simp only [hb, cond_false] at h
        rw [if_neg (show ¬ (isb (yv ops.toList (envOf a) j) want = true) from by rw [hb]; exact Bool.false_ne_true)]
        exact step _ _ h

theorem ready_go {listed : List Bool} : ∀ (os : List Oper) (ls : List Bool) (n i : Nat) (o : Oper),
    (i, o) ∈ readyL.go listed os ls n ↔ ∃ k, i = n + k ∧ os[k]? = some o ∧ ls[k]? = some false ∧ readyB listed o = true
  | [], ls, n, i, o => by simp [readyL.go]
  | o' :: os, [], n, i, o => by simp [readyL.go]
  | o' :: os, l :: ls, n, i, o => by
    have ih := ready_go (listed := listed) os ls (n + 1) i o
    have key : (∃ k, i = n + k ∧ (o' :: os)[k]? = some o ∧ (l :: ls)[k]? = some false ∧ readyB listed o = true) ↔
        (i = n ∧ o' = o ∧ l = false ∧ readyB listed o = true) ∨ (∃ k, i = n + 1 + k ∧ os[k]? = some o ∧ ls[k]? = some false ∧ readyB listed o = true) := by
      constructor
      · rintro ⟨k, h1, h2, h3, h4⟩
        cases k with
        | zero => left; simp at h1 h2 h3; exact ⟨h1, h2, h3, h4⟩
        | succ k => right; simp at h2 h3; exact ⟨k, by omega, h2, h3, h4⟩
      · rintro (⟨h1, h2, h3, h4⟩ | ⟨k, h1, h2, h3, h4⟩)
        · exact ⟨0, by omega, by simp [h2], by simp [h3], h4⟩
        · exact ⟨k + 1, by omega, by simpa using h2, by simpa using h3, h4⟩
    rw [key]
    simp only [readyL.go]
    cases hb : (!l && readyB listed o') with
    | true =>
      simp only [cond_true, List.mem_cons, ih]
      simp only [Bool.and_eq_true, Bool.not_eq_true'] at hb
      constructor
      · rintro (h | h)
        · left; injection h with h1 h2; subst h1 h2; exact ⟨rfl, rfl, hb.1, hb.2⟩
        · exact .inr h
      · rintro (⟨h1, h2, _, _⟩ | h)
        · left; rw [h1, h2]
        · exact .inr h
    | false =>
      simp only [cond_false, ih]
      constructor
      · exact .inr
      · rintro (⟨h1, h2, h3, h4⟩ | h)
        · subst h2 h3; rw [h4] at hb; cases hb
        · exact h
theorem mem_readyL {ops : List Oper} {l : List Bool} {i : Nat} {o : Oper} : (i, o) ∈ readyL ops l ↔ ops[i]? = some o ∧ l[i]? = some false ∧ readyB l o = true := by
  unfold readyL
  rw [ready_go]
  constructor
  · rintro ⟨k, h1, h⟩; have : i = k := by omega
    subst this; exact h
  · intro h; exact ⟨i, by omega, h⟩
theorem getD_true_iff {l : List Bool} {i : Nat} : l.toArray.getD i true = false ↔ l[i]? = some false := by
  cases h : l[i]? with
  | none => simp [h]
  | some b => simp [h]
theorem readyB_iff {l : List Bool} {o : Oper} : readyB l o = true ↔ ∀ e ∈ o.after, Region.binds .any e = true → l.toArray.getD e.on false = true := by
  unfold readyB
  rw [List.all_eq_true]
  constructor
  · intro h e he hb
    have := h e (Array.mem_toList_iff.2 he)
    simpa [hb] using this
  · intro h e he
    have h2 := h e (Array.mem_toList_iff.1 he)
    cases hb : Region.binds .any e with
    | false => rfl
    | true => have := h2 hb; simpa using this
theorem ready_iff {ops : Array Oper} {l : List Bool} {i : Nat} : i ∈ Region.ready .any ops l.toArray ↔ ∃ o, (i, o) ∈ readyL ops.toList l := by
  rw [mem_ready, getD_true_iff]
  constructor
  · rintro ⟨h1, o, h2, h3⟩
    exact ⟨o, mem_readyL.2 ⟨by simpa using h2, h1, readyB_iff.2 h3⟩⟩
  · rintro ⟨o, h⟩
    obtain ⟨h1, h2, h3⟩ := mem_readyL.1 h
    exact ⟨h2, o, by simpa using h1, readyB_iff.1 h3⟩
theorem alive_go {i : Nat} : ∀ (os : List Oper) (bs : List Nat) (ls : List Bool), alive.go P i os bs ls = true ↔
    ∀ (k : Nat) (o : Oper) (b : Nat), os[k]? = some o → bs[k]? = some b → ls[k]? = some true → isEff P o = true → Nat.testBit b i = false
  | [], bs, ls => by simp [alive.go]
  | o' :: os, [], ls => by simp [alive.go]
  | o' :: os, b' :: bs, [] => by simp [alive.go]
  | o' :: os, b' :: bs, l' :: ls => by
    simp only [alive.go, Bool.and_eq_true, alive_go os bs ls]
    constructor
    · rintro ⟨h1, h2⟩ k o b ho hb hl he
      cases k with
      | zero =>
        simp at ho hb hl
        subst ho hb hl
        simpa [he] using h1
      | succ k => exact h2 k o b (by simpa using ho) (by simpa using hb) (by simpa using hl) he
    · intro h
      refine ⟨?_, fun k o b ho hb hl he => h (k + 1) o b (by simpa using ho) (by simpa using hb) (by simpa using hl) he⟩
      cases hl : l' <;> cases he : isEff P o' <;> simp
      exact h 0 o' b' (by simp) (by simp) (by simp [hl]) he
theorem alive_iff {ops : List Oper} {B : List Nat} {l : List Bool} {i : Nat} : alive P ops B l i = true ↔
    ∀ (k : Nat) (o : Oper) (b : Nat), ops[k]? = some o → B[k]? = some b → l[k]? = some true → isEff P o = true → Nat.testBit b i = false := alive_go ops B l
theorem facts_spec {ops : List Oper} {B : List Nat} {l : List Bool} {w : World} {K : Prop} : ∀ {F : List Fact}, facts P ops B l w F K → (∀ f ∈ F, alive P ops B l f.1 = true → f.2 w) ∧ K
  | [], h => ⟨by simp, h⟩
  | (i, f) :: F, h => by
    simp only [facts] at h
    cases ha : alive P ops B l i with
    | true =>
      simp only [ha, cond_true] at h
      obtain ⟨h1, h2⟩ := facts_spec h.2
      refine ⟨fun g hg hal => ?_, h2⟩
      cases hg with
      | head => exact h.1
      | tail _ hg => exact h1 g hg hal
    | false =>
      simp only [ha, cond_false] at h
      obtain ⟨h1, h2⟩ := facts_spec h
      refine ⟨fun g hg hal => ?_, h2⟩
      cases hg with
      | head => rw [ha] at hal; cases hal
      | tail _ hg => exact h1 g hg hal
def DC (B : List Nat) (l : List Bool) : Prop := ∀ (k b i : Nat), B[k]? = some b → l[k]? = some true → Nat.testBit b i = true → l[i]? = some true
def foldB (B : List Nat) (es : List Edge) (s : Nat) : Nat := es.foldl (fun s e => bif Region.binds .any e then s ||| ((1 <<< e.on) ||| B.getD e.on 0) else s) s
theorem foldB_bit {B : List Nat} {i : Nat} : ∀ {es : List Edge} {s : Nat}, Nat.testBit (foldB B es s) i = true →
    Nat.testBit s i = true ∨ ∃ e ∈ es, Region.binds .any e = true ∧ (e.on = i ∨ Nat.testBit (B.getD e.on 0) i = true)
  | [], s, h => .inl h
  | e :: es, s, h => by
    have h' : Nat.testBit (foldB B es (bif Region.binds .any e then s ||| ((1 <<< e.on) ||| B.getD e.on 0) else s)) i = true := h
    rcases foldB_bit h' with h1 | ⟨e', he', hb, h2⟩
    · cases hb : Region.binds .any e with
      | false => simp only [hb, cond_false] at h1; exact .inl h1
      | true =>
        simp only [hb, cond_true, Nat.testBit_or, Bool.or_eq_true] at h1
        rcases h1 with h1 | h1 | h1
        · exact .inl h1
        · right
          refine ⟨e, List.mem_cons_self .., hb, .inl ?_⟩
          simp only [Nat.testBit_shiftLeft, Bool.and_eq_true, decide_eq_true_eq] at h1
          have h3 := h1.2
          have : i - e.on = 0 := by
            rcases Nat.eq_zero_or_pos (i - e.on) with h4 | h4
            · exact h4
            · exfalso
              obtain ⟨k, hk⟩ : ∃ k, i - e.on = k + 1 := ⟨i - e.on - 1, by omega⟩
              rw [hk, Nat.testBit_succ] at h3
              simp at h3
          omega
        · exact .inr ⟨e, List.mem_cons_self .., hb, .inr h1⟩
    · exact .inr ⟨e', List.mem_cons_of_mem _ he', hb, h2⟩
theorem befOk_spec {B : List Nat} : ∀ {os : List Oper} {bs : List Nat}, befOk B os bs = true → os.length = bs.length ∧ ∀ (k : Nat) (o : Oper) (b : Nat), os[k]? = some o → bs[k]? = some b → b = foldB B o.after.toList 0
  | [], [], _ => ⟨rfl, by simp⟩
  | [], b :: bs, h => by simp [befOk] at h
  | o :: os, [], h => by simp [befOk] at h
  | o :: os, b :: bs, h => by
    simp only [befOk, Bool.and_eq_true] at h
    obtain ⟨h1, h2⟩ := befOk_spec h.2
    refine ⟨by simp [h1], fun k o' b' ho hb => ?_⟩
    cases k with
    | zero => simp at ho hb; subst ho hb; exact Nat.eq_of_beq_eq_true h.1
    | succ k => exact h2 k o' b' (by simpa using ho) (by simpa using hb)
theorem ready_dc {ops : List Oper} {B : List Nat} (hB : befOk B ops B = true) {l : List Bool} (hdc : DC B l) {j i b : Nat} {o : Oper} (ho : ops[j]? = some o) (hb : B[j]? = some b)
    (hr : readyB l o = true) (ht : Nat.testBit b i = true) : l[i]? = some true := by
  have e := (befOk_spec hB).2 j o b ho hb
  subst e
  rcases foldB_bit ht with h | ⟨e, he, hbd, h⟩
  · simp at h
  · have hl := readyB_iff.1 hr e (Array.mem_toList_iff.1 he) hbd
    have hl' : l[e.on]? = some true := by
      cases hx : l[e.on]? with
      | none => simp [hx] at hl
      | some b => simp [hx] at hl; rw [hl]
    rcases h with h | h
    · rw [← h]; exact hl'
    · cases hx : B[e.on]? with
      | none => simp [hx] at h
      | some b' => simp [hx] at h; exact hdc e.on b' i hx hl' h
theorem set_true_get {l : List Bool} {j k : Nat} (h : l[k]? = some true) : (l.set j true)[k]? = some true := by
  by_cases e : j = k
  · subst e; rw [List.getElem?_set_self (List.getElem?_eq_some_iff.1 h).1]
  · rw [List.getElem?_set_ne e]; exact h
theorem DC.set {ops : List Oper} {B : List Nat} (hB : befOk B ops B = true) {l : List Bool} (hdc : DC B l) {j : Nat} {o : Oper} (ho : ops[j]? = some o) (hr : readyB l o = true) : DC B (l.set j true) := by
  intro k b i hb hk ht
  by_cases e : j = k
  · subst e; exact set_true_get (ready_dc hB hdc ho hb hr ht)
  · rw [List.getElem?_set_ne e] at hk
    exact set_true_get (hdc k b i hb hk ht)
def anyF (P : Program) (ops : Array Oper) (B : List Nat) (Q : Exit → Act → World → Prop) (F : List Fact) : Nat → List Bool → Act → World → Prop
  | 0, l, a, w => Region.ready .any ops l.toArray = [] ∧ Q .normal a w
  | n + 1, l, a, w => (Region.ready .any ops l.toArray = [] → Q .normal a w) ∧
    ∀ i ∈ Region.ready .any ops l.toArray, wpOp P ops Q i (fun a' w' => (∀ f ∈ F, alive P ops.toList B (l.set i true) f.1 = true → f.2 w') ∧ anyF P ops B Q F n (l.set i true) a' w') a w
theorem toArray_set (l : List Bool) (i : Nat) : (l.set i true).toArray = l.toArray.setIfInBounds i true := by simp
theorem wpAny_of_anyF {ops : Array Oper} {B : List Nat} {Q : Exit → Act → World → Prop} {F : List Fact} : ∀ (n : Nat) (l : List Bool) (a : Act) (w : World),
    anyF P ops B Q F n l a w → wpAny P .any ops Q n l.toArray a w
  | 0, _, _, _, h => h
  | n + 1, l, a, w, h => ⟨h.1, fun i hi => wpOp_mono (fun a' w' h' => by rw [← toArray_set]; exact wpAny_of_anyF n _ a' w' h'.2) (h.2 i hi)⟩
theorem anyF_mono {ops : Array Oper} {B : List Nat} {Q : Exit → Act → World → Prop} {F F' : List Fact} (hF : ∀ f ∈ F, f ∈ F') : ∀ (n : Nat) (l : List Bool) (a : Act) (w : World),
    anyF P ops B Q F' n l a w → anyF P ops B Q F n l a w
  | 0, _, _, _, h => h
  | n + 1, l, a, w, h => ⟨h.1, fun i hi => wpOp_mono (fun a' w' h' => ⟨fun f hf => h'.1 f (hF f hf), anyF_mono hF n _ a' w' h'.2⟩) (h.2 i hi)⟩
theorem alive_unset {ops : List Oper} {B : List Nat} {l : List Bool} {j x : Nat} (h : alive P ops B (l.set j true) x = true) : alive P ops B l x = true :=
  alive_iff.2 fun k o b ho hb hl he => alive_iff.1 h k o b ho hb (set_true_get hl) he
theorem alive_float {ops : List Oper} {B : List Nat} {l : List Bool} {i x : Nat} {oi : Oper} (hi : ops[i]? = some oi) (hne : isEff P oi = false) (h : alive P ops B l x = true) : alive P ops B (l.set i true) x = true :=
  alive_iff.2 fun k o b ho hb hl he => by
    by_cases e : i = k
    · subst e; rw [hi] at ho; injection ho with ho; subst ho; rw [hne] at he; cases he
    · rw [List.getElem?_set_ne e] at hl; exact alive_iff.1 h k o b ho hb hl he
theorem anyF_first {ops : Array Oper} {B : List Nat} {Q : Exit → Act → World → Prop} {F : List Fact} {i : Nat} {oi : Oper} {v : Value} {ρ : World → Prop} (hB : befOk B ops.toList B = true)
    (hi : ops[i]? = some oi) (hsel : ∀ (j : Nat) (o : Oper) cs b, ops[j]? = some o → o.op ≠ .select cs b) (hQ : ∀ c a w, ¬ Q (.panic c) a w) (hne : isEff P oi = false) :
    ∀ (n : Nat) (l : List Bool) (a : Act) (w : World), (∀ j oj, ops[j]? = some oj → j ≠ i → l[j]? = some false → (∀ e ∈ oj.after, Region.binds .any e = true → e.on ≠ i) → oi.apart ops oj = true) →
      i ∈ Region.ready .any ops l.toArray → YieldsIf P ops ρ oi v a → ρ w → DC B l → (∀ f ∈ F, alive P ops.toList B l f.1 = true → f.2 w) →
      anyF P ops B Q ((i, ρ) :: F) n (l.set i true) (a.put oi.dst v) w → anyF P ops B Q F (n + 1) l a w := by
  have hi' : ops.toList[i]? = some oi := by simpa using hi
  intro n
  induction n with
  | zero =>
    intro l a w _ hr hy hρ hdc hF H
    refine ⟨fun h => (by rw [h] at hr; cases hr), fun j hj => ?_⟩
    by_cases hji : j = i
    · subst hji
      exact hy.wpOp hi hρ ⟨fun f hf hal => hF f hf (alive_unset hal), H⟩
    · have := ready_mono hj hji
      rw [← toArray_set, H.1] at this
      cases this
  | succ n ih =>
    intro l a w hfree hr hy hρ hdc hF H
    refine ⟨fun h => (by rw [h] at hr; cases hr), fun j hj => ?_⟩
    by_cases hji : j = i
    · subst hji
      exact hy.wpOp hi hρ ⟨fun f hf hal => hF f hf (alive_unset hal), anyF_mono (fun f hf => List.mem_cons_of_mem _ hf) _ _ _ _ H⟩
    · have h1 := H.2 j (by rw [toArray_set]; exact ready_mono hj hji)
      obtain ⟨oj, hoj⟩ := ready_iff.1 hj
      obtain ⟨hoj', hlj, hrj⟩ := mem_readyL.1 hoj
      have hoj2 : ops[j]? = some oj := by simpa using hoj'
      obtain ⟨oi', hoi⟩ := ready_iff.1 hr
      obtain ⟨hoi', hli, hri⟩ := mem_readyL.1 hoi
      have hnot : ∀ e ∈ oj.after, Region.binds .any e = true → e.on ≠ i := fun e he hb heq => by
        have h2 := readyB_iff.1 hrj e he hb
        rw [heq] at h2
        simp [hli] at h2
      have h2 := wpOp_putIf hoj2 (hfree j oj hoj2 hji hlj hnot) (fun cs b => hsel i oi cs b hi) (fun cs b => hsel j oj cs b hoj2) (fun c a w h => absurd h (hQ c _ w)) hy h1
      have hji' : i ≠ j := Ne.symm hji
      have hali : ∀ x, alive P ops.toList B (l.set j true) x = true → alive P ops.toList B ((l.set i true).set j true) x = true := fun x hx => by
        rw [List.set_comm _ _ hji']; exact alive_float hi' hne hx
      have haliI : alive P ops.toList B ((l.set i true).set j true) i = true := alive_iff.2 fun k o b ho hb hl he => by
        cases ht : Nat.testBit b i with
        | false => rfl
        | true =>
          exfalso
          by_cases e1 : k = j
          · subst e1
            have := ready_dc hB hdc ho hb (by rw [hoj'] at ho; injection ho with ho; subst ho; exact hrj) ht
            rw [hli] at this; cases this
          · by_cases e2 : k = i
            · subst e2; rw [hi'] at ho; injection ho with ho; subst ho; rw [hne] at he; cases he
            · rw [List.getElem?_set_ne (Ne.symm e1), List.getElem?_set_ne (Ne.symm e2)] at hl
              have := hdc k b i hb hl ht
              rw [hli] at this; cases this
      refine wpOp_mono (fun a' w' h3 => ⟨fun f hf hal => h3.2.1 f (List.mem_cons_of_mem _ hf) (hali f.1 hal), ?_⟩) h2
      refine ih (l.set j true) a' w' (fun k ok hk hki hun hno => ?_) (by rw [toArray_set]; exact ready_mono hr hji') h3.1 (h3.2.1 (i, ρ) (List.mem_cons_self ..) haliI) (hdc.set hB hoj' hrj) (fun f hf hal => h3.2.1 f (List.mem_cons_of_mem _ hf) (hali f.1 hal)) ?_
      · refine hfree k ok hk hki ?_ hno
        by_cases e : j = k
        · subst e
          rw [List.getElem?_set_self (List.getElem?_eq_some_iff.1 hlj).1] at hun; cases hun
        · rw [List.getElem?_set_ne e] at hun; exact hun
      · rw [List.set_comm _ _ hji]; exact h3.2.2
theorem free_go {ops : List Oper} {i : Nat} {oi : Oper} : ∀ (os : List Oper) (ls : List Bool) (n : Nat), freeB.go ops i oi os ls n = true → os.length = ls.length →
    ∀ (k : Nat) (o : Oper), os[k]? = some o → n + k ≠ i → ls[k]? = some false → (∀ e ∈ o.after, Region.binds .any e = true → e.on ≠ i) → oi.apart ops.toArray o = true
  | [], ls, n, _, _ => by simp
  | o' :: os, [], n, _, hl => by simp at hl
  | o' :: os, l' :: ls, n, h, hl => by
    intro k o ho hne hls hno
    simp only [freeB.go, Bool.and_eq_true] at h
    cases k with
    | zero =>
      simp at ho hls
      subst ho hls
      have h1 := h.1
      rw [beq_ne (show n ≠ i by omega)] at h1
      simp only [Bool.false_or, Bool.or_eq_true] at h1
      rcases h1 with h1 | h1
      · obtain ⟨e, he, hb⟩ := List.any_eq_true.1 h1
        simp only [Bool.and_eq_true] at hb
        exact absurd (Nat.eq_of_beq_eq_true hb.2) (hno e (Array.mem_toList_iff.1 he) hb.1)
      · exact h1
    | succ k => exact free_go os ls (n + 1) h.2 (by simpa using hl) k o (by simpa using ho) (by omega) (by simpa using hls) hno
theorem firstFloat_mem {l : List (Nat × Oper)} {i : Nat} {o : Oper} (h : firstFloat P l = some (i, o)) : (i, o) ∈ l ∧ isEff P o = false := by
  induction l with
  | nil => cases h
  | cons x l ih =>
    obtain ⟨i', o'⟩ := x
    simp only [firstFloat] at h
    cases he : isEff P o' with
    | true => simp only [he, cond_true] at h; exact ⟨List.mem_cons_of_mem _ (ih h).1, (ih h).2⟩
    | false => simp only [he, cond_false] at h; injection h with h; injection h with h1 h2; subst h1 h2; exact ⟨List.mem_cons_self .., he⟩
theorem allOf_mem {K : Nat → Oper → Prop} : ∀ {l : List (Nat × Oper)}, allOf K l → ∀ i o, (i, o) ∈ l → K i o
  | [], _, _, _, h => by cases h
  | [(i, o)], h, i', o', hm => by simp at hm; obtain ⟨rfl, rfl⟩ := hm; exact h
  | (i, o) :: x :: r, h, i', o', hm => by
    simp only [allOf] at h
    cases hm with
    | head => exact h.1
    | tail _ hm => exact allOf_mem h.2 i' o' hm
theorem run_plain {o : Oper} {x : Operand} (hc : clsOf P o.op = .plain x) (ρ : Operand → Value) (w : World) : (execOp ρ o).run P w = .ok (.value (ρ x)) w := by
  have : execOp ρ o = (Pure.pure (.value (ρ x)) : Sem Next) := by
    rcases cls_plain hc with h | h <;> (unfold execOp; rw [h])
  rw [this]; rfl
theorem anyF_addTrue {ops : Array Oper} {B : List Nat} {Q : Exit → Act → World → Prop} {F : List Fact} {i : Nat} : ∀ (n : Nat) (l : List Bool) (a : Act) (w : World),
    anyF P ops B Q F n l a w → anyF P ops B Q ((i, fun _ => True) :: F) n l a w
  | 0, _, _, _, h => h
  | n + 1, l, a, w, h => ⟨h.1, fun j hj => wpOp_mono (fun a' w' h' => ⟨fun f hf => by
      cases hf with
      | head => exact fun _ => trivial
      | tail _ hf => exact h'.1 f hf, anyF_addTrue n _ a' w' h'.2⟩) (h.2 j hj)⟩
theorem drawW_sound {ops : Array Oper} {B : List Nat} {K : Env → World → Prop} {Q : Exit → Act → World → Prop} {m : Nat} {a0 : Act} (hB : befOk B ops.toList B = true)
    (hsel : ∀ (j : Nat) (o : Oper) cs b, ops[j]? = some o → o.op ≠ .select cs b) (hQ : ∀ c a w, ¬ Q (.panic c) a w)
    (hK : ∀ a w, Fr m a0 a → K (envOf a) w → Q .normal a w) (hd : ∀ o ∈ ops.toList, ∀ x, o.dst = some x → x < a0.tmps.size ∧ Nat.testBit m x = true) :
    ∀ (n : Nat) (l : List Bool) (F : List Fact) (a : Act) (w : World), drawW P ops.toList B K n l F (envOf a) w → Fr m a0 a → DC B l → l.length = ops.size →
      (∀ f ∈ F, alive P ops.toList B l f.1 = true → f.2 w) → anyF P ops B Q F n l a w
  | 0, l, F, a, w, h, hf, _, _, _ => by
    simp only [drawW] at h
    cases hr : readyL ops.toList l with
    | nil =>
      rw [hr] at h
      refine ⟨?_, hK a w hf h⟩
      cases hx : Region.ready .any ops l.toArray with
      | nil => rfl
      | cons y ys =>
        obtain ⟨o, ho⟩ := ready_iff.1 (show y ∈ Region.ready .any ops l.toArray by rw [hx]; exact List.mem_cons_self ..)
        rw [hr] at ho; cases ho
    | cons y ys => rw [hr] at h; exact h.elim
  | n + 1, l, F, a, w, h, hf, hdc, hlen, hF => by
    simp only [drawW] at h
    cases hff : firstFloat P (readyL ops.toList l) with
    | some p =>
      obtain ⟨i, o⟩ := p
      obtain ⟨hmem, hne⟩ := firstFloat_mem hff
      obtain ⟨hoi, hli, hri⟩ := mem_readyL.1 hmem
      have hoi' : ops[i]? = some o := by simpa using hoi
      have hdst := hd o (List.mem_of_getElem? hoi)
      simp only [hff] at h
      cases hfr : freeB ops.toList l i o with
      | false => rw [hfr] at h; exact h.elim
      | true =>
        simp only [hfr] at h
        have hfree : ∀ j oj, ops[j]? = some oj → j ≠ i → l[j]? = some false → (∀ e ∈ oj.after, Region.binds .any e = true → e.on ≠ i) → o.apart ops oj = true := fun j oj hj hji hun hno => by
          have := free_go ops.toList l 0 hfr (by simpa using hlen.symm) j oj (by simpa using hj) (by omega) hun hno
          simpa using this
        have hready : i ∈ Region.ready .any ops l.toArray := ready_iff.2 ⟨o, hmem⟩
        have henv : ∀ v, envOf (a.put o.dst v) = put (envOf a) o.dst v := fun v => envOf_put _ _ _ (fun x hx => by rw [hf.1]; exact (hdst x hx).1)
        have hlen' : (l.set i true).length = ops.size := by simpa using hlen
        have hdc' : DC B (l.set i true) := hdc.set hB hoi hri
        have hFi : ∀ f ∈ F, alive P ops.toList B (l.set i true) f.1 = true → f.2 w := fun f hf' hal => hF f hf' (alive_unset hal)
        -- an operation that yields whatever the world is
        have goAll : ∀ v, YieldsIf P ops (fun _ => True) o v a → drawW P ops.toList B K n (l.set i true) F (put (envOf a) o.dst v) w → anyF P ops B Q F (n + 1) l a w := fun v hy hrest => by
          refine anyF_first hB hoi' hsel hQ hne n l a w hfree hready hy trivial hdc hF ?_
          have ih := drawW_sound hB hsel hQ hK hd n (l.set i true) F (a.put o.dst v) w (by rw [henv]; exact hrest) (hf.put hdst) hdc' hlen' hFi
          exact anyF_addTrue n _ _ _ ih
        have hw := wanted_iff ops a o
        have passed : Region.wanted o (yielded ops a.tmps) = false → drawW P ops.toList B K n (l.set i true) F (put (envOf a) o.dst undef) w → anyF P ops B Q F (n + 1) l a w := fun hwf hrest =>
          goAll undef (.inr ⟨hwf, rfl⟩) hrest
        cases hc : clsOf P o.op with
        | eff => rw [hc] at h; exact h.elim
        | plain x =>
          simp only [hc, grd] at h
          cases hg : o.guard with
          | none =>
            simp only [hg] at h hw
            exact goAll _ (.inl ⟨hw, fun w' _ => by rw [eval_eq]; exact run_plain hc _ w'⟩) h
          | some g =>
            obtain ⟨j, want⟩ := g
            simp only [hg] at h hw
            replace h := h.h
            unfold gd0 at h
            cases hb : isb (yv ops.toList (envOf a) j) want with
            | true =>
              simp only [hb, cond_true] at h hw
              exact goAll _ (.inl ⟨hw, fun w' _ => by rw [eval_eq]; exact run_plain hc _ w'⟩) h
            | false =>
              simp only [hb, cond_false] at h hw
              exact passed hw h
        | pure =>
          have pureGo : Region.wanted o (yielded ops a.tmps) = true → pu P (execOp (ev (envOf a)) o) (fun v => drawW P ops.toList B K n (l.set i true) F (put (envOf a) o.dst v) w) → anyF P ops B Q F (n + 1) l a w := fun hwt hp => by
            replace hp := hp.h
            unfold pu0 at hp
            cases hrp : runPure P (execOp (ev (envOf a)) o) with
            | none => rw [hrp] at hp; exact hp.elim
            | some v =>
              rw [hrp] at hp
              exact goAll v (.inl ⟨hwt, fun w' _ => by rw [eval_eq]; exact runPure_run w' _ hrp⟩) hp
          simp only [hc, grd] at h
          cases hg : o.guard with
          | none => simp only [hg] at h hw; exact pureGo hw h
          | some g =>
            obtain ⟨j, want⟩ := g
            simp only [hg] at h hw
            replace h := h.h
            unfold gd0 at h
            cases hb : isb (yv ops.toList (envOf a) j) want with
            | true => simp only [hb, cond_true] at h hw; exact pureGo hw h
            | false => simp only [hb, cond_false] at h hw; exact passed hw h
        | read =>
          have readGo : ∀ v, YieldsIf P ops (gfact P ops.toList o (envOf a) v) o v a → gfact P ops.toList o (envOf a) v w →
              drawW P ops.toList B K n (l.set i true) ((i, gfact P ops.toList o (envOf a) v) :: F) (put (envOf a) o.dst v) w → anyF P ops B Q F (n + 1) l a w := fun v hy hv hp => by
            refine anyF_first (ρ := gfact P ops.toList o (envOf a) v) hB hoi' hsel hQ hne n l a w hfree hready hy hv hdc hF ?_
            refine drawW_sound hB hsel hQ hK hd n (l.set i true) _ (a.put o.dst v) w (by rw [henv]; exact hp) (hf.put hdst) hdc' hlen' ?_
            intro f hf' hal
            cases hf' with
            | head => exact hv
            | tail _ hf' => exact hFi f hf' hal
          simp only [hc, grd] at h
          cases hg : o.guard with
          | none =>
            simp only [hg] at h hw
            obtain ⟨⟨v, hv, hp⟩⟩ := h
            have hgf : gfact P ops.toList o (envOf a) v = hold P (execOp (ev (envOf a)) o) v := by unfold gfact; rw [hg]
            exact readGo v (.inl ⟨hw, fun w' h' => by rw [hgf] at h'; rw [eval_eq]; exact h'.h⟩) (by rw [hgf]; exact ⟨hv⟩) hp
          | some g =>
            obtain ⟨j, want⟩ := g
            simp only [hg] at h hw
            replace h := h.h
            unfold gd0 at h
            have hgf : ∀ v, gfact P ops.toList o (envOf a) v = fun w => isb (yv ops.toList (envOf a) j) want = true → hold P (execOp (ev (envOf a)) o) v w := fun v => by unfold gfact; rw [hg]
            cases hb : isb (yv ops.toList (envOf a) j) want with
            | true =>
              simp only [hb, cond_true] at h hw
              obtain ⟨⟨v, hv, hp⟩⟩ := h
              exact readGo v (.inl ⟨hw, fun w' h' => by rw [hgf] at h'; rw [eval_eq]; exact (h' hb).h⟩) (by rw [hgf]; exact fun _ => ⟨hv⟩) hp
            | false =>
              simp only [hb, cond_false] at h hw
              exact readGo undef (.inr ⟨hw, rfl⟩) (by rw [hgf]; intro h'; rw [hb] at h'; cases h') h
    | none =>
      simp only [hff] at h
      have empty : readyL ops.toList l = [] → Region.ready .any ops l.toArray = [] := fun hr => by
        cases hx : Region.ready .any ops l.toArray with
        | nil => rfl
        | cons y ys =>
          obtain ⟨o, ho⟩ := ready_iff.1 (show y ∈ Region.ready .any ops l.toArray by rw [hx]; exact List.mem_cons_self ..)
          rw [hr] at ho; cases ho
      cases hr : readyL ops.toList l with
      | nil =>
        simp only [hr] at h
        exact ⟨fun _ => hK a w hf h, fun i hi => by rw [empty hr] at hi; cases hi⟩
      | cons x xs =>
        simp only [hr] at h
        have hall := allOf_mem h
        refine ⟨fun h0 => ?_, fun i hi => ?_⟩
        · have : x.1 ∈ Region.ready .any ops l.toArray := ready_iff.2 ⟨x.2, by rw [hr]; exact List.mem_cons_self ..⟩
          rw [h0] at this; cases this
        · obtain ⟨o, ho⟩ := ready_iff.1 hi
          obtain ⟨hoi, hli, hri⟩ := mem_readyL.1 ho
          have hoi' : ops[i]? = some o := by simpa using hoi
          have hdst := hd o (List.mem_of_getElem? hoi)
          have henv : ∀ v, envOf (a.put o.dst v) = put (envOf a) o.dst v := fun v => envOf_put _ _ _ (fun x hx => by rw [hf.1]; exact (hdst x hx).1)
          have hx := hall i o (by rw [← hr]; exact ho)
          have next : ∀ v w', facts P ops.toList B (l.set i true) w' F (drawW P ops.toList B K n (l.set i true) F (put (envOf a) o.dst v) w') →
              (∀ f ∈ F, alive P ops.toList B (l.set i true) f.1 = true → f.2 w') ∧ anyF P ops B Q F n (l.set i true) (a.put o.dst v) w' := fun v w' h' => by
            obtain ⟨h1, h2⟩ := facts_spec h'
            exact ⟨h1, drawW_sound hB hsel hQ hK hd n (l.set i true) F (a.put o.dst v) w' (by rw [henv]; exact h2) (hf.put hdst) (hdc.set hB hoi hri) (by simpa using hlen) h1⟩
          unfold wpOp
          simp only [hoi']
          have hw := wanted_iff ops a o
          simp only [grd] at hx
          cases hg : o.guard with
          | none =>
            simp only [hg] at hx hw
            rw [if_pos hw]
            exact .inl (st_wp hx next)
          | some g =>
            obtain ⟨j, want⟩ := g
            simp only [hg] at hx hw
            replace hx := hx.h
            unfold gd0 at hx
            cases hb : isb (yv ops.toList (envOf a) j) want with
            | true =>
              simp only [hb, cond_true] at hx hw
              rw [if_pos hw]
              exact .inl (st_wp hx next)
            | false =>
              simp only [hb, cond_false] at hx hw
              rw [if_neg (by rw [hw]; exact Bool.false_ne_true)]
              exact next _ _ hx
end
end Go.X
end
section
namespace Go.X
open Go
section
variable {P : Program} {T : Tab}
def Ps (m : Nat) (a : Act) (Q : Exit → Env → World → Prop) : Exit → Act → World → Prop
  | .panic _, _, _ => False
  | .outgrown, _, _ => False
  | .goto _, _, _ => False
  | x, a', w' => Fr m a a' ∧ Q x (envOf a') w'
theorem Fr.weaken {m m1 : Nat} {a b : Act} (h : Fr m1 a b) (s : ∀ t, Nat.testBit m t = false → Nat.testBit m1 t = false) : Fr m a b :=
  ⟨h.1, h.2.1, fun t ht => h.2.2 t (s t ht)⟩
theorem Ps.weaken {m m1 : Nat} {a b : Act} {Q : Exit → Env → World → Prop} (hf : Fr m a b) (s : ∀ t, Nat.testBit m t = false → Nat.testBit m1 t = false) {x : Exit} {a' : Act} {w' : World}
    (h : Ps m1 b Q x a' w') : Ps m a Q x a' w' := by
  cases x <;> first | exact h | exact ⟨hf.trans h.1 (fun _ h => h) s, h.2⟩
theorem idx_spec : ∀ (L : List Nat) (t n i : Nat), idx L t n = some i → ∃ k, i = n + k ∧ L[k]? = some t
  | [], _, _, _, h => by cases h
  | l :: ls, t, n, i, h => by
    simp only [idx] at h
    cases hb : Nat.beq l t with
    | true =>
      simp only [hb, cond_true] at h
      injection h with h
      exact ⟨0, by omega, by simp [Nat.eq_of_beq_eq_true hb]⟩
    | false =>
      simp only [hb, cond_false] at h
      obtain ⟨k, h1, h2⟩ := idx_spec ls t (n + 1) i h
      exact ⟨k + 1, by omega, by simpa using h2⟩
theorem mix_eq {m : Nat} {L : List Nat} {e e1 : Env} (h : ∀ t, Nat.testBit m t = false → e1 t = e t) : mix m L (L.map e1) e1 e = e1 := by
  funext t
  unfold mix
  cases hb : Nat.testBit m t with
  | false => simp only [cond_false]; exact (h t hb).symm
  | true =>
    simp only [cond_true]
    cases hi : idx L t 0 with
    | none => rfl
    | some i =>
      obtain ⟨k, h1, h2⟩ := idx_spec L t 0 i hi
      have : i = k := by omega
      subst this
      simp [List.getD, h2]
theorem okOps_all {n : Nat} {ops : Array Oper} (h : okOps n ops.toList = true) : ∀ o ∈ ops.toList, ∀ x, o.dst = some x → x < n ∧ Nat.testBit (asgOps ops.toList 0) x = true :=
  fun _ ho x hx => ⟨okOps_mem h ho x hx, asgOps_mem ho 0 x hx⟩
def Qn (R : Act → World → Prop) : Exit → Act → World → Prop
  | .normal, a, w => R a w
  | _, _, _ => False
theorem bit_or {a b t : Nat} (h : Nat.testBit (a ||| b) t = false) : Nat.testBit a t = false ∧ Nat.testBit b t = false := by
  rw [Nat.testBit_or, Bool.or_eq_false_iff] at h; exact h
theorem CW_sound (hm : P.follows .mixedOrders = true) : ∀ (c : Code) (Q : Exit → Env → World → Prop) (a : Act) (w : World), okDst a.tmps.size c = true → CW P T c Q (envOf a) w → c.wp P (Ps (asg c) a Q) a w
  | .skip, Q, a, w, _, h => wp_skip ⟨Fr.refl _ _, h⟩
  | .region id ops draw, Q, a, w, hok, h => by
    simp only [CW] at h
    simp only [okDst] at hok
    have hd := okOps_all hok
    cases draw with
    | false =>
      simp only [regW] at h
      exact wp_region_list (seqW_sound (m := asgOps ops.toList 0) (a0 := a) _ (fun a' w' hf hk => ⟨hf, hk⟩) _ _ _ hok (fun o ho x hx => (hd o ho x hx).2) (Fr.refl _ _) h)
    | true =>
      simp only [regW] at h
      cases hb : (befOk (befores ops.toList []) ops.toList (befores ops.toList []) && !ops.toList.any isSel) with
      | false => rw [hb] at h; exact h.elim
      | true =>
        rw [hb] at h
        simp only [Bool.and_eq_true, Bool.not_eq_true'] at hb
        have hsel : ∀ (j : Nat) (o : Oper) cs b, ops[j]? = some o → o.op ≠ .select cs b := fun j o cs b ho hop => by
          have h1 := hb.2
          rw [List.any_eq_false] at h1
          exact h1 o (List.mem_of_getElem? (by simpa using ho)) (by unfold isSel; rw [hop])
        have key := drawW_sound (Q := Qn fun a' w' => Fr (asgOps ops.toList 0) a a' ∧ Q .normal (envOf a') w') (K := Q .normal) (m := asgOps ops.toList 0) (a0 := a) hb.1 hsel (fun c a w h => h) (fun a' w' hf hk => ⟨hf, hk⟩)
          hd ops.toList.length (List.replicate ops.toList.length false) [] a w.drew h (Fr.refl _ _)
          (fun k b i _ hk _ => by rw [List.getElem?_replicate] at hk; split at hk <;> cases hk) (by simp) (by simp)
        have key2 := wpAny_of_anyF _ _ _ _ key
        have e1 : ops.toList.length = ops.size := by simp
        have e2 : (List.replicate ops.size false).toArray = Array.replicate ops.size false := by simp
        rw [e1, e2] at key2
        refine wp_mono (wp_region_any hm key2) fun e a' w' hq => ?_
        cases e <;> first | exact hq.elim | exact hq
  | .seq x y, Q, a, w, hok, h => by
    simp only [okDst, Bool.and_eq_true] at hok
    have done : ∀ a1 w1, Fr (asg x) a a1 → CW P T y Q (envOf a1) w1 → y.wp P (Ps (asg (.seq x y)) a Q) a1 w1 := fun a1 w1 hf hy =>
      wp_mono (CW_sound hm y Q a1 w1 (by rw [hf.1]; exact hok.2) hy) fun e a2 w2 hq => Ps.weaken (hf.weaken fun t ht => (bit_or ht).1) (fun t ht => (bit_or ht).2) hq
    have out : ∀ (K : Env → World → Prop) e a1 w1, Ps (asg x) a (thn K Q) e a1 w1 → (e = .normal → K (envOf a1) w1 → Fr (asg x) a a1 → y.wp P (Ps (asg (.seq x y)) a Q) a1 w1) → Exit.then (y.wp P (Ps (asg (.seq x y)) a Q)) (Ps (asg (.seq x y)) a Q) e a1 w1 := fun K e a1 w1 hq hn => by
      cases e <;> simp only [Exit.then] <;> first
        | exact hn rfl hq.2 hq.1
        | exact hq
        | exact ⟨hq.1.weaken fun t ht => (bit_or ht).1, hq.2⟩
    simp only [CW] at h
    cases hb : branches x with
    | false =>
      rw [hb] at h
      exact wp_seq (wp_mono (CW_sound hm x _ a w hok.1 h) fun e a1 w1 hq => out _ e a1 w1 hq fun _ hk hf => done a1 w1 hf hk)
    | true =>
      rw [hb] at h
      obtain ⟨⟨k, hk, hx⟩⟩ := h
      exact wp_seq (wp_mono (CW_sound hm x _ a w hok.1 hx) fun e a1 w1 hq => out _ e a1 w1 hq fun _ hk1 hf => done a1 w1 hf (by
        have := hk _ (envOf a1) w1 hk1
        simp only [mix_eq hf.2.2] at this
        exact this))
  | .cond c x y, Q, a, w, hok, h => by
    simp only [okDst, Bool.and_eq_true] at hok
    simp only [CW] at h
    replace h := h.h
    unfold cd0 at h
    cases hv : ev (envOf a) c with
    | bool b =>
      simp only [hv] at h
      have hc : a.eval c = .bool b := by rw [eval_eq]; exact hv
      cases b with
      | true =>
        rw [if_pos rfl] at h
        exact wp_cond_true hc (wp_mono (CW_sound hm x Q a w hok.1 h) fun e a1 w1 hq => Ps.weaken (Fr.refl _ _) (fun t ht => (bit_or ht).1) hq)
      | false =>
        rw [if_neg Bool.false_ne_true] at h
        exact wp_cond_false hc (wp_mono (CW_sound hm y Q a w hok.2 h) fun e a1 w1 hq => Ps.weaken (Fr.refl _ _) (fun t ht => (bit_or ht).2) hq)
    | _ => rw [hv] at h; exact h.elim
  | .block id c, Q, a, w, hok, h => by
    simp only [okDst] at hok
    simp only [CW] at h
    refine wp_block (wp_mono (CW_sound hm c _ a w hok h) fun e a1 w1 hq => ?_)
    cases e with
    | exit id' =>
      simp only [Exit.inBlock]
      obtain ⟨hf, hq⟩ := hq
      simp only [inb] at hq
      by_cases e : id' = id
      · subst e
        rw [if_pos rfl]
        have : Nat.beq id' id' = true := Nat.beq_refl ..
        rw [this] at hq
        exact ⟨hf, hq⟩
      · rw [if_neg e]
        rw [beq_ne e] at hq
        exact ⟨hf, hq⟩
    | _ => exact hq
  | .loop c, Q, a, w, hok, h => by
    simp only [okDst] at hok
    simp only [CW] at h
    obtain ⟨⟨I, μ, h0, hr⟩⟩ := h
    refine wp_loop (fun a1 w1 => Fr (asg c) a a1 ∧ I ((T.loop (keyD c)).map (envOf a1)) w1) (fun a1 w1 => μ ((T.loop (keyD c)).map (envOf a1)) w1) ⟨Fr.refl _ _, h0⟩ fun a1 w1 ⟨hf, hI⟩ => ?_
    have h1 := hr _ (envOf a1) w1 hI
    simp only [mix_eq hf.2.2] at h1
    refine wp_mono (CW_sound hm c _ a1 w1 (by rw [hf.1]; exact hok) h1) fun e a2 w2 hq => ?_
    cases e <;> simp only [Exit.then] <;> first
      | exact ⟨⟨hf.trans hq.1 (fun _ h => h) (fun _ h => h), hq.2.1⟩, hq.2.2⟩
      | exact hq
      | exact ⟨hf.trans hq.1 (fun _ h => h) (fun _ h => h), hq.2⟩
  | .exit id, Q, a, w, _, h => wp_exit ⟨Fr.refl _ _, h⟩
  | .ret, Q, a, w, _, h => wp_ret ⟨Fr.refl _ _, h⟩
  | .rangeFunc .., _, _, _, _, h => by simp only [CW] at h
  | .scope _, _, _, _, _, h => by simp only [CW] at h
  | .label _, _, _, _, _, h => by simp only [CW] at h
  | .goto _, _, _, _, _, h => by simp only [CW] at h
  | .refuse _, _, _, _, _, h => by simp only [CW] at h
def resM (tmps : Array Value) : ResultVar → Sem Value
  | .tmp t => pure (tmps.getD t undef)
  | .cell a t => do loadVar t (← asAddr (tmps.getD a undef))
theorem resW_sound {K : Value → World → Prop} {e : Env} {w : World} (tmps : Array Value) (he : e = fun t => tmps.getD t undef) : ∀ (rs : List ResultVar) (acc : List Value), resW P rs acc e w K →
    ∃ vs : List Value, (rs.mapM (resM tmps)).run P w = .ok vs w ∧ K (tup (acc ++ vs)) w
  | [], acc, h => ⟨[], by rw [List.mapM_nil]; rfl, by rw [List.append_nil]; exact h⟩
  | .tmp t :: r, acc, h => by
    simp only [resW] at h
    obtain ⟨vs, h1, h2⟩ := resW_sound tmps he r _ h
    refine ⟨e t :: vs, ?_, by simpa using h2⟩
    have hv' : (resM tmps (.tmp t)).run P w = .ok (e t) w := by rw [he]; rfl
    simp only [List.mapM_cons, Sem.run_bind, h1, hv', Result.andThen_ok]
    rfl
  | .cell a t :: r, acc, h => by
    simp only [resW] at h
    obtain ⟨⟨v, hv, h⟩⟩ := h
    obtain ⟨vs, h1, h2⟩ := resW_sound tmps he r _ h
    refine ⟨v :: vs, ?_, by simpa using h2⟩
    have hv' : (resM tmps (.cell a t)).run P w = .ok v w := by rw [← hv, he]; rfl
    simp only [List.mapM_cons, Sem.run_bind, h1, hv', Result.andThen_ok]
    rfl
theorem results_run {K : Value → World → Prop} {fn : Func} {a : Act} {w : World} (h : resW P fn.results.toList [] (envOf a) w K) : ∃ v, (results fn a.tmps).run P w = .ok v w ∧ K v w := by
  obtain ⟨vs, h1, h2⟩ := resW_sound a.tmps rfl _ _ h
  refine ⟨tup vs, ?_, by simpa using h2⟩
  have e : fn.results.mapM (resM a.tmps) = (fun l : List Value => l.toArray) <$> fn.results.toList.mapM (resM a.tmps) := by
    rw [Array.mapM_eq_mapM_toList]
  have e2 : results fn a.tmps = (do
      let vs ← fn.results.mapM (resM a.tmps)
      pure (if h : vs.size = 1 then vs[0] else .tuple vs)) := by
    unfold results
    congr 1
  rw [e2, e, Sem.run_bind, Sem.run_map, h1]
  simp only [Result.andThen_ok]
  match vs with
  | [] => rfl
  | [v] => rfl
  | v :: u :: r => rfl
theorem envOf_enter (args : List Value) (n : Nat) : envOf { tmps := args.toArray ++ Array.replicate n undef, defers := [] } = env0 args := by
  funext t
  simp only [envOf, env0, Array.getD_eq_getD_getElem?, List.getD_eq_getElem?_getD]
  by_cases h : t < args.length
  · rw [Array.getElem?_append_left (by simpa using h)]; simp
  · rw [Array.getElem?_append_right (by simpa using h)]
    rw [List.getElem?_eq_none (by omega)]
    simp only [Array.getElem?_replicate]
    split <;> rfl
theorem cl_of_cw {f : FuncId} {fn : Func} {c : Code} {args : List Value} {w : World} {K : Value → World → Prop} (hf : P.funcs[f]? = some fn) (hb : fn.body = some c) (hm : P.follows .mixedOrders = true)
    (hd : okDst fn.ntmps c = true) (ha : args.length ≤ fn.ntmps) (h : CW P T c (retQ P fn.results.toList K) (env0 args) w) : Cl P f args.toArray w K := by
  refine calls_of_wp hf hb ?_
  have hs : (args.toArray ++ Array.replicate (fn.ntmps - args.toArray.size) undef).size = fn.ntmps := by simp; omega
  refine wp_mono (CW_sound (T := T) hm c (retQ P fn.results.toList K) _ w (by rw [hs]; exact hd) (by rw [envOf_enter]; exact h)) fun e a' w' hq => ?_
  have fin : ∀ x, Ps (asg c) { tmps := args.toArray ++ Array.replicate (fn.ntmps - args.toArray.size) undef, defers := [] } (retQ P fn.results.toList K) x a' w' → (x = .normal ∨ x = .ret) →
      a'.defers = [] ∧ ∃ v, (results fn a'.tmps).run P w' = .ok v w' ∧ ∃ v', Ending.returned v = .returned v' ∧ K v' w' := fun x hx hor => by
    have hres : Fr (asg c) { tmps := args.toArray ++ Array.replicate (fn.ntmps - args.toArray.size) undef, defers := [] } a' ∧ resW P fn.results.toList [] (envOf a') w' K := by
      rcases hor with rfl | rfl <;> exact hx
    obtain ⟨v, h1, h2⟩ := results_run hres.2
    exact ⟨hres.1.2.1, v, h1, v, rfl, h2⟩
  cases e with
  | normal => exact fin _ hq (.inl rfl)
  | ret => exact fin _ hq (.inr rfl)
  | exit id => exact hq.2.elim
  | goto l => exact hq.elim
  | panic c => exact hq.elim
  | outgrown => exact hq.elim
end
end Go.X
end
section
namespace Go.X
open Go
def v' (s : Sem Value) : Sem Next := do pure (.value (← s))
def u' (s : Sem Unit) : Sem Next := do s; pure .skip
def fl (c : Bool) : Operand := match c with | true => .const (.bool true) | false => .tmp 0
def oPick (c a b : Value) : Sem Next := do pure (.value (if ← asBool c then a else b))
def oAlloc (t : TypeId) : Sem Next := v' (Instr.alloc t true (.tuple #[]))
def oBox (t : TypeId) (x : Value) : Sem Next := v' (Instr.box t x)
def oBuild (t : TypeId) (ps : Array (Nat × Value)) : Sem Next := v' (Instr.build t ps)
def oBuildSlice (t : TypeId) (n : Nat) (ps : Array (Nat × Value)) : Sem Next := v' (Instr.buildSlice t n ps)
def oLoad (t : TypeId) (a : Value) : Sem Next := v' (Instr.loadAt t a)
def oStore (t : TypeId) (a x : Value) : Sem Next := u' (Instr.storeAt t a x)
def oNil (x : Value) : Sem Next :=
  match x with
  | .pointer none | .nilIface | .nilFunc => runtimePanic .nilDeref
  | .func (.method name) first captured =>
    match (first[0]? : Option Value) with
    | some .nilIface => runtimePanic .nilDeref
    | some (.iface t w) => do
      if (← nilAhead ((← program).types.size + Made.depth) t w name) != some false then
        unsupported (.noEntry "op/nilCheck.the method's receiver behind this interface value is a nil pointer, or cannot be seen to be none, and the arguments act or may panic (ledger 612)")
      pure (.value (.func (.method name) first captured))
    | _ => pure (.value (.func (.method name) first captured))
  | x => pure (.value x)
def oBin (op : BinOp) (t : TypeId) (cx cy : Bool) (x y : Value) : Sem Next := v' (do eqGuard op t (fl cx) (fl cy) x y; binOp op t x y)
def oUn (op : UnOp) (x : Value) : Sem Next := v' (Op.unary op x)
def oConv (s d : TypeId) (x : Value) : Sem Next := v' (convert s d x)
def oMkIface (t : TypeId) (x : Value) : Sem Next := v' (Instr.makeInterface t x)
def oMkMap (t : TypeId) (r : Option Value) : Sem Next := v' (Instr.makeMap t r)
def oMkSlice (t : TypeId) (l c : Value) : Sem Next := v' (Instr.makeSlice t l c)
def oSlice (t : TypeId) (x : Value) (lo hi mx : Option Value) : Sem Next := v' (Instr.sliceAt t x lo hi mx)
def oFldA (t : TypeId) (x : Value) (f : Nat) : Sem Next := v' (Instr.fieldAt t x f)
def oIdxA (t : TypeId) (x i : Value) : Sem Next := v' (Instr.indexAt t x i)
def oIdx (t : TypeId) (x i : Value) : Sem Next := v' (Instr.index t x i)
def oLookup (t : TypeId) (x i : Value) (ok : Bool) : Sem Next := v' (Instr.lookup t x i ok)
def oMapUp (t : TypeId) (m k x : Value) : Sem Next := u' (Instr.mapUpdate t m k x)
def oAssert (x : Value) (xt t : TypeId) (ok : Bool) : Sem Next := v' (Instr.typeAssert x xt t ok)
def oExtract (x : Value) (i : Nat) : Sem Next := v' (Instr.extract x i)
def oBuiltin (b : Builtin) (ats : Array TypeId) (t : TypeId) (cs : Array Bool) (args : Array Value) : Sem Next := builtin b ats t cs args
def oCall (f : FuncId) (args : Array Value) : Sem Next := callFunc f args
def S (l : List UInt8) : Value := .string ⟨l.toArray⟩
abbrev gs (s : List Value) (i : Nat) : Value := s.getD i undef
end Go.X
end
section
namespace Go.Proofs.YteblpejgenehfaaDoor.X
open Go Go.X
noncomputable abbrev P : Program := Go.Proofs.Tryd.prog
theorem follows_mixed : P.follows .mixedOrders = true := by kernel_rfl
namespace T
abbrev int64 : Nat := 2
abbrev int : Nat := 3
abbrev bool : Nat := 4
abbrev uint8 : Nat := 5
abbrev string : Nat := 9
abbrev sl_uint8 : Nat := 22
abbrev sl_impl_Step : Nat := 23
abbrev impl_Step : Nat := 27
abbrev sl_impl_Answer : Nat := 29
abbrev sl_string : Nat := 32
abbrev sl_impl_Info : Nat := 33
abbrev impl_Answer : Nat := 35
abbrev sl_int : Nat := 44
abbrev p_spec_MemHandle : Nat := 55
abbrev sl_spec_MemNode : Nat := 59
abbrev map_int_p_spec_MemHandle : Nat := 60
abbrev spec_Mem : Nat := 62
abbrev p_mem_FileData : Nat := 63
abbrev impl_Info : Nat := 70
abbrev spec_Pair : Nat := 75
abbrev spec_MemNode : Nat := 78
abbrev sl_p_mem_FileInfo : Nat := 80
abbrev afero_UnionFile : Nat := 82
abbrev spec_MemHandle : Nat := 86
abbrev mem_DirMap : Nat := 91
abbrev os_FileMode : Nat := 93
abbrev mem_FileData : Nat := 95
abbrev mem_File : Nat := 97
abbrev error : Nat := 99
abbrev p_mem_FileInfo : Nat := 112
abbrev p_os_PathError : Nat := 134
abbrev os_PathError : Nat := 137
abbrev sl_p_mem_FileData : Nat := 139
abbrev mem_FileInfo : Nat := 142
abbrev p_errors_errorString : Nat := 151
abbrev errors_errorString : Nat := 153
end T
namespace Fn
abbrev laws_FnBytesAreBytes : Nat := 3
abbrev laws_zzFits1 : Nat := 11
abbrev laws_handleSpoken : Nat := 12
abbrev laws_recoded : Nat := 13
abbrev impl_HandleScript : Nat := 14
abbrev spec_SameAnswer : Nat := 15
abbrev laws_zzFits2 : Nat := 20
abbrev laws_oneFile : Nat := 21
abbrev spec_Mem_Speaks : Nat := 22
abbrev laws_onFile : Nat := 23
abbrev spec_Mem_Do : Nat := 24
abbrev mem_DoorWith : Nat := 25
abbrev mem_NewFileHandle : Nat := 26
abbrev mem_NewReadOnlyFileHandle : Nat := 27
abbrev impl_on : Nat := 28
abbrev mem_FileData_DoorBytes : Nat := 29
abbrev spec_NewMem : Nat := 34
abbrev spec_Mem_speaksOpen : Nat := 35
abbrev spec_Mem_speaksNames : Nat := 36
abbrev spec_Mem_speaksFile : Nat := 37
abbrev spec_Mem_open : Nat := 38
abbrev spec_Mem_names : Nat := 39
abbrev spec_Mem_file : Nat := 40
abbrev mem_CreateFile : Nat := 41
abbrev mem_File_Read : Nat := 42
abbrev mem_File_ReadAt : Nat := 43
abbrev mem_File_Write : Nat := 44
abbrev mem_File_WriteAt : Nat := 45
abbrev mem_File_Seek : Nat := 46
abbrev mem_File_Truncate : Nat := 47
abbrev mem_File_Close : Nat := 48
abbrev mem_File_Readdir : Nat := 49
abbrev impl_fromInfos : Nat := 50
abbrev mem_File_Readdirnames : Nat := 51
abbrev mem_File_Stat : Nat := 52
abbrev mem_File_Name : Nat := 53
abbrev mem_File_Sync : Nat := 54
abbrev impl_kind : Nat := 55
abbrev spec_Mem_add : Nat := 56
abbrev impl_fromInfo : Nat := 68
abbrev spec_MemName : Nat := 71
abbrev spec_Mem_Find : Nat := 72
abbrev spec_named : Nat := 73
abbrev spec_Mem_isDir : Nat := 74
abbrev spec_Mem_clear : Nat := 75
abbrev spec_Mem_Children : Nat := 76
abbrev spec_MemBelow : Nat := 77
abbrev spec_Mem_parents : Nat := 78
abbrev spec_Mem_info : Nat := 81
abbrev spec_Mem_list : Nat := 82
abbrev spec_readFrom : Nat := 83
abbrev spec_grown : Nat := 84
abbrev spec_overwritten : Nat := 85
abbrev errors_New : Nat := 86
abbrev mem_setModTime : Nat := 87
abbrev mem_DirMap_Files : Nat := 88
abbrev path_Split : Nat := 89
abbrev mem_FileInfo_Name : Nat := 90
abbrev mem_FileData_Name : Nat := 91
abbrev spec_Mem_put : Nat := 92
abbrev mem_FileInfo_Size : Nat := 96
abbrev mem_FileInfo_Mode : Nat := 97
abbrev mem_FileInfo_IsDir : Nat := 98
abbrev mem_FileInfo_ModTime : Nat := 99
abbrev spec_Mem_place : Nat := 100
abbrev spec_MemParent : Nat := 101
abbrev spec_MemBase : Nat := 102
abbrev bytealg_LastIndexByteString : Nat := 103
end Fn
namespace G
abbrev mem_ErrFileClosed : Nat := 0
abbrev io_EOF : Nat := 1
abbrev io_ErrUnexpectedEOF : Nat := 2
abbrev mem_ErrOutOfRange : Nat := 3
abbrev os_ErrNotExist : Nat := 4
abbrev os_ErrExist : Nat := 5
abbrev os_ENOTDIR : Nat := 6
abbrev os_ENOENT : Nat := 7
abbrev os_EPERM : Nat := 8
abbrev os_EBADFD : Nat := 9
abbrev os_EIO : Nat := 10
end G
theorem cl_of_eq {T : Tab} {f : FuncId} {fn : Func} {c : Code} {args : List Value} {w : World} {K : Value → World → Prop} {A : Prop} (hf : P.funcs[f]? = some fn) (hb : fn.body = some c) (hm : P.follows .mixedOrders = true)
    (hd : okDst fn.ntmps c = true) (ha : args.length ≤ fn.ntmps) (h : CW P T c (retQ P fn.results.toList K) (env0 args) w = A) (hA : A) : Cl P f args.toArray w K :=
  cl_of_cw hf hb hm hd ha (by rw [h]; exact hA)
end Go.Proofs.YteblpejgenehfaaDoor.X
end
section
namespace Go.X
open Go
section
variable {P : Program}
theorem st_eq_value {s : Sem Next} {w w' : World} {v : Value} {K : Value → World → Prop} (h : s.run P w = .ok (.value v) w') : st P s w K = K v w' :=
  propext ⟨fun x => by have := x.h; unfold st0 at this; rw [h] at this; exact this, fun x => ⟨by unfold st0; rw [h]; exact x⟩⟩
theorem st_eq_skip {s : Sem Next} {w w' : World} {K : Value → World → Prop} (h : s.run P w = .ok .skip w') : st P s w K = K undef w' :=
  propext ⟨fun x => by have := x.h; unfold st0 at this; rw [h] at this; exact this, fun x => ⟨by unfold st0; rw [h]; exact x⟩⟩
theorem st_eq_enter {s : Sem Next} {w w' : World} {f : FuncId} {args : Array Value} {K : Value → World → Prop} (h : s.run P w = .ok (.enter f args) w') : st P s w K = Cl P f args w' K :=
  propext ⟨fun x => by have := x.h; unfold st0 at this; rw [h] at this; exact this, fun x => ⟨by unfold st0; rw [h]; exact x⟩⟩
theorem pu_eq {s : Sem Next} {v : Value} {K : Value → Prop} (h : runPure P s = some v) : pu P s K = K v :=
  propext ⟨fun x => by have := x.h; unfold pu0 at this; rw [h] at this; exact this, fun x => ⟨by unfold pu0; rw [h]; exact x⟩⟩
theorem rd_eq {s : Sem Next} {w : World} {v : Value} {K : Value → Prop} (h : s.run P w = .ok (.value v) w) : rd P s w K = K v :=
  propext ⟨fun x => by obtain ⟨v', h', k⟩ := x.h; rw [h] at h'; injection h' with h1; injection h1 with h1; subst h1; exact k, fun x => ⟨⟨v, h, x⟩⟩⟩
theorem hold_eq {s : Sem Next} {w : World} {v v' : Value} (h : s.run P w = .ok (.value v) w) : hold P s v' w = (v = v') :=
  propext ⟨fun x => by have := x.h; unfold hold0 at this; rw [h] at this; injection this with h1; injection h1, fun x => ⟨by unfold hold0; rw [h, x]⟩⟩
theorem cd_eq (b : Bool) (X Y : Prop) : cd (.bool b) X Y = (if b = true then X else Y) :=
  propext ⟨fun x => x.h, fun x => ⟨x⟩⟩
theorem gd_true (b : Bool) (w : World) (X : (Value → World → Prop) → Prop) (K : Value → World → Prop) : gd (.bool b) true w X K = (if b = true then X K else K undef w) :=
  propext ⟨fun x => by have := x.h; unfold gd0 isb at this; cases b <;> simpa using this, fun x => ⟨by unfold gd0 isb; cases b <;> simpa using x⟩⟩
theorem gd_false (b : Bool) (w : World) (X : (Value → World → Prop) → Prop) (K : Value → World → Prop) : gd (.bool b) false w X K = (if b = true then K undef w else X K) :=
  propext ⟨fun x => by have := x.h; unfold gd0 isb at this; cases b <;> simpa using this, fun x => ⟨by unfold gd0 isb; cases b <;> simpa using x⟩⟩
@[go_sem] theorem isb_bool (b c : Bool) : isb (.bool b) c = (b == c) := rfl
theorem jn_with {R : List Value → Env → World → Prop} {X : (List Value → World → Prop) → Prop} (k : List Value → World → Prop) (h1 : ∀ s u w, k s w → R s u w) (h2 : X k) : jn R X := ⟨⟨k, h1, h2⟩⟩
theorem lp_intro {s0 : List Value} {w0 : World} {R : List Value → Env → World → (List Value → World → Prop) → Prop} (I : List Value → World → Prop) (μ : List Value → World → Nat) (h0 : I s0 w0)
    (h : ∀ s u w, I s w → R s u w fun s' w' => I s' w' ∧ μ s' w' < μ s w) : lp s0 w0 R := ⟨⟨I, μ, h0, h⟩⟩
theorem run_v' {s : Sem Value} {w w' : World} {v : Value} (h : s.run P w = .ok v w') : (v' s).run P w = .ok (.value v) w' := by
  unfold X.v'; rw [Sem.run_bind, h]; rfl
theorem run_u' {s : Sem Unit} {w w' : World} (h : s.run P w = .ok () w') : (u' s).run P w = .ok .skip w' := by
  unfold u'; rw [Sem.run_bind, h]; rfl
def rp (P : Program) {α : Type} : Sem α → Option α
  | .pure a => some a
  | .program k => rp P (k P)
  | .mark _ k => rp P k
  | _ => none
@[simp] theorem rp_pure {α : Type} (a : α) : rp P (Pure.pure a : Sem α) = some a := rfl
@[simp] theorem rp_pure' {α : Type} (a : α) : rp P (Sem.pure a : Sem α) = some a := rfl
@[simp] theorem rp_program : rp P program = some P := rfl
@[simp] theorem rp_halt {α : Type} (h : Halt) : rp P (.halt h : Sem α) = none := rfl
theorem rp_bind {α β : Type} (x : Sem α) (f : α → Sem β) : rp P (x >>= f) = (rp P x).bind fun a => rp P (f a) := by
  show rp P (x.bind f) = _
  induction x <;> simp_all [Sem.bind, rp]
theorem rp_map {α β : Type} (x : Sem α) (f : α → β) : rp P (f <$> x) = (rp P x).map f := by
  show rp P (x.bind fun a => Sem.pure (f a)) = _
  induction x <;> simp_all [Sem.bind, rp]
theorem runPure_v' (s : Sem Value) : runPure P (v' s) = rp P s := by
  show runPure P (s.bind fun a => Sem.pure (.value a)) = _
  induction s <;> simp_all [Sem.bind, runPure, rp]
theorem rp_underlying {t : TypeId} {d : TypeDesc} (h : P.underlying t = some d) : rp P (underlying t) = some d := by
  unfold underlying; simp [rp_bind, h]
theorem pu_v' {s : Sem Value} {v : Value} {K : Value → Prop} (h : rp P s = some v) : pu P (v' s) K = K v := pu_eq (by rw [runPure_v']; exact h)
variable (K : Value → Prop)
@[go_sem] theorem oNil_ptr (a : Addr) : pu P (oNil (.pointer (some a))) K = K (.pointer (some a)) := pu_eq rfl
theorem oPick_eq (c : Bool) (a b : Value) : pu P (oPick (.bool c) a b) K = K (if c = true then a else b) := pu_eq rfl
@[go_sem] theorem oExtract2_0 (a b : Value) : pu P (oExtract (tup [a, b]) 0) K = K a := pu_eq rfl
@[go_sem] theorem oExtract2_1 (a b : Value) : pu P (oExtract (tup [a, b]) 1) K = K b := pu_eq rfl
@[go_sem] theorem oExtract3_0 (a b c : Value) : pu P (oExtract (tup [a, b, c]) 0) K = K a := pu_eq rfl
@[go_sem] theorem oExtract3_1 (a b c : Value) : pu P (oExtract (tup [a, b, c]) 1) K = K b := pu_eq rfl
@[go_sem] theorem oExtract3_2 (a b c : Value) : pu P (oExtract (tup [a, b, c]) 2) K = K c := pu_eq rfl
@[go_sem] theorem oExtract4_0 (a b c d : Value) : pu P (oExtract (tup [a, b, c, d]) 0) K = K a := pu_eq rfl
@[go_sem] theorem oExtract4_1 (a b c d : Value) : pu P (oExtract (tup [a, b, c, d]) 1) K = K b := pu_eq rfl
@[go_sem] theorem oExtract4_2 (a b c d : Value) : pu P (oExtract (tup [a, b, c, d]) 2) K = K c := pu_eq rfl
@[go_sem] theorem oExtract4_3 (a b c d : Value) : pu P (oExtract (tup [a, b, c, d]) 3) K = K d := pu_eq rfl
@[go_sem] theorem tup_one (a : Value) : tup [a] = a := rfl
@[go_sem] theorem oNot (b : Bool) : pu P (oUn .not (.bool b)) K = K (.bool (!b)) := pu_eq rfl
@[go_sem] theorem gs0 (a : Value) (l : List Value) : gs (a :: l) 0 = a := rfl
@[go_sem] theorem gs1 (a b : Value) (l : List Value) : gs (a :: b :: l) 1 = b := rfl
@[go_sem] theorem gs2 (a b c : Value) (l : List Value) : gs (a :: b :: c :: l) 2 = c := rfl
@[go_sem] theorem gs3 (a b c d : Value) (l : List Value) : gs (a :: b :: c :: d :: l) 3 = d := rfl
@[go_sem] theorem gs4 (a b c d e : Value) (l : List Value) : gs (a :: b :: c :: d :: e :: l) 4 = e := rfl
@[go_sem] theorem gs5 (a b c d e f : Value) (l : List Value) : gs (a :: b :: c :: d :: e :: f :: l) 5 = f := rfl
@[go_sem] theorem gs6 (a b c d e f g : Value) (l : List Value) : gs (a :: b :: c :: d :: e :: f :: g :: l) 6 = g := rfl
theorem rp_eqGuard_int (op : BinOp) (t : TypeId) (cx cy : Bool) (k j : IntKind) (x y : Int) : rp P (eqGuard op t (fl cx) (fl cy) (.int k x) (.int j y)) = some () := by
  unfold eqGuard; cases op <;> rfl
theorem rp_eqGuard_str (op : BinOp) (t : TypeId) (cx cy : Bool) (x y : ByteArray) : rp P (eqGuard op t (fl cx) (fl cy) (.string x) (.string y)) = some () := by
  unfold eqGuard; cases op <;> rfl
theorem bin_int {op : BinOp} {t : TypeId} {cx cy : Bool} {k j : IntKind} {x y : Int} {v : Value} (h : rp P (binOp op t (.int k x) (.int j y)) = some v) : pu P (oBin op t cx cy (.int k x) (.int j y)) K = K v :=
  pu_v' (by rw [rp_bind, rp_eqGuard_int]; exact h)
theorem bin_str {op : BinOp} {t : TypeId} {cx cy : Bool} {x y : ByteArray} {v : Value} (h : rp P (binOp op t (.string x) (.string y)) = some v) : pu P (oBin op t cx cy (.string x) (.string y)) K = K v :=
  pu_v' (by rw [rp_bind, rp_eqGuard_str]; exact h)
@[go_sem] theorem oAdd (t : TypeId) (cx cy : Bool) (k : IntKind) (x y : Int) : pu P (oBin .add t cx cy (.int k x) (.int k y)) K = K (.int k (k.wrap (x + y))) :=
  bin_int K (by simp [binOp, Op.intArith])
@[go_sem] theorem oSub (t : TypeId) (cx cy : Bool) (k : IntKind) (x y : Int) : pu P (oBin .sub t cx cy (.int k x) (.int k y)) K = K (.int k (k.wrap (x - y))) :=
  bin_int K (by simp [binOp, Op.intArith])
@[go_sem] theorem oMul (t : TypeId) (cx cy : Bool) (k : IntKind) (x y : Int) : pu P (oBin .mul t cx cy (.int k x) (.int k y)) K = K (.int k (k.wrap (x * y))) :=
  bin_int K (by simp [binOp, Op.intArith])
@[go_sem] theorem oQuo (t : TypeId) (cx cy : Bool) (k : IntKind) (x y : Int) (hy : y ≠ 0) : pu P (oBin .quo t cx cy (.int k x) (.int k y)) K = K (.int k (k.wrap (x.tdiv y))) :=
  bin_int K (by simp [binOp, Op.intDiv, hy])
@[go_sem] theorem oRem (t : TypeId) (cx cy : Bool) (k : IntKind) (x y : Int) (hy : y ≠ 0) : pu P (oBin .rem t cx cy (.int k x) (.int k y)) K = K (.int k (x.tmod y)) :=
  bin_int K (by simp [binOp, Op.intDiv, hy])
@[go_sem] theorem oLss (t : TypeId) (cx cy : Bool) (k : IntKind) (x y : Int) : pu P (oBin .lss t cx cy (.int k x) (.int k y)) K = K (.bool (decide (x < y))) :=
  bin_int K (by simp [binOp, Op.intCmp])
@[go_sem] theorem oLeq (t : TypeId) (cx cy : Bool) (k : IntKind) (x y : Int) : pu P (oBin .leq t cx cy (.int k x) (.int k y)) K = K (.bool (decide (x ≤ y))) :=
  bin_int K (by simp [binOp, Op.intCmp])
@[go_sem] theorem oGtr (t : TypeId) (cx cy : Bool) (k : IntKind) (x y : Int) : pu P (oBin .gtr t cx cy (.int k x) (.int k y)) K = K (.bool (decide (y < x))) :=
  bin_int K (by simp [binOp, Op.intCmp])
@[go_sem] theorem oGeq (t : TypeId) (cx cy : Bool) (k : IntKind) (x y : Int) : pu P (oBin .geq t cx cy (.int k x) (.int k y)) K = K (.bool (decide (y ≤ x))) :=
  bin_int K (by simp [binOp, Op.intCmp])
@[go_sem] theorem oEql (t : TypeId) (cx cy : Bool) (k : IntKind) (x y : Int) : pu P (oBin .eql t cx cy (.int k x) (.int k y)) K = K (.bool (decide (x = y))) :=
  bin_int K (by simp [binOp, Op.intCmp]; by_cases h : x = y <;> simp [h])
@[go_sem] theorem oNeq (t : TypeId) (cx cy : Bool) (k : IntKind) (x y : Int) : pu P (oBin .neq t cx cy (.int k x) (.int k y)) K = K (.bool (decide (x ≠ y))) :=
  bin_int K (by simp [binOp, Op.intCmp]; by_cases h : x = y <;> simp [h])
@[go_sem] theorem oEqlS (t : TypeId) (cx cy : Bool) (x y : List UInt8) : pu P (oBin .eql t cx cy (S x) (S y)) K = K (.bool (decide (x = y))) :=
  bin_str K (by simp [binOp, Op.stringOp]; by_cases h : x = y <;> simp [h])
@[go_sem] theorem oNeqS (t : TypeId) (cx cy : Bool) (x y : List UInt8) : pu P (oBin .neq t cx cy (S x) (S y)) K = K (.bool (decide (x ≠ y))) :=
  bin_str K (by simp [binOp, Op.stringOp]; by_cases h : x = y <;> simp [h])
@[go_sem] theorem oAddS (t : TypeId) (cx cy : Bool) (x y : List UInt8) (h : x.length + y.length ≤ 9223372036854775807) : pu P (oBin .add t cx cy (S x) (S y)) K = K (S (x ++ y)) :=
  bin_str K (by
    have h2 : ¬ (((ByteArray.mk x.toArray).size + (ByteArray.mk y.toArray).size : Nat) : Int) > IntKind.i64.max := by
      show ¬ ((x.toArray.size + y.toArray.size : Nat) : Int) > 9223372036854775807
      simp; omega
    have e : binOp .add t (.string ⟨x.toArray⟩) (.string ⟨y.toArray⟩) = pure (.string (⟨x.toArray⟩ ++ ⟨y.toArray⟩)) := by
      simp only [binOp, Op.stringOp]
      rw [if_neg h2]
    rw [e, rp_pure]
    have e2 : (ByteArray.mk x.toArray ++ ByteArray.mk y.toArray) = ByteArray.mk (x ++ y).toArray := by apply ByteArray.ext; simp
    rw [e2]; rfl)
@[go_sem] theorem oLssS (t : TypeId) (cx cy : Bool) (x y : List UInt8) : pu P (oBin .lss t cx cy (S x) (S y)) K = K (.bool (Op.bytesLess x y)) :=
  bin_str K (by simp [binOp, Op.stringOp])
@[go_sem] theorem oLeqS (t : TypeId) (cx cy : Bool) (x y : List UInt8) : pu P (oBin .leq t cx cy (S x) (S y)) K = K (.bool (Op.bytesLess x y || decide (x = y))) :=
  bin_str K (by simp [binOp, Op.stringOp]; by_cases h : x = y <;> simp [h])
@[go_sem] theorem oGtrS (t : TypeId) (cx cy : Bool) (x y : List UInt8) : pu P (oBin .gtr t cx cy (S x) (S y)) K = K (.bool (!(Op.bytesLess x y || decide (x = y)))) :=
  bin_str K (by simp [binOp, Op.stringOp]; by_cases h : x = y <;> simp [h])
@[go_sem] theorem oGeqS (t : TypeId) (cx cy : Bool) (x y : List UInt8) : pu P (oBin .geq t cx cy (S x) (S y)) K = K (.bool (!Op.bytesLess x y)) :=
  bin_str K (by simp [binOp, Op.stringOp])
theorem pu_builtin {b : Builtin} {ats : Array TypeId} {t : TypeId} {cs : Array Bool} {args : Array Value} {s : Sem Value} {v : Value} (hb : builtin b ats t cs args = v' s) (h : rp P s = some v) :
    pu P (oBuiltin b ats t cs args) K = K v := by
  unfold oBuiltin; rw [hb]; exact pu_v' h
theorem oLenS (t ty : TypeId) (c : Bool) (x : List UInt8) (h : P.underlying t = some .string) : pu P (oBuiltin .len #[t] ty #[c] #[S x]) K = K (.int .i64 x.length) :=
  pu_builtin K (s := Builtin.len_ #[t] ty #[S x]) rfl (by
    simp only [Builtin.len_]
    simp [rp_bind, rp_underlying h, S, goInt]; rfl)
theorem oLenL (t ty e : TypeId) (c : Bool) (a : Option Addr) (n m : Nat) (h : P.underlying t = some (.slice e)) : pu P (oBuiltin .len #[t] ty #[c] #[.slice a n m]) K = K (.int .i64 n) :=
  pu_builtin K (s := Builtin.len_ #[t] ty #[.slice a n m]) rfl (by
    simp only [Builtin.len_]
    simp [rp_bind, rp_underlying h, goInt])
theorem oIdxS (t : TypeId) (x : List UInt8) (k : IntKind) (i : Int) (h : P.underlying t = some .string) (h0 : 0 ≤ i) (h1 : i < x.length) :
    pu P (oIdx t (S x) (.int k i)) K = K (.int .u8 (x.getD i.toNat 0).toNat) :=
  pu_v' (by
    have hs : i.toNat < x.length := by omega
    have e : (ByteArray.mk x.toArray)[i.toNat]? = some (x.getD i.toNat 0) := by
      rw [ByteArray.getElem?_lt' _ _ (by show i.toNat < x.toArray.size; simpa using hs)]
      show some (x.toArray[i.toNat]'(by simpa using hs)) = _
      simp [List.getD, hs]
    simp only [Instr.index, S]
    simp [rp_bind, rp_underlying h, asIntOf, h0, e])
theorem oConvI {s d : TypeId} {k j : IntKind} {x : Int} (hs : P.underlying s = some (.int k)) (hd : P.underlying d = some (.int j)) : pu P (oConv s d (.int k x)) K = K (.int j (j.wrap x)) :=
  pu_v' (by
    unfold convert
    simp [rp_bind, rp_underlying hs, rp_underlying hd, Conv.intToInt])
@[go_sem] theorem oMaxI (t u ty : TypeId) (c1 c2 : Bool) (k : IntKind) (x y : Int) : pu P (oBuiltin .max #[t, u] ty #[c1, c2] #[.int k x, .int k y]) K = K (.int k (max x y)) :=
  pu_builtin K (s := Builtin.max2 (.int k x) (.int k y)) (by
    show X.v' (Builtin.max_ _ _ _) = _
    simp [Builtin.max_]) (by
    simp only [Builtin.max2, rp_pure]
    congr 2
    by_cases h : y > x
    · rw [if_pos h]; omega
    · rw [if_neg h]; omega)
@[go_sem] theorem oMinI (t u ty : TypeId) (c1 c2 : Bool) (k : IntKind) (x y : Int) : pu P (oBuiltin .min #[t, u] ty #[c1, c2] #[.int k x, .int k y]) K = K (.int k (min x y)) :=
  pu_builtin K (s := Builtin.min2 (.int k x) (.int k y)) (by
    show X.v' (Builtin.min_ _ _ _) = _
    simp [Builtin.min_]) (by
    simp only [Builtin.min2, rp_pure]
    congr 2
    by_cases h : y < x
    · rw [if_pos h]; omega
    · rw [if_neg h]; omega)
theorem rp_sliceBound (k : IntKind) (i : Int) (y : Nat) (code : BoundsCode) (h0 : 0 ≤ i) (h1 : i ≤ y) : rp P (Instr.sliceBound (.int k i) y code) = some i.toNat := by
  simp [Instr.sliceBound, asIntOf, rp_bind, h0, h1]
theorem ext_S (x : List UInt8) (a b : Nat) : (ByteArray.mk x.toArray).extract a b = ⟨((x.drop a).take (b - a)).toArray⟩ := ByteArray.extract_mk x a b
theorem size_S (x : List UInt8) : (ByteArray.mk x.toArray).size = x.length := by show x.toArray.size = _; simp
theorem oSliceS_lo (t : TypeId) (x : List UInt8) (k : IntKind) (i : Int) (h : P.underlying t = some .string) (h0 : 0 ≤ i) (h1 : i ≤ x.length) :
    pu P (oSlice t (S x) (some (.int k i)) none none) K = K (S (x.drop i.toNat)) :=
  pu_v' (by
    simp only [Instr.sliceAt, Instr.slice, S, Instr.sliceBounds]
    simp [rp_bind, rp_map, rp_underlying h, size_S, rp_sliceBound k i x.length _ h0 h1, ext_S]
    rw [List.take_of_length_le (by simp)])
theorem oSliceS_hi (t : TypeId) (x : List UInt8) (k : IntKind) (i : Int) (h : P.underlying t = some .string) (h0 : 0 ≤ i) (h1 : i ≤ x.length) :
    pu P (oSlice t (S x) none (some (.int k i)) none) K = K (S (x.take i.toNat)) :=
  pu_v' (by
    simp only [Instr.sliceAt, Instr.slice, S, Instr.sliceBounds]
    simp [rp_bind, rp_map, rp_underlying h, size_S, rp_sliceBound k i x.length _ h0 h1, ext_S])
theorem oSliceS (t : TypeId) (x : List UInt8) (k l : IntKind) (i j : Int) (h : P.underlying t = some .string) (h0 : 0 ≤ i) (h1 : i ≤ j) (h2 : j ≤ x.length) :
    pu P (oSlice t (S x) (some (.int k i)) (some (.int l j)) none) K = K (S ((x.drop i.toNat).take (j.toNat - i.toNat))) :=
  pu_v' (by
    have h3 : 0 ≤ j := by omega
    simp only [Instr.sliceAt, Instr.slice, S, Instr.sliceBounds]
    simp [rp_bind, rp_map, rp_underlying h, size_S, rp_sliceBound l j x.length _ h3 h2, ext_S, rp_sliceBound k i j.toNat _ h0 (by omega)])
theorem fldA_law {t : TypeId} {fields : Array Field} {f : Nat} {b o d : Nat} (h : P.underlying t = some (.struct fields)) (hf : (fields[f]?).map (fun x => (x.offset, P.cellsOf x.type == 0)) = some (d, false))
    (ha : (Addr.mk b o none).add d = ⟨b, o + d, none⟩) : pu P (oFldA t (.pointer (some ⟨b, o, none⟩)) f) K = K (.pointer (some ⟨b, o + d, none⟩)) :=
  pu_v' (by
    cases hx : fields[f]? with
    | none => rw [hx] at hf; cases hf
    | some fd =>
      rw [hx] at hf
      simp only [Option.map_some, Option.some.injEq, Prod.mk.injEq, beq_eq_false_iff_ne] at hf
      simp only [Instr.fieldAt, Instr.sureAddr, fieldPlace]
      have e : rp P (sizeOf fd.type) = some (P.cellsOf fd.type) := by
        have h2 := hf.2
        unfold Program.cellsOf at h2 ⊢
        cases hi : P.info? fd.type with
        | none => rw [hi] at h2; exact absurd rfl h2
        | some i => simp [sizeOf, typeInfo, rp_bind, hi]
      simp [rp_bind, rp_underlying h, hx, e, hf.2, hf.1, ha])
theorem st_call {f : FuncId} {fn : Func} {args : Array Value} {w : World} {K : Value → World → Prop} (hf : P.funcs[f]? = some fn) (hn : (fn.name == "runtime.NumGoroutine") = false) (hb : fn.body.isNone = false) :
    st P (oCall f args) w K = Cl P f args w K :=
  st_eq_enter (by
    unfold oCall callFunc
    simp only [Sem.run_bind, run_program, Result.andThen_ok, hf, hn, hb]
    rfl)
theorem w_u32 {n : Int} (h0 : 0 ≤ n) (h1 : n ≤ 4294967295) : IntKind.u32.wrap n = n := by
  simp only [IntKind.wrap]; simp [IntKind.bits, IntKind.signed]; omega
theorem w_u64 {n : Int} (h0 : 0 ≤ n) (h1 : n ≤ 18446744073709551615) : IntKind.u64.wrap n = n := by
  simp only [IntKind.wrap]; simp [IntKind.bits, IntKind.signed]; omega
theorem w_u16 {n : Int} (h0 : 0 ≤ n) (h1 : n ≤ 65535) : IntKind.u16.wrap n = n := by
  simp only [IntKind.wrap]; simp [IntKind.bits, IntKind.signed]; omega
theorem w_u8 {n : Int} (h0 : 0 ≤ n) (h1 : n ≤ 255) : IntKind.u8.wrap n = n := by
  simp only [IntKind.wrap]; simp [IntKind.bits, IntKind.signed]; omega
theorem w_i64 {n : Int} (h0 : -9223372036854775808 ≤ n) (h1 : n ≤ 9223372036854775807) : IntKind.i64.wrap n = n := by
  simp only [IntKind.wrap]; simp [IntKind.bits, IntKind.signed]; omega
end
end Go.X
end
section
namespace Go.Proofs.YteblpejgenehfaaDoor.X
open Go Go.X Go.Proofs
namespace U
theorem int64 : P.underlying T.int64 = some (.int .i64) := Tryd.underlying2
theorem int : P.underlying T.int = some (.int .i64) := Tryd.underlying3
theorem bool : P.underlying T.bool = some (.bool) := Tryd.underlying4
theorem uint8 : P.underlying T.uint8 = some (.int .u8) := Tryd.underlying5
theorem string : P.underlying T.string = some (.string) := Tryd.underlying9
theorem sl_uint8 : P.underlying T.sl_uint8 = some (.slice T.uint8) := Tryd.underlying22
theorem sl_impl_Step : P.underlying T.sl_impl_Step = some (.slice T.impl_Step) := Tryd.underlying23
theorem sl_impl_Answer : P.underlying T.sl_impl_Answer = some (.slice T.impl_Answer) := Tryd.underlying29
theorem sl_string : P.underlying T.sl_string = some (.slice T.string) := Tryd.underlying32
theorem sl_impl_Info : P.underlying T.sl_impl_Info = some (.slice T.impl_Info) := Tryd.underlying33
theorem sl_int : P.underlying T.sl_int = some (.slice T.int) := Tryd.underlying44
theorem p_spec_MemHandle : P.underlying T.p_spec_MemHandle = some (.pointer T.spec_MemHandle) := Tryd.underlying55
theorem sl_spec_MemNode : P.underlying T.sl_spec_MemNode = some (.slice T.spec_MemNode) := Tryd.underlying59
theorem map_int_p_spec_MemHandle : P.underlying T.map_int_p_spec_MemHandle = some (.map T.int T.p_spec_MemHandle) := Tryd.underlying60
theorem p_mem_FileData : P.underlying T.p_mem_FileData = some (.pointer T.mem_FileData) := Tryd.underlying63
theorem sl_p_mem_FileInfo : P.underlying T.sl_p_mem_FileInfo = some (.slice T.p_mem_FileInfo) := Tryd.underlying80
theorem mem_DirMap : P.underlying T.mem_DirMap = some (.map T.string T.p_mem_FileData) := Tryd.underlying91
theorem os_FileMode : P.underlying T.os_FileMode = some (.int .u32) := Tryd.underlying93
theorem p_mem_FileInfo : P.underlying T.p_mem_FileInfo = some (.pointer T.mem_FileInfo) := Tryd.underlying112
theorem p_os_PathError : P.underlying T.p_os_PathError = some (.pointer T.os_PathError) := Tryd.underlying134
theorem sl_p_mem_FileData : P.underlying T.sl_p_mem_FileData = some (.slice T.p_mem_FileData) := Tryd.underlying139
theorem p_errors_errorString : P.underlying T.p_errors_errorString = some (.pointer T.errors_errorString) := Tryd.underlying151
end U
namespace A
theorem impl_Step_0 (b o : Nat) (K : Value → Prop) : pu P (oFldA T.impl_Step (.pointer (some ⟨b, o, none⟩)) 0) K = K (.pointer (some ⟨b, o + 0, none⟩)) := fldA_law K Tryd.underlying27 (by kernel_rfl) (by kernel_rfl)
theorem impl_Step_1 (b o : Nat) (K : Value → Prop) : pu P (oFldA T.impl_Step (.pointer (some ⟨b, o, none⟩)) 1) K = K (.pointer (some ⟨b, o + 1, none⟩)) := fldA_law K Tryd.underlying27 (by kernel_rfl) (by kernel_rfl)
theorem impl_Step_2 (b o : Nat) (K : Value → Prop) : pu P (oFldA T.impl_Step (.pointer (some ⟨b, o, none⟩)) 2) K = K (.pointer (some ⟨b, o + 2, none⟩)) := fldA_law K Tryd.underlying27 (by kernel_rfl) (by kernel_rfl)
theorem impl_Step_3 (b o : Nat) (K : Value → Prop) : pu P (oFldA T.impl_Step (.pointer (some ⟨b, o, none⟩)) 3) K = K (.pointer (some ⟨b, o + 3, none⟩)) := fldA_law K Tryd.underlying27 (by kernel_rfl) (by kernel_rfl)
theorem impl_Step_4 (b o : Nat) (K : Value → Prop) : pu P (oFldA T.impl_Step (.pointer (some ⟨b, o, none⟩)) 4) K = K (.pointer (some ⟨b, o + 4, none⟩)) := fldA_law K Tryd.underlying27 (by kernel_rfl) (by kernel_rfl)
theorem impl_Step_5 (b o : Nat) (K : Value → Prop) : pu P (oFldA T.impl_Step (.pointer (some ⟨b, o, none⟩)) 5) K = K (.pointer (some ⟨b, o + 5, none⟩)) := fldA_law K Tryd.underlying27 (by kernel_rfl) (by kernel_rfl)
theorem impl_Step_6 (b o : Nat) (K : Value → Prop) : pu P (oFldA T.impl_Step (.pointer (some ⟨b, o, none⟩)) 6) K = K (.pointer (some ⟨b, o + 6, none⟩)) := fldA_law K Tryd.underlying27 (by kernel_rfl) (by kernel_rfl)
theorem impl_Step_7 (b o : Nat) (K : Value → Prop) : pu P (oFldA T.impl_Step (.pointer (some ⟨b, o, none⟩)) 7) K = K (.pointer (some ⟨b, o + 7, none⟩)) := fldA_law K Tryd.underlying27 (by kernel_rfl) (by kernel_rfl)
theorem impl_Step_8 (b o : Nat) (K : Value → Prop) : pu P (oFldA T.impl_Step (.pointer (some ⟨b, o, none⟩)) 8) K = K (.pointer (some ⟨b, o + 8, none⟩)) := fldA_law K Tryd.underlying27 (by kernel_rfl) (by kernel_rfl)
theorem impl_Step_9 (b o : Nat) (K : Value → Prop) : pu P (oFldA T.impl_Step (.pointer (some ⟨b, o, none⟩)) 9) K = K (.pointer (some ⟨b, o + 9, none⟩)) := fldA_law K Tryd.underlying27 (by kernel_rfl) (by kernel_rfl)
theorem impl_Answer_0 (b o : Nat) (K : Value → Prop) : pu P (oFldA T.impl_Answer (.pointer (some ⟨b, o, none⟩)) 0) K = K (.pointer (some ⟨b, o + 0, none⟩)) := fldA_law K Tryd.underlying35 (by kernel_rfl) (by kernel_rfl)
theorem impl_Answer_1 (b o : Nat) (K : Value → Prop) : pu P (oFldA T.impl_Answer (.pointer (some ⟨b, o, none⟩)) 1) K = K (.pointer (some ⟨b, o + 1, none⟩)) := fldA_law K Tryd.underlying35 (by kernel_rfl) (by kernel_rfl)
theorem impl_Answer_2 (b o : Nat) (K : Value → Prop) : pu P (oFldA T.impl_Answer (.pointer (some ⟨b, o, none⟩)) 2) K = K (.pointer (some ⟨b, o + 2, none⟩)) := fldA_law K Tryd.underlying35 (by kernel_rfl) (by kernel_rfl)
theorem impl_Answer_3 (b o : Nat) (K : Value → Prop) : pu P (oFldA T.impl_Answer (.pointer (some ⟨b, o, none⟩)) 3) K = K (.pointer (some ⟨b, o + 3, none⟩)) := fldA_law K Tryd.underlying35 (by kernel_rfl) (by kernel_rfl)
theorem impl_Answer_4 (b o : Nat) (K : Value → Prop) : pu P (oFldA T.impl_Answer (.pointer (some ⟨b, o, none⟩)) 4) K = K (.pointer (some ⟨b, o + 4, none⟩)) := fldA_law K Tryd.underlying35 (by kernel_rfl) (by kernel_rfl)
theorem impl_Answer_5 (b o : Nat) (K : Value → Prop) : pu P (oFldA T.impl_Answer (.pointer (some ⟨b, o, none⟩)) 5) K = K (.pointer (some ⟨b, o + 5, none⟩)) := fldA_law K Tryd.underlying35 (by kernel_rfl) (by kernel_rfl)
theorem spec_Mem_0 (b o : Nat) (K : Value → Prop) : pu P (oFldA T.spec_Mem (.pointer (some ⟨b, o, none⟩)) 0) K = K (.pointer (some ⟨b, o + 0, none⟩)) := fldA_law K Tryd.underlying62 (by kernel_rfl) (by kernel_rfl)
theorem spec_Mem_1 (b o : Nat) (K : Value → Prop) : pu P (oFldA T.spec_Mem (.pointer (some ⟨b, o, none⟩)) 1) K = K (.pointer (some ⟨b, o + 1, none⟩)) := fldA_law K Tryd.underlying62 (by kernel_rfl) (by kernel_rfl)
theorem spec_Mem_2 (b o : Nat) (K : Value → Prop) : pu P (oFldA T.spec_Mem (.pointer (some ⟨b, o, none⟩)) 2) K = K (.pointer (some ⟨b, o + 2, none⟩)) := fldA_law K Tryd.underlying62 (by kernel_rfl) (by kernel_rfl)
theorem spec_Mem_3 (b o : Nat) (K : Value → Prop) : pu P (oFldA T.spec_Mem (.pointer (some ⟨b, o, none⟩)) 3) K = K (.pointer (some ⟨b, o + 3, none⟩)) := fldA_law K Tryd.underlying62 (by kernel_rfl) (by kernel_rfl)
theorem impl_Info_1 (b o : Nat) (K : Value → Prop) : pu P (oFldA T.impl_Info (.pointer (some ⟨b, o, none⟩)) 1) K = K (.pointer (some ⟨b, o + 1, none⟩)) := fldA_law K Tryd.underlying70 (by kernel_rfl) (by kernel_rfl)
theorem spec_MemNode_0 (b o : Nat) (K : Value → Prop) : pu P (oFldA T.spec_MemNode (.pointer (some ⟨b, o, none⟩)) 0) K = K (.pointer (some ⟨b, o + 0, none⟩)) := fldA_law K Tryd.underlying78 (by kernel_rfl) (by kernel_rfl)
theorem spec_MemNode_1 (b o : Nat) (K : Value → Prop) : pu P (oFldA T.spec_MemNode (.pointer (some ⟨b, o, none⟩)) 1) K = K (.pointer (some ⟨b, o + 1, none⟩)) := fldA_law K Tryd.underlying78 (by kernel_rfl) (by kernel_rfl)
theorem spec_MemNode_2 (b o : Nat) (K : Value → Prop) : pu P (oFldA T.spec_MemNode (.pointer (some ⟨b, o, none⟩)) 2) K = K (.pointer (some ⟨b, o + 2, none⟩)) := fldA_law K Tryd.underlying78 (by kernel_rfl) (by kernel_rfl)
theorem spec_MemNode_3 (b o : Nat) (K : Value → Prop) : pu P (oFldA T.spec_MemNode (.pointer (some ⟨b, o, none⟩)) 3) K = K (.pointer (some ⟨b, o + 3, none⟩)) := fldA_law K Tryd.underlying78 (by kernel_rfl) (by kernel_rfl)
theorem spec_MemNode_4 (b o : Nat) (K : Value → Prop) : pu P (oFldA T.spec_MemNode (.pointer (some ⟨b, o, none⟩)) 4) K = K (.pointer (some ⟨b, o + 4, none⟩)) := fldA_law K Tryd.underlying78 (by kernel_rfl) (by kernel_rfl)
theorem spec_MemHandle_0 (b o : Nat) (K : Value → Prop) : pu P (oFldA T.spec_MemHandle (.pointer (some ⟨b, o, none⟩)) 0) K = K (.pointer (some ⟨b, o + 0, none⟩)) := fldA_law K Tryd.underlying86 (by kernel_rfl) (by kernel_rfl)
theorem spec_MemHandle_1 (b o : Nat) (K : Value → Prop) : pu P (oFldA T.spec_MemHandle (.pointer (some ⟨b, o, none⟩)) 1) K = K (.pointer (some ⟨b, o + 1, none⟩)) := fldA_law K Tryd.underlying86 (by kernel_rfl) (by kernel_rfl)
theorem spec_MemHandle_2 (b o : Nat) (K : Value → Prop) : pu P (oFldA T.spec_MemHandle (.pointer (some ⟨b, o, none⟩)) 2) K = K (.pointer (some ⟨b, o + 2, none⟩)) := fldA_law K Tryd.underlying86 (by kernel_rfl) (by kernel_rfl)
theorem spec_MemHandle_3 (b o : Nat) (K : Value → Prop) : pu P (oFldA T.spec_MemHandle (.pointer (some ⟨b, o, none⟩)) 3) K = K (.pointer (some ⟨b, o + 3, none⟩)) := fldA_law K Tryd.underlying86 (by kernel_rfl) (by kernel_rfl)
theorem spec_MemHandle_4 (b o : Nat) (K : Value → Prop) : pu P (oFldA T.spec_MemHandle (.pointer (some ⟨b, o, none⟩)) 4) K = K (.pointer (some ⟨b, o + 4, none⟩)) := fldA_law K Tryd.underlying86 (by kernel_rfl) (by kernel_rfl)
theorem mem_FileData_0 (b o : Nat) (K : Value → Prop) : pu P (oFldA T.mem_FileData (.pointer (some ⟨b, o, none⟩)) 0) K = K (.pointer (some ⟨b, o + 0, none⟩)) := fldA_law K Tryd.underlying95 (by kernel_rfl) (by kernel_rfl)
theorem mem_FileData_1 (b o : Nat) (K : Value → Prop) : pu P (oFldA T.mem_FileData (.pointer (some ⟨b, o, none⟩)) 1) K = K (.pointer (some ⟨b, o + 1, none⟩)) := fldA_law K Tryd.underlying95 (by kernel_rfl) (by kernel_rfl)
theorem mem_FileData_3 (b o : Nat) (K : Value → Prop) : pu P (oFldA T.mem_FileData (.pointer (some ⟨b, o, none⟩)) 3) K = K (.pointer (some ⟨b, o + 3, none⟩)) := fldA_law K Tryd.underlying95 (by kernel_rfl) (by kernel_rfl)
theorem mem_FileData_4 (b o : Nat) (K : Value → Prop) : pu P (oFldA T.mem_FileData (.pointer (some ⟨b, o, none⟩)) 4) K = K (.pointer (some ⟨b, o + 4, none⟩)) := fldA_law K Tryd.underlying95 (by kernel_rfl) (by kernel_rfl)
theorem mem_FileData_5 (b o : Nat) (K : Value → Prop) : pu P (oFldA T.mem_FileData (.pointer (some ⟨b, o, none⟩)) 5) K = K (.pointer (some ⟨b, o + 5, none⟩)) := fldA_law K Tryd.underlying95 (by kernel_rfl) (by kernel_rfl)
theorem mem_File_0 (b o : Nat) (K : Value → Prop) : pu P (oFldA T.mem_File (.pointer (some ⟨b, o, none⟩)) 0) K = K (.pointer (some ⟨b, o + 0, none⟩)) := fldA_law K Tryd.underlying97 (by kernel_rfl) (by kernel_rfl)
theorem mem_File_2 (b o : Nat) (K : Value → Prop) : pu P (oFldA T.mem_File (.pointer (some ⟨b, o, none⟩)) 2) K = K (.pointer (some ⟨b, o + 2, none⟩)) := fldA_law K Tryd.underlying97 (by kernel_rfl) (by kernel_rfl)
theorem mem_File_3 (b o : Nat) (K : Value → Prop) : pu P (oFldA T.mem_File (.pointer (some ⟨b, o, none⟩)) 3) K = K (.pointer (some ⟨b, o + 3, none⟩)) := fldA_law K Tryd.underlying97 (by kernel_rfl) (by kernel_rfl)
theorem mem_File_4 (b o : Nat) (K : Value → Prop) : pu P (oFldA T.mem_File (.pointer (some ⟨b, o, none⟩)) 4) K = K (.pointer (some ⟨b, o + 4, none⟩)) := fldA_law K Tryd.underlying97 (by kernel_rfl) (by kernel_rfl)
theorem os_PathError_0 (b o : Nat) (K : Value → Prop) : pu P (oFldA T.os_PathError (.pointer (some ⟨b, o, none⟩)) 0) K = K (.pointer (some ⟨b, o + 0, none⟩)) := fldA_law K Tryd.underlying137 (by kernel_rfl) (by kernel_rfl)
theorem os_PathError_2 (b o : Nat) (K : Value → Prop) : pu P (oFldA T.os_PathError (.pointer (some ⟨b, o, none⟩)) 2) K = K (.pointer (some ⟨b, o + 2, none⟩)) := fldA_law K Tryd.underlying137 (by kernel_rfl) (by kernel_rfl)
theorem mem_FileInfo_0 (b o : Nat) (K : Value → Prop) : pu P (oFldA T.mem_FileInfo (.pointer (some ⟨b, o, none⟩)) 0) K = K (.pointer (some ⟨b, o + 0, none⟩)) := fldA_law K Tryd.underlying142 (by kernel_rfl) (by kernel_rfl)
end A
attribute [go_sem] A.impl_Step_0 A.impl_Step_1 A.impl_Step_2 A.impl_Step_3 A.impl_Step_4 A.impl_Step_5 A.impl_Step_6 A.impl_Step_7 A.impl_Step_8 A.impl_Step_9 A.impl_Answer_0 A.impl_Answer_1 A.impl_Answer_2 A.impl_Answer_3 A.impl_Answer_4 A.impl_Answer_5 A.spec_Mem_0 A.spec_Mem_1 A.spec_Mem_2 A.spec_Mem_3 A.impl_Info_1 A.spec_MemNode_0 A.spec_MemNode_1 A.spec_MemNode_2 A.spec_MemNode_3 A.spec_MemNode_4 A.spec_MemHandle_0 A.spec_MemHandle_1 A.spec_MemHandle_2 A.spec_MemHandle_3 A.spec_MemHandle_4 A.mem_FileData_0 A.mem_FileData_1 A.mem_FileData_3 A.mem_FileData_4 A.mem_FileData_5 A.mem_File_0 A.mem_File_2 A.mem_File_3 A.mem_File_4 A.os_PathError_0 A.os_PathError_2 A.mem_FileInfo_0
namespace V
theorem os_FileMode__int (K : Value → Prop) (x : Int) : pu P (oConv T.os_FileMode T.int (.int .u32 x)) K = K (.int .i64 (IntKind.i64.wrap x)) := oConvI K U.os_FileMode U.int
theorem len_string (K : Value → Prop) (c : Bool) (x : List UInt8) : pu P (oBuiltin .len #[T.string] T.int #[c] #[S x]) K = K (.int .i64 x.length) := oLenS K _ _ _ _ U.string
theorem len_sl_uint8 (K : Value → Prop) (c : Bool) (a : Option Addr) (n m : Nat) : pu P (oBuiltin .len #[T.sl_uint8] T.int #[c] #[.slice a n m]) K = K (.int .i64 n) := oLenL K _ _ _ _ _ _ _ U.sl_uint8
theorem len_sl_impl_Step (K : Value → Prop) (c : Bool) (a : Option Addr) (n m : Nat) : pu P (oBuiltin .len #[T.sl_impl_Step] T.int #[c] #[.slice a n m]) K = K (.int .i64 n) := oLenL K _ _ _ _ _ _ _ U.sl_impl_Step
theorem len_sl_impl_Answer (K : Value → Prop) (c : Bool) (a : Option Addr) (n m : Nat) : pu P (oBuiltin .len #[T.sl_impl_Answer] T.int #[c] #[.slice a n m]) K = K (.int .i64 n) := oLenL K _ _ _ _ _ _ _ U.sl_impl_Answer
theorem len_sl_string (K : Value → Prop) (c : Bool) (a : Option Addr) (n m : Nat) : pu P (oBuiltin .len #[T.sl_string] T.int #[c] #[.slice a n m]) K = K (.int .i64 n) := oLenL K _ _ _ _ _ _ _ U.sl_string
theorem len_sl_impl_Info (K : Value → Prop) (c : Bool) (a : Option Addr) (n m : Nat) : pu P (oBuiltin .len #[T.sl_impl_Info] T.int #[c] #[.slice a n m]) K = K (.int .i64 n) := oLenL K _ _ _ _ _ _ _ U.sl_impl_Info
theorem len_sl_spec_MemNode (K : Value → Prop) (c : Bool) (a : Option Addr) (n m : Nat) : pu P (oBuiltin .len #[T.sl_spec_MemNode] T.int #[c] #[.slice a n m]) K = K (.int .i64 n) := oLenL K _ _ _ _ _ _ _ U.sl_spec_MemNode
theorem len_sl_p_mem_FileInfo (K : Value → Prop) (c : Bool) (a : Option Addr) (n m : Nat) : pu P (oBuiltin .len #[T.sl_p_mem_FileInfo] T.int #[c] #[.slice a n m]) K = K (.int .i64 n) := oLenL K _ _ _ _ _ _ _ U.sl_p_mem_FileInfo
end V
attribute [go_sem] V.os_FileMode__int V.len_string V.len_sl_uint8 V.len_sl_impl_Step V.len_sl_impl_Answer V.len_sl_string V.len_sl_impl_Info V.len_sl_spec_MemNode V.len_sl_p_mem_FileInfo
namespace C
theorem laws_FnBytesAreBytes {args : Array Value} {w : World} {K : Value → World → Prop} : st P (oCall Fn.laws_FnBytesAreBytes args) w K = Cl P Fn.laws_FnBytesAreBytes args w K := st_call Tryd.func3 (by kernel_rfl) (by kernel_rfl)
theorem laws_zzFits1 {args : Array Value} {w : World} {K : Value → World → Prop} : st P (oCall Fn.laws_zzFits1 args) w K = Cl P Fn.laws_zzFits1 args w K := st_call Tryd.func11 (by kernel_rfl) (by kernel_rfl)
theorem laws_handleSpoken {args : Array Value} {w : World} {K : Value → World → Prop} : st P (oCall Fn.laws_handleSpoken args) w K = Cl P Fn.laws_handleSpoken args w K := st_call Tryd.func12 (by kernel_rfl) (by kernel_rfl)
theorem laws_recoded {args : Array Value} {w : World} {K : Value → World → Prop} : st P (oCall Fn.laws_recoded args) w K = Cl P Fn.laws_recoded args w K := st_call Tryd.func13 (by kernel_rfl) (by kernel_rfl)
theorem impl_HandleScript {args : Array Value} {w : World} {K : Value → World → Prop} : st P (oCall Fn.impl_HandleScript args) w K = Cl P Fn.impl_HandleScript args w K := st_call Tryd.func14 (by kernel_rfl) (by kernel_rfl)
theorem spec_SameAnswer {args : Array Value} {w : World} {K : Value → World → Prop} : st P (oCall Fn.spec_SameAnswer args) w K = Cl P Fn.spec_SameAnswer args w K := st_call Tryd.func15 (by kernel_rfl) (by kernel_rfl)
theorem laws_zzFits2 {args : Array Value} {w : World} {K : Value → World → Prop} : st P (oCall Fn.laws_zzFits2 args) w K = Cl P Fn.laws_zzFits2 args w K := st_call Tryd.func20 (by kernel_rfl) (by kernel_rfl)
theorem laws_oneFile {args : Array Value} {w : World} {K : Value → World → Prop} : st P (oCall Fn.laws_oneFile args) w K = Cl P Fn.laws_oneFile args w K := st_call Tryd.func21 (by kernel_rfl) (by kernel_rfl)
theorem spec_Mem_Speaks {args : Array Value} {w : World} {K : Value → World → Prop} : st P (oCall Fn.spec_Mem_Speaks args) w K = Cl P Fn.spec_Mem_Speaks args w K := st_call Tryd.func22 (by kernel_rfl) (by kernel_rfl)
theorem laws_onFile {args : Array Value} {w : World} {K : Value → World → Prop} : st P (oCall Fn.laws_onFile args) w K = Cl P Fn.laws_onFile args w K := st_call Tryd.func23 (by kernel_rfl) (by kernel_rfl)
theorem spec_Mem_Do {args : Array Value} {w : World} {K : Value → World → Prop} : st P (oCall Fn.spec_Mem_Do args) w K = Cl P Fn.spec_Mem_Do args w K := st_call Tryd.func24 (by kernel_rfl) (by kernel_rfl)
theorem mem_DoorWith {args : Array Value} {w : World} {K : Value → World → Prop} : st P (oCall Fn.mem_DoorWith args) w K = Cl P Fn.mem_DoorWith args w K := st_call Tryd.func25 (by kernel_rfl) (by kernel_rfl)
theorem mem_NewFileHandle {args : Array Value} {w : World} {K : Value → World → Prop} : st P (oCall Fn.mem_NewFileHandle args) w K = Cl P Fn.mem_NewFileHandle args w K := st_call Tryd.func26 (by kernel_rfl) (by kernel_rfl)
theorem mem_NewReadOnlyFileHandle {args : Array Value} {w : World} {K : Value → World → Prop} : st P (oCall Fn.mem_NewReadOnlyFileHandle args) w K = Cl P Fn.mem_NewReadOnlyFileHandle args w K := st_call Tryd.func27 (by kernel_rfl) (by kernel_rfl)
theorem impl_on {args : Array Value} {w : World} {K : Value → World → Prop} : st P (oCall Fn.impl_on args) w K = Cl P Fn.impl_on args w K := st_call Tryd.func28 (by kernel_rfl) (by kernel_rfl)
theorem mem_FileData_DoorBytes {args : Array Value} {w : World} {K : Value → World → Prop} : st P (oCall Fn.mem_FileData_DoorBytes args) w K = Cl P Fn.mem_FileData_DoorBytes args w K := st_call Tryd.func29 (by kernel_rfl) (by kernel_rfl)
theorem spec_NewMem {args : Array Value} {w : World} {K : Value → World → Prop} : st P (oCall Fn.spec_NewMem args) w K = Cl P Fn.spec_NewMem args w K := st_call Tryd.func34 (by kernel_rfl) (by kernel_rfl)
theorem spec_Mem_speaksOpen {args : Array Value} {w : World} {K : Value → World → Prop} : st P (oCall Fn.spec_Mem_speaksOpen args) w K = Cl P Fn.spec_Mem_speaksOpen args w K := st_call Tryd.func35 (by kernel_rfl) (by kernel_rfl)
theorem spec_Mem_speaksNames {args : Array Value} {w : World} {K : Value → World → Prop} : st P (oCall Fn.spec_Mem_speaksNames args) w K = Cl P Fn.spec_Mem_speaksNames args w K := st_call Tryd.func36 (by kernel_rfl) (by kernel_rfl)
theorem spec_Mem_speaksFile {args : Array Value} {w : World} {K : Value → World → Prop} : st P (oCall Fn.spec_Mem_speaksFile args) w K = Cl P Fn.spec_Mem_speaksFile args w K := st_call Tryd.func37 (by kernel_rfl) (by kernel_rfl)
theorem spec_Mem_open {args : Array Value} {w : World} {K : Value → World → Prop} : st P (oCall Fn.spec_Mem_open args) w K = Cl P Fn.spec_Mem_open args w K := st_call Tryd.func38 (by kernel_rfl) (by kernel_rfl)
theorem spec_Mem_names {args : Array Value} {w : World} {K : Value → World → Prop} : st P (oCall Fn.spec_Mem_names args) w K = Cl P Fn.spec_Mem_names args w K := st_call Tryd.func39 (by kernel_rfl) (by kernel_rfl)
theorem spec_Mem_file {args : Array Value} {w : World} {K : Value → World → Prop} : st P (oCall Fn.spec_Mem_file args) w K = Cl P Fn.spec_Mem_file args w K := st_call Tryd.func40 (by kernel_rfl) (by kernel_rfl)
theorem mem_CreateFile {args : Array Value} {w : World} {K : Value → World → Prop} : st P (oCall Fn.mem_CreateFile args) w K = Cl P Fn.mem_CreateFile args w K := st_call Tryd.func41 (by kernel_rfl) (by kernel_rfl)
theorem mem_File_Read {args : Array Value} {w : World} {K : Value → World → Prop} : st P (oCall Fn.mem_File_Read args) w K = Cl P Fn.mem_File_Read args w K := st_call Tryd.func42 (by kernel_rfl) (by kernel_rfl)
theorem mem_File_ReadAt {args : Array Value} {w : World} {K : Value → World → Prop} : st P (oCall Fn.mem_File_ReadAt args) w K = Cl P Fn.mem_File_ReadAt args w K := st_call Tryd.func43 (by kernel_rfl) (by kernel_rfl)
theorem mem_File_Write {args : Array Value} {w : World} {K : Value → World → Prop} : st P (oCall Fn.mem_File_Write args) w K = Cl P Fn.mem_File_Write args w K := st_call Tryd.func44 (by kernel_rfl) (by kernel_rfl)
theorem mem_File_WriteAt {args : Array Value} {w : World} {K : Value → World → Prop} : st P (oCall Fn.mem_File_WriteAt args) w K = Cl P Fn.mem_File_WriteAt args w K := st_call Tryd.func45 (by kernel_rfl) (by kernel_rfl)
theorem mem_File_Seek {args : Array Value} {w : World} {K : Value → World → Prop} : st P (oCall Fn.mem_File_Seek args) w K = Cl P Fn.mem_File_Seek args w K := st_call Tryd.func46 (by kernel_rfl) (by kernel_rfl)
theorem mem_File_Truncate {args : Array Value} {w : World} {K : Value → World → Prop} : st P (oCall Fn.mem_File_Truncate args) w K = Cl P Fn.mem_File_Truncate args w K := st_call Tryd.func47 (by kernel_rfl) (by kernel_rfl)
theorem mem_File_Close {args : Array Value} {w : World} {K : Value → World → Prop} : st P (oCall Fn.mem_File_Close args) w K = Cl P Fn.mem_File_Close args w K := st_call Tryd.func48 (by kernel_rfl) (by kernel_rfl)
theorem mem_File_Readdir {args : Array Value} {w : World} {K : Value → World → Prop} : st P (oCall Fn.mem_File_Readdir args) w K = Cl P Fn.mem_File_Readdir args w K := st_call Tryd.func49 (by kernel_rfl) (by kernel_rfl)
theorem impl_fromInfos {args : Array Value} {w : World} {K : Value → World → Prop} : st P (oCall Fn.impl_fromInfos args) w K = Cl P Fn.impl_fromInfos args w K := st_call Tryd.func50 (by kernel_rfl) (by kernel_rfl)
theorem mem_File_Readdirnames {args : Array Value} {w : World} {K : Value → World → Prop} : st P (oCall Fn.mem_File_Readdirnames args) w K = Cl P Fn.mem_File_Readdirnames args w K := st_call Tryd.func51 (by kernel_rfl) (by kernel_rfl)
theorem mem_File_Stat {args : Array Value} {w : World} {K : Value → World → Prop} : st P (oCall Fn.mem_File_Stat args) w K = Cl P Fn.mem_File_Stat args w K := st_call Tryd.func52 (by kernel_rfl) (by kernel_rfl)
theorem mem_File_Name {args : Array Value} {w : World} {K : Value → World → Prop} : st P (oCall Fn.mem_File_Name args) w K = Cl P Fn.mem_File_Name args w K := st_call Tryd.func53 (by kernel_rfl) (by kernel_rfl)
theorem mem_File_Sync {args : Array Value} {w : World} {K : Value → World → Prop} : st P (oCall Fn.mem_File_Sync args) w K = Cl P Fn.mem_File_Sync args w K := st_call Tryd.func54 (by kernel_rfl) (by kernel_rfl)
theorem impl_kind {args : Array Value} {w : World} {K : Value → World → Prop} : st P (oCall Fn.impl_kind args) w K = Cl P Fn.impl_kind args w K := st_call Tryd.func55 (by kernel_rfl) (by kernel_rfl)
theorem spec_Mem_add {args : Array Value} {w : World} {K : Value → World → Prop} : st P (oCall Fn.spec_Mem_add args) w K = Cl P Fn.spec_Mem_add args w K := st_call Tryd.func56 (by kernel_rfl) (by kernel_rfl)
theorem impl_fromInfo {args : Array Value} {w : World} {K : Value → World → Prop} : st P (oCall Fn.impl_fromInfo args) w K = Cl P Fn.impl_fromInfo args w K := st_call Tryd.func68 (by kernel_rfl) (by kernel_rfl)
theorem spec_MemName {args : Array Value} {w : World} {K : Value → World → Prop} : st P (oCall Fn.spec_MemName args) w K = Cl P Fn.spec_MemName args w K := st_call Tryd.func71 (by kernel_rfl) (by kernel_rfl)
theorem spec_Mem_Find {args : Array Value} {w : World} {K : Value → World → Prop} : st P (oCall Fn.spec_Mem_Find args) w K = Cl P Fn.spec_Mem_Find args w K := st_call Tryd.func72 (by kernel_rfl) (by kernel_rfl)
theorem spec_named {args : Array Value} {w : World} {K : Value → World → Prop} : st P (oCall Fn.spec_named args) w K = Cl P Fn.spec_named args w K := st_call Tryd.func73 (by kernel_rfl) (by kernel_rfl)
theorem spec_Mem_isDir {args : Array Value} {w : World} {K : Value → World → Prop} : st P (oCall Fn.spec_Mem_isDir args) w K = Cl P Fn.spec_Mem_isDir args w K := st_call Tryd.func74 (by kernel_rfl) (by kernel_rfl)
theorem spec_Mem_clear {args : Array Value} {w : World} {K : Value → World → Prop} : st P (oCall Fn.spec_Mem_clear args) w K = Cl P Fn.spec_Mem_clear args w K := st_call Tryd.func75 (by kernel_rfl) (by kernel_rfl)
theorem spec_Mem_Children {args : Array Value} {w : World} {K : Value → World → Prop} : st P (oCall Fn.spec_Mem_Children args) w K = Cl P Fn.spec_Mem_Children args w K := st_call Tryd.func76 (by kernel_rfl) (by kernel_rfl)
theorem spec_MemBelow {args : Array Value} {w : World} {K : Value → World → Prop} : st P (oCall Fn.spec_MemBelow args) w K = Cl P Fn.spec_MemBelow args w K := st_call Tryd.func77 (by kernel_rfl) (by kernel_rfl)
theorem spec_Mem_parents {args : Array Value} {w : World} {K : Value → World → Prop} : st P (oCall Fn.spec_Mem_parents args) w K = Cl P Fn.spec_Mem_parents args w K := st_call Tryd.func78 (by kernel_rfl) (by kernel_rfl)
theorem spec_Mem_info {args : Array Value} {w : World} {K : Value → World → Prop} : st P (oCall Fn.spec_Mem_info args) w K = Cl P Fn.spec_Mem_info args w K := st_call Tryd.func81 (by kernel_rfl) (by kernel_rfl)
theorem spec_Mem_list {args : Array Value} {w : World} {K : Value → World → Prop} : st P (oCall Fn.spec_Mem_list args) w K = Cl P Fn.spec_Mem_list args w K := st_call Tryd.func82 (by kernel_rfl) (by kernel_rfl)
theorem spec_readFrom {args : Array Value} {w : World} {K : Value → World → Prop} : st P (oCall Fn.spec_readFrom args) w K = Cl P Fn.spec_readFrom args w K := st_call Tryd.func83 (by kernel_rfl) (by kernel_rfl)
theorem spec_grown {args : Array Value} {w : World} {K : Value → World → Prop} : st P (oCall Fn.spec_grown args) w K = Cl P Fn.spec_grown args w K := st_call Tryd.func84 (by kernel_rfl) (by kernel_rfl)
theorem spec_overwritten {args : Array Value} {w : World} {K : Value → World → Prop} : st P (oCall Fn.spec_overwritten args) w K = Cl P Fn.spec_overwritten args w K := st_call Tryd.func85 (by kernel_rfl) (by kernel_rfl)
theorem errors_New {args : Array Value} {w : World} {K : Value → World → Prop} : st P (oCall Fn.errors_New args) w K = Cl P Fn.errors_New args w K := st_call Tryd.func86 (by kernel_rfl) (by kernel_rfl)
theorem mem_setModTime {args : Array Value} {w : World} {K : Value → World → Prop} : st P (oCall Fn.mem_setModTime args) w K = Cl P Fn.mem_setModTime args w K := st_call Tryd.func87 (by kernel_rfl) (by kernel_rfl)
theorem mem_DirMap_Files {args : Array Value} {w : World} {K : Value → World → Prop} : st P (oCall Fn.mem_DirMap_Files args) w K = Cl P Fn.mem_DirMap_Files args w K := st_call Tryd.func88 (by kernel_rfl) (by kernel_rfl)
theorem path_Split {args : Array Value} {w : World} {K : Value → World → Prop} : st P (oCall Fn.path_Split args) w K = Cl P Fn.path_Split args w K := st_call Tryd.func89 (by kernel_rfl) (by kernel_rfl)
theorem mem_FileInfo_Name {args : Array Value} {w : World} {K : Value → World → Prop} : st P (oCall Fn.mem_FileInfo_Name args) w K = Cl P Fn.mem_FileInfo_Name args w K := st_call Tryd.func90 (by kernel_rfl) (by kernel_rfl)
theorem mem_FileData_Name {args : Array Value} {w : World} {K : Value → World → Prop} : st P (oCall Fn.mem_FileData_Name args) w K = Cl P Fn.mem_FileData_Name args w K := st_call Tryd.func91 (by kernel_rfl) (by kernel_rfl)
theorem spec_Mem_put {args : Array Value} {w : World} {K : Value → World → Prop} : st P (oCall Fn.spec_Mem_put args) w K = Cl P Fn.spec_Mem_put args w K := st_call Tryd.func92 (by kernel_rfl) (by kernel_rfl)
theorem mem_FileInfo_Size {args : Array Value} {w : World} {K : Value → World → Prop} : st P (oCall Fn.mem_FileInfo_Size args) w K = Cl P Fn.mem_FileInfo_Size args w K := st_call Tryd.func96 (by kernel_rfl) (by kernel_rfl)
theorem mem_FileInfo_Mode {args : Array Value} {w : World} {K : Value → World → Prop} : st P (oCall Fn.mem_FileInfo_Mode args) w K = Cl P Fn.mem_FileInfo_Mode args w K := st_call Tryd.func97 (by kernel_rfl) (by kernel_rfl)
theorem mem_FileInfo_IsDir {args : Array Value} {w : World} {K : Value → World → Prop} : st P (oCall Fn.mem_FileInfo_IsDir args) w K = Cl P Fn.mem_FileInfo_IsDir args w K := st_call Tryd.func98 (by kernel_rfl) (by kernel_rfl)
theorem mem_FileInfo_ModTime {args : Array Value} {w : World} {K : Value → World → Prop} : st P (oCall Fn.mem_FileInfo_ModTime args) w K = Cl P Fn.mem_FileInfo_ModTime args w K := st_call Tryd.func99 (by kernel_rfl) (by kernel_rfl)
theorem spec_Mem_place {args : Array Value} {w : World} {K : Value → World → Prop} : st P (oCall Fn.spec_Mem_place args) w K = Cl P Fn.spec_Mem_place args w K := st_call Tryd.func100 (by kernel_rfl) (by kernel_rfl)
theorem spec_MemParent {args : Array Value} {w : World} {K : Value → World → Prop} : st P (oCall Fn.spec_MemParent args) w K = Cl P Fn.spec_MemParent args w K := st_call Tryd.func101 (by kernel_rfl) (by kernel_rfl)
theorem spec_MemBase {args : Array Value} {w : World} {K : Value → World → Prop} : st P (oCall Fn.spec_MemBase args) w K = Cl P Fn.spec_MemBase args w K := st_call Tryd.func102 (by kernel_rfl) (by kernel_rfl)
theorem bytealg_LastIndexByteString {args : Array Value} {w : World} {K : Value → World → Prop} : st P (oCall Fn.bytealg_LastIndexByteString args) w K = Cl P Fn.bytealg_LastIndexByteString args w K := st_call Tryd.func103 (by kernel_rfl) (by kernel_rfl)
end C
attribute [go_sem] C.laws_FnBytesAreBytes C.laws_zzFits1 C.laws_handleSpoken C.laws_recoded C.impl_HandleScript C.spec_SameAnswer C.laws_zzFits2 C.laws_oneFile C.spec_Mem_Speaks C.laws_onFile C.spec_Mem_Do C.mem_DoorWith C.mem_NewFileHandle C.mem_NewReadOnlyFileHandle C.impl_on C.mem_FileData_DoorBytes C.spec_NewMem C.spec_Mem_speaksOpen C.spec_Mem_speaksNames C.spec_Mem_speaksFile C.spec_Mem_open C.spec_Mem_names C.spec_Mem_file C.mem_CreateFile C.mem_File_Read C.mem_File_ReadAt C.mem_File_Write C.mem_File_WriteAt C.mem_File_Seek C.mem_File_Truncate C.mem_File_Close C.mem_File_Readdir C.impl_fromInfos C.mem_File_Readdirnames C.mem_File_Stat C.mem_File_Name C.mem_File_Sync C.impl_kind C.spec_Mem_add C.impl_fromInfo C.spec_MemName C.spec_Mem_Find C.spec_named C.spec_Mem_isDir C.spec_Mem_clear C.spec_Mem_Children C.spec_MemBelow C.spec_Mem_parents C.spec_Mem_info C.spec_Mem_list C.spec_readFrom C.spec_grown C.spec_overwritten C.errors_New C.mem_setModTime C.mem_DirMap_Files C.path_Split C.mem_FileInfo_Name C.mem_FileData_Name C.spec_Mem_put C.mem_FileInfo_Size C.mem_FileInfo_Mode C.mem_FileInfo_IsDir C.mem_FileInfo_ModTime C.spec_Mem_place C.spec_MemParent C.spec_MemBase C.bytealg_LastIndexByteString
end Go.Proofs.YteblpejgenehfaaDoor.X
end
section
namespace Go.X
open Go Go.RowKit
def bk (w : World) (b : Nat) : Option Obj := w.heap[b]?
abbrev CB (l : List Value) (t : TypeId) : Obj := .cells l.toArray t (0, 0)
def AG (l : List Value) : Value := .agg l.toArray
abbrev pt (b o : Nat) : Value := .pointer (some ⟨b, o, none⟩)
def setb (w : World) (b : Nat) (o : Obj) : World := { w with heap := w.heap.setIfInBounds b o }
theorem bk_lt {w : World} {b : Nat} {o : Obj} (h : bk w b = some o) : b < w.heap.size := by
  unfold bk at h
  exact (Array.getElem?_eq_some_iff.1 h).1
@[go_sem] theorem bk_drew (w : World) (b : Nat) : bk w.drew b = bk w b := rfl
@[go_sem] theorem bk_alloc_eq (w : World) (o : Obj) (b : Nat) (h : b = w.heap.size) : bk (w.alloc o) b = some o := by
  subst h; show (w.heap.push o)[w.heap.size]? = _; simp
@[go_sem] theorem bk_alloc_ne (w : World) (o : Obj) (b : Nat) (h : b ≠ w.heap.size) : bk (w.alloc o) b = bk w b := by
  show (w.heap.push o)[b]? = w.heap[b]?
  rw [Array.getElem?_push, if_neg h]
@[go_sem] theorem sZb (w : World) (b : Nat) (o : Obj) : (setb w b o).heap.size = w.heap.size := by simp [setb]
@[go_sem] theorem sZa (w : World) (o : Obj) : (w.alloc o).heap.size = w.heap.size + 1 := World.size_alloc w o
@[go_sem] theorem sZd (w : World) : w.drew.heap.size = w.heap.size := rfl
@[go_sem] theorem bk_setb_eq (w : World) (b b' : Nat) (o : Obj) (h : b' = b) (hb : b < w.heap.size) : bk (setb w b o) b' = some o := by
  subst h; unfold bk setb; simp [hb]
@[go_sem] theorem bk_setb_ne (w : World) (b b' : Nat) (o : Obj) (h : b' ≠ b) : bk (setb w b o) b' = bk w b' := by
  unfold bk setb; simp [Array.getElem?_setIfInBounds_ne (Ne.symm h)]
def cellOf (o : Option Obj) (i : Nat) : Option Value :=
  match o with
  | some (.cells c _ _) => c[i]?
  | _ => none
def frzOf (o : Option Obj) (i : Nat) : Bool :=
  match o with
  | some (.cells _ _ (lo, hi)) => lo ≤ i && i < hi
  | _ => false
def rowOf (o : Option Obj) (i n : Nat) : Option (List Value) :=
  match o with
  | some (.cells c _ _) => if i + n ≤ c.size then some ((c.toList.drop i).take n) else none
  | _ => none
def stoOf (o : Option Obj) (i : Nat) (x : Value) : Option Obj :=
  match o with
  | some (.cells c e fz) => if i < c.size ∧ frzOf (some (.cells c e fz)) i = false ∧ x.oneCell' = true then some (.cells (c.setIfInBounds i x) e fz) else none
  | _ => none
def stoNOf (o : Option Obj) (i n : Nat) (xs : List Value) : Option Obj :=
  match o with
  | some (.cells c e (0, 0)) => if i + n ≤ c.size ∧ xs.length = n ∧ xs.all (·.oneCell') = true then some (.cells (c.toList.take i ++ xs ++ c.toList.drop (i + n)).toArray e (0, 0)) else none
  | _ => none
def optE {α : Type} (o : Option α) (K : α → Prop) (far : Prop) : Prop :=
  match o with
  | some v => K v
  | none => far
theorem optE_some {α : Type} (v : α) (K : α → Prop) (far : Prop) : optE (some v) K far = K v := rfl
@[go_sem] theorem cellOf_CB (l : List Value) (t : TypeId) (i : Nat) : cellOf (some (CB l t)) i = l[i]? := by simp [cellOf]
theorem rowOf_CB (l : List Value) (t : TypeId) (i n : Nat) (h : i + n ≤ l.length) : rowOf (some (CB l t)) i n = some ((l.drop i).take n) := by simp [rowOf, h]
def takeL : List Value → Nat → Option (List Value)
  | _, 0 => some []
  | [], _ + 1 => none
  | a :: l, n + 1 => (takeL l n).map (a :: ·)
def rowL : List Value → Nat → Nat → Option (List Value)
  | l, 0, n => takeL l n
  | [], _ + 1, _ => none
  | _ :: l, i + 1, n => rowL l i n
def setL : List Value → Nat → Value → Option (List Value)
  | [], _, _ => none
  | _ :: l, 0, x => some (x :: l)
  | a :: l, n + 1, x => (setL l n x).map (a :: ·)
def overL : List Value → Nat → List Value → Option (List Value)
  | l, 0, [] => some l
  | _ :: l, n + 1, x :: xs => (overL l n xs).map (x :: ·)
  | _, _, _ => none
def putL : List Value → Nat → Nat → List Value → Option (List Value)
  | l, 0, n, xs => overL l n xs
  | [], _ + 1, _, _ => none
  | a :: l, i + 1, n, xs => (putL l i n xs).map (a :: ·)
@[go_sem] theorem takeL_0 (l : List Value) : takeL l 0 = some [] := by cases l <;> rfl
@[go_sem] theorem takeL_s (a : Value) (l : List Value) (n : Nat) : takeL (a :: l) (n + 1) = (takeL l n).map (a :: ·) := rfl
@[go_sem] theorem rowL_0 (l : List Value) (n : Nat) : rowL l 0 n = takeL l n := by cases l <;> rfl
@[go_sem] theorem rowL_s (a : Value) (l : List Value) (i n : Nat) : rowL (a :: l) (i + 1) n = rowL l i n := rfl
@[go_sem] theorem setL_0 (a x : Value) (l : List Value) : setL (a :: l) 0 x = some (x :: l) := rfl
@[go_sem] theorem setL_s (a x : Value) (l : List Value) (n : Nat) : setL (a :: l) (n + 1) x = (setL l n x).map (a :: ·) := rfl
@[go_sem] theorem overL_0 (l : List Value) : overL l 0 [] = some l := by cases l <;> rfl
@[go_sem] theorem overL_s (a x : Value) (l xs : List Value) (n : Nat) : overL (a :: l) (n + 1) (x :: xs) = (overL l n xs).map (x :: ·) := rfl
@[go_sem] theorem putL_0 (l xs : List Value) (n : Nat) : putL l 0 n xs = overL l n xs := by cases l <;> rfl
@[go_sem] theorem putL_s (a : Value) (l xs : List Value) (i n : Nat) : putL (a :: l) (i + 1) n xs = (putL l i n xs).map (a :: ·) := rfl
theorem takeL_eq : ∀ (l : List Value) (n : Nat), takeL l n = if n ≤ l.length then some (l.take n) else none
  | l, 0 => by simp [takeL_0]
  | [], n + 1 => rfl
  | a :: l, n + 1 => by
    rw [takeL_s, takeL_eq l n]
    by_cases h : n ≤ l.length <;> simp [h]
theorem rowL_eq : ∀ (l : List Value) (i n : Nat), rowL l i n = if i + n ≤ l.length ∧ i ≤ l.length then some ((l.drop i).take n) else none
  | l, 0, n => by rw [rowL_0, takeL_eq]; simp
  | [], i + 1, n => by simp [rowL]
  | a :: l, i + 1, n => by
    rw [rowL_s, rowL_eq l i n]
    have e : (i + 1 + n ≤ (a :: l).length ∧ i + 1 ≤ (a :: l).length) ↔ (i + n ≤ l.length ∧ i ≤ l.length) := by simp; omega
    simp only [e, List.drop_succ_cons]
theorem setL_eq : ∀ (l : List Value) (i : Nat) (x : Value), setL l i x = if i < l.length then some (l.set i x) else none
  | [], i, x => by simp [setL]
  | a :: l, 0, x => by simp [setL]
  | a :: l, n + 1, x => by
    rw [setL_s, setL_eq l n x]
    by_cases h : n < l.length <;> simp [h]
theorem overL_eq : ∀ (l : List Value) (n : Nat) (xs : List Value), overL l n xs = if xs.length = n ∧ n ≤ l.length then some (xs ++ l.drop n) else none
  | l, 0, [] => by simp [overL_0]
  | l, 0, x :: xs => by simp [overL]
  | [], n + 1, xs => by simp [overL]
  | a :: l, n + 1, [] => by simp [overL]
  | a :: l, n + 1, x :: xs => by
    rw [overL_s, overL_eq l n xs]
    by_cases h : xs.length = n ∧ n ≤ l.length
    · simp [h]
    · rw [if_neg h, if_neg (by simpa using h)]; rfl
theorem putL_eq : ∀ (l : List Value) (i n : Nat) (xs : List Value), putL l i n xs = if i + n ≤ l.length ∧ xs.length = n then some (l.take i ++ xs ++ l.drop (i + n)) else none
  | l, 0, n, xs => by rw [putL_0, overL_eq]; simp [and_comm]
  | [], i + 1, n, xs => by
    simp only [putL]
    rw [if_neg (by simp)]
  | a :: l, i + 1, n, xs => by
    rw [putL_s, putL_eq l i n xs]
    by_cases h : i + n ≤ l.length ∧ xs.length = n
    · rw [if_pos h, if_pos (by simp; omega)]
      simp [show i + 1 + n = i + n + 1 by omega]
    · rw [if_neg h, if_neg (by simp; omega)]; rfl
@[go_sem low] theorem rowL_le (l : List Value) (i n : Nat) (h : i + n ≤ l.length) : rowL l i n = some ((l.drop i).take n) := by rw [rowL_eq, if_pos ⟨h, by omega⟩]
@[go_sem low] theorem setL_lt (l : List Value) (i : Nat) (x : Value) (h : i < l.length) : setL l i x = some (l.set i x) := by rw [setL_eq, if_pos h]
@[go_sem] theorem rowOf_L (l : List Value) (t : TypeId) (i n : Nat) (h : 0 < n) : rowOf (some (CB l t)) i n = rowL l i n := by
  rw [rowL_eq]
  simp only [rowOf, List.size_toArray]
  by_cases h1 : i + n ≤ l.length
  · rw [if_pos h1, if_pos ⟨h1, by omega⟩]
  · rw [if_neg h1, if_neg (by omega)]
@[go_sem] theorem stoOf_L (l : List Value) (t : TypeId) (i : Nat) (x : Value) : stoOf (some (CB l t)) i x = bif x.oneCell' then (setL l i x).map (CB · t) else none := by
  rw [setL_eq]
  by_cases h1 : i < l.length <;> by_cases h2 : x.oneCell' = true <;> simp [stoOf, h1, h2, frzOf]
@[go_sem] theorem stoNOf_L (l : List Value) (t : TypeId) (i n : Nat) (xs : List Value) : stoNOf (some (CB l t)) i n xs = bif xs.all (·.oneCell') then (putL l i n xs).map (CB · t) else none := by
  rw [putL_eq]
  simp only [stoNOf, List.size_toArray]
  by_cases h1 : i + n ≤ l.length <;> by_cases h2 : xs.length = n <;> by_cases h3 : xs.all (·.oneCell') = true <;> simp [h1, h2, h3]
attribute [go_sem] Option.map_some Option.isSome_some Option.getD_some cond_true List.getElem?_cons_zero List.getElem?_cons_succ Nat.zero_add Nat.add_zero List.all_cons List.all_nil Bool.and_self Bool.and_true Bool.true_and Option.bind_some
theorem optE_getD {α : Type} {o : Option α} (d : α) {K : α → Prop} {far : Prop} (h : o.isSome = true) : optE o K far = K (o.getD d) := by
  cases o with
  | none => cases h
  | some v => rfl
def noBk : Obj := .cells #[] 0 (0, 0)
theorem cell?_eq (w : World) (b o : Nat) : w.cell? ⟨b, o, none⟩ = cellOf (bk w b) o := by
  unfold World.cell? bk cellOf
  cases w.heap[b]? with
  | none => rfl
  | some ob => cases ob <;> rfl
theorem frozen?_eq (w : World) (b o : Nat) : w.frozen? ⟨b, o, none⟩ = frzOf (bk w b) o := by
  unfold World.frozen? bk frzOf
  cases w.heap[b]? with
  | none => rfl
  | some ob => cases ob <;> rfl
theorem setCell_eq (w : World) (b o : Nat) (x : Value) {c : Array Value} {e : TypeId} {fz : Nat × Nat} (h : bk w b = some (.cells c e fz)) : w.setCell ⟨b, o, none⟩ x = setb w b (.cells (c.setIfInBounds o x) e fz) := by
  have hlt := bk_lt h
  unfold bk at h
  unfold World.setCell setb
  congr 1
  apply Array.ext_getElem?
  intro i
  rw [Array.getElem?_modify]
  by_cases e1 : b = i
  · subst e1
    rw [if_pos rfl, h, Array.getElem?_setIfInBounds_self_of_lt hlt]; rfl
  · rw [if_neg e1, Array.getElem?_setIfInBounds_ne e1]
theorem setb_setb (w : World) (b : Nat) (o o' : Obj) : setb (setb w b o) b o' = setb w b o' := by
  unfold setb; simp
theorem setCells_eq (b : Nat) {e : TypeId} {fz : Nat × Nat} : ∀ (vs : List Value) (o : Nat) (w : World) (c : List Value), bk w b = some (.cells c.toArray e fz) → o + vs.length ≤ c.length →
    w.setCells b o vs = setb w b (.cells (c.take o ++ vs ++ c.drop (o + vs.length)).toArray e fz)
  | [], o, w, c, h, hl => by
    have hlt := bk_lt h
    simp only [World.setCells, List.append_nil, List.length_nil, Nat.add_zero, List.take_append_drop]
    unfold bk at h
    unfold setb
    cases w
    congr 1
    apply Array.ext_getElem?
    intro i
    by_cases e1 : b = i
    · subst e1; rw [Array.getElem?_setIfInBounds_self_of_lt hlt]; exact h
    · rw [Array.getElem?_setIfInBounds_ne e1]
  | v :: vs, o, w, c, h, hl => by
    have hlt := bk_lt h
    simp only [List.length_cons] at hl
    simp only [World.setCells]
    rw [setCell_eq w b o v h]
    rw [setCells_eq (e := e) (fz := fz) b vs (o + 1) _ (c.set o v) (by rw [bk_setb_eq _ _ _ _ rfl hlt]; simp) (by simp; omega), setb_setb]
    have e1 : (c.set o v).take (o + 1) = c.take o ++ [v] := by
      have ho : o < c.length := by omega
      apply List.ext_getElem (by simp; omega)
      intro i h1 h2
      simp only [List.getElem_take, List.getElem_set, List.getElem_append, List.length_take, List.getElem_singleton]
      have hi : i < o + 1 := by simp at h1; omega
      by_cases e1 : o = i
      · subst e1; simp; intro h; omega
      · have : i < min o c.length := by omega
        simp [e1, this]
    have e2 : (c.set o v).drop (o + 1 + vs.length) = c.drop (o + (v :: vs).length) := by
      apply List.ext_getElem?
      intro i
      simp only [List.getElem?_drop, List.length_cons]
      rw [List.getElem?_set_ne (by omega)]
      congr 1; omega
    rw [e1, e2]; simp
section
variable {P : Program} (K : Value → World → Prop) (w : World)
def farK (P : Program) (s : Sem Next) (w : World) (K : Value → World → Prop) : Prop := st P s w K
def farR (P : Program) (s : Sem Next) (w : World) (K : Value → Prop) : Prop := rd P s w K
def farH (P : Program) (s : Sem Next) (v : Value) (w : World) : Prop := hold P s v w
def farP (P : Program) (s : Sem Next) (K : Value → Prop) : Prop := pu P s K
def farL (P : Program) (t : TypeId) (x : Value) (w : World) (K : Value → Prop) : Prop := rsl P t x w K
theorem run_load1 {t : TypeId} {d : TypeDesc} (h : P.underlying t = some d) (hd : d.isRow = false) {b o : Nat} {v : Value} (hv : cellOf (bk w b) o = some v) : (loadVar t ⟨b, o, none⟩).run P w = .ok v w := by
  rw [← cell?_eq] at hv
  have hagg : (isAgg t).run P w = .ok false w := by
    unfold isAgg
    rw [Sem.run_bind, run_underlying h w]
    cases d <;> simp_all
  simp [loadVar, Sem.run_bind, hagg, hv]
theorem run_loadN {t : TypeId} {d : TypeDesc} {n : Nat} (h : P.underlying t = some d) (hd : d.isRow = true) (hn : (P.info? t).map (·.size) = some n) {b o : Nat} {l : List Value} (hv : rowOf (bk w b) o n = some l) :
    (loadVar t ⟨b, o, none⟩).run P w = .ok (AG l) w := by
  unfold rowOf at hv
  cases hb : bk w b with
  | none => rw [hb] at hv; cases hv
  | some ob =>
    rw [hb] at hv
    cases ob with
    | cells c e fz =>
      simp only at hv
      by_cases hle : o + n ≤ c.size
      · rw [if_pos hle] at hv
        injection hv with hv
        have hlen : l.length = n := by rw [← hv]; simp; omega
        refine run_loadVar_mid w b o t l d (fun j v hj => ?_) h hd (by rw [hlen]; exact hn)
        rw [cell?_eq, hb]
        show c[o + j]? = some v
        rw [← hv] at hj
        have hjn : j < n := by have := (List.getElem?_eq_some_iff.1 hj).1; simp at this; omega
        rw [List.getElem?_take_of_lt hjn, List.getElem?_drop] at hj
        simpa using hj
      · rw [if_neg hle] at hv; cases hv
    | _ => simp at hv
theorem oLoad1 {t : TypeId} {d : TypeDesc} (h : P.underlying t = some d) (hd : d.isRow = false) (b o : Nat) :
    st P (oLoad t (pt b o)) w K = optE (cellOf (bk w b) o) (fun v => K v w) (farK P (oLoad t (pt b o)) w K) := by
  cases hv : cellOf (bk w b) o with
  | none => rfl
  | some v => exact st_eq_value (run_v' (by simp only [Instr.loadAt, Instr.sureAddr, Sem.run_bind, Sem.run_pure, Result.andThen_ok]; exact run_load1 w h hd hv))
theorem oLoadN {t : TypeId} {d : TypeDesc} {n : Nat} (h : P.underlying t = some d) (hd : d.isRow = true) (hn : (P.info? t).map (·.size) = some n) (b o : Nat) :
    st P (oLoad t (pt b o)) w K = optE (rowOf (bk w b) o n) (fun l => K (AG l) w) (farK P (oLoad t (pt b o)) w K) := by
  cases hv : rowOf (bk w b) o n with
  | none => rfl
  | some v => exact st_eq_value (run_v' (by simp only [Instr.loadAt, Instr.sureAddr, Sem.run_bind, Sem.run_pure, Result.andThen_ok]; exact run_loadN w h hd hn hv))
theorem rLoad1 (K : Value → Prop) {t : TypeId} {d : TypeDesc} (h : P.underlying t = some d) (hd : d.isRow = false) (b o : Nat) :
    rd P (oLoad t (pt b o)) w K = optE (cellOf (bk w b) o) K (farR P (oLoad t (pt b o)) w K) := by
  cases hv : cellOf (bk w b) o with
  | none => rfl
  | some v => exact rd_eq (run_v' (by simp only [Instr.loadAt, Instr.sureAddr, Sem.run_bind, Sem.run_pure, Result.andThen_ok]; exact run_load1 w h hd hv))
theorem rLoadN (K : Value → Prop) {t : TypeId} {d : TypeDesc} {n : Nat} (h : P.underlying t = some d) (hd : d.isRow = true) (hn : (P.info? t).map (·.size) = some n) (b o : Nat) :
    rd P (oLoad t (pt b o)) w K = optE (rowOf (bk w b) o n) (fun l => K (AG l)) (farR P (oLoad t (pt b o)) w K) := by
  cases hv : rowOf (bk w b) o n with
  | none => rfl
  | some v => exact rd_eq (run_v' (by simp only [Instr.loadAt, Instr.sureAddr, Sem.run_bind, Sem.run_pure, Result.andThen_ok]; exact run_loadN w h hd hn hv))
theorem hLoad1 (v' : Value) {t : TypeId} {d : TypeDesc} (h : P.underlying t = some d) (hd : d.isRow = false) (b o : Nat) :
    hold P (oLoad t (pt b o)) v' w = optE (cellOf (bk w b) o) (fun v => v = v') (farH P (oLoad t (pt b o)) v' w) := by
  cases hv : cellOf (bk w b) o with
  | none => rfl
  | some v => exact hold_eq (run_v' (by simp only [Instr.loadAt, Instr.sureAddr, Sem.run_bind, Sem.run_pure, Result.andThen_ok]; exact run_load1 w h hd hv))
theorem hLoadN (v' : Value) {t : TypeId} {d : TypeDesc} {n : Nat} (h : P.underlying t = some d) (hd : d.isRow = true) (hn : (P.info? t).map (·.size) = some n) (b o : Nat) :
    hold P (oLoad t (pt b o)) v' w = optE (rowOf (bk w b) o n) (fun l => AG l = v') (farH P (oLoad t (pt b o)) v' w) := by
  cases hv : rowOf (bk w b) o n with
  | none => rfl
  | some v => exact hold_eq (run_v' (by simp only [Instr.loadAt, Instr.sureAddr, Sem.run_bind, Sem.run_pure, Result.andThen_ok]; exact run_loadN w h hd hn hv))
theorem rslN (K : Value → Prop) {t : TypeId} {d : TypeDesc} {n : Nat} (h : P.underlying t = some d) (hd : d.isRow = true) (hn : (P.info? t).map (·.size) = some n) (b o : Nat) :
    rsl P t (pt b o) w K = optE (rowOf (bk w b) o n) (fun l => K (AG l)) (farL P t (pt b o) w K) := by
  cases hv : rowOf (bk w b) o n with
  | none => rfl
  | some v =>
    have hr : (do loadVar t (← asAddr (pt b o)) : Sem Value).run P w = .ok (AG v) w := by
      have := run_loadN w h hd hn hv
      simpa [asAddr] using this
    exact propext ⟨fun x => by obtain ⟨v', h', k⟩ := x.h; rw [hr] at h'; injection h' with h1; subst h1; exact k, fun x => ⟨⟨_, hr, x⟩⟩⟩
theorem run_store1 {t : TypeId} (hn : (P.info? t).map (·.size) = some 1) {b o : Nat} {x : Value} {ob : Obj} (hv : stoOf (bk w b) o x = some ob) : (storeVar t ⟨b, o, none⟩ x).run P w = .ok () (setb w b ob) := by
  unfold stoOf at hv
  cases hb : bk w b with
  | none => rw [hb] at hv; cases hv
  | some ob' =>
    rw [hb] at hv
    cases ob' with
    | cells c e fz =>
      simp only at hv
      by_cases hle : o < c.size ∧ frzOf (some (.cells c e fz)) o = false ∧ x.oneCell' = true
      · rw [if_pos hle] at hv
        have hx := hle.2.2
        injection hv with hv
        have hcells : x.cells = #[x] := by cases x <;> first | rfl | (simp [Value.oneCell'] at hx)
        have hc : w.cell? ⟨b, o, none⟩ = some c[o] := by rw [cell?_eq, hb]; show c[o]? = _; simp [hle.1]
        have hf : w.frozen? ⟨b, o, none⟩ = false := by rw [frozen?_eq, hb]; exact hle.2.1
        cases hq : P.info? t with
        | none => simp [hq] at hn
        | some i =>
          have hs : i.size = 1 := by simpa [hq] using hn
          have hst : (store ⟨b, o, none⟩ x).run P w = .ok () (setb w b ob) := by
            rw [run_store P w _ x _ hx, hc]
            simp only [hf, Bool.false_eq_true, if_false]
            rw [setCell_eq w b o x hb, hv]
          have hadd : (Addr.mk b o none).add 0 = ⟨b, o, none⟩ := rfl
          simp [storeVar, Sem.run_bind, sizeOf, typeInfo, hq, hs, hcells, storeCells, hadd, hst]
      · rw [if_neg hle] at hv; cases hv
    | _ => simp at hv
theorem run_storeN {t : TypeId} {n : Nat} {xs : List Value} (hn : (P.info? t).map (·.size) = some n) {b o : Nat} {ob : Obj} (hv : stoNOf (bk w b) o n xs = some ob) :
    (storeVar t ⟨b, o, none⟩ (AG xs)).run P w = .ok () (setb w b ob) := by
  unfold stoNOf at hv
  cases hb : bk w b with
  | none => rw [hb] at hv; cases hv
  | some ob' =>
    rw [hb] at hv
    cases ob' with
    | cells c e fz =>
      obtain ⟨lo, hi⟩ := fz
      cases lo with
      | succ lo => simp at hv
      | zero =>
        cases hi with
        | succ hi => simp at hv
        | zero =>
          simp only at hv
          by_cases hle0 : o + n ≤ c.size ∧ xs.length = n ∧ xs.all (·.oneCell') = true
          · rw [if_pos hle0] at hv
            obtain ⟨hle, hlen, hx⟩ := hle0
            subst hlen
            injection hv with hv
            have hth : w.there b o xs.toArray.size := fun j hj => by
              have hj' : j < xs.length := by simpa using hj
              constructor
              · rw [cell?_eq, hb]
                show (c[o + j]?).isSome = true
                simp; omega
              · rw [frozen?_eq, hb]
                show (decide (0 ≤ o + j) && decide (o + j < 0)) = false
                simp
            have hr := run_storeVar_mid (P := P) w b o t xs.toArray hth (by simpa using hn) (by simpa using hx)
            rw [show (AG xs) = .agg xs.toArray from rfl, hr]
            congr 1
            rw [show xs.toArray.toList = xs by simp]
            rw [setCells_eq b xs o w c.toList (e := e) (fz := (0, 0)) (by simpa using hb) (by simpa using hle), ← hv]
          · rw [if_neg hle0] at hv; cases hv
    | _ => simp at hv
theorem oStore1 {t : TypeId} (hn : (P.info? t).map (·.size) = some 1) (b o : Nat) (x : Value) :
    st P (oStore t (pt b o) x) w K = optE (stoOf (bk w b) o x) (fun ob => K undef (setb w b ob)) (farK P (oStore t (pt b o) x) w K) := by
  cases hv : stoOf (bk w b) o x with
  | none => rfl
  | some v => exact st_eq_skip (run_u' (by simp only [Instr.storeAt, Instr.sureAddr, Sem.run_bind, Sem.run_pure, Result.andThen_ok]; exact run_store1 w hn hv))
theorem oStoreN {t : TypeId} {n : Nat} (hn : (P.info? t).map (·.size) = some n) (b o : Nat) (xs : List Value) :
    st P (oStore t (pt b o) (AG xs)) w K = optE (stoNOf (bk w b) o n xs) (fun ob => K undef (setb w b ob)) (farK P (oStore t (pt b o) (AG xs)) w K) := by
  cases hv : stoNOf (bk w b) o n xs with
  | none => rfl
  | some v => exact st_eq_skip (run_u' (by simp only [Instr.storeAt, Instr.sureAddr, Sem.run_bind, Sem.run_pure, Result.andThen_ok]; exact run_storeN w hn hv))
theorem oAlloc_of {t : TypeId} {l : List Value} {z : Value} (hz : ∀ w, (zeroValue t).run P w = .ok z w) (hc : z.cells = l.toArray) : st P (oAlloc t) w K = K (pt w.heap.size 0) (w.alloc (CB l t)) :=
  st_eq_value (run_v' (by simp [Instr.alloc, hz, newVar, newRow, hc]))
@[go_sem] theorem oBox_agg (t : TypeId) (l : List Value) : st P (oBox t (AG l)) w K = K (pt w.heap.size 0) (w.alloc (CB l t)) :=
  st_eq_value (run_v' (by simp [Instr.box, newVar, newRow, AG, Value.cells]))
@[go_sem] theorem oneC_bool (b : Bool) : (Value.bool b).oneCell' = true := rfl
@[go_sem] theorem oneC_int (k : IntKind) (n : Int) : (Value.int k n).oneCell' = true := rfl
@[go_sem] theorem oneC_string (s : ByteArray) : (Value.string s).oneCell' = true := rfl
@[go_sem] theorem oneC_pointer (a : Option Addr) : (Value.pointer a).oneCell' = true := rfl
@[go_sem] theorem oneC_slice (a : Option Addr) (n c : Nat) : (Value.slice a n c).oneCell' = true := rfl
@[go_sem] theorem oneC_map (a : Option Nat) : (Value.map a).oneCell' = true := rfl
@[go_sem] theorem oneC_iface (t : TypeId) (v : Value) : (Value.iface t v).oneCell' = true := rfl
@[go_sem] theorem oneC_nilIface : Value.nilIface.oneCell' = true := rfl
@[go_sem] theorem oneC_nilFunc : Value.nilFunc.oneCell' = true := rfl
@[go_sem] theorem oneC_func (f : Fn) (a b : Array Value) : (Value.func f a b).oneCell' = true := rfl
@[go_sem] theorem oneC_agg (a : Array Value) : (Value.agg a).oneCell' = false := rfl
@[go_sem] theorem oneCell_S (l : List UInt8) : (S l).oneCell' = true := rfl
def cellsL (v : Value) : List Value := v.cells.toList
@[go_sem] theorem cellsL_AG (l : List Value) : cellsL (AG l) = l := rfl
@[go_sem] theorem cellsL_int (k : IntKind) (n : Int) : cellsL (.int k n) = [.int k n] := rfl
@[go_sem] theorem cellsL_bool (b : Bool) : cellsL (.bool b) = [.bool b] := rfl
@[go_sem] theorem cellsL_S (l : List UInt8) : cellsL (S l) = [S l] := rfl
@[go_sem] theorem cellsL_ptr (a : Option Addr) : cellsL (.pointer a) = [.pointer a] := rfl
@[go_sem] theorem cellsL_slice (a : Option Addr) (n m : Nat) : cellsL (.slice a n m) = [.slice a n m] := rfl
@[go_sem] theorem cellsL_map (r : Option Nat) : cellsL (.map r) = [.map r] := rfl
@[go_sem] theorem cellsL_iface (t : TypeId) (v : Value) : cellsL (.iface t v) = [.iface t v] := rfl
@[go_sem] theorem cellsL_nilIface : cellsL .nilIface = [.nilIface] := rfl
@[go_sem] theorem cellsL_nilFunc : cellsL .nilFunc = [.nilFunc] := rfl
@[go_sem] theorem cellsL_func (f : Fn) (a b : Array Value) : cellsL (.func f a b) = [.func f a b] := rfl
def fillL (pl : List (Nat × Nat)) : List Value → List (Nat × Value) → Option (List Value)
  | cs, [] => some cs
  | cs, (i, v) :: r =>
    match pl[i]? with
    | none => none
    | some (off, n) => if (cellsL v).length = n ∧ off + n ≤ cs.length then fillL pl (cs.take off ++ cellsL v ++ cs.drop (off + n)) r else none
@[go_sem] theorem fillL_nil (pl : List (Nat × Nat)) (cs : List Value) : fillL pl cs [] = some cs := rfl
@[go_sem] theorem fillL_cons (pl : List (Nat × Nat)) (cs : List Value) (i : Nat) (v : Value) (r : List (Nat × Value)) :
    fillL pl cs ((i, v) :: r) = (pl[i]?).bind fun q => (putL cs q.1 q.2 (cellsL v)).bind fun cs => fillL pl cs r := by
  simp only [fillL]
  cases pl[i]? with
  | none => rfl
  | some q =>
    obtain ⟨off, n⟩ := q
    simp only [Option.bind_some, putL_eq]
    by_cases h : (cellsL v).length = n ∧ off + n ≤ cs.length
    · rw [if_pos h, if_pos ⟨h.2, h.1⟩]; rfl
    · rw [if_neg h, if_neg (by omega)]; rfl
theorem foldl_set (off : Nat) : ∀ (vs : List Value) (j : Nat) (cs : Array Value), off + j + vs.length ≤ cs.size →
    ((vs.zipIdx j).foldl (fun cs (x : Value × Nat) => cs.setIfInBounds (off + x.2) x.1) cs).toList = cs.toList.take (off + j) ++ vs ++ cs.toList.drop (off + j + vs.length)
  | [], j, cs, _ => by simp
  | v :: vs, j, cs, h => by
    simp only [List.length_cons] at h
    simp only [List.zipIdx_cons, List.foldl_cons]
    rw [foldl_set off vs (j + 1) _ (by simp; omega)]
    have ho : off + j < cs.toList.length := by simp; omega
    simp only [Array.toList_setIfInBounds]
    have e1 : (cs.toList.set (off + j) v).take (off + (j + 1)) = cs.toList.take (off + j) ++ [v] := by
      apply List.ext_getElem (by simp; omega)
      intro i h1 h2
      simp only [List.getElem_take, List.getElem_set, List.getElem_append, List.length_take, List.getElem_singleton]
      have hi : i < off + j + 1 := by simp at h1; omega
      by_cases e1 : off + j = i
      · subst e1; simp; intro h; omega
      · have : i < min (off + j) cs.toList.length := by omega
        simp at this
        simp [e1, this]
    have e2 : (cs.toList.set (off + j) v).drop (off + (j + 1) + vs.length) = cs.toList.drop (off + j + (v :: vs).length) := by
      apply List.ext_getElem?
      intro i
      simp only [List.getElem?_drop, List.length_cons]
      rw [List.getElem?_set_ne (by omega)]
      congr 1; omega
    rw [e1, e2]; simp
theorem fill_eq (pl : List (Nat × Nat)) : ∀ (ps : List (Nat × Value)) (cs : List Value) (out : List Value), fillL pl cs ps = some out → Instr.fill (fun i => pl[i]?) cs.toArray ps = some out.toArray
  | [], cs, out, h => by simp only [fillL, Option.some.injEq] at h; subst h; rfl
  | (i, v) :: r, cs, out, h => by
    simp only [fillL] at h
    simp only [Instr.fill]
    cases hp : pl[i]? with
    | none => rw [hp] at h; cases h
    | some q =>
      obtain ⟨off, n⟩ := q
      rw [hp] at h
      simp only at h
      by_cases hc : (cellsL v).length = n ∧ off + n ≤ cs.length
      · rw [if_pos hc] at h
        obtain ⟨h1, h2⟩ := hc
        have h3 : v.cells.size = n := by rw [← h1]; simp [cellsL]
        have h4 : (decide (v.cells.size ≠ n) || decide (off + v.cells.size > cs.toArray.size)) = false := by simp [h3]; omega
        simp only [h4, Bool.false_eq_true, if_false]
        have e : (v.cells.zipIdx.foldl (fun cs (x : Value × Nat) => cs.setIfInBounds (off + x.2) x.1) cs.toArray) = (cs.take off ++ cellsL v ++ cs.drop (off + n)).toArray := by
          apply Array.toList_inj.1
          have := foldl_set off (cellsL v) 0 cs.toArray (by simp; omega)
          rw [← Array.foldl_toList]
          simp only [Array.toList_zipIdx]
          rw [show v.cells.toList.zipIdx 0 = (cellsL v).zipIdx 0 from rfl, this]
          simp [h1]
        rw [e]
        exact fill_eq pl r _ out h
      · rw [if_neg hc] at h; cases h
theorem oBuild_of (K : Value → Prop) {t : TypeId} {fields : Array Field} {z : Value} {zs : List Value} {pl : List (Nat × Nat)} {ps : Array (Nat × Value)} (h : P.underlying t = some (.struct fields)) (hz : rp P (zeroValue t) = some z) (hc : z.cells = zs.toArray)
    (hp : rp P (fields.mapM fun f => do pure (f.offset, ← sizeOf f.type)) = some pl.toArray) :
    pu P (oBuild t ps) K = optE (fillL pl zs ps.toList) (fun l => K (AG l)) (farP P (oBuild t ps) K) := by
  cases hv : fillL pl zs ps.toList with
  | none => rfl
  | some l =>
    have hf := fill_eq pl ps.toList zs l hv
    refine pu_v' ?_
    unfold Instr.build
    simp only [rp_bind, hz, Option.bind_some, rp_underlying h, hp, hc]
    have e : (fun i : Nat => pl.toArray[i]?) = fun i : Nat => pl[i]? := by funext i; simp
    simp only [e, hf]
    rfl
def eqF (P : Program) (d : Nat) (xs ys : Array Value) : List Field → Option Bool
  | [] => some true
  | f :: fs =>
    if f.name ≠ "_" then
      (rp P (part f.type xs f.offset)).bind fun a => (rp P (part f.type ys f.offset)).bind fun b => (rp P (Op.equalIn d f.type a b)).bind fun r => if r = true then eqF P d xs ys fs else some false
    else eqF P d xs ys fs
theorem rp_ite {α : Type} (c : Prop) [Decidable c] (x y : Sem α) : rp P (if c then x else y) = if c then rp P x else rp P y := by split <;> rfl
theorem rp_eq_struct {t : TypeId} {fields : Array Field} {d : Nat} {xs ys : Array Value} (h : P.underlying t = some (.struct fields)) (hs : P.stoodInHeld t = false) :
    rp P (Op.equalIn (d + 1) t (.agg xs) (.agg ys)) = eqF P d xs ys fields.toList := by
  simp only [Op.equalIn, rp_bind, rp_underlying h, Option.bind_some, rp_program, hs, Bool.false_eq_true, if_false]
  rw [← Array.forIn_toList]
  generalize fields.toList = fs
  clear h
  induction fs with
  | nil => simp [eqF, rp_bind]
  | cons f fs ih =>
    simp only [List.forIn_cons, eqF, rp_bind, rp_ite]
    split
    · cases h1 : rp P (part f.type xs f.offset) with
      | none => simp [h1]
      | some a =>
        cases h2 : rp P (part f.type ys f.offset) with
        | none => simp [h1, h2]
        | some b =>
          cases h3 : rp P (Op.equalIn d f.type a b) with
          | none => simp [h1, h2, h3]
          | some r =>
            cases r
            · simp [h1, h2, h3]
            · simpa [h1, h2, h3] using ih
    · simpa [rp_bind] using ih
theorem rp_part1 {t : TypeId} {d : TypeDesc} {xs : Array Value} {off : Nat} {v : Value} (h : P.underlying t = some d) (hd : d.isRow = false) (hx : xs[off]? = some v) : rp P (part t xs off) = some v := by
  have hagg : rp P (isAgg t) = some false := by
    unfold isAgg
    rw [rp_bind, rp_underlying h]
    cases d <;> simp_all
  simp [part, rp_bind, hagg, hx]
theorem rp_eqI {t : TypeId} {k j : IntKind} {d : Nat} {a b : Int} (h : P.underlying t = some (.int j)) : rp P (Op.equalIn (d + 1) t (.int k a) (.int k b)) = some (decide (a = b)) := by
  simp [Op.equalIn, rp_bind, rp_underlying h]
  by_cases e : a = b <;> simp [e]
theorem rp_eqB {t : TypeId} {d : Nat} {a b : Bool} (h : P.underlying t = some .bool) : rp P (Op.equalIn (d + 1) t (.bool a) (.bool b)) = some (decide (a = b)) := by
  simp [Op.equalIn, rp_bind, rp_underlying h]
  cases a <;> cases b <;> rfl
theorem rp_eqS {t : TypeId} {d : Nat} {a b : List UInt8} (h : P.underlying t = some .string) : rp P (Op.equalIn (d + 1) t (S a) (S b)) = some (decide (a = b)) := by
  simp only [S, Op.equalIn, rp_bind, rp_underlying h, Option.bind_some, rp_pure, Option.some.injEq]
  rw [beq_toListBytes]
  simp
  by_cases e : a = b <;> simp [e]
theorem eqF_cons {d : Nat} {xs ys : Array Value} {f : Field} {fs : List Field} {a b : Value} {r : Bool} {e : Bool} (hn : f.name ≠ "_") (ha : rp P (part f.type xs f.offset) = some a) (hb : rp P (part f.type ys f.offset) = some b)
    (hr : rp P (Op.equalIn d f.type a b) = some r) (he : eqF P d xs ys fs = some e) : eqF P d xs ys (f :: fs) = some (r && e) := by
  simp only [eqF, hn, ne_eq, not_false_eq_true, if_true, ha, hb, hr, Option.bind_some, he]
  cases r <;> rfl
theorem bin_ne_agg (K : Value → Prop) {t : TypeId} {cx cy : Bool} {xs ys : List Value} {e : Bool} (hg : P.eqGuardType P.depth t = false) (he : rp P (Op.equal t (AG xs) (AG ys)) = some e) :
    pu P (oBin .neq t cx cy (AG xs) (AG ys)) K = K (.bool (!e)) :=
  pu_v' (by
    rw [rp_bind]
    have : rp P (eqGuard .neq t (fl cx) (fl cy) (AG xs) (AG ys)) = some () := by
      simp [eqGuard, AG, rp_bind, hg]
    rw [this]
    simp only [Option.bind_some]
    have e2 : binOp .neq t (AG xs) (AG ys) = (do pure (.bool (!(← Op.equal t (AG xs) (AG ys))))) := rfl
    rw [e2, rp_bind, he]; rfl)
end
end Go.X
end
section
namespace Go.Proofs.YteblpejgenehfaaDoor.X
open Go Go.X Go.Proofs
namespace M
theorem ld_int64 (K : Value → World → Prop) (w : World) (b o : Nat) (h : (cellOf (bk w b) o).isSome = true) : st P (oLoad T.int64 (pt b o)) w K = K ((cellOf (bk w b) o).getD undef) w := (oLoad1 K w Tryd.underlying2 rfl b o).trans (optE_getD undef h)
theorem rd_int64 (K : Value → Prop) (w : World) (b o : Nat) (h : (cellOf (bk w b) o).isSome = true) : rd P (oLoad T.int64 (pt b o)) w K = K ((cellOf (bk w b) o).getD undef) := (rLoad1 w K Tryd.underlying2 rfl b o).trans (optE_getD undef h)
theorem hd_int64 (v' : Value) (w : World) (b o : Nat) (h : (cellOf (bk w b) o).isSome = true) : hold P (oLoad T.int64 (pt b o)) v' w = ((cellOf (bk w b) o).getD undef = v') := (hLoad1 w v' Tryd.underlying2 rfl b o).trans (optE_getD undef h)
theorem ld_int (K : Value → World → Prop) (w : World) (b o : Nat) (h : (cellOf (bk w b) o).isSome = true) : st P (oLoad T.int (pt b o)) w K = K ((cellOf (bk w b) o).getD undef) w := (oLoad1 K w Tryd.underlying3 rfl b o).trans (optE_getD undef h)
theorem rd_int (K : Value → Prop) (w : World) (b o : Nat) (h : (cellOf (bk w b) o).isSome = true) : rd P (oLoad T.int (pt b o)) w K = K ((cellOf (bk w b) o).getD undef) := (rLoad1 w K Tryd.underlying3 rfl b o).trans (optE_getD undef h)
theorem hd_int (v' : Value) (w : World) (b o : Nat) (h : (cellOf (bk w b) o).isSome = true) : hold P (oLoad T.int (pt b o)) v' w = ((cellOf (bk w b) o).getD undef = v') := (hLoad1 w v' Tryd.underlying3 rfl b o).trans (optE_getD undef h)
theorem ld_bool (K : Value → World → Prop) (w : World) (b o : Nat) (h : (cellOf (bk w b) o).isSome = true) : st P (oLoad T.bool (pt b o)) w K = K ((cellOf (bk w b) o).getD undef) w := (oLoad1 K w Tryd.underlying4 rfl b o).trans (optE_getD undef h)
theorem rd_bool (K : Value → Prop) (w : World) (b o : Nat) (h : (cellOf (bk w b) o).isSome = true) : rd P (oLoad T.bool (pt b o)) w K = K ((cellOf (bk w b) o).getD undef) := (rLoad1 w K Tryd.underlying4 rfl b o).trans (optE_getD undef h)
theorem hd_bool (v' : Value) (w : World) (b o : Nat) (h : (cellOf (bk w b) o).isSome = true) : hold P (oLoad T.bool (pt b o)) v' w = ((cellOf (bk w b) o).getD undef = v') := (hLoad1 w v' Tryd.underlying4 rfl b o).trans (optE_getD undef h)
theorem ld_uint8 (K : Value → World → Prop) (w : World) (b o : Nat) (h : (cellOf (bk w b) o).isSome = true) : st P (oLoad T.uint8 (pt b o)) w K = K ((cellOf (bk w b) o).getD undef) w := (oLoad1 K w Tryd.underlying5 rfl b o).trans (optE_getD undef h)
theorem ld_string (K : Value → World → Prop) (w : World) (b o : Nat) (h : (cellOf (bk w b) o).isSome = true) : st P (oLoad T.string (pt b o)) w K = K ((cellOf (bk w b) o).getD undef) w := (oLoad1 K w Tryd.underlying9 rfl b o).trans (optE_getD undef h)
theorem rd_string (K : Value → Prop) (w : World) (b o : Nat) (h : (cellOf (bk w b) o).isSome = true) : rd P (oLoad T.string (pt b o)) w K = K ((cellOf (bk w b) o).getD undef) := (rLoad1 w K Tryd.underlying9 rfl b o).trans (optE_getD undef h)
theorem hd_string (v' : Value) (w : World) (b o : Nat) (h : (cellOf (bk w b) o).isSome = true) : hold P (oLoad T.string (pt b o)) v' w = ((cellOf (bk w b) o).getD undef = v') := (hLoad1 w v' Tryd.underlying9 rfl b o).trans (optE_getD undef h)
theorem ld_sl_uint8 (K : Value → World → Prop) (w : World) (b o : Nat) (h : (cellOf (bk w b) o).isSome = true) : st P (oLoad T.sl_uint8 (pt b o)) w K = K ((cellOf (bk w b) o).getD undef) w := (oLoad1 K w Tryd.underlying22 rfl b o).trans (optE_getD undef h)
theorem rd_sl_uint8 (K : Value → Prop) (w : World) (b o : Nat) (h : (cellOf (bk w b) o).isSome = true) : rd P (oLoad T.sl_uint8 (pt b o)) w K = K ((cellOf (bk w b) o).getD undef) := (rLoad1 w K Tryd.underlying22 rfl b o).trans (optE_getD undef h)
theorem hd_sl_uint8 (v' : Value) (w : World) (b o : Nat) (h : (cellOf (bk w b) o).isSome = true) : hold P (oLoad T.sl_uint8 (pt b o)) v' w = ((cellOf (bk w b) o).getD undef = v') := (hLoad1 w v' Tryd.underlying22 rfl b o).trans (optE_getD undef h)
theorem ld_impl_Step (K : Value → World → Prop) (w : World) (b o : Nat) (h : (rowOf (bk w b) o 10).isSome = true) : st P (oLoad T.impl_Step (pt b o)) w K = K (AG ((rowOf (bk w b) o 10).getD [])) w := (oLoadN (n := 10) K w Tryd.underlying27 rfl (by kernel_rfl) b o).trans (optE_getD [] h)
theorem ld_sl_string (K : Value → World → Prop) (w : World) (b o : Nat) (h : (cellOf (bk w b) o).isSome = true) : st P (oLoad T.sl_string (pt b o)) w K = K ((cellOf (bk w b) o).getD undef) w := (oLoad1 K w Tryd.underlying32 rfl b o).trans (optE_getD undef h)
theorem rd_sl_string (K : Value → Prop) (w : World) (b o : Nat) (h : (cellOf (bk w b) o).isSome = true) : rd P (oLoad T.sl_string (pt b o)) w K = K ((cellOf (bk w b) o).getD undef) := (rLoad1 w K Tryd.underlying32 rfl b o).trans (optE_getD undef h)
theorem hd_sl_string (v' : Value) (w : World) (b o : Nat) (h : (cellOf (bk w b) o).isSome = true) : hold P (oLoad T.sl_string (pt b o)) v' w = ((cellOf (bk w b) o).getD undef = v') := (hLoad1 w v' Tryd.underlying32 rfl b o).trans (optE_getD undef h)
theorem ld_sl_impl_Info (K : Value → World → Prop) (w : World) (b o : Nat) (h : (cellOf (bk w b) o).isSome = true) : st P (oLoad T.sl_impl_Info (pt b o)) w K = K ((cellOf (bk w b) o).getD undef) w := (oLoad1 K w Tryd.underlying33 rfl b o).trans (optE_getD undef h)
theorem rd_sl_impl_Info (K : Value → Prop) (w : World) (b o : Nat) (h : (cellOf (bk w b) o).isSome = true) : rd P (oLoad T.sl_impl_Info (pt b o)) w K = K ((cellOf (bk w b) o).getD undef) := (rLoad1 w K Tryd.underlying33 rfl b o).trans (optE_getD undef h)
theorem hd_sl_impl_Info (v' : Value) (w : World) (b o : Nat) (h : (cellOf (bk w b) o).isSome = true) : hold P (oLoad T.sl_impl_Info (pt b o)) v' w = ((cellOf (bk w b) o).getD undef = v') := (hLoad1 w v' Tryd.underlying33 rfl b o).trans (optE_getD undef h)
theorem ld_impl_Answer (K : Value → World → Prop) (w : World) (b o : Nat) (h : (rowOf (bk w b) o 6).isSome = true) : st P (oLoad T.impl_Answer (pt b o)) w K = K (AG ((rowOf (bk w b) o 6).getD [])) w := (oLoadN (n := 6) K w Tryd.underlying35 rfl (by kernel_rfl) b o).trans (optE_getD [] h)
theorem rd_impl_Answer (K : Value → Prop) (w : World) (b o : Nat) (h : (rowOf (bk w b) o 6).isSome = true) : rd P (oLoad T.impl_Answer (pt b o)) w K = K (AG ((rowOf (bk w b) o 6).getD [])) := (rLoadN (n := 6) w K Tryd.underlying35 rfl (by kernel_rfl) b o).trans (optE_getD [] h)
theorem rs_impl_Answer (K : Value → Prop) (w : World) (b o : Nat) (h : (rowOf (bk w b) o 6).isSome = true) : rsl P T.impl_Answer (pt b o) w K = K (AG ((rowOf (bk w b) o 6).getD [])) := (rslN (n := 6) w K Tryd.underlying35 rfl (by kernel_rfl) b o).trans (optE_getD [] h)
theorem ld_sl_int (K : Value → World → Prop) (w : World) (b o : Nat) (h : (cellOf (bk w b) o).isSome = true) : st P (oLoad T.sl_int (pt b o)) w K = K ((cellOf (bk w b) o).getD undef) w := (oLoad1 K w Tryd.underlying44 rfl b o).trans (optE_getD undef h)
theorem rd_sl_int (K : Value → Prop) (w : World) (b o : Nat) (h : (cellOf (bk w b) o).isSome = true) : rd P (oLoad T.sl_int (pt b o)) w K = K ((cellOf (bk w b) o).getD undef) := (rLoad1 w K Tryd.underlying44 rfl b o).trans (optE_getD undef h)
theorem hd_sl_int (v' : Value) (w : World) (b o : Nat) (h : (cellOf (bk w b) o).isSome = true) : hold P (oLoad T.sl_int (pt b o)) v' w = ((cellOf (bk w b) o).getD undef = v') := (hLoad1 w v' Tryd.underlying44 rfl b o).trans (optE_getD undef h)
theorem ld_sl_spec_MemNode (K : Value → World → Prop) (w : World) (b o : Nat) (h : (cellOf (bk w b) o).isSome = true) : st P (oLoad T.sl_spec_MemNode (pt b o)) w K = K ((cellOf (bk w b) o).getD undef) w := (oLoad1 K w Tryd.underlying59 rfl b o).trans (optE_getD undef h)
theorem rd_sl_spec_MemNode (K : Value → Prop) (w : World) (b o : Nat) (h : (cellOf (bk w b) o).isSome = true) : rd P (oLoad T.sl_spec_MemNode (pt b o)) w K = K ((cellOf (bk w b) o).getD undef) := (rLoad1 w K Tryd.underlying59 rfl b o).trans (optE_getD undef h)
theorem hd_sl_spec_MemNode (v' : Value) (w : World) (b o : Nat) (h : (cellOf (bk w b) o).isSome = true) : hold P (oLoad T.sl_spec_MemNode (pt b o)) v' w = ((cellOf (bk w b) o).getD undef = v') := (hLoad1 w v' Tryd.underlying59 rfl b o).trans (optE_getD undef h)
theorem ld_map_int_p_spec_MemHandle (K : Value → World → Prop) (w : World) (b o : Nat) (h : (cellOf (bk w b) o).isSome = true) : st P (oLoad T.map_int_p_spec_MemHandle (pt b o)) w K = K ((cellOf (bk w b) o).getD undef) w := (oLoad1 K w Tryd.underlying60 rfl b o).trans (optE_getD undef h)
theorem rd_map_int_p_spec_MemHandle (K : Value → Prop) (w : World) (b o : Nat) (h : (cellOf (bk w b) o).isSome = true) : rd P (oLoad T.map_int_p_spec_MemHandle (pt b o)) w K = K ((cellOf (bk w b) o).getD undef) := (rLoad1 w K Tryd.underlying60 rfl b o).trans (optE_getD undef h)
theorem ld_p_mem_FileData (K : Value → World → Prop) (w : World) (b o : Nat) (h : (cellOf (bk w b) o).isSome = true) : st P (oLoad T.p_mem_FileData (pt b o)) w K = K ((cellOf (bk w b) o).getD undef) w := (oLoad1 K w Tryd.underlying63 rfl b o).trans (optE_getD undef h)
theorem rd_p_mem_FileData (K : Value → Prop) (w : World) (b o : Nat) (h : (cellOf (bk w b) o).isSome = true) : rd P (oLoad T.p_mem_FileData (pt b o)) w K = K ((cellOf (bk w b) o).getD undef) := (rLoad1 w K Tryd.underlying63 rfl b o).trans (optE_getD undef h)
theorem hd_p_mem_FileData (v' : Value) (w : World) (b o : Nat) (h : (cellOf (bk w b) o).isSome = true) : hold P (oLoad T.p_mem_FileData (pt b o)) v' w = ((cellOf (bk w b) o).getD undef = v') := (hLoad1 w v' Tryd.underlying63 rfl b o).trans (optE_getD undef h)
theorem ld_impl_Info (K : Value → World → Prop) (w : World) (b o : Nat) (h : (rowOf (bk w b) o 5).isSome = true) : st P (oLoad T.impl_Info (pt b o)) w K = K (AG ((rowOf (bk w b) o 5).getD [])) w := (oLoadN (n := 5) K w Tryd.underlying70 rfl (by kernel_rfl) b o).trans (optE_getD [] h)
theorem rd_impl_Info (K : Value → Prop) (w : World) (b o : Nat) (h : (rowOf (bk w b) o 5).isSome = true) : rd P (oLoad T.impl_Info (pt b o)) w K = K (AG ((rowOf (bk w b) o 5).getD [])) := (rLoadN (n := 5) w K Tryd.underlying70 rfl (by kernel_rfl) b o).trans (optE_getD [] h)
theorem rs_impl_Info (K : Value → Prop) (w : World) (b o : Nat) (h : (rowOf (bk w b) o 5).isSome = true) : rsl P T.impl_Info (pt b o) w K = K (AG ((rowOf (bk w b) o 5).getD [])) := (rslN (n := 5) w K Tryd.underlying70 rfl (by kernel_rfl) b o).trans (optE_getD [] h)
theorem ld_spec_MemNode (K : Value → World → Prop) (w : World) (b o : Nat) (h : (rowOf (bk w b) o 5).isSome = true) : st P (oLoad T.spec_MemNode (pt b o)) w K = K (AG ((rowOf (bk w b) o 5).getD [])) w := (oLoadN (n := 5) K w Tryd.underlying78 rfl (by kernel_rfl) b o).trans (optE_getD [] h)
theorem rd_spec_MemNode (K : Value → Prop) (w : World) (b o : Nat) (h : (rowOf (bk w b) o 5).isSome = true) : rd P (oLoad T.spec_MemNode (pt b o)) w K = K (AG ((rowOf (bk w b) o 5).getD [])) := (rLoadN (n := 5) w K Tryd.underlying78 rfl (by kernel_rfl) b o).trans (optE_getD [] h)
theorem hd_spec_MemNode (v' : Value) (w : World) (b o : Nat) (h : (rowOf (bk w b) o 5).isSome = true) : hold P (oLoad T.spec_MemNode (pt b o)) v' w = (AG ((rowOf (bk w b) o 5).getD []) = v') := (hLoadN (n := 5) w v' Tryd.underlying78 rfl (by kernel_rfl) b o).trans (optE_getD [] h)
theorem ld_os_FileMode (K : Value → World → Prop) (w : World) (b o : Nat) (h : (cellOf (bk w b) o).isSome = true) : st P (oLoad T.os_FileMode (pt b o)) w K = K ((cellOf (bk w b) o).getD undef) w := (oLoad1 K w Tryd.underlying93 rfl b o).trans (optE_getD undef h)
theorem ld_error (K : Value → World → Prop) (w : World) (b o : Nat) (h : (cellOf (bk w b) o).isSome = true) : st P (oLoad T.error (pt b o)) w K = K ((cellOf (bk w b) o).getD undef) w := (oLoad1 K w Tryd.underlying99 rfl b o).trans (optE_getD undef h)
theorem rd_error (K : Value → Prop) (w : World) (b o : Nat) (h : (cellOf (bk w b) o).isSome = true) : rd P (oLoad T.error (pt b o)) w K = K ((cellOf (bk w b) o).getD undef) := (rLoad1 w K Tryd.underlying99 rfl b o).trans (optE_getD undef h)
theorem ld_p_mem_FileInfo (K : Value → World → Prop) (w : World) (b o : Nat) (h : (cellOf (bk w b) o).isSome = true) : st P (oLoad T.p_mem_FileInfo (pt b o)) w K = K ((cellOf (bk w b) o).getD undef) w := (oLoad1 K w Tryd.underlying112 rfl b o).trans (optE_getD undef h)
theorem st_int64 (K : Value → World → Prop) (w : World) (b o : Nat) (x : Value) (h : (stoOf (bk w b) o x).isSome = true) : st P (oStore T.int64 (pt b o) x) w K = K undef (setb w b ((stoOf (bk w b) o x).getD noBk)) := (oStore1 K w (by kernel_rfl) b o x).trans (optE_getD noBk h)
theorem st_int (K : Value → World → Prop) (w : World) (b o : Nat) (x : Value) (h : (stoOf (bk w b) o x).isSome = true) : st P (oStore T.int (pt b o) x) w K = K undef (setb w b ((stoOf (bk w b) o x).getD noBk)) := (oStore1 K w (by kernel_rfl) b o x).trans (optE_getD noBk h)
theorem st_bool (K : Value → World → Prop) (w : World) (b o : Nat) (x : Value) (h : (stoOf (bk w b) o x).isSome = true) : st P (oStore T.bool (pt b o) x) w K = K undef (setb w b ((stoOf (bk w b) o x).getD noBk)) := (oStore1 K w (by kernel_rfl) b o x).trans (optE_getD noBk h)
theorem st_string (K : Value → World → Prop) (w : World) (b o : Nat) (x : Value) (h : (stoOf (bk w b) o x).isSome = true) : st P (oStore T.string (pt b o) x) w K = K undef (setb w b ((stoOf (bk w b) o x).getD noBk)) := (oStore1 K w (by kernel_rfl) b o x).trans (optE_getD noBk h)
theorem st_sl_uint8 (K : Value → World → Prop) (w : World) (b o : Nat) (x : Value) (h : (stoOf (bk w b) o x).isSome = true) : st P (oStore T.sl_uint8 (pt b o) x) w K = K undef (setb w b ((stoOf (bk w b) o x).getD noBk)) := (oStore1 K w (by kernel_rfl) b o x).trans (optE_getD noBk h)
theorem st_impl_Step (K : Value → World → Prop) (w : World) (b o : Nat) (xs : List Value) (h : (stoNOf (bk w b) o 10 xs).isSome = true) : st P (oStore T.impl_Step (pt b o) (AG xs)) w K = K undef (setb w b ((stoNOf (bk w b) o 10 xs).getD noBk)) := (oStoreN K w (by kernel_rfl) b o xs).trans (optE_getD noBk h)
theorem st_sl_string (K : Value → World → Prop) (w : World) (b o : Nat) (x : Value) (h : (stoOf (bk w b) o x).isSome = true) : st P (oStore T.sl_string (pt b o) x) w K = K undef (setb w b ((stoOf (bk w b) o x).getD noBk)) := (oStore1 K w (by kernel_rfl) b o x).trans (optE_getD noBk h)
theorem st_sl_impl_Info (K : Value → World → Prop) (w : World) (b o : Nat) (x : Value) (h : (stoOf (bk w b) o x).isSome = true) : st P (oStore T.sl_impl_Info (pt b o) x) w K = K undef (setb w b ((stoOf (bk w b) o x).getD noBk)) := (oStore1 K w (by kernel_rfl) b o x).trans (optE_getD noBk h)
theorem st_impl_Answer (K : Value → World → Prop) (w : World) (b o : Nat) (xs : List Value) (h : (stoNOf (bk w b) o 6 xs).isSome = true) : st P (oStore T.impl_Answer (pt b o) (AG xs)) w K = K undef (setb w b ((stoNOf (bk w b) o 6 xs).getD noBk)) := (oStoreN K w (by kernel_rfl) b o xs).trans (optE_getD noBk h)
theorem st_sl_int (K : Value → World → Prop) (w : World) (b o : Nat) (x : Value) (h : (stoOf (bk w b) o x).isSome = true) : st P (oStore T.sl_int (pt b o) x) w K = K undef (setb w b ((stoOf (bk w b) o x).getD noBk)) := (oStore1 K w (by kernel_rfl) b o x).trans (optE_getD noBk h)
theorem st_sl_spec_MemNode (K : Value → World → Prop) (w : World) (b o : Nat) (x : Value) (h : (stoOf (bk w b) o x).isSome = true) : st P (oStore T.sl_spec_MemNode (pt b o) x) w K = K undef (setb w b ((stoOf (bk w b) o x).getD noBk)) := (oStore1 K w (by kernel_rfl) b o x).trans (optE_getD noBk h)
theorem st_impl_Info (K : Value → World → Prop) (w : World) (b o : Nat) (xs : List Value) (h : (stoNOf (bk w b) o 5 xs).isSome = true) : st P (oStore T.impl_Info (pt b o) (AG xs)) w K = K undef (setb w b ((stoNOf (bk w b) o 5 xs).getD noBk)) := (oStoreN K w (by kernel_rfl) b o xs).trans (optE_getD noBk h)
theorem st_spec_MemNode (K : Value → World → Prop) (w : World) (b o : Nat) (xs : List Value) (h : (stoNOf (bk w b) o 5 xs).isSome = true) : st P (oStore T.spec_MemNode (pt b o) (AG xs)) w K = K undef (setb w b ((stoNOf (bk w b) o 5 xs).getD noBk)) := (oStoreN K w (by kernel_rfl) b o xs).trans (optE_getD noBk h)
theorem al_impl_Step (K : Value → World → Prop) (w : World) : st P (oAlloc T.impl_Step) w K = K (pt w.heap.size 0) (w.alloc (CB [.int .i64 0, S [], S [], .int .i64 0, .int .i64 0, .int .i64 0, .slice none 0 0, .int .i64 0, .int .i64 0, .int .i64 0] T.impl_Step)) := oAlloc_of K w (z := AG [.int .i64 0, S [], S [], .int .i64 0, .int .i64 0, .int .i64 0, .slice none 0 0, .int .i64 0, .int .i64 0, .int .i64 0]) (fun _ => by kernel_rfl) rfl
theorem al_impl_Answer (K : Value → World → Prop) (w : World) : st P (oAlloc T.impl_Answer) w K = K (pt w.heap.size 0) (w.alloc (CB [.int .i64 0, .int .i64 0, .int .i64 0, .slice none 0 0, .slice none 0 0, .slice none 0 0] T.impl_Answer)) := oAlloc_of K w (z := AG [.int .i64 0, .int .i64 0, .int .i64 0, .slice none 0 0, .slice none 0 0, .slice none 0 0]) (fun _ => by kernel_rfl) rfl
theorem al_impl_Info (K : Value → World → Prop) (w : World) : st P (oAlloc T.impl_Info) w K = K (pt w.heap.size 0) (w.alloc (CB [S [], .int .i64 0, .int .i64 0, .bool false, .int .i64 0] T.impl_Info)) := oAlloc_of K w (z := AG [S [], .int .i64 0, .int .i64 0, .bool false, .int .i64 0]) (fun _ => by kernel_rfl) rfl
theorem al_spec_MemNode (K : Value → World → Prop) (w : World) : st P (oAlloc T.spec_MemNode) w K = K (pt w.heap.size 0) (w.alloc (CB [.bool false, .int .i64 0, .slice none 0 0, .int .i64 0, S []] T.spec_MemNode)) := oAlloc_of K w (z := AG [.bool false, .int .i64 0, .slice none 0 0, .int .i64 0, S []]) (fun _ => by kernel_rfl) rfl
theorem bd_impl_Step (K : Value → Prop) (ps : Array (Nat × Value)) (h : (fillL [(0, 1), (1, 1), (2, 1), (3, 1), (4, 1), (5, 1), (6, 1), (7, 1), (8, 1), (9, 1)] [.int .i64 0, S [], S [], .int .i64 0, .int .i64 0, .int .i64 0, .slice none 0 0, .int .i64 0, .int .i64 0, .int .i64 0] ps.toList).isSome = true) : pu P (oBuild T.impl_Step ps) K = K (AG ((fillL [(0, 1), (1, 1), (2, 1), (3, 1), (4, 1), (5, 1), (6, 1), (7, 1), (8, 1), (9, 1)] [.int .i64 0, S [], S [], .int .i64 0, .int .i64 0, .int .i64 0, .slice none 0 0, .int .i64 0, .int .i64 0, .int .i64 0] ps.toList).getD [])) := (oBuild_of K (z := AG [.int .i64 0, S [], S [], .int .i64 0, .int .i64 0, .int .i64 0, .slice none 0 0, .int .i64 0, .int .i64 0, .int .i64 0]) Tryd.underlying27 (by kernel_rfl) rfl (by kernel_rfl)).trans (optE_getD [] h)
theorem bd_impl_Answer (K : Value → Prop) (ps : Array (Nat × Value)) (h : (fillL [(0, 1), (1, 1), (2, 1), (3, 1), (4, 1), (5, 1)] [.int .i64 0, .int .i64 0, .int .i64 0, .slice none 0 0, .slice none 0 0, .slice none 0 0] ps.toList).isSome = true) : pu P (oBuild T.impl_Answer ps) K = K (AG ((fillL [(0, 1), (1, 1), (2, 1), (3, 1), (4, 1), (5, 1)] [.int .i64 0, .int .i64 0, .int .i64 0, .slice none 0 0, .slice none 0 0, .slice none 0 0] ps.toList).getD [])) := (oBuild_of K (z := AG [.int .i64 0, .int .i64 0, .int .i64 0, .slice none 0 0, .slice none 0 0, .slice none 0 0]) Tryd.underlying35 (by kernel_rfl) rfl (by kernel_rfl)).trans (optE_getD [] h)
theorem bd0_impl_Answer (K : Value → Prop) : pu P (oBuild T.impl_Answer #[]) K = K (AG [.int .i64 0, .int .i64 0, .int .i64 0, .slice none 0 0, .slice none 0 0, .slice none 0 0]) := bd_impl_Answer K #[] rfl
theorem bd_spec_Mem (K : Value → Prop) (ps : Array (Nat × Value)) (h : (fillL [(0, 1), (1, 1), (2, 1), (3, 1)] [.slice none 0 0, .slice none 0 0, .slice none 0 0, .map none] ps.toList).isSome = true) : pu P (oBuild T.spec_Mem ps) K = K (AG ((fillL [(0, 1), (1, 1), (2, 1), (3, 1)] [.slice none 0 0, .slice none 0 0, .slice none 0 0, .map none] ps.toList).getD [])) := (oBuild_of K (z := AG [.slice none 0 0, .slice none 0 0, .slice none 0 0, .map none]) Tryd.underlying62 (by kernel_rfl) rfl (by kernel_rfl)).trans (optE_getD [] h)
theorem bd_impl_Info (K : Value → Prop) (ps : Array (Nat × Value)) (h : (fillL [(0, 1), (1, 1), (2, 1), (3, 1), (4, 1)] [S [], .int .i64 0, .int .i64 0, .bool false, .int .i64 0] ps.toList).isSome = true) : pu P (oBuild T.impl_Info ps) K = K (AG ((fillL [(0, 1), (1, 1), (2, 1), (3, 1), (4, 1)] [S [], .int .i64 0, .int .i64 0, .bool false, .int .i64 0] ps.toList).getD [])) := (oBuild_of K (z := AG [S [], .int .i64 0, .int .i64 0, .bool false, .int .i64 0]) Tryd.underlying70 (by kernel_rfl) rfl (by kernel_rfl)).trans (optE_getD [] h)
theorem bd_spec_MemNode (K : Value → Prop) (ps : Array (Nat × Value)) (h : (fillL [(0, 1), (1, 1), (2, 1), (3, 1), (4, 1)] [.bool false, .int .i64 0, .slice none 0 0, .int .i64 0, S []] ps.toList).isSome = true) : pu P (oBuild T.spec_MemNode ps) K = K (AG ((fillL [(0, 1), (1, 1), (2, 1), (3, 1), (4, 1)] [.bool false, .int .i64 0, .slice none 0 0, .int .i64 0, S []] ps.toList).getD [])) := (oBuild_of K (z := AG [.bool false, .int .i64 0, .slice none 0 0, .int .i64 0, S []]) Tryd.underlying78 (by kernel_rfl) rfl (by kernel_rfl)).trans (optE_getD [] h)
theorem bd_spec_MemHandle (K : Value → Prop) (ps : Array (Nat × Value)) (h : (fillL [(0, 1), (1, 1), (2, 1), (3, 1), (4, 1)] [.int .i64 0, .int .i64 0, .int .i64 0, .bool false, .bool false] ps.toList).isSome = true) : pu P (oBuild T.spec_MemHandle ps) K = K (AG ((fillL [(0, 1), (1, 1), (2, 1), (3, 1), (4, 1)] [.int .i64 0, .int .i64 0, .int .i64 0, .bool false, .bool false] ps.toList).getD [])) := (oBuild_of K (z := AG [.int .i64 0, .int .i64 0, .int .i64 0, .bool false, .bool false]) Tryd.underlying86 (by kernel_rfl) rfl (by kernel_rfl)).trans (optE_getD [] h)
theorem bd_mem_FileData (K : Value → Prop) (ps : Array (Nat × Value)) (h : (fillL [(0, 1), (1, 1), (2, 1), (3, 1), (4, 1), (5, 1), (6, 1), (7, 1)] [S [], .slice none 0 0, .map none, .bool false, .int .u32 0, .int .i64 0, .int .i64 0, .int .i64 0] ps.toList).isSome = true) : pu P (oBuild T.mem_FileData ps) K = K (AG ((fillL [(0, 1), (1, 1), (2, 1), (3, 1), (4, 1), (5, 1), (6, 1), (7, 1)] [S [], .slice none 0 0, .map none, .bool false, .int .u32 0, .int .i64 0, .int .i64 0, .int .i64 0] ps.toList).getD [])) := (oBuild_of K (z := AG [S [], .slice none 0 0, .map none, .bool false, .int .u32 0, .int .i64 0, .int .i64 0, .int .i64 0]) Tryd.underlying95 (by kernel_rfl) rfl (by kernel_rfl)).trans (optE_getD [] h)
theorem bd_mem_File (K : Value → Prop) (ps : Array (Nat × Value)) (h : (fillL [(0, 1), (1, 1), (2, 1), (3, 1), (4, 1)] [.int .i64 0, .int .i64 0, .bool false, .bool false, .pointer none] ps.toList).isSome = true) : pu P (oBuild T.mem_File ps) K = K (AG ((fillL [(0, 1), (1, 1), (2, 1), (3, 1), (4, 1)] [.int .i64 0, .int .i64 0, .bool false, .bool false, .pointer none] ps.toList).getD [])) := (oBuild_of K (z := AG [.int .i64 0, .int .i64 0, .bool false, .bool false, .pointer none]) Tryd.underlying97 (by kernel_rfl) rfl (by kernel_rfl)).trans (optE_getD [] h)
theorem bd_os_PathError (K : Value → Prop) (ps : Array (Nat × Value)) (h : (fillL [(0, 1), (1, 1), (2, 1)] [S [], S [], .nilIface] ps.toList).isSome = true) : pu P (oBuild T.os_PathError ps) K = K (AG ((fillL [(0, 1), (1, 1), (2, 1)] [S [], S [], .nilIface] ps.toList).getD [])) := (oBuild_of K (z := AG [S [], S [], .nilIface]) Tryd.underlying137 (by kernel_rfl) rfl (by kernel_rfl)).trans (optE_getD [] h)
theorem bd_mem_FileInfo (K : Value → Prop) (ps : Array (Nat × Value)) (h : (fillL [(0, 1)] [.pointer none] ps.toList).isSome = true) : pu P (oBuild T.mem_FileInfo ps) K = K (AG ((fillL [(0, 1)] [.pointer none] ps.toList).getD [])) := (oBuild_of K (z := AG [.pointer none]) Tryd.underlying142 (by kernel_rfl) rfl (by kernel_rfl)).trans (optE_getD [] h)
theorem bd_errors_errorString (K : Value → Prop) (ps : Array (Nat × Value)) (h : (fillL [(0, 1)] [S []] ps.toList).isSome = true) : pu P (oBuild T.errors_errorString ps) K = K (AG ((fillL [(0, 1)] [S []] ps.toList).getD [])) := (oBuild_of K (z := AG [S []]) Tryd.underlying153 (by kernel_rfl) rfl (by kernel_rfl)).trans (optE_getD [] h)
theorem eqr_impl_Info (a0 b0 : List UInt8) (a1 b1 : Int) (a2 b2 : Int) (a3 b3 : Bool) (a4 b4 : Int) : rp P (Op.equal T.impl_Info (AG [S a0, .int .i64 a1, .int .i64 a2, .bool a3, .int .i64 a4]) (AG [S b0, .int .i64 b1, .int .i64 b2, .bool b3, .int .i64 b4])) = some (decide (a0 = b0) && (decide (a1 = b1) && (decide (a2 = b2) && (decide (a3 = b3) && (decide (a4 = b4) && true))))) := (rp_eq_struct Tryd.underlying70 (by kernel_rfl)).trans (eqF_cons (by decide) (rp_part1 Tryd.underlying9 rfl rfl) (rp_part1 Tryd.underlying9 rfl rfl) (rp_eqS Tryd.underlying9) (eqF_cons (by decide) (rp_part1 Tryd.underlying2 rfl rfl) (rp_part1 Tryd.underlying2 rfl rfl) (rp_eqI Tryd.underlying2) (eqF_cons (by decide) (rp_part1 Tryd.underlying3 rfl rfl) (rp_part1 Tryd.underlying3 rfl rfl) (rp_eqI Tryd.underlying3) (eqF_cons (by decide) (rp_part1 Tryd.underlying4 rfl rfl) (rp_part1 Tryd.underlying4 rfl rfl) (rp_eqB Tryd.underlying4) (eqF_cons (by decide) (rp_part1 Tryd.underlying2 rfl rfl) (rp_part1 Tryd.underlying2 rfl rfl) (rp_eqI Tryd.underlying2) rfl)))))
theorem ne_impl_Info (K : Value → Prop) (cx cy : Bool) (a0 b0 : List UInt8) (a1 b1 : Int) (a2 b2 : Int) (a3 b3 : Bool) (a4 b4 : Int) : pu P (oBin .neq T.impl_Info cx cy (AG [S a0, .int .i64 a1, .int .i64 a2, .bool a3, .int .i64 a4]) (AG [S b0, .int .i64 b1, .int .i64 b2, .bool b3, .int .i64 b4])) K = K (.bool (!(decide (a0 = b0) && (decide (a1 = b1) && (decide (a2 = b2) && (decide (a3 = b3) && (decide (a4 = b4) && true))))))) := bin_ne_agg K (by kernel_rfl) (eqr_impl_Info _ _ _ _ _ _ _ _ _ _)
end M
attribute [go_sem] M.ld_int64 M.rd_int64 M.hd_int64 M.ld_int M.rd_int M.hd_int M.ld_bool M.rd_bool M.hd_bool M.ld_uint8 M.ld_string M.rd_string M.hd_string M.ld_sl_uint8 M.rd_sl_uint8 M.hd_sl_uint8 M.ld_impl_Step M.ld_sl_string M.rd_sl_string M.hd_sl_string M.ld_sl_impl_Info M.rd_sl_impl_Info M.hd_sl_impl_Info M.ld_impl_Answer M.rd_impl_Answer M.rs_impl_Answer M.ld_sl_int M.rd_sl_int M.hd_sl_int M.ld_sl_spec_MemNode M.rd_sl_spec_MemNode M.hd_sl_spec_MemNode M.ld_map_int_p_spec_MemHandle M.rd_map_int_p_spec_MemHandle M.ld_p_mem_FileData M.rd_p_mem_FileData M.hd_p_mem_FileData M.ld_impl_Info M.rd_impl_Info M.rs_impl_Info M.ld_spec_MemNode M.rd_spec_MemNode M.hd_spec_MemNode M.ld_os_FileMode M.ld_error M.rd_error M.ld_p_mem_FileInfo M.st_int64 M.st_int M.st_bool M.st_string M.st_sl_uint8 M.st_impl_Step M.st_sl_string M.st_sl_impl_Info M.st_impl_Answer M.st_sl_int M.st_sl_spec_MemNode M.st_impl_Info M.st_spec_MemNode M.al_impl_Step M.al_impl_Answer M.al_impl_Info M.al_spec_MemNode M.bd_impl_Step M.bd_impl_Answer M.bd0_impl_Answer M.bd_spec_Mem M.bd_impl_Info M.bd_spec_MemNode M.bd_spec_MemHandle M.bd_mem_FileData M.bd_mem_File M.bd_os_PathError M.bd_mem_FileInfo M.bd_errors_errorString M.ne_impl_Info
end Go.Proofs.YteblpejgenehfaaDoor.X
end
section
namespace Go.X
open Go
section
variable {P : Program} (K : Value → Prop)
theorem bv_nat (n : Nat) {x : Int} (h0 : 0 ≤ x) (h1 : x < 2 ^ n) : (BitVec.ofInt n x).toNat = x.toNat := by
  obtain ⟨a, rfl⟩ := Int.eq_ofNat_of_zero_le h0
  rw [BitVec.ofInt_natCast, BitVec.toNat_ofNat]
  have : a < 2 ^ n := by exact_mod_cast h1
  rw [Nat.mod_eq_of_lt this]; rfl
theorem wr_u64 (n : Nat) (h : n < 2 ^ 64) : IntKind.u64.wrap (n : Int) = n := w_u64 (by omega) (by omega)
theorem wr_u32 (n : Nat) (h : n < 2 ^ 32) : IntKind.u32.wrap (n : Int) = n := w_u32 (by omega) (by omega)
theorem wr_u16 (n : Nat) (h : n < 2 ^ 16) : IntKind.u16.wrap (n : Int) = n := w_u16 (by omega) (by omega)
theorem wr_u8 (n : Nat) (h : n < 2 ^ 8) : IntKind.u8.wrap (n : Int) = n := w_u8 (by omega) (by omega)
theorem wr_i64 (n : Nat) (h : n < 2 ^ 63) : IntKind.i64.wrap (n : Int) = n := w_i64 (by omega) (by omega)
@[go_sem] theorem oand_u64 (t : TypeId) (cx cy : Bool) (x y : Int) (h0 : 0 ≤ x) (h1 : x ≤ 18446744073709551615) (h2 : 0 ≤ y) (h3 : y ≤ 18446744073709551615) :
    pu P (oBin .and t cx cy (.int .u64 x) (.int .u64 y)) K = K (.int .u64 ((x.toNat &&& y.toNat : Nat) : Int)) :=
  bin_int K (by
    simp only [binOp, Op.intBits, BitVec.toNat_and]
    rw [if_neg (by simp), rp_pure]
    rw [bv_nat IntKind.u64.bits h0 (show x < 2 ^ 64 by omega), bv_nat IntKind.u64.bits h2 (show y < 2 ^ 64 by omega), wr_u64 _ (Nat.and_lt_two_pow _ (by omega))])
@[go_sem] theorem oor_u64 (t : TypeId) (cx cy : Bool) (x y : Int) (h0 : 0 ≤ x) (h1 : x ≤ 18446744073709551615) (h2 : 0 ≤ y) (h3 : y ≤ 18446744073709551615) :
    pu P (oBin .or t cx cy (.int .u64 x) (.int .u64 y)) K = K (.int .u64 ((x.toNat ||| y.toNat : Nat) : Int)) :=
  bin_int K (by
    simp only [binOp, Op.intBits, BitVec.toNat_or]
    rw [if_neg (by simp), rp_pure]
    rw [bv_nat IntKind.u64.bits h0 (show x < 2 ^ 64 by omega), bv_nat IntKind.u64.bits h2 (show y < 2 ^ 64 by omega), wr_u64 _ (Nat.or_lt_two_pow (by omega) (by omega))])
@[go_sem] theorem oxor_u64 (t : TypeId) (cx cy : Bool) (x y : Int) (h0 : 0 ≤ x) (h1 : x ≤ 18446744073709551615) (h2 : 0 ≤ y) (h3 : y ≤ 18446744073709551615) :
    pu P (oBin .xor t cx cy (.int .u64 x) (.int .u64 y)) K = K (.int .u64 ((x.toNat ^^^ y.toNat : Nat) : Int)) :=
  bin_int K (by
    simp only [binOp, Op.intBits, BitVec.toNat_xor]
    rw [if_neg (by simp), rp_pure]
    rw [bv_nat IntKind.u64.bits h0 (show x < 2 ^ 64 by omega), bv_nat IntKind.u64.bits h2 (show y < 2 ^ 64 by omega), wr_u64 _ (Nat.xor_lt_two_pow (by omega) (by omega))])
@[go_sem] theorem oand_u32 (t : TypeId) (cx cy : Bool) (x y : Int) (h0 : 0 ≤ x) (h1 : x ≤ 4294967295) (h2 : 0 ≤ y) (h3 : y ≤ 4294967295) :
    pu P (oBin .and t cx cy (.int .u32 x) (.int .u32 y)) K = K (.int .u32 ((x.toNat &&& y.toNat : Nat) : Int)) :=
  bin_int K (by
    simp only [binOp, Op.intBits, BitVec.toNat_and]
    rw [if_neg (by simp), rp_pure]
    rw [bv_nat IntKind.u32.bits h0 (show x < 2 ^ 32 by omega), bv_nat IntKind.u32.bits h2 (show y < 2 ^ 32 by omega), wr_u32 _ (Nat.and_lt_two_pow _ (by omega))])
@[go_sem] theorem oor_u32 (t : TypeId) (cx cy : Bool) (x y : Int) (h0 : 0 ≤ x) (h1 : x ≤ 4294967295) (h2 : 0 ≤ y) (h3 : y ≤ 4294967295) :
    pu P (oBin .or t cx cy (.int .u32 x) (.int .u32 y)) K = K (.int .u32 ((x.toNat ||| y.toNat : Nat) : Int)) :=
  bin_int K (by
    simp only [binOp, Op.intBits, BitVec.toNat_or]
    rw [if_neg (by simp), rp_pure]
    rw [bv_nat IntKind.u32.bits h0 (show x < 2 ^ 32 by omega), bv_nat IntKind.u32.bits h2 (show y < 2 ^ 32 by omega), wr_u32 _ (Nat.or_lt_two_pow (by omega) (by omega))])
@[go_sem] theorem oxor_u32 (t : TypeId) (cx cy : Bool) (x y : Int) (h0 : 0 ≤ x) (h1 : x ≤ 4294967295) (h2 : 0 ≤ y) (h3 : y ≤ 4294967295) :
    pu P (oBin .xor t cx cy (.int .u32 x) (.int .u32 y)) K = K (.int .u32 ((x.toNat ^^^ y.toNat : Nat) : Int)) :=
  bin_int K (by
    simp only [binOp, Op.intBits, BitVec.toNat_xor]
    rw [if_neg (by simp), rp_pure]
    rw [bv_nat IntKind.u32.bits h0 (show x < 2 ^ 32 by omega), bv_nat IntKind.u32.bits h2 (show y < 2 ^ 32 by omega), wr_u32 _ (Nat.xor_lt_two_pow (by omega) (by omega))])
@[go_sem] theorem oand_u16 (t : TypeId) (cx cy : Bool) (x y : Int) (h0 : 0 ≤ x) (h1 : x ≤ 65535) (h2 : 0 ≤ y) (h3 : y ≤ 65535) :
    pu P (oBin .and t cx cy (.int .u16 x) (.int .u16 y)) K = K (.int .u16 ((x.toNat &&& y.toNat : Nat) : Int)) :=
  bin_int K (by
    simp only [binOp, Op.intBits, BitVec.toNat_and]
    rw [if_neg (by simp), rp_pure]
    rw [bv_nat IntKind.u16.bits h0 (show x < 2 ^ 16 by omega), bv_nat IntKind.u16.bits h2 (show y < 2 ^ 16 by omega), wr_u16 _ (Nat.and_lt_two_pow _ (by omega))])
@[go_sem] theorem oor_u16 (t : TypeId) (cx cy : Bool) (x y : Int) (h0 : 0 ≤ x) (h1 : x ≤ 65535) (h2 : 0 ≤ y) (h3 : y ≤ 65535) :
    pu P (oBin .or t cx cy (.int .u16 x) (.int .u16 y)) K = K (.int .u16 ((x.toNat ||| y.toNat : Nat) : Int)) :=
  bin_int K (by
    simp only [binOp, Op.intBits, BitVec.toNat_or]
    rw [if_neg (by simp), rp_pure]
    rw [bv_nat IntKind.u16.bits h0 (show x < 2 ^ 16 by omega), bv_nat IntKind.u16.bits h2 (show y < 2 ^ 16 by omega), wr_u16 _ (Nat.or_lt_two_pow (by omega) (by omega))])
@[go_sem] theorem oxor_u16 (t : TypeId) (cx cy : Bool) (x y : Int) (h0 : 0 ≤ x) (h1 : x ≤ 65535) (h2 : 0 ≤ y) (h3 : y ≤ 65535) :
    pu P (oBin .xor t cx cy (.int .u16 x) (.int .u16 y)) K = K (.int .u16 ((x.toNat ^^^ y.toNat : Nat) : Int)) :=
  bin_int K (by
    simp only [binOp, Op.intBits, BitVec.toNat_xor]
    rw [if_neg (by simp), rp_pure]
    rw [bv_nat IntKind.u16.bits h0 (show x < 2 ^ 16 by omega), bv_nat IntKind.u16.bits h2 (show y < 2 ^ 16 by omega), wr_u16 _ (Nat.xor_lt_two_pow (by omega) (by omega))])
@[go_sem] theorem oand_u8 (t : TypeId) (cx cy : Bool) (x y : Int) (h0 : 0 ≤ x) (h1 : x ≤ 255) (h2 : 0 ≤ y) (h3 : y ≤ 255) :
    pu P (oBin .and t cx cy (.int .u8 x) (.int .u8 y)) K = K (.int .u8 ((x.toNat &&& y.toNat : Nat) : Int)) :=
  bin_int K (by
    simp only [binOp, Op.intBits, BitVec.toNat_and]
    rw [if_neg (by simp), rp_pure]
    rw [bv_nat IntKind.u8.bits h0 (show x < 2 ^ 8 by omega), bv_nat IntKind.u8.bits h2 (show y < 2 ^ 8 by omega), wr_u8 _ (Nat.and_lt_two_pow _ (by omega))])
@[go_sem] theorem oor_u8 (t : TypeId) (cx cy : Bool) (x y : Int) (h0 : 0 ≤ x) (h1 : x ≤ 255) (h2 : 0 ≤ y) (h3 : y ≤ 255) :
    pu P (oBin .or t cx cy (.int .u8 x) (.int .u8 y)) K = K (.int .u8 ((x.toNat ||| y.toNat : Nat) : Int)) :=
  bin_int K (by
    simp only [binOp, Op.intBits, BitVec.toNat_or]
    rw [if_neg (by simp), rp_pure]
    rw [bv_nat IntKind.u8.bits h0 (show x < 2 ^ 8 by omega), bv_nat IntKind.u8.bits h2 (show y < 2 ^ 8 by omega), wr_u8 _ (Nat.or_lt_two_pow (by omega) (by omega))])
@[go_sem] theorem oxor_u8 (t : TypeId) (cx cy : Bool) (x y : Int) (h0 : 0 ≤ x) (h1 : x ≤ 255) (h2 : 0 ≤ y) (h3 : y ≤ 255) :
    pu P (oBin .xor t cx cy (.int .u8 x) (.int .u8 y)) K = K (.int .u8 ((x.toNat ^^^ y.toNat : Nat) : Int)) :=
  bin_int K (by
    simp only [binOp, Op.intBits, BitVec.toNat_xor]
    rw [if_neg (by simp), rp_pure]
    rw [bv_nat IntKind.u8.bits h0 (show x < 2 ^ 8 by omega), bv_nat IntKind.u8.bits h2 (show y < 2 ^ 8 by omega), wr_u8 _ (Nat.xor_lt_two_pow (by omega) (by omega))])
@[go_sem] theorem oand_i64 (t : TypeId) (cx cy : Bool) (x y : Int) (h0 : 0 ≤ x) (h1 : x ≤ 9223372036854775807) (h2 : 0 ≤ y) (h3 : y ≤ 9223372036854775807) :
    pu P (oBin .and t cx cy (.int .i64 x) (.int .i64 y)) K = K (.int .i64 ((x.toNat &&& y.toNat : Nat) : Int)) :=
  bin_int K (by
    simp only [binOp, Op.intBits, BitVec.toNat_and]
    rw [if_neg (by simp), rp_pure]
    rw [bv_nat IntKind.i64.bits h0 (show x < 2 ^ 64 by omega), bv_nat IntKind.i64.bits h2 (show y < 2 ^ 64 by omega), wr_i64 _ (Nat.and_lt_two_pow _ (by omega))])
@[go_sem] theorem oor_i64 (t : TypeId) (cx cy : Bool) (x y : Int) (h0 : 0 ≤ x) (h1 : x ≤ 9223372036854775807) (h2 : 0 ≤ y) (h3 : y ≤ 9223372036854775807) :
    pu P (oBin .or t cx cy (.int .i64 x) (.int .i64 y)) K = K (.int .i64 ((x.toNat ||| y.toNat : Nat) : Int)) :=
  bin_int K (by
    simp only [binOp, Op.intBits, BitVec.toNat_or]
    rw [if_neg (by simp), rp_pure]
    rw [bv_nat IntKind.i64.bits h0 (show x < 2 ^ 64 by omega), bv_nat IntKind.i64.bits h2 (show y < 2 ^ 64 by omega), wr_i64 _ (Nat.or_lt_two_pow (by omega) (by omega))])
@[go_sem] theorem oxor_i64 (t : TypeId) (cx cy : Bool) (x y : Int) (h0 : 0 ≤ x) (h1 : x ≤ 9223372036854775807) (h2 : 0 ≤ y) (h3 : y ≤ 9223372036854775807) :
    pu P (oBin .xor t cx cy (.int .i64 x) (.int .i64 y)) K = K (.int .i64 ((x.toNat ^^^ y.toNat : Nat) : Int)) :=
  bin_int K (by
    simp only [binOp, Op.intBits, BitVec.toNat_xor]
    rw [if_neg (by simp), rp_pure]
    rw [bv_nat IntKind.i64.bits h0 (show x < 2 ^ 64 by omega), bv_nat IntKind.i64.bits h2 (show y < 2 ^ 64 by omega), wr_i64 _ (Nat.xor_lt_two_pow (by omega) (by omega))])
@[go_sem] theorem oShl_u64 (t : TypeId) (cx cy : Bool) (j : IntKind) (x y : Int) (h0 : 0 ≤ y) (h1 : y ≤ 64) :
    pu P (oBin .shl t cx cy (.int .u64 x) (.int j y)) K = K (.int .u64 (IntKind.u64.wrap (x * 2 ^ y.toNat))) :=
  bin_int K (by
    simp only [binOp, Op.shift]
    rw [if_neg (by omega), rp_pure, Nat.min_eq_left (show y.toNat ≤ IntKind.u64.bits from show y.toNat ≤ 64 by omega)])
@[go_sem] theorem oShr_u64 (t : TypeId) (cx cy : Bool) (j : IntKind) (x y : Int) (h0 : 0 ≤ y) (h1 : y ≤ 64) (h2 : 0 ≤ x) :
    pu P (oBin .shr t cx cy (.int .u64 x) (.int j y)) K = K (.int .u64 (x / 2 ^ y.toNat)) :=
  bin_int K (by
    simp only [binOp, Op.shift]
    rw [if_neg (by omega), rp_pure, Nat.min_eq_left (show y.toNat ≤ IntKind.u64.bits from show y.toNat ≤ 64 by omega)]
    congr 2
    exact Int.fdiv_eq_ediv_of_nonneg _ (by exact Int.le_of_lt (Int.pow_pos (by decide))))
@[go_sem] theorem oShl_u32 (t : TypeId) (cx cy : Bool) (j : IntKind) (x y : Int) (h0 : 0 ≤ y) (h1 : y ≤ 32) :
    pu P (oBin .shl t cx cy (.int .u32 x) (.int j y)) K = K (.int .u32 (IntKind.u32.wrap (x * 2 ^ y.toNat))) :=
  bin_int K (by
    simp only [binOp, Op.shift]
    rw [if_neg (by omega), rp_pure, Nat.min_eq_left (show y.toNat ≤ IntKind.u32.bits from show y.toNat ≤ 32 by omega)])
@[go_sem] theorem oShr_u32 (t : TypeId) (cx cy : Bool) (j : IntKind) (x y : Int) (h0 : 0 ≤ y) (h1 : y ≤ 32) (h2 : 0 ≤ x) :
    pu P (oBin .shr t cx cy (.int .u32 x) (.int j y)) K = K (.int .u32 (x / 2 ^ y.toNat)) :=
  bin_int K (by
    simp only [binOp, Op.shift]
    rw [if_neg (by omega), rp_pure, Nat.min_eq_left (show y.toNat ≤ IntKind.u32.bits from show y.toNat ≤ 32 by omega)]
    congr 2
    exact Int.fdiv_eq_ediv_of_nonneg _ (by exact Int.le_of_lt (Int.pow_pos (by decide))))
@[go_sem] theorem oShl_u16 (t : TypeId) (cx cy : Bool) (j : IntKind) (x y : Int) (h0 : 0 ≤ y) (h1 : y ≤ 16) :
    pu P (oBin .shl t cx cy (.int .u16 x) (.int j y)) K = K (.int .u16 (IntKind.u16.wrap (x * 2 ^ y.toNat))) :=
  bin_int K (by
    simp only [binOp, Op.shift]
    rw [if_neg (by omega), rp_pure, Nat.min_eq_left (show y.toNat ≤ IntKind.u16.bits from show y.toNat ≤ 16 by omega)])
@[go_sem] theorem oShr_u16 (t : TypeId) (cx cy : Bool) (j : IntKind) (x y : Int) (h0 : 0 ≤ y) (h1 : y ≤ 16) (h2 : 0 ≤ x) :
    pu P (oBin .shr t cx cy (.int .u16 x) (.int j y)) K = K (.int .u16 (x / 2 ^ y.toNat)) :=
  bin_int K (by
    simp only [binOp, Op.shift]
    rw [if_neg (by omega), rp_pure, Nat.min_eq_left (show y.toNat ≤ IntKind.u16.bits from show y.toNat ≤ 16 by omega)]
    congr 2
    exact Int.fdiv_eq_ediv_of_nonneg _ (by exact Int.le_of_lt (Int.pow_pos (by decide))))
@[go_sem] theorem oShl_u8 (t : TypeId) (cx cy : Bool) (j : IntKind) (x y : Int) (h0 : 0 ≤ y) (h1 : y ≤ 8) :
    pu P (oBin .shl t cx cy (.int .u8 x) (.int j y)) K = K (.int .u8 (IntKind.u8.wrap (x * 2 ^ y.toNat))) :=
  bin_int K (by
    simp only [binOp, Op.shift]
    rw [if_neg (by omega), rp_pure, Nat.min_eq_left (show y.toNat ≤ IntKind.u8.bits from show y.toNat ≤ 8 by omega)])
@[go_sem] theorem oShr_u8 (t : TypeId) (cx cy : Bool) (j : IntKind) (x y : Int) (h0 : 0 ≤ y) (h1 : y ≤ 8) (h2 : 0 ≤ x) :
    pu P (oBin .shr t cx cy (.int .u8 x) (.int j y)) K = K (.int .u8 (x / 2 ^ y.toNat)) :=
  bin_int K (by
    simp only [binOp, Op.shift]
    rw [if_neg (by omega), rp_pure, Nat.min_eq_left (show y.toNat ≤ IntKind.u8.bits from show y.toNat ≤ 8 by omega)]
    congr 2
    exact Int.fdiv_eq_ediv_of_nonneg _ (by exact Int.le_of_lt (Int.pow_pos (by decide))))
@[go_sem] theorem oShl_i64 (t : TypeId) (cx cy : Bool) (j : IntKind) (x y : Int) (h0 : 0 ≤ y) (h1 : y ≤ 64) :
    pu P (oBin .shl t cx cy (.int .i64 x) (.int j y)) K = K (.int .i64 (IntKind.i64.wrap (x * 2 ^ y.toNat))) :=
  bin_int K (by
    simp only [binOp, Op.shift]
    rw [if_neg (by omega), rp_pure, Nat.min_eq_left (show y.toNat ≤ IntKind.i64.bits from show y.toNat ≤ 64 by omega)])
@[go_sem] theorem oShr_i64 (t : TypeId) (cx cy : Bool) (j : IntKind) (x y : Int) (h0 : 0 ≤ y) (h1 : y ≤ 64) (h2 : 0 ≤ x) :
    pu P (oBin .shr t cx cy (.int .i64 x) (.int j y)) K = K (.int .i64 (x / 2 ^ y.toNat)) :=
  bin_int K (by
    simp only [binOp, Op.shift]
    rw [if_neg (by omega), rp_pure, Nat.min_eq_left (show y.toNat ≤ IntKind.i64.bits from show y.toNat ≤ 64 by omega)]
    congr 2
    exact Int.fdiv_eq_ediv_of_nonneg _ (by exact Int.le_of_lt (Int.pow_pos (by decide))))
end
end Go.X
end
section
namespace Go.X
open Go Go.RowKit
theorem bel_setb {B : Nat} {a w : World} (h : Below B a w) {b : Nat} (hb : B ≤ b) (o : Obj) : Below B a (setb w b o) :=
  ⟨h.os, h.tape, h.output, by rw [sZb]; exact h.size, fun k hk => by
    have : bk (setb w b o) k = bk w k := bk_setb_ne w b k o (by omega)
    exact this.trans (h.block k hk)⟩
theorem bel_bk {B : Nat} {w w' : World} (h : Below B w w') {b : Nat} (hb : b < B) : bk w' b = bk w b := h.block b hb
section
variable {P : Program} {p : Prop} [Decidable p] (X Y : Prop) (w : World) (G : (Value → World → Prop) → Prop) (K : Value → World → Prop) (L : Value → Prop) (a b : Value)
@[go_sem high] theorem cd_t : cd (.bool true) X Y = X := by rw [cd_eq]; simp
@[go_sem high] theorem cd_f : cd (.bool false) X Y = Y := by rw [cd_eq]; simp
@[go_sem high] theorem gdt_t : gd (.bool true) true w G K = G K := by rw [gd_true]; simp
@[go_sem high] theorem gdt_f : gd (.bool false) true w G K = K undef w := by rw [gd_true]; simp
@[go_sem high] theorem gdf_t : gd (.bool true) false w G K = K undef w := by rw [gd_false]; simp
@[go_sem high] theorem gdf_f : gd (.bool false) false w G K = G K := by rw [gd_false]; simp
@[go_sem high] theorem pick_t : pu P (oPick (.bool true) a b) L = L a := by rw [oPick_eq]; simp
@[go_sem high] theorem pick_f : pu P (oPick (.bool false) a b) L = L b := by rw [oPick_eq]; simp
theorem dec_t (h : p) : (Value.bool (decide p)) = .bool true := by simp [h]
theorem dec_f (h : ¬ p) : (Value.bool (decide p)) = .bool false := by simp [h]
@[go_sem] theorem toL_nil : (#[] : Array (Nat × Value)).toList = [] := rfl
@[go_sem] theorem toL_l (l : List (Nat × Value)) : l.toArray.toList = l := rfl
attribute [go_sem] Bool.not_false Bool.not_true Int.toNat_natCast
end
end Go.X
end
section
namespace Go.X
open Go Go.RowKit
section
variable {P : Program} (K : Value → World → Prop) (w : World)
@[go_sem] theorem oExtract1_0 (L : Value → Prop) (a : Value) : pu P (oExtract (.tuple #[a]) 0) L = L a := pu_eq rfl
def byt (b : UInt8) : Value := .int .u8 b.toNat
def rowB (w : World) (b o : Nat) (l : List UInt8) : Prop := rowOf (bk w b) o l.length = some (l.map byt)
abbrev sl (b o n m : Nat) : Value := .slice (some ⟨b, o, none⟩) n m
theorem rowB_old {w w' : World} {b o B : Nat} {l : List UInt8} (h : rowB w b o l) (hb : Below B w w') (hB : b < B) : rowB w' b o l := by
  unfold rowB at h ⊢; rw [bel_bk hb hB]; exact h
theorem rowOf_inv {ob : Option Obj} {o n : Nat} {l : List Value} (h : rowOf ob o n = some l) : ∃ c t fz, ob = some (.cells c t fz) ∧ o + n ≤ c.size ∧ (c.toList.drop o).take n = l := by
  unfold rowOf at h
  split at h
  · rename_i c t fz
    by_cases hle : o + n ≤ c.size
    · rw [if_pos hle] at h
      exact ⟨c, t, fz, rfl, hle, by injection h⟩
    · rw [if_neg hle] at h; cases h
  · cases h
theorem rowB_cell {w : World} {b o : Nat} {l : List UInt8} (h : rowB w b o l) {i : Nat} (hi : i < l.length) : cellOf (bk w b) (o + i) = some (byt l[i]) := by
  obtain ⟨c, t, fz, h1, h2, h3⟩ := rowOf_inv h
  rw [h1]
  show c[o + i]? = _
  have e : ((c.toList.drop o).take l.length)[i]? = (l.map byt)[i]? := by rw [h3]
  rw [List.getElem?_take_of_lt hi, List.getElem?_drop] at e
  simp only [Array.getElem?_toList] at e
  rw [e]; simp [hi]
theorem foldl_push : ∀ (l : List UInt8) (acc : List UInt8), (l.map fun b => (b.toNat : Int)).foldl (fun r n => ByteArray.push r (UInt8.ofNat n.toNat)) ⟨acc.toArray⟩ = ⟨(acc ++ l).toArray⟩
  | [], acc => by simp
  | b :: l, acc => by
    simp only [List.map_cons, List.foldl_cons]
    have e : ByteArray.push ⟨acc.toArray⟩ (UInt8.ofNat (b.toNat : Int).toNat) = ⟨(acc ++ [b]).toArray⟩ := by
      show ByteArray.mk _ = _
      simp
    rw [e, foldl_push l (acc ++ [b])]
    simp
theorem run_bytes {b o n m : Nat} {l : List UInt8} (h : rowB w b o l) (hn : n = l.length) : (Conv.bytesToString (sl b o n m)).run P w = .ok (S l) w := by
  subst hn
  obtain ⟨c, t, fz, h1, h2, h3⟩ := rowOf_inv h
  have hl : (loadCells ⟨b, o, none⟩ l.length).run P w = .ok ((l.map fun b => (b.toNat : Int)).map (Value.int .u8)).toArray w := by
    have := run_firstCells_some (P := P) w 1 l.length ⟨b, o, none⟩ l.length m (l.map byt) (by simp) (fun j u hj => by
      have hjl : j < l.length := by have := (List.getElem?_eq_some_iff.1 hj).1; simpa using this
      have hc := rowB_cell h hjl
      rw [Addr.add_lit, cell?_eq, hc]
      simp [hjl] at hj; rw [← hj])
    simp only [Builtin.firstCells, Nat.mul_one] at this
    rw [this]
    simp [byt, Function.comp_def]
  rw [run_bytesToString w ⟨b, o, none⟩ l.length m _ hl]
  have := foldl_push l []
  simp only [List.nil_append] at this
  rw [show ByteArray.empty = ⟨([] : List UInt8).toArray⟩ from rfl, this]; rfl
theorem run_convBS {tS tB tE : TypeId} (h1 : P.underlying tS = some .string) (h2 : P.underlying tB = some (.slice tE)) (h3 : P.underlying tE = some (.int .u8)) {b o n m : Nat} {l : List UInt8} (h : rowB w b o l) (hn : n = l.length) :
    (convert tB tS (sl b o n m)).run P w = .ok (S l) w := by
  have := run_bytes (P := P) w (m := m) h hn
  simp only [convert, Sem.run_bind, run_underlying h1, run_underlying h2, Result.andThen_ok, run_underlying h3, this]
theorem rp_size {e : TypeId} {n : Nat} (h : (P.info? e).map (·.size) = some n) : rp P (sizeOf e) = some n := by
  cases hi : P.info? e with
  | none => rw [hi] at h; cases h
  | some i => rw [hi] at h; injection h with h; simp [sizeOf, typeInfo, rp_bind, hi, h]
theorem oSlice_sl (L : Value → Prop) {tB tE : TypeId} {size : Nat} (h2 : P.underlying tB = some (.slice tE)) (hs : (P.info? tE).map (·.size) = some size) {b o n m : Nat} {k j : IntKind} {lo hi : Int} (a0 : 0 ≤ lo) (a1 : lo ≤ hi) (a2 : hi ≤ m) :
    pu P (oSlice tB (sl b o n m) (some (.int k lo)) (some (.int j hi)) none) L = L (sl b (if m = lo.toNat then o else o + lo.toNat * size) (hi.toNat - lo.toNat) (m - lo.toNat)) :=
  pu_v' (by
    have h4 : 0 ≤ hi := by omega
    simp only [Instr.sliceAt, Instr.slice, Instr.sliceBounds]
    simp [rp_bind, rp_underlying h2, rp_sliceBound j hi m _ h4 a2, rp_sliceBound k lo hi.toNat _ a0 (by omega), rp_size hs, rp_map]
    split <;> simp [Addr.add_lit, rp_map, rp_size hs])
theorem oIdxA_sl (L : Value → Prop) {tB tE : TypeId} {size : Nat} (h2 : P.underlying tB = some (.slice tE)) (hs : (P.info? tE).map (·.size) = some size) {b o n m : Nat} {k : IntKind} {i : Int} (a0 : 0 ≤ i) (a1 : i < n) :
    pu P (oIdxA tB (sl b o n m) (.int k i)) L = L (pt b (o + i.toNat * size)) :=
  pu_v' (by
    simp only [Instr.indexAt]
    simp [rp_bind, rp_underlying h2, asIntOf, a0, a1, rp_size hs, Addr.add_lit, rp_map])
theorem oBuildSlice1 {tB tE : TypeId} {z : Value} (h2 : P.underlying tB = some (.slice tE)) (hi : (P.info? tE).map (fun i => (i.zero, i.size)) = some (some z, 1)) {x : Value} (hx : x.oneCell' = true) :
    st P (oBuildSlice tB 1 #[(0, x)]) w K = K (sl w.heap.size 0 1 1) (w.alloc (CB [x] tE)) := by
  cases hie : P.info? tE with
  | none => rw [hie] at hi; cases hi
  | some ie =>
  rw [hie] at hi
  simp only [Option.map_some, Option.some.injEq, Prod.mk.injEq] at hi
  obtain ⟨hz, hs⟩ := hi
  exact st_eq_value (run_v' (run_buildSlice w tB tE 1 _ #[x] ie z h2 hie hz (by simp [hs]) (by simp [hs]) (by
    have hcells : x.cells = #[x] := by cases x <;> first | rfl | (simp [Value.oneCell'] at hx)
    have hr : Array.range 1 = #[0] := rfl
    simp [hs, Instr.fill, hcells, hr])))
end
end Go.X
end
section
namespace Go.X
open Go Go.RowKit
section
variable {P : Program} (K : Value → World → Prop) (w : World)
def BS (w : World) (v : Value) (l : List UInt8) : Prop :=
  (l = [] ∧ ∃ a cap, v = .slice a 0 cap) ∨ ∃ b o cap, v = sl b o l.length cap ∧ l.length ≤ cap ∧ rowB w b o l ∧ b < w.heap.size
theorem BS_old {w w' : World} {v : Value} {l : List UInt8} {B : Nat} (h : BS w v l) (hb : Below B w w') (hB : w.heap.size ≤ B) : BS w' v l := by
  rcases h with h | ⟨b, o, cap, h1, h2, h3, h4⟩
  · exact .inl h
  · exact .inr ⟨b, o, cap, h1, h2, rowB_old h3 hb (by omega), Nat.lt_of_lt_of_le h4 hb.size⟩
theorem BS_slice {w : World} {v : Value} {l : List UInt8} (h : BS w v l) : ∃ a cap, v = .slice a l.length cap := by
  rcases h with ⟨rfl, a, cap, h⟩ | ⟨b, o, cap, h1, _⟩
  · exact ⟨a, cap, h⟩
  · exact ⟨_, cap, h1⟩
theorem oBuildSlice0 {tB tE : TypeId} {n : Nat} (h2 : P.underlying tB = some (.slice tE)) (hi : (P.info? tE).map (·.size) = some n) :
    st P (oBuildSlice tB 0 #[]) w K = K (sl w.heap.size 0 0 0) (w.alloc (CB [] tE)) := by
  cases hie : P.info? tE with
  | none => rw [hie] at hi; cases hi
  | some ie =>
  exact st_eq_value (run_v' (by
    have hr : Array.range 0 = #[] := rfl
    simp [Instr.buildSlice, run_underlying h2, sizeOf, typeInfo, hie, Instr.fill, newRow, hr]))
end
end Go.X
end
section
namespace Go.X
open Go Go.RowKit
section
variable {P : Program} (K : Value → Prop)
def V32 (x : BitVec 32) : Value := .int .u32 (x.toNat : Int)
theorem wrap_bv32 (m : Nat) : IntKind.u32.wrap (m : Int) = ((BitVec.ofNat 32 m).toNat : Int) := by
  rw [BitVec.toNat_ofNat]
  simp [IntKind.wrap, IntKind.bits, IntKind.signed]
theorem ofInt_bv32 (x : BitVec 32) : BitVec.ofInt IntKind.u32.bits (x.toNat : Int) = x := by
  show BitVec.ofInt 32 (x.toNat : Int) = x
  rw [BitVec.ofInt_natCast]; simp
theorem bits32 (op : BinOp) (r : BitVec 32) : (Value.int .u32 (IntKind.u32.wrap (r.toNat : Int))) = V32 r := by
  rw [wrap_bv32]; simp [V32]
@[go_sem] theorem xorV32 (t : TypeId) (cx cy : Bool) (x y : BitVec 32) : pu P (oBin .xor t cx cy (V32 x) (V32 y)) K = K (V32 (x ^^^ y)) :=
  bin_int K (by
    simp only [binOp, Op.intBits]
    rw [if_neg (by simp), rp_pure, ofInt_bv32, ofInt_bv32]
    exact congrArg some (bits32 .xor (x ^^^ y)))
@[go_sem] theorem orV32 (t : TypeId) (cx cy : Bool) (x y : BitVec 32) : pu P (oBin .or t cx cy (V32 x) (V32 y)) K = K (V32 (x ||| y)) :=
  bin_int K (by
    simp only [binOp, Op.intBits]
    rw [if_neg (by simp), rp_pure, ofInt_bv32, ofInt_bv32]
    exact congrArg some (bits32 .or (x ||| y)))
@[go_sem] theorem andV32 (t : TypeId) (cx cy : Bool) (x y : BitVec 32) : pu P (oBin .and t cx cy (V32 x) (V32 y)) K = K (V32 (x &&& y)) :=
  bin_int K (by
    simp only [binOp, Op.intBits]
    rw [if_neg (by simp), rp_pure, ofInt_bv32, ofInt_bv32]
    exact congrArg some (bits32 .and (x &&& y)))
@[go_sem] theorem shlV32 (t : TypeId) (cx cy : Bool) (j : IntKind) (x : BitVec 32) (y : Int) (h0 : 0 ≤ y) (h1 : y ≤ 32) : pu P (oBin .shl t cx cy (V32 x) (.int j y)) K = K (V32 (x <<< y.toNat)) :=
  bin_int K (by
    simp only [binOp, Op.shift]
    rw [if_neg (by omega), rp_pure, Nat.min_eq_left (show y.toNat ≤ IntKind.u32.bits from show y.toNat ≤ 32 by omega)]
    congr 1
    rw [show ((x.toNat : Int) * 2 ^ y.toNat) = ((x.toNat * 2 ^ y.toNat : Nat) : Int) by simp, wrap_bv32]
    unfold V32
    congr 2
    rw [BitVec.toNat_shiftLeft, BitVec.toNat_ofNat, Nat.shiftLeft_eq])
@[go_sem] theorem shrV32 (t : TypeId) (cx cy : Bool) (j : IntKind) (x : BitVec 32) (y : Int) (h0 : 0 ≤ y) (h1 : y ≤ 32) : pu P (oBin .shr t cx cy (V32 x) (.int j y)) K = K (V32 (x >>> y.toNat)) :=
  bin_int K (by
    simp only [binOp, Op.shift]
    rw [if_neg (by omega), rp_pure, Nat.min_eq_left (show y.toNat ≤ IntKind.u32.bits from show y.toNat ≤ 32 by omega)]
    congr 1
    unfold V32
    congr 1
    rw [BitVec.toNat_ushiftRight, Nat.shiftRight_eq_div_pow, Int.fdiv_eq_ediv_of_nonneg _ (by exact Int.le_of_lt (Int.pow_pos (by decide)))]
    simp)
@[go_sem] theorem eqV32 (t : TypeId) (cx cy : Bool) (x y : BitVec 32) : pu P (oBin .eql t cx cy (V32 x) (V32 y)) K = K (.bool (decide (x = y))) :=
  (oEql K t cx cy .u32 x.toNat y.toNat).trans (by
    congr 2
    by_cases h : x = y
    · simp [h]
    · have : ¬ (x.toNat : Int) = y.toNat := fun e => h (BitVec.eq_of_toNat_eq (by omega))
      simp [h, this])
def V64 (x : BitVec 64) : Value := .int .u64 (x.toNat : Int)
theorem wrap_bv64 (m : Nat) : IntKind.u64.wrap (m : Int) = ((BitVec.ofNat 64 m).toNat : Int) := by
  rw [BitVec.toNat_ofNat]
  simp [IntKind.wrap, IntKind.bits, IntKind.signed]
theorem ofInt_bv64 (x : BitVec 64) : BitVec.ofInt IntKind.u64.bits (x.toNat : Int) = x := by
  show BitVec.ofInt 64 (x.toNat : Int) = x
  rw [BitVec.ofInt_natCast]; simp
theorem bits64 (op : BinOp) (r : BitVec 64) : (Value.int .u64 (IntKind.u64.wrap (r.toNat : Int))) = V64 r := by
  rw [wrap_bv64]; simp [V64]
@[go_sem] theorem xorV64 (t : TypeId) (cx cy : Bool) (x y : BitVec 64) : pu P (oBin .xor t cx cy (V64 x) (V64 y)) K = K (V64 (x ^^^ y)) :=
  bin_int K (by
    simp only [binOp, Op.intBits]
    rw [if_neg (by simp), rp_pure, ofInt_bv64, ofInt_bv64]
    exact congrArg some (bits64 .xor (x ^^^ y)))
@[go_sem] theorem orV64 (t : TypeId) (cx cy : Bool) (x y : BitVec 64) : pu P (oBin .or t cx cy (V64 x) (V64 y)) K = K (V64 (x ||| y)) :=
  bin_int K (by
    simp only [binOp, Op.intBits]
    rw [if_neg (by simp), rp_pure, ofInt_bv64, ofInt_bv64]
    exact congrArg some (bits64 .or (x ||| y)))
@[go_sem] theorem andV64 (t : TypeId) (cx cy : Bool) (x y : BitVec 64) : pu P (oBin .and t cx cy (V64 x) (V64 y)) K = K (V64 (x &&& y)) :=
  bin_int K (by
    simp only [binOp, Op.intBits]
    rw [if_neg (by simp), rp_pure, ofInt_bv64, ofInt_bv64]
    exact congrArg some (bits64 .and (x &&& y)))
@[go_sem] theorem shlV64 (t : TypeId) (cx cy : Bool) (j : IntKind) (x : BitVec 64) (y : Int) (h0 : 0 ≤ y) (h1 : y ≤ 64) : pu P (oBin .shl t cx cy (V64 x) (.int j y)) K = K (V64 (x <<< y.toNat)) :=
  bin_int K (by
    simp only [binOp, Op.shift]
    rw [if_neg (by omega), rp_pure, Nat.min_eq_left (show y.toNat ≤ IntKind.u64.bits from show y.toNat ≤ 64 by omega)]
    congr 1
    rw [show ((x.toNat : Int) * 2 ^ y.toNat) = ((x.toNat * 2 ^ y.toNat : Nat) : Int) by simp, wrap_bv64]
    unfold V64
    congr 2
    rw [BitVec.toNat_shiftLeft, BitVec.toNat_ofNat, Nat.shiftLeft_eq])
@[go_sem] theorem shrV64 (t : TypeId) (cx cy : Bool) (j : IntKind) (x : BitVec 64) (y : Int) (h0 : 0 ≤ y) (h1 : y ≤ 64) : pu P (oBin .shr t cx cy (V64 x) (.int j y)) K = K (V64 (x >>> y.toNat)) :=
  bin_int K (by
    simp only [binOp, Op.shift]
    rw [if_neg (by omega), rp_pure, Nat.min_eq_left (show y.toNat ≤ IntKind.u64.bits from show y.toNat ≤ 64 by omega)]
    congr 1
    unfold V64
    congr 1
    rw [BitVec.toNat_ushiftRight, Nat.shiftRight_eq_div_pow, Int.fdiv_eq_ediv_of_nonneg _ (by exact Int.le_of_lt (Int.pow_pos (by decide)))]
    simp)
@[go_sem] theorem eqV64 (t : TypeId) (cx cy : Bool) (x y : BitVec 64) : pu P (oBin .eql t cx cy (V64 x) (V64 y)) K = K (.bool (decide (x = y))) :=
  (oEql K t cx cy .u64 x.toNat y.toNat).trans (by
    congr 2
    by_cases h : x = y
    · simp [h]
    · have : ¬ (x.toNat : Int) = y.toNat := fun e => h (BitVec.eq_of_toNat_eq (by omega))
      simp [h, this])
def V16 (x : BitVec 16) : Value := .int .u16 (x.toNat : Int)
theorem wrap_bv16 (m : Nat) : IntKind.u16.wrap (m : Int) = ((BitVec.ofNat 16 m).toNat : Int) := by
  rw [BitVec.toNat_ofNat]
  simp [IntKind.wrap, IntKind.bits, IntKind.signed]
theorem ofInt_bv16 (x : BitVec 16) : BitVec.ofInt IntKind.u16.bits (x.toNat : Int) = x := by
  show BitVec.ofInt 16 (x.toNat : Int) = x
  rw [BitVec.ofInt_natCast]; simp
theorem bits16 (op : BinOp) (r : BitVec 16) : (Value.int .u16 (IntKind.u16.wrap (r.toNat : Int))) = V16 r := by
  rw [wrap_bv16]; simp [V16]
@[go_sem] theorem xorV16 (t : TypeId) (cx cy : Bool) (x y : BitVec 16) : pu P (oBin .xor t cx cy (V16 x) (V16 y)) K = K (V16 (x ^^^ y)) :=
  bin_int K (by
    simp only [binOp, Op.intBits]
    rw [if_neg (by simp), rp_pure, ofInt_bv16, ofInt_bv16]
    exact congrArg some (bits16 .xor (x ^^^ y)))
@[go_sem] theorem orV16 (t : TypeId) (cx cy : Bool) (x y : BitVec 16) : pu P (oBin .or t cx cy (V16 x) (V16 y)) K = K (V16 (x ||| y)) :=
  bin_int K (by
    simp only [binOp, Op.intBits]
    rw [if_neg (by simp), rp_pure, ofInt_bv16, ofInt_bv16]
    exact congrArg some (bits16 .or (x ||| y)))
@[go_sem] theorem andV16 (t : TypeId) (cx cy : Bool) (x y : BitVec 16) : pu P (oBin .and t cx cy (V16 x) (V16 y)) K = K (V16 (x &&& y)) :=
  bin_int K (by
    simp only [binOp, Op.intBits]
    rw [if_neg (by simp), rp_pure, ofInt_bv16, ofInt_bv16]
    exact congrArg some (bits16 .and (x &&& y)))
@[go_sem] theorem shlV16 (t : TypeId) (cx cy : Bool) (j : IntKind) (x : BitVec 16) (y : Int) (h0 : 0 ≤ y) (h1 : y ≤ 16) : pu P (oBin .shl t cx cy (V16 x) (.int j y)) K = K (V16 (x <<< y.toNat)) :=
  bin_int K (by
    simp only [binOp, Op.shift]
    rw [if_neg (by omega), rp_pure, Nat.min_eq_left (show y.toNat ≤ IntKind.u16.bits from show y.toNat ≤ 16 by omega)]
    congr 1
    rw [show ((x.toNat : Int) * 2 ^ y.toNat) = ((x.toNat * 2 ^ y.toNat : Nat) : Int) by simp, wrap_bv16]
    unfold V16
    congr 2
    rw [BitVec.toNat_shiftLeft, BitVec.toNat_ofNat, Nat.shiftLeft_eq])
@[go_sem] theorem shrV16 (t : TypeId) (cx cy : Bool) (j : IntKind) (x : BitVec 16) (y : Int) (h0 : 0 ≤ y) (h1 : y ≤ 16) : pu P (oBin .shr t cx cy (V16 x) (.int j y)) K = K (V16 (x >>> y.toNat)) :=
  bin_int K (by
    simp only [binOp, Op.shift]
    rw [if_neg (by omega), rp_pure, Nat.min_eq_left (show y.toNat ≤ IntKind.u16.bits from show y.toNat ≤ 16 by omega)]
    congr 1
    unfold V16
    congr 1
    rw [BitVec.toNat_ushiftRight, Nat.shiftRight_eq_div_pow, Int.fdiv_eq_ediv_of_nonneg _ (by exact Int.le_of_lt (Int.pow_pos (by decide)))]
    simp)
@[go_sem] theorem eqV16 (t : TypeId) (cx cy : Bool) (x y : BitVec 16) : pu P (oBin .eql t cx cy (V16 x) (V16 y)) K = K (.bool (decide (x = y))) :=
  (oEql K t cx cy .u16 x.toNat y.toNat).trans (by
    congr 2
    by_cases h : x = y
    · simp [h]
    · have : ¬ (x.toNat : Int) = y.toNat := fun e => h (BitVec.eq_of_toNat_eq (by omega))
      simp [h, this])
def V8 (x : BitVec 8) : Value := .int .u8 (x.toNat : Int)
theorem wrap_bv8 (m : Nat) : IntKind.u8.wrap (m : Int) = ((BitVec.ofNat 8 m).toNat : Int) := by
  rw [BitVec.toNat_ofNat]
  simp [IntKind.wrap, IntKind.bits, IntKind.signed]
theorem ofInt_bv8 (x : BitVec 8) : BitVec.ofInt IntKind.u8.bits (x.toNat : Int) = x := by
  show BitVec.ofInt 8 (x.toNat : Int) = x
  rw [BitVec.ofInt_natCast]; simp
theorem bits8 (op : BinOp) (r : BitVec 8) : (Value.int .u8 (IntKind.u8.wrap (r.toNat : Int))) = V8 r := by
  rw [wrap_bv8]; simp [V8]
@[go_sem] theorem xorV8 (t : TypeId) (cx cy : Bool) (x y : BitVec 8) : pu P (oBin .xor t cx cy (V8 x) (V8 y)) K = K (V8 (x ^^^ y)) :=
  bin_int K (by
    simp only [binOp, Op.intBits]
    rw [if_neg (by simp), rp_pure, ofInt_bv8, ofInt_bv8]
    exact congrArg some (bits8 .xor (x ^^^ y)))
@[go_sem] theorem orV8 (t : TypeId) (cx cy : Bool) (x y : BitVec 8) : pu P (oBin .or t cx cy (V8 x) (V8 y)) K = K (V8 (x ||| y)) :=
  bin_int K (by
    simp only [binOp, Op.intBits]
    rw [if_neg (by simp), rp_pure, ofInt_bv8, ofInt_bv8]
    exact congrArg some (bits8 .or (x ||| y)))
@[go_sem] theorem andV8 (t : TypeId) (cx cy : Bool) (x y : BitVec 8) : pu P (oBin .and t cx cy (V8 x) (V8 y)) K = K (V8 (x &&& y)) :=
  bin_int K (by
    simp only [binOp, Op.intBits]
    rw [if_neg (by simp), rp_pure, ofInt_bv8, ofInt_bv8]
    exact congrArg some (bits8 .and (x &&& y)))
@[go_sem] theorem shlV8 (t : TypeId) (cx cy : Bool) (j : IntKind) (x : BitVec 8) (y : Int) (h0 : 0 ≤ y) (h1 : y ≤ 8) : pu P (oBin .shl t cx cy (V8 x) (.int j y)) K = K (V8 (x <<< y.toNat)) :=
  bin_int K (by
    simp only [binOp, Op.shift]
    rw [if_neg (by omega), rp_pure, Nat.min_eq_left (show y.toNat ≤ IntKind.u8.bits from show y.toNat ≤ 8 by omega)]
    congr 1
    rw [show ((x.toNat : Int) * 2 ^ y.toNat) = ((x.toNat * 2 ^ y.toNat : Nat) : Int) by simp, wrap_bv8]
    unfold V8
    congr 2
    rw [BitVec.toNat_shiftLeft, BitVec.toNat_ofNat, Nat.shiftLeft_eq])
@[go_sem] theorem shrV8 (t : TypeId) (cx cy : Bool) (j : IntKind) (x : BitVec 8) (y : Int) (h0 : 0 ≤ y) (h1 : y ≤ 8) : pu P (oBin .shr t cx cy (V8 x) (.int j y)) K = K (V8 (x >>> y.toNat)) :=
  bin_int K (by
    simp only [binOp, Op.shift]
    rw [if_neg (by omega), rp_pure, Nat.min_eq_left (show y.toNat ≤ IntKind.u8.bits from show y.toNat ≤ 8 by omega)]
    congr 1
    unfold V8
    congr 1
    rw [BitVec.toNat_ushiftRight, Nat.shiftRight_eq_div_pow, Int.fdiv_eq_ediv_of_nonneg _ (by exact Int.le_of_lt (Int.pow_pos (by decide)))]
    simp)
@[go_sem] theorem eqV8 (t : TypeId) (cx cy : Bool) (x y : BitVec 8) : pu P (oBin .eql t cx cy (V8 x) (V8 y)) K = K (.bool (decide (x = y))) :=
  (oEql K t cx cy .u8 x.toNat y.toNat).trans (by
    congr 2
    by_cases h : x = y
    · simp [h]
    · have : ¬ (x.toNat : Int) = y.toNat := fun e => h (BitVec.eq_of_toNat_eq (by omega))
      simp [h, this])
end
end Go.X
end
section
namespace Go.X
open Go Go.RowKit
section
variable {P : Program} (K : Value → World → Prop) (w : World)
theorem oSlice_lo (L : Value → Prop) {tB tE : TypeId} {size : Nat} (h2 : P.underlying tB = some (.slice tE)) (hs : (P.info? tE).map (·.size) = some size) {b o n m : Nat} {k : IntKind} {lo : Int} (a0 : 0 ≤ lo) (a1 : lo ≤ n) (a2 : n ≤ m) :
    pu P (oSlice tB (sl b o n m) (some (.int k lo)) none none) L = L (sl b (if m = lo.toNat then o else o + lo.toNat * size) (n - lo.toNat) (m - lo.toNat)) :=
  pu_v' (by
    simp only [Instr.sliceAt, Instr.slice, Instr.sliceBounds]
    simp [rp_bind, rp_underlying h2, rp_sliceBound k lo n _ a0 a1, rp_size hs, rp_map]
    split <;> simp [Addr.add_lit, rp_map, rp_size hs])
theorem oSlice_hi (L : Value → Prop) {tB tE : TypeId} {size : Nat} (h2 : P.underlying tB = some (.slice tE)) (hs : (P.info? tE).map (·.size) = some size) {b o n m : Nat} {j : IntKind} {hi : Int} (a1 : 0 ≤ hi) (a2 : hi ≤ m) :
    pu P (oSlice tB (sl b o n m) none (some (.int j hi)) none) L = L (sl b o hi.toNat m) :=
  pu_v' (by
    simp only [Instr.sliceAt, Instr.slice, Instr.sliceBounds]
    simp [rp_bind, rp_underlying h2, rp_sliceBound j hi m _ a1 a2, rp_size hs, rp_map]
    intro h; simp [Addr.add_lit])
theorem oCopy {tB tE : TypeId} {cs : Array Bool} {ty : TypeId} (h2 : P.underlying tB = some (.slice tE)) (hs : (P.info? tE).map (·.size) = some 1) {b o m b' o' m' n n' : Nat} {l0 : List Value} {t : TypeId} {l : List UInt8} (hb : bk w b = some (CB l0 t)) (hn : n' = l.length) (hle : l.length ≤ n) (ho : o + l.length ≤ l0.length) (r : rowB w b' o' l) :
    st P (oBuiltin .copy #[tB, tB] ty cs #[sl b o n m, sl b' o' n' m']) w K = K (.int .i64 l.length) (setb w b (CB (l0.take o ++ l.map byt ++ l0.drop (o + l.length)) t)) := by
  subst hn
  refine st_eq_value (run_v' ?_)
  have hmin : Nat.min l.length n = l.length := Nat.min_eq_left hle
  have hf : (Builtin.firstCells 1 l.length (sl b' o' l.length m')).run P w = .ok (l.map byt).toArray w :=
    run_firstCells_some w 1 l.length ⟨b', o', none⟩ l.length m' (l.map byt) (by simp) (fun j u hj => by
      have hjl : j < l.length := by have := (List.getElem?_eq_some_iff.1 hj).1; simpa using this
      have hc := rowB_cell r hjl
      rw [Addr.add_lit, cell?_eq, hc]
      simp [hjl] at hj; rw [← hj])
  have hst := run_storeCells_cells (P := P) b o (l.map byt) 0 w (fun j hj => by
      rw [cell?_eq, hb]
      show (l0.toArray[o + 0 + j]?).isSome = true
      simp at hj
      simp; omega) (fun j hj => by
      rw [frozen?_eq, hb]
      show (decide (0 ≤ o + 0 + j) && decide (o + 0 + j < 0)) = false
      simp) (fun u hu => by
      obtain ⟨b, _, rfl⟩ := List.mem_map.1 hu
      rfl)
  cases hie : P.info? tE with
  | none => rw [hie] at hs; cases hs
  | some ie =>
  rw [hie] at hs
  simp only [Option.map_some, Option.some.injEq] at hs
  simp only [Nat.add_zero] at hst
  have hset := setCells_eq b (e := t) (fz := (0, 0)) (l.map byt) o w l0 hb (by simpa using ho)
  simp only [List.length_map] at hset
  simp [Builtin.copy_, run_underlying h2, sizeOf, typeInfo, hie, hs, Builtin.lenOf, hmin, hf, hst, hset, goInt]
end
end Go.X
end
section
namespace Go.X
open Go Go.RowKit Go.WideShapes Go.Deep
section
variable {H : Type} {enc : TypeId × Value → H} {P : Program} {W : World}
theorem open_bytes {r : Reach} {b0 : Nat} {t e : TypeId} {v : Value} {d : DataW H} {p : List MemPlace} (ht : P.underlying t = some (.slice e)) (he : P.underlying e = some (.int .u8)) (hc : P.cellsOf e = 1)
    (hv : Value.okWide P W r b0 t v) (h : DataW.Trod enc P W 0 (fun _ => true) true t v d p) : ∃ l : List UInt8, BS W v l ∧ (l = [] ∨ ∃ es sp, d = .slice es sp ∧ es.length = l.length) := by
  obtain ⟨a, n, cap, rfl⟩ := okWide_slice ht hv
  obtain ⟨fuel, hf⟩ := h
  rcases open_slice1 ht hc hf with ⟨h1, h2⟩ | ⟨a', len, cap', m, k, V, D, Pl, h1, h2, h3, h4, h5, h6, h7⟩
  · simp [Value.cells] at h1
    obtain ⟨rfl, rfl, rfl⟩ := h1
    exact ⟨[], .inl ⟨rfl, _, _, rfl⟩, .inl rfl⟩
  · simp [Value.cells] at h1
    obtain ⟨rfl, rfl, rfl⟩ := h1
    simp only [if_true] at h5
    subst h5
    by_cases hn : n = 0
    · subst hn
      exact ⟨[], .inl ⟨rfl, _, _, rfl⟩, .inl rfl⟩
    · have hx : ∀ i, i < n → ∃ b : UInt8, V i = byt b := fun i hi => by
        obtain ⟨q, e1, _, e3⟩ := DataW.trod_int he (h7 i (by omega)).2
        simp only [List.cons.injEq, and_true] at e1
        simp only [Lit.wf, Bool.and_eq_true, decide_eq_true_eq] at e3
        have z0 : 0 ≤ q := e3.1
        have z1 : q ≤ 255 := e3.2
        refine ⟨UInt8.ofNat q.toNat, ?_⟩
        rw [e1, byt]
        congr 1
        simp
        omega
      have hspot : a'.spot = none := by
        have h0 := (h7 0 (by omega)).1
        rw [show a'.add 0 = a' from rfl] at h0
        unfold World.cell? at h0
        split at h0
        · cases hs : a'.spot with
          | none => rfl
          | some s => rw [hs] at h0; simp at h0
        · cases h0
      obtain ⟨b, o, sp⟩ := a'
      simp only at hspot
      subst hspot
      have hlist : ∃ l : List UInt8, l.length = n ∧ ∀ i (hi : i < l.length), V i = byt l[i] := by
        refine ⟨(List.range n).map fun i => match V i with | .int _ q => UInt8.ofNat q.toNat | _ => 0, by simp, fun i hi => ?_⟩
        have hi' : i < n := by simpa using hi
        obtain ⟨x, hx⟩ := hx i hi'
        simp only [List.getElem_map, List.getElem_range, hx, byt]
        simp
      obtain ⟨l, hl, hV⟩ := hlist
      subst hl
      refine ⟨l, .inr ⟨b, o, _, rfl, h3, ?_, ?_⟩, .inr ⟨_, _, congrArg Prod.fst h6, ?_⟩⟩
      · have hcell : ∀ i (hi : i < l.length), cellOf (bk W b) (o + i) = some (byt l[i]) := fun i hi => by
          have := (h7 i (by omega)).1
          rw [Addr.add_lit, cell?_eq, hV i hi] at this
          exact this
        unfold rowB
        have h0 := hcell 0 (by omega)
        unfold cellOf at h0
        split at h0
        · rename_i c tt fz hb
          rw [hb] at hcell ⊢
          simp only [rowOf]
          have hlast := hcell (l.length - 1) (by omega)
          have hlt : o + (l.length - 1) < c.size := by
            have : c[o + (l.length - 1)]? = some _ := hlast
            exact (Array.getElem?_eq_some_iff.1 this).1
          rw [if_pos (by omega)]
          congr 1
          apply List.ext_getElem?
          intro i
          by_cases hi : i < l.length
          · rw [List.getElem?_take_of_lt hi, List.getElem?_drop]
            have : c[o + i]? = some (byt l[i]) := hcell i hi
            rw [Array.getElem?_toList, this]
            simp [hi]
          · rw [List.getElem?_eq_none (by simp; omega), List.getElem?_eq_none (by simp; omega)]
        · cases h0
      · have h0 := (h7 0 (by omega)).1
        rw [show (Addr.mk b o none).add 0 = ⟨b, o, none⟩ from rfl] at h0
        rw [cell?_eq] at h0
        unfold cellOf at h0
        split at h0
        · rename_i hb; exact bk_lt hb
        · cases h0
      · simp
end
end Go.X
end
section
namespace Go.X
open Go Go.RowKit
section
variable {P : Program} (K : Value → World → Prop) (w : World)
theorem own_nil (w : World) (B : Nat) (e : TypeId) (size : Nat) : w.ownsRow B e size (.slice none 0 0) 0 [] := ⟨by simp, .inl ⟨rfl, rfl⟩⟩
theorem own_old {w w' : World} {B C : Nat} {e : TypeId} {size : Nat} {v : Value} {n : Nat} {xs : List Value} (h : w.ownsRow B e size v n xs) (hb : Below C w w') (hC : w.heap.size ≤ C) : w'.ownsRow B e size v n xs := by
  refine ⟨h.1, ?_⟩
  rcases h.2 with h | ⟨g, cap, cur, h1, h2, h3, h4⟩
  · exact .inl h
  · refine .inr ⟨g, cap, cur, h1, h2, ?_, h4⟩
    have hg : g < w.heap.size := (Array.getElem?_eq_some_iff.1 h3).1
    rw [hb.block g (by omega)]; exact h3
theorem own_bel {w w' : World} {B : Nat} {e : TypeId} {size : Nat} {v : Value} {n : Nat} {xs : List Value} (h : w.ownsRow B e size v n xs) (hg : w.grownBy w' v.ownBlock) (hB : B ≤ w.heap.size) : Below B w w' :=
  (Below.refl B w).grown hg hB fun k hk => (h.lt k hk).1
theorem own_slice {w : World} {B : Nat} {e : TypeId} {size : Nat} {v : Value} {n : Nat} {xs : List Value} (h : w.ownsRow B e size v n xs) : ∃ a cap, v = .slice a n cap := by
  rcases h.2 with ⟨rfl, rfl⟩ | ⟨g, cap, cur, rfl, _⟩
  · exact ⟨_, _, rfl⟩
  · exact ⟨_, _, rfl⟩
theorem own_row {w : World} {B : Nat} {e : TypeId} {size : Nat} {v : Value} {n : Nat} {xs : List Value} (h : w.ownsRow B e size v n xs) (hn : n ≠ 0) : ∃ b cap cur, v = sl b 0 n cap ∧ n ≤ cap ∧ B ≤ b ∧ b < w.heap.size ∧ bk w b = some (CB cur e) ∧ cur.length = cap * size ∧ cur.take (n * size) = xs := by
  rcases h.2 with ⟨_, h0⟩ | ⟨g, cap, cur, rfl, h1, h2, h3, h4, h5, h6⟩
  · exact absurd h0 hn
  · exact ⟨g, cap, cur.toList, rfl, h3, h1, (Array.getElem?_eq_some_iff.1 h2).1, by unfold bk; rw [h2], by simpa using h5, h6⟩
theorem oAppend_own {t e : TypeId} {z : Value} {size bytes : Nat} {cs : Array Bool} {ty : TypeId} (ht : P.underlying t = some (.slice e)) (hi : (P.info? e).map (fun i => (i.zero, i.size, i.bytes)) = some (some z, size, bytes)) (hzs : z.cells.size = size) (hsz : 0 < size)
    {B : Nat} {v : Value} {n : Nat} {xs : List Value} (hown : w.ownsRow B e size v n xs) {b o m c : Nat} {news : List Value} (hl : news.length = m * size) (r : rowOf (bk w b) o news.length = some news) (h1 : ∀ u ∈ news, u.oneCell' = true)
    (h63 : n + m ≤ maxLen) (hbytes : (n + m) * bytes ≤ 140737488355328) (hbase : B ≤ w.heap.size)
    (h : ∀ v' w', w'.ownsRow B e size v' (n + m) (xs ++ news) → Below B w w' → K v' w') : st P (oBuiltin .append #[t, t] ty cs #[v, sl b o m c]) w K := by
  cases hie : P.info? e with
  | none => rw [hie] at hi; cases hi
  | some i =>
  rw [hie] at hi
  simp only [Option.map_some, Option.some.injEq, Prod.mk.injEq] at hi
  obtain ⟨hz, hs, hb⟩ := hi
  obtain ⟨c', t', fz, e1, e2, e3⟩ := rowOf_inv r
  have hnews : ∀ j u, news[j]? = some u → w.cell? ((⟨b, o, none⟩ : Addr).add j) = some u := fun j u hj => by
    have hjl := (List.getElem?_eq_some_iff.1 hj).1
    rw [Addr.add_lit, cell?_eq, e1]
    show c'[o + j]? = _
    rw [← e3, List.getElem?_take_of_lt hjl, List.getElem?_drop, Array.getElem?_toList] at hj
    exact hj
  obtain ⟨v', w', hr, hown', hg, _⟩ := run_append_own (P := P) w B t ty e i z size bytes ht hie hz hs hb hzs hsz v n xs hown ⟨b, o, none⟩ m c news hl hnews h1 h63 hbytes hbase
  have := st_eq_value (K := K) (run_v' hr)
  rw [show st P (oBuiltin .append #[t, t] ty cs #[v, sl b o m c]) w K = K v' w' from this]
  exact h _ _ hown' (own_bel hown hg hbase)
theorem oBuildSliceN {tB tE : TypeId} {z : Value} {size : Nat} (h2 : P.underlying tB = some (.slice tE)) (hi : (P.info? tE).map (fun i => (i.zero, i.size)) = some (some z, size)) (h0 : 0 < size) (h24 : size ≤ 16777216) {l : List Value} (hl : l.length = size) :
    st P (oBuildSlice tB 1 #[(0, AG l)]) w K = K (sl w.heap.size 0 1 1) (w.alloc (CB l tE)) := by
  cases hie : P.info? tE with
  | none => rw [hie] at hi; cases hi
  | some ie =>
  rw [hie] at hi
  simp only [Option.map_some, Option.some.injEq, Prod.mk.injEq] at hi
  obtain ⟨hz, hs⟩ := hi
  refine st_eq_value (run_v' (run_buildSlice w tB tE 1 _ l.toArray ie z h2 hie hz (by rw [hs]; omega) (by rw [hs]; omega) ?_))
  rw [hs]
  have hsz : (Array.map (fun x => z.cells[x % z.cells.size]!) (Array.range (1 * size))).size = size := by simp
  generalize Array.map (fun x => z.cells[x % z.cells.size]!) (Array.range (1 * size)) = zs at hsz ⊢
  have hc : (AG l).cells = l.toArray := rfl
  have hok : (decide (l.toArray.size ≠ size) || decide (0 * size + l.toArray.size > zs.size)) = false := by simp [hl, hsz]
  simp only [Instr.fill, hc, hok, Bool.false_eq_true, if_false]
  have e : (l.toArray.zipIdx.foldl (fun cs (x : Value × Nat) => cs.setIfInBounds (0 * size + x.2) x.1) zs) = l.toArray := by
    apply Array.toList_inj.1
    have := foldl_set (0 * size) l 0 zs (by simp [hl, hsz])
    rw [← Array.foldl_toList]
    simp only [Array.toList_zipIdx]
    rw [this]
    have hz0 : zs.toList.length = size := by simpa using hsz
    simp [List.drop_eq_nil_of_le, hl, hz0]
  exact congrArg some e
end
end Go.X
end
section
namespace Go.X
open Go Go.RowKit
end Go.X
end
section
namespace Go.X
open Go Go.RowKit
section
variable {P : Program} {K : Value → Prop} {L : Value → World → Prop}
@[go_sem high] theorem gd_undef (want : Bool) (w : World) (X : (Value → World → Prop) → Prop) (K : Value → World → Prop) : gd undef want w X K = K undef w :=
  propext ⟨fun x => x.h, fun x => ⟨x⟩⟩
structure ErrT (P : Program) (ti tp te : TypeId) : Prop where
  hi : ∃ ms, P.underlying ti = some (.interface ms)
  hp : P.underlying tp = some (.pointer te)
  hc : (P.info? tp).map (·.comparable) = some true
  hs : (P.info? te).map (fun j => j.size != 0) = some true
theorem oEqlNil {t : TypeId} {ms : Array (String × TypeId)} (h : P.underlying t = some (.interface ms)) (cx : Bool) : pu P (oBin .eql t cx true .nilIface .nilIface) K = K (.bool true) :=
  pu_v' (by
    have e : rp P (eqGuard .eql t (fl cx) (fl true) .nilIface .nilIface) = some () := by unfold eqGuard; cases cx <;> rfl
    rw [rp_bind, e]
    show rp P (binOp .eql t .nilIface .nilIface) = _
    have h2 : ∀ d : Nat, rp P (Op.equalIn (d + 1) t .nilIface .nilIface) = some true := fun d => by simp [Op.equalIn, rp_bind, rp_underlying h]
    simp only [binOp]
    simp [Op.equal, Op.maxDepth, h2 9999, rp_bind, rp_map])
theorem oEqlNil2 {t : TypeId} {ms : Array (String × TypeId)} (h : P.underlying t = some (.interface ms)) (cx cy : Bool) (u : TypeId) (v : Value) : pu P (oBin .eql t cx cy (.iface u v) .nilIface) K = K (.bool false) :=
  pu_v' (by
    have e : rp P (eqGuard .eql t (fl cx) (fl cy) (.iface u v) .nilIface) = some () := by unfold eqGuard; rfl
    rw [rp_bind, e]
    show rp P (binOp .eql t (.iface u v) .nilIface) = _
    have h2 : ∀ d : Nat, rp P (Op.equalIn (d + 1) t (.iface u v) .nilIface) = some false := fun d => by simp [Op.equalIn, rp_bind, rp_underlying h]
    simp only [binOp]
    simp [Op.equal, Op.maxDepth, h2 9999, rp_bind, rp_map])
theorem oAssertNil {t ta te : TypeId} (h : P.underlying ta = some (.pointer te)) (hz : (P.info? ta).map (·.zero) = some (some (.pointer none))) : pu P (oAssert .nilIface t ta true) K = K (tup [.pointer none, .bool false]) :=
  pu_v' (by
    cases hi : P.info? ta with
    | none => rw [hi] at hz; cases hz
    | some i =>
      rw [hi] at hz
      simp only [Option.map_some, Option.some.injEq] at hz
      simp [Instr.typeAssert, rp_bind, rp_underlying h, zeroValue, typeInfo, hi, hz, rp_map, tup])
theorem oAssertSame {t ta te : TypeId} (h : P.underlying ta = some (.pointer te)) (v : Value) : pu P (oAssert (.iface ta v) t ta true) K = K (tup [v, .bool true]) :=
  pu_v' (by simp [Instr.typeAssert, rp_bind, rp_underlying h, tup])
theorem oAssertOther {t ta te tb : TypeId} (h : P.underlying ta = some (.pointer te)) (hz : (P.info? ta).map (·.zero) = some (some (.pointer none))) (hne : tb ≠ ta) (v : Value) : pu P (oAssert (.iface tb v) t ta true) K = K (tup [.pointer none, .bool false]) :=
  pu_v' (by
    cases hi : P.info? ta with
    | none => rw [hi] at hz; cases hz
    | some i =>
      rw [hi] at hz
      simp only [Option.map_some, Option.some.injEq] at hz
      simp [Instr.typeAssert, rp_bind, rp_underlying h, zeroValue, typeInfo, hi, hz, rp_map, tup, hne])
theorem stEqlErr {ti tp te : TypeId} (T : ErrT P ti tp te) (cx cy : Bool) {w : World} {b o b' o' : Nat} {l l' : List Value} {t t' : TypeId} (h1 : bk w b = some (CB l t)) (h2 : bk w b' = some (CB l' t')) :
    st P (oBin .eql ti cx cy (.iface tp (pt b o)) (.iface tp (pt b' o'))) w L = L (.bool (decide (b = b' ∧ o = o'))) w := by
  obtain ⟨⟨ms, hi⟩, hp, hc, hs⟩ := T
  cases e1 : P.info? tp with
  | none => rw [e1] at hc; cases hc
  | some i =>
  cases e2 : P.info? te with
  | none => rw [e2] at hs; cases hs
  | some j =>
  rw [e1] at hc
  rw [e2] at hs
  simp only [Option.map_some, Option.some.injEq, bne_iff_ne] at hc hs
  refine st_eq_value (run_v' ?_)
  have g : (eqGuard .eql ti (fl cx) (fl cy) (.iface tp (pt b o)) (.iface tp (pt b' o'))).run P w = .ok () w := by unfold eqGuard; rfl
  show (eqGuard .eql ti (fl cx) (fl cy) (.iface tp (pt b o)) (.iface tp (pt b' o')) >>= fun _ => binOp .eql ti (.iface tp (pt b o)) (.iface tp (pt b' o'))).run P w = _
  rw [Sem.run_bind, g]
  show (binOp .eql ti (.iface tp (pt b o)) (.iface tp (pt b' o'))).run P w = _
  by_cases q : b = b' ∧ o = o'
  · obtain ⟨rfl, rfl⟩ := q
    rw [decide_eq_true ⟨rfl, rfl⟩]
    exact run_eql_iface_ptr_same w ⟨b, o, none⟩ hi hp e1 hc e2
  · rw [decide_eq_false q]
    refine run_eql_iface_ptr_other w hi hp e1 hc e2 hs ?_ h1 h2
    intro e
    injection e with e3 e4
    exact q ⟨e3, e4⟩
end
end Go.X
end
section
namespace Go.X
open Go Go.RowKit
section
variable {P : Program} {L : Value → World → Prop} {w : World}
theorem oMkB {tB tE : TypeId} (h2 : P.underlying tB = some (.slice tE)) (hi : (P.info? tE).map (fun i => (i.zero, i.size, i.bytes)) = some (some (.int .u8 0), 1, 1)) (n : Nat) (hn : n ≤ 281474976710656) :
    st P (oMkSlice tB (.int .i64 n) (.int .i64 n)) w L = L (sl w.heap.size 0 n n) (w.alloc (CB (List.replicate n (.int .u8 0)) tE)) := by
  have h := run_make_row' (P := P) tB tE (.int .u8 0) 1 h2 hi rfl .i64 .i64 n (by omega) (by omega) w
  have e : madeCells #[Value.int .u8 0] n = (List.replicate n (Value.int .u8 0)).toArray := by
    apply Array.toList_inj.1
    apply List.ext_getElem
    · simp [madeCells]
    · intro i h1 h2
      simp [madeCells, Nat.mod_one]
  rw [e] at h
  exact st_eq_value (run_v' h)
theorem src_row {tx te : TypeId} {b o m c : Nat} {news : List Value} (hk : P.underlying tx = some (.slice te)) (r : rowOf (bk w b) o news.length = some news) (hm : m = news.length) (h1 : ∀ u ∈ news, u.oneCell' = true) : Src P 1 tx (sl b o m c) m news w := by
  subst hm
  obtain ⟨c', t', fz, e1, e2, e3⟩ := rowOf_inv r
  refine Src.ofSlice w hk ⟨b, o, none⟩ news.length c news (by simp) (fun j u hj => ?_) h1
  have hjl := (List.getElem?_eq_some_iff.1 hj).1
  rw [Addr.add_lit, cell?_eq, e1]
  show c'[o + j]? = _
  rw [← e3, List.getElem?_take_of_lt hjl, List.getElem?_drop, Array.getElem?_toList] at hj
  exact hj
theorem oAppend_room {tB tx tE ty : TypeId} {cs : Array Bool} (h2 : P.underlying tB = some (.slice tE)) (hi : (P.info? tE).map (·.size) = some 1) {b o n cap m : Nat} {cur news : List Value} {x : Value} (hs : Src P 1 tx x m news w) (hb : bk w b = some (CB cur tE)) (hroom : n + m ≤ cap) (hlen : o + n + m ≤ cur.length) :
    st P (oBuiltin .append #[tB, tx] ty cs #[sl b o n cap, x]) w L = L (sl b o (n + m) cap) (setb w b (CB (cur.take (o + n) ++ news ++ cur.drop (o + n + m)) tE)) := by
  cases hie : P.info? tE with
  | none => rw [hie] at hi; cases hi
  | some ie =>
  rw [hie] at hi
  simp only [Option.map_some, Option.some.injEq] at hi
  have hnl : news.length = m := by have := hs.newsLen; omega
  have hr := run_append_room_src (P := P) w tB tx ty tE ie h2 hie b o n cap x m news (by rw [hi]; exact hs) hroom (fun j hj => by
    rw [cell?_eq, hb]
    show (cur.toArray[o + n * ie.size + j]?).isSome = true
    rw [hi, Nat.mul_one]
    simp; omega) (fun j hj => by
    unfold World.frozen?
    have h3 : w.heap[b]? = some (CB cur tE) := hb
    simp [h3])
  rw [hi, Nat.mul_one, setCells_eq b news (o + n) w cur hb (by omega), hnl] at hr
  exact st_eq_value (run_v' hr)
theorem oAppend_none {tB tx tE ty : TypeId} {cs : Array Bool} (h2 : P.underlying tB = some (.slice tE)) (hi : (P.info? tE).map (·.size) = some 1) {a : Option Addr} {n cap : Nat} {x : Value} (hs : Src P 1 tx x 0 [] w) (hle : n ≤ cap) :
    st P (oBuiltin .append #[tB, tx] ty cs #[.slice a n cap, x]) w L = L (.slice a n cap) w := by
  cases hie : P.info? tE with
  | none => rw [hie] at hi; cases hi
  | some ie =>
  rw [hie] at hi
  simp only [Option.map_some, Option.some.injEq] at hi
  exact st_eq_value (run_v' (run_append_nothing w tB tx ty tE ie h2 hie a n cap hle x (by rw [hi]; exact hs)))
theorem oAppend_own_at {t e : TypeId} {z : Value} {size bytes : Nat} {cs : Array Bool} {ty : TypeId} (ht : P.underlying t = some (.slice e)) (hi : (P.info? e).map (fun i => (i.zero, i.size, i.bytes)) = some (some z, size, bytes)) (hzs : z.cells.size = size) (hsz : 0 < size)
    {B : Nat} {v : Value} {n : Nat} {xs : List Value} (hown : w.ownsRow B e size v n xs) {b o m c : Nat} {news : List Value} (hl : news.length = m * size) (r : rowOf (bk w b) o news.length = some news) (h1 : ∀ u ∈ news, u.oneCell' = true)
    (h63 : n + m ≤ maxLen) (hbytes : (n + m) * bytes ≤ 140737488355328) (hbase : B ≤ w.heap.size)
    (h : ∀ v' w', w'.ownsRow B e size v' (n + m) (xs ++ news) → w.grownBy w' v.ownBlock → (v'.ownBlock = v.ownBlock ∨ v'.ownBlock = some w.heap.size) → L v' w') : st P (oBuiltin .append #[t, t] ty cs #[v, sl b o m c]) w L := by
  cases hie : P.info? e with
  | none => rw [hie] at hi; cases hi
  | some i =>
  rw [hie] at hi
  simp only [Option.map_some, Option.some.injEq, Prod.mk.injEq] at hi
  obtain ⟨hz, hs, hb⟩ := hi
  obtain ⟨c', t', fz, e1, e2, e3⟩ := rowOf_inv r
  have hnews : ∀ j u, news[j]? = some u → w.cell? ((⟨b, o, none⟩ : Addr).add j) = some u := fun j u hj => by
    have hjl := (List.getElem?_eq_some_iff.1 hj).1
    rw [Addr.add_lit, cell?_eq, e1]
    show c'[o + j]? = _
    rw [← e3, List.getElem?_take_of_lt hjl, List.getElem?_drop, Array.getElem?_toList] at hj
    exact hj
  obtain ⟨v', w', hr, hown', hg, _, ha⟩ := run_append_own_at (P := P) w B t ty e i z size bytes ht hie hz hs hb hzs hsz v n xs hown ⟨b, o, none⟩ m c news hl hnews h1 h63 hbytes hbase
  have := st_eq_value (K := L) (run_v' hr)
  rw [show st P (oBuiltin .append #[t, t] ty cs #[v, sl b o m c]) w L = L v' w' from this]
  exact h _ _ hown' hg ha
structure Kp (w w' : World) (S : Nat → Prop) : Prop where
  os : w'.os = w.os
  tape : w'.tape = w.tape
  output : w'.output = w.output
  size : w.heap.size ≤ w'.heap.size
  block : ∀ k, k < w.heap.size → ¬ S k → bk w' k = bk w k
theorem Kp.refl (w : World) (S : Nat → Prop) : Kp w w S := ⟨rfl, rfl, rfl, Nat.le_refl _, fun _ _ _ => rfl⟩
theorem Kp.trans {a b c : World} {S T : Nat → Prop} (h : Kp a b S) (k : Kp b c T) (hT : ∀ x, x < a.heap.size → T x → S x) : Kp a c S :=
  ⟨k.os.trans h.os, k.tape.trans h.tape, k.output.trans h.output, Nat.le_trans h.size k.size, fun x hx hs => (k.block x (Nat.lt_of_lt_of_le hx h.size) fun ht => hs (hT x hx ht)).trans (h.block x hx hs)⟩
theorem Kp.of_below {w w' : World} (h : Below w.heap.size w w') (S : Nat → Prop) : Kp w w' S := ⟨h.os, h.tape, h.output, h.size, fun k hk _ => h.block k hk⟩
theorem Kp.of_grown {w w' : World} {row : Option Nat} (h : w.grownBy w' row) : Kp w w' fun k => row = some k := ⟨h.os, h.tape, h.output, h.size, fun k hk hn => h.block k hk fun e => hn e.symm⟩
theorem Kp.setb (w : World) (b : Nat) (o : Obj) : Kp w (setb w b o) fun k => k = b := ⟨rfl, rfl, rfl, by simp only [go_sem]; exact Nat.le_refl _, fun k hk hn => bk_setb_ne _ _ _ _ hn⟩
theorem Kp.drew (w : World) (S : Nat → Prop) : Kp w w.drew S := ⟨rfl, rfl, rfl, Nat.le_refl _, fun _ _ _ => rfl⟩
theorem Kp.below {w w' : World} {S : Nat → Prop} {B : Nat} (h : Kp w w' S) (hS : ∀ k, k < B → ¬ S k) (hB : B ≤ w.heap.size) : Below B w w' := ⟨h.os, h.tape, h.output, h.size, fun k hk => h.block k (by omega) (hS k hk)⟩
theorem own_kp {w w' : World} {S : Nat → Prop} {B : Nat} {e : TypeId} {size : Nat} {v : Value} {n : Nat} {xs : List Value} (h : w.ownsRow B e size v n xs) (hb : Kp w w' S) (hS : ∀ k, v.ownBlock = some k → ¬ S k) : w'.ownsRow B e size v n xs := by
  refine ⟨h.1, ?_⟩
  rcases h.2 with h | ⟨g, cap, cur, rfl, h1, h2, h3, h4, h5, h6⟩
  · exact .inl h
  · have hlt := (Array.getElem?_eq_some_iff.1 h2).1
    have e1 := hb.block g hlt (hS g rfl)
    exact .inr ⟨g, cap, cur, rfl, h1, by unfold bk at e1; rw [e1, h2], h3, h4, h5, h6⟩
theorem BS_kp {w w' : World} {S : Nat → Prop} {v : Value} {l : List UInt8} (h : BS w v l) (hb : Kp w w' S) (hS : ∀ k, v.ownBlock = some k → ¬ S k) : BS w' v l := by
  rcases h with h | ⟨b, o, cap, rfl, h2, h3, h4⟩
  · exact .inl h
  · refine .inr ⟨b, o, cap, rfl, h2, ?_, Nat.lt_of_lt_of_le h4 hb.size⟩
    unfold rowB at h3 ⊢
    rw [hb.block b h4 (hS b rfl)]
    exact h3
theorem setb_same {b : Nat} {o : Obj} (h : bk w b = some o) : setb w b o = w := by
  unfold setb
  have e : w.heap.setIfInBounds b o = w.heap := by
    apply Array.ext_getElem?
    intro i
    by_cases hi : i = b
    · subst hi
      have := bk_lt h
      rw [Array.getElem?_setIfInBounds_self_of_lt this]
      exact h.symm
    · rw [Array.getElem?_setIfInBounds_ne (Ne.symm hi)]
  rw [e]
theorem oSlice_00 {M : Value → Prop} {tB tE : TypeId} {size : Nat} (h2 : P.underlying tB = some (.slice tE)) (hs : (P.info? tE).map (·.size) = some size) {a : Option Addr} {n m : Nat} {k j : IntKind} :
    pu P (oSlice tB (.slice a n m) (some (.int k 0)) (some (.int j 0)) none) M = M (.slice a 0 m) :=
  pu_v' (by
    have e : a.map (·.add 0) = a := by
      cases a with
      | none => rfl
      | some a => rfl
    simp only [Instr.sliceAt, Instr.slice, Instr.sliceBounds]
    simp [rp_bind, rp_underlying h2, rp_sliceBound j 0 m _ (by omega) (by omega), rp_sliceBound k 0 0 _ (by omega) (by omega), rp_size hs, rp_map]
    exact fun _ => e)
theorem oCopy0 {tB tE : TypeId} {cs : Array Bool} {ty : TypeId} (h2 : P.underlying tB = some (.slice tE)) (hs : (P.info? tE).map (·.size) = some 1) {b o n m cap : Nat} {a : Option Addr} :
    st P (oBuiltin .copy #[tB, tB] ty cs #[sl b o n m, .slice a 0 cap]) w L = L (.int .i64 0) w := by
  refine st_eq_value (run_v' ?_)
  cases hie : P.info? tE with
  | none => rw [hie] at hs; cases hs
  | some ie =>
  cases a <;> simp [Builtin.copy_, run_underlying h2, sizeOf, typeInfo, hie, Builtin.lenOf, Builtin.firstCells, loadCells, loadCellsFrom, storeCells, goInt]
theorem part_at {b cap : Nat} {cur : List Value} {e : TypeId} {l : List UInt8} (hb : bk w b = some (CB cur e)) (hc : cur.length = cap) (ht : cur.take l.length = l.map byt) (hl : l.length ≤ cap) (p m : Nat) (hp : p + m ≤ l.length) :
    ∃ o, (if cap = p then 0 else 0 + p * 1) = o ∧ rowB w b o ((l.drop p).take m) := by
  have key : ∀ p m, p + m ≤ l.length → rowB w b p ((l.drop p).take m) := fun p m hp => by
    unfold rowB
    rw [hb]
    simp only [rowOf]
    rw [if_pos (by simp; omega)]
    congr 1
    have hlen : ((l.drop p).take m).length = m := by simp; omega
    rw [hlen, List.map_take, List.map_drop, ← ht, List.drop_take, List.take_take, Nat.min_eq_left (by omega)]
  by_cases h : cap = p
  · refine ⟨0, if_pos h, ?_⟩
    have hm : m = 0 := by omega
    subst hm
    have := key 0 0 (by omega)
    simpa using this
  · exact ⟨p, by rw [if_neg h]; omega, key p m hp⟩
theorem oCopyOf {tB tE : TypeId} {cs : Array Bool} {ty : TypeId} (h2 : P.underlying tB = some (.slice tE)) (hi : (P.info? tE).map (fun i => (i.zero, i.size, i.bytes)) = some (some (.int .u8 0), 1, 1)) {v1 : Value} {l : List UInt8} (hv : BS w v1 l) (hl : l.length ≤ 140737488355328)
    (h : ∀ v' w', w'.ownsRow w.heap.size tE 1 v' l.length (l.map byt) → Below w.heap.size w w' → L v' w') : st P (oBuiltin .append #[tB, tB] ty cs #[.slice none 0 0, v1]) w L := by
  have hi2 : (P.info? tE).map (·.size) = some 1 := by
    cases e : P.info? tE with
    | none => rw [e] at hi; cases hi
    | some i => rw [e] at hi; simp only [Option.map_some, Option.some.injEq, Prod.mk.injEq] at hi; simp [hi.2.1]
  by_cases he : l = []
  · subst he
    obtain ⟨a, cap, rfl⟩ := BS_slice hv
    have hs : Src P 1 tB (.slice a 0 cap) 0 [] w := by
      cases a with
      | none => exact Src.ofNil w h2 cap
      | some a => exact Src.ofSlice w h2 a 0 cap [] (by simp) (fun j u hj => by simp at hj) (fun _ h => by cases h)
    rw [show (([] : List UInt8).length) = 0 from rfl, oAppend_none h2 hi2 hs (Nat.le_refl _)]
    exact h _ _ ⟨rfl, .inl ⟨rfl, rfl⟩⟩ (Below.refl _ _)
  · rcases hv with ⟨e, _⟩ | ⟨b, o, cap, rfl, h3, h4, h5⟩
    · exact absurd e he
    · refine oAppend_own_at (size := 1) (z := .int .u8 0) (B := w.heap.size) (n := 0) (xs := []) (news := l.map byt) h2 hi rfl (by omega) ⟨rfl, .inl ⟨rfl, rfl⟩⟩ (by simp) ?_ (fun u hu => by obtain ⟨x, _, rfl⟩ := List.mem_map.1 hu; rfl) (by simp only [maxLen]; omega) (by omega) (Nat.le_refl _) fun v' w' g1 g2 _ => ?_
      · rw [List.length_map]; exact h4
      · rw [Nat.zero_add, List.nil_append] at g1
        exact h v' w' g1 ⟨g2.os, g2.tape, g2.output, g2.size, fun k hk => g2.block k hk (by simp [Value.ownBlock])⟩
theorem BS_own {B : Nat} {e : TypeId} {v : Value} {l : List UInt8} (h : w.ownsRow B e 1 v l.length (l.map byt)) : BS w v l := by
  by_cases he : l.length = 0
  · obtain ⟨a, cap, rfl⟩ := own_slice h
    rw [he]
    exact .inl ⟨List.length_eq_zero_iff.1 he, a, cap, rfl⟩
  · obtain ⟨b, cap, cur, rfl, q1, q2, q3, q4, q5, q6⟩ := own_row h he
    refine .inr ⟨b, 0, cap, rfl, q1, ?_, q3⟩
    unfold rowB
    rw [q4]
    simp only [rowOf]
    rw [if_pos (by simp; omega)]
    rw [Nat.mul_one] at q6
    simpa using q6
theorem run_convBS0 {tS tB tE : TypeId} (h1 : P.underlying tS = some .string) (h2 : P.underlying tB = some (.slice tE)) (h3 : P.underlying tE = some (.int .u8)) {v : Value} {l : List UInt8} (h : BS w v l) : (convert tB tS v).run P w = .ok (S l) w := by
  rcases h with ⟨rfl, a, cap, rfl⟩ | ⟨b, o, cap, rfl, _, h4, _⟩
  · have e : (Conv.bytesToString (.slice a 0 cap)).run P w = .ok (S []) w := by
      cases a with
      | none => rfl
      | some a =>
        have hl : (loadCells a 0).run P w = .ok (([] : List Int).map (Value.int .u8)).toArray w := by simp [loadCells, loadCellsFrom]
        rw [run_bytesToString w a 0 cap _ hl]
        rfl
    simp only [convert, Sem.run_bind, run_underlying h1, run_underlying h2, Result.andThen_ok, run_underlying h3, e]
  · exact run_convBS w h1 h2 h3 h4 rfl
theorem stConvBS {tS tB tE : TypeId} (h1 : P.underlying tS = some .string) (h2 : P.underlying tB = some (.slice tE)) (h3 : P.underlying tE = some (.int .u8)) {v : Value} {l : List UInt8} (h : BS w v l) : st P (oConv tB tS v) w L = L (S l) w := st_eq_value (run_v' (run_convBS0 h1 h2 h3 h))
theorem rdConvBS {M : Value → Prop} {tS tB tE : TypeId} (h1 : P.underlying tS = some .string) (h2 : P.underlying tB = some (.slice tE)) (h3 : P.underlying tE = some (.int .u8)) {v : Value} {l : List UInt8} (h : BS w v l) : rd P (oConv tB tS v) w M = M (S l) := rd_eq (run_v' (run_convBS0 h1 h2 h3 h))
end
end Go.X
end
section
namespace Go.X
open Go Go.RowKit
section
variable {P : Program} {L : Value → World → Prop} {w : World}
theorem grown_refl (w : World) (r : Option Nat) : w.grownBy w r := ⟨rfl, rfl, rfl, Nat.le_refl _, fun _ _ _ => rfl⟩
theorem info_size {tE : TypeId} (hi : (P.info? tE).map (fun i => (i.zero, i.size, i.bytes)) = some (some (.int .u8 0), 1, 1)) : (P.info? tE).map (·.size) = some 1 := by
  cases e : P.info? tE with
  | none => rw [e] at hi; cases hi
  | some i => rw [e] at hi; simp only [Option.map_some, Option.some.injEq, Prod.mk.injEq] at hi; simp [hi.2.1]
theorem BS_src {tB tE : TypeId} (h2 : P.underlying tB = some (.slice tE)) {x : Value} {l : List UInt8} (hx : BS w x l) : Src P 1 tB x l.length (l.map byt) w := by
  rcases hx with ⟨rfl, a, cap, rfl⟩ | ⟨b, o, cap, rfl, h3, h4, h5⟩
  · cases a with
    | none => exact Src.ofNil w h2 cap
    | some a => exact Src.ofSlice w h2 a 0 cap [] (by simp) (fun j u hj => by simp at hj) (fun _ h => by cases h)
  · exact src_row (news := l.map byt) h2 (by rw [List.length_map]; exact h4) (by simp) fun u hu => by obtain ⟨y, _, rfl⟩ := List.mem_map.1 hu; rfl
theorem own_cap {B : Nat} {e : TypeId} {v : Value} {n : Nat} {xs : List Value} (h : w.ownsRow B e 1 v n xs) : ∃ a cap, v = .slice a n cap ∧ n ≤ cap := by
  rcases h.2 with ⟨rfl, rfl⟩ | ⟨g, cap, cur, rfl, h1, h2, h3, _⟩
  · exact ⟨none, 0, rfl, Nat.le_refl _⟩
  · exact ⟨_, cap, rfl, h3⟩
theorem oAppendBS {tB tE : TypeId} {cs : Array Bool} {ty : TypeId} (h2 : P.underlying tB = some (.slice tE)) (hi : (P.info? tE).map (fun i => (i.zero, i.size, i.bytes)) = some (some (.int .u8 0), 1, 1)) {B : Nat} {v x : Value} {n : Nat} {xs : List Value} {l : List UInt8} (hown : w.ownsRow B tE 1 v n xs) (hx : BS w x l) (hb : n + l.length ≤ 140737488355328) (hB : B ≤ w.heap.size)
    (h : ∀ v' w', w'.ownsRow B tE 1 v' (n + l.length) (xs ++ l.map byt) → w.grownBy w' v.ownBlock → (v'.ownBlock = v.ownBlock ∨ v'.ownBlock = some w.heap.size) → L v' w') : st P (oBuiltin .append #[tB, tB] ty cs #[v, x]) w L := by
  have hi2 := info_size hi
  by_cases he : l = []
  · subst he
    obtain ⟨a', cap', rfl⟩ := BS_slice hx
    obtain ⟨a, cap, rfl, hc⟩ := own_cap hown
    have hs := BS_src (P := P) h2 hx
    rw [show (([] : List UInt8).length) = 0 from rfl] at hs ⊢
    rw [oAppend_none h2 hi2 hs hc]
    exact h _ _ (by simpa using hown) (grown_refl _ _) (.inl rfl)
  · rcases hx with ⟨e, _⟩ | ⟨b, o, cap, rfl, h3, h4, h5⟩
    · exact absurd e he
    · exact oAppend_own_at (size := 1) (z := .int .u8 0) (news := l.map byt) h2 hi rfl (by omega) hown (by simp) (by rw [List.length_map]; exact h4) (fun u hu => by obtain ⟨x, _, rfl⟩ := List.mem_map.1 hu; rfl) (by simp only [maxLen]; omega) (by omega) hB h
theorem own_hi {tB tE : TypeId} (h2 : P.underlying tB = some (.slice tE)) (hs : (P.info? tE).map (·.size) = some 1) {B : Nat} {v : Value} {n p : Nat} {xs : List Value} (hown : w.ownsRow B tE 1 v n xs) (hp : p ≤ n) :
    ∃ v', w.ownsRow B tE 1 v' p (xs.take p) ∧ v'.ownBlock = v.ownBlock ∧ (∀ k (M : Value → Prop), pu P (oSlice tB v none (some (.int k p)) none) M = M v') ∧ (∀ k j (M : Value → Prop), pu P (oSlice tB v (some (.int j 0)) (some (.int k p)) none) M = M v') := by
  rcases hown.2 with ⟨rfl, rfl⟩ | ⟨g, cap, cur, rfl, h3, h4, h5, h6, h7, h8⟩
  · have hp0 : p = 0 := by omega
    subst hp0
    have hx : xs = [] := by have := hown.1; simpa using this
    subst hx
    refine ⟨_, hown, rfl, fun k M => ?_, fun k j M => oSlice_00 h2 hs⟩
    exact pu_v' (by
      simp only [Instr.sliceAt, Instr.slice, Instr.sliceBounds]
      simp [rp_bind, rp_underlying h2, rp_sliceBound k 0 0 _ (by omega) (by omega), rp_size hs, rp_map])
  · refine ⟨.slice (some ⟨g, 0, none⟩) p cap, ⟨?_, .inr ⟨g, cap, cur, rfl, h3, h4, by omega, h6, h7, ?_⟩⟩, rfl, fun k M => ?_, fun k j M => ?_⟩
    · have := hown.1; simp only [List.length_take]; omega
    · rw [← h8, List.take_take, Nat.mul_one, Nat.mul_one, Nat.min_eq_left hp]
    · have := oSlice_hi (P := P) (b := g) (o := 0) (n := n) (m := cap) (j := k) (hi := p) M h2 hs (by omega) (by omega)
      rw [Int.toNat_natCast] at this
      exact this
    · have := oSlice_sl (P := P) (b := g) (o := 0) (n := n) (m := cap) (k := j) (j := k) (lo := 0) (hi := p) M h2 hs (by omega) (by omega) (by omega)
      rw [this]
      simp
theorem zeroCells_u8 (k : Nat) : Builtin.zeroCells (Value.int .u8 0).cells k = (List.replicate k (Value.int .u8 0)).toArray := by
  apply Array.toList_inj.1
  apply List.ext_getElem
  · simp [Builtin.zeroCells, Value.cells]
  · intro i h1 h2
    simp [Builtin.zeroCells, Value.cells, Nat.mod_one]
theorem oAppendZ {tB tE tn : TypeId} {cs : Array Bool} {ty : TypeId} (h2 : P.underlying tB = some (.slice tE)) (hi : (P.info? tE).map (fun i => (i.zero, i.size, i.bytes)) = some (some (.int .u8 0), 1, 1)) (htn : P.underlying tn = some (.int .i64)) {B : Nat} {v : Value} {n m : Nat} {xs : List Value} (hown : w.ownsRow B tE 1 v n xs) (hm : 0 < m) (hb : n + m ≤ 140737488355328) (hB : B ≤ w.heap.size)
    (h : ∀ v' w', w'.ownsRow B tE 1 v' (n + m) (xs ++ List.replicate m (.int .u8 0)) → w.grownBy w' v.ownBlock → (v'.ownBlock = v.ownBlock ∨ v'.ownBlock = some w.heap.size) → L v' w') : st P (oBuiltin .append #[tB, tn] ty cs #[v, .int .i64 m]) w L := by
  cases hie : P.info? tE with
  | none => rw [hie] at hi; cases hi
  | some ie =>
  rw [hie] at hi
  simp only [Option.map_some, Option.some.injEq, Prod.mk.injEq] at hi
  obtain ⟨hz, hs, hby⟩ := hi
  obtain ⟨a, cap, rfl, hc⟩ := own_cap hown
  by_cases g : n + m ≤ cap
  · rcases hown.2 with ⟨e, e2⟩ | ⟨gb, cap', cur, e, h3, h4, h5, h6, h7, h8⟩
    · injection e with _ _ e3
      omega
    · injection e with ea _ ec
      subst ea ec
      have hw : IntKind.i64.wrap (m : Int) = m := by rw [IntKind.wrap_i64]; omega
      have h48i : ¬ (281474976710656 < (m : Int) * (ie.bytes : Int)) := by rw [hby]; omega
      have hneg : ¬ ((m : Int) < 0) := by omega
      have hns : ¬ m = 0 := by omega
      have hst := run_storeCells_cells (P := P) gb n (List.replicate m (Value.int .u8 0)) 0 w (fun j hj => by
        rw [List.length_replicate] at hj
        rw [cell?_eq]
        show (cellOf (w.heap[gb]?) _).isSome = true
        rw [h4]
        show (cur[n + 0 + j]?).isSome = true
        simp
        omega) (fun j hj => by unfold World.frozen?; simp [h4]) (fun u hu => by rw [(List.mem_replicate.1 hu).2]; rfl)
      simp only [Nat.add_zero] at hst
      have hr : (Builtin.append_ #[tB, tn] ty #[.slice (some ⟨gb, 0, none⟩) n cap, .int .i64 m]).run P w = .ok (.slice (some ⟨gb, 0, none⟩) (n + m) cap) (w.setCells gb n (List.replicate m (.int .u8 0))) := by
        simp [Builtin.append_, run_underlying h2, run_underlying htn, sizeOf, typeInfo, zeroValue, hie, hz, asInt, asIntOf, hw, hneg, hns, hs, hby, h48i, g, zeroCells_u8, Addr.add_lit, hst]
        exact fun q => absurd q (by omega)
      have hbk : bk w gb = some (CB cur.toList tE) := by unfold bk; rw [h4]
      have hcl : cur.toList.length = cap := by simpa using h7
      rw [setCells_eq gb _ n w cur.toList hbk (by rw [List.length_replicate]; omega), List.length_replicate] at hr
      have hlt := bk_lt hbk
      rw [show st P (oBuiltin .append #[tB, tn] ty cs #[.slice (some ⟨gb, 0, none⟩) n cap, .int .i64 m]) w L = _ from st_eq_value (run_v' hr)]
      refine h _ _ ⟨?_, .inr ⟨gb, cap, _, rfl, h3, bk_setb_eq _ _ _ _ rfl hlt, g, h6, ?_, ?_⟩⟩ ⟨rfl, rfl, rfl, by simp only [go_sem]; exact Nat.le_refl _, fun k hk hn => bk_setb_ne _ _ _ _ (fun e => hn (by rw [e]; rfl))⟩ (.inl rfl)
      · have := hown.1
        simp only [List.length_append, List.length_replicate]; omega
      · simp only [List.size_toArray, List.length_append, List.length_take, List.length_replicate, List.length_drop]; omega
      · have hxl := hown.1
        rw [Nat.mul_one] at h8 hxl
        simp only [Nat.mul_one, h8]
        rw [List.take_append_of_le_length (by simp only [List.length_append, List.length_replicate]; omega), List.take_of_length_le (by simp only [List.length_append, List.length_replicate]; omega)]
  · have hold : (Builtin.firstCells ie.size n (.slice a n cap)).run P w.drew = .ok xs.toArray w.drew := by
      rw [hs]
      rcases hown.2 with ⟨e, rfl⟩ | ⟨gb, cap', cur, e, h3, h4, h5, h6, h7, h8⟩
      · injection e with ea
        subst ea
        have hx : xs = [] := by have := hown.1; simpa using this
        subst hx
        rfl
      · injection e with ea _ ec
        subst ea ec
        refine run_firstCells_some w.drew 1 n _ n cap xs hown.1 fun j u hj => ?_
        have := World.ownsRow.cells hown (g := gb) rfl j u hj
        simpa using this
    have hr := Lib.run_append_grow_zeros (P := P) w tB tn ty tE ie (.int .u8 0) .i64 .i64 h2 htn hie hz a n cap xs hold m hm (by omega) (by omega) (by omega) (by rw [hby]; omega) (by
      rw [hby]
      have := nextslicecap_le (need := n + m) (old := cap) (by omega)
      omega)
    rw [show st P (oBuiltin .append #[tB, tn] ty cs #[.slice a n cap, .int .i64 m]) w L = _ from st_eq_value (run_v' hr)]
    have hge := grownCap_ge w (n + m) cap tE
    have hcm : grownCap w (n + m) cap tE ≤ maxLen := grownCap_le_maxLen w (n + m) cap tE (by simp only [maxLen]; omega)
    have hxl := hown.1
    refine h _ _ ⟨?_, .inr ⟨w.heap.size, _, _, rfl, hB, heap_alloc_new w.drew _, hge, hcm, ?_, ?_⟩⟩ ⟨rfl, rfl, rfl, by simp, fun k hk _ => heap_alloc_old w.drew _ hk⟩ (.inr rfl)
    · simp only [List.length_append, List.length_replicate]; omega
    · simp only [zeroCells_u8, Array.size_append, List.size_toArray, List.length_replicate]; omega
    · simp only [zeroCells_u8, Array.toList_append, Nat.mul_one]
      rw [List.take_append_of_le_length (by simp only [List.length_append, List.length_replicate]; omega), List.take_of_length_le (by simp only [List.length_append, List.length_replicate]; omega)]
end
end Go.X
end
