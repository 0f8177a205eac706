/- What the claim needs of the texts on it, laid together. No condition. -/
import Derived.WalkKit
import Derived.KernelRfl
import Derived.Orders
import Derived.OrdersHeld
import Derived.Test.YtfiepdikejoeeaaProg
import Derived.Lib.Bytealg
import Derived.WalkLawsBesides
import Derived.Deep.MidRow
import Derived.Below
import Derived.Laws.RangeAny
import Derived.Laws.BytesString
import Derived.Deep.AppendSrc
import Derived.Lib.ConvBytes
import Derived.Great.BuildSlice
import Derived.Deep.Upon
import Derived.Deep.Slices
import Derived.WideShapes
import Derived.SizedLaws
import Derived.Laws.AppendOwn
import Derived.LaidEql
import Derived.Deep.OwnRows
import Derived.Maps.AppendAt
import Derived.Lib.AppendZerosOnto
import Derived.ChangeArms
set_option linter.unusedVariables false
set_option linter.unusedSimpArgs false
set_option maxRecDepth 100000
section
namespace Go.X
open Go
abbrev Env := Nat → Value
def put (e : Env) (d : Option Nat) (v : Value) : Env :=
  match d with
  | some d => fun t => bif Nat.beq t d then v else e t
  | none => e
def ev (e : Env) : Operand → Value
  | .tmp t => e t
  | .const v => v
  | .global g => .pointer (some ⟨g, 0, none⟩)
  | .func f => .func (.func f) #[] #[]
def envOf (a : Act) : Env := fun t => a.tmps.getD t undef
def Cl (P : Program) (f : FuncId) (args : Array Value) (w : World) (K : Value → World → Prop) : Prop :=
  Calls P f args w fun e w' => ∃ v, e = .returned v ∧ K v w'
theorem Cl.mono {P : Program} {f : FuncId} {args : Array Value} {w : World} {K K' : Value → World → Prop} (h : Cl P f args w K) (hk : ∀ v w', K v w' → K' v w') : Cl P f args w K' :=
  Calls.mono h fun _ _ ⟨v, he, hv⟩ => ⟨v, he, hk _ _ hv⟩
def st0 (P : Program) (s : Sem Next) (w : World) (K : Value → World → Prop) : Prop :=
  match s.run P w with
  | .ok (.value v) w' => K v w'
  | .ok .skip w' => K undef w'
  | .ok (.enter f args) w' => Cl P f args w' K
  | _ => False
structure st (P : Program) (s : Sem Next) (w : World) (K : Value → World → Prop) : Prop where
  h : st0 P s w K
def runPure (P : Program) : Sem Next → Option Value
  | .pure (.value v) => some v
  | .program k => runPure P (k P)
  | .mark _ k => runPure P k
  | _ => none
def pu0 (P : Program) (s : Sem Next) (K : Value → Prop) : Prop :=
  match runPure P s with
  | some v => K v
  | none => False
structure pu (P : Program) (s : Sem Next) (K : Value → Prop) : Prop where
  h : pu0 P s K
def rd0 (P : Program) (s : Sem Next) (w : World) (K : Value → Prop) : Prop :=
  ∃ v, s.run P w = .ok (.value v) w ∧ K v
structure rd (P : Program) (s : Sem Next) (w : World) (K : Value → Prop) : Prop where
  h : rd0 P s w K
def hold0 (P : Program) (s : Sem Next) (v : Value) (w : World) : Prop := s.run P w = .ok (.value v) w
structure hold (P : Program) (s : Sem Next) (v : Value) (w : World) : Prop where
  h : hold0 P s v w
def rsl0 (P : Program) (t : TypeId) (x : Value) (w : World) (K : Value → Prop) : Prop := ∃ v, (do loadVar t (← asAddr x) : Sem Value).run P w = .ok v w ∧ K v
structure rsl (P : Program) (t : TypeId) (x : Value) (w : World) (K : Value → Prop) : Prop where
  h : rsl0 P t x w K
inductive Cls where
  | plain (x : Operand) | pure | read | eff
def clsConv (P : Program) (src dst : TypeId) : Cls :=
  match Region.shape P.types src, Region.shape P.types dst with
  | some (.int _), some (.int _) => .pure
  | some .string, some .string => .pure
  | some (.slice _), some .string => .read
  | some (.int _), some .string => .pure
  | _, _ => .eff
def clsLen (P : Program) (ts : Array TypeId) : Cls :=
  match (ts.toList.head?).bind (Region.shape P.types) with
  | some .string | some (.slice _) | some (.array ..) => .pure
  | _ => .read
def clsBin (P : Program) (op : BinOp) (t : TypeId) (x y : Operand) : Cls :=
  match op, x, y with
  | _, .const _, _ | _, _, .const _ => .pure
  | .eql, _, _ | .neq, _, _ =>
    match Region.shape P.types t with
    | some (.interface _) | some (.pointer _) => .read
    | _ => .pure
  | _, _, _ => .pure
def clsOf (P : Program) : Op → Cls
  | .move x | .assign x => .plain x
  | .binOp op t x y _ => clsBin P op t x y
  | .pick .. | .nilCheck _ | .unOp .. | .makeInterface .. | .makeFunc .. | .slice .. | .fieldAddr .. | .field .. | .indexAddr .. | .index .. | .typeAssert .. | .extract .. | .build .. => .pure
  | .load .. | .lookup .. => .read
  | .convert src dst _ => clsConv P src dst
  | .call { callee := .builtin .len, argTypes, .. } => clsLen P argTypes
  | .call { callee := .builtin .cap, argTypes, .. } => clsLen P argTypes
  | .call { callee := .builtin .max, .. } => .pure
  | .call { callee := .builtin .min, .. } => .pure
  | _ => .eff
def isb (v : Value) (want : Bool) : Bool :=
  match v with
  | .bool b => b == want
  | _ => false
def gd0 (v : Value) (want : Bool) (w : World) (X : (Value → World → Prop) → Prop) (K : Value → World → Prop) : Prop :=
  bif isb v want then X K else K undef w
structure gd (v : Value) (want : Bool) (w : World) (X : (Value → World → Prop) → Prop) (K : Value → World → Prop) : Prop where
  h : gd0 v want w X K
def yv (ops : List Oper) (e : Env) (j : Nat) : Value :=
  match (ops[j]?).bind (·.dst) with
  | some d => e d
  | none => undef
def grd (ops : List Oper) (o : Oper) (e : Env) (w : World) (X : (Value → World → Prop) → Prop) (K : Value → World → Prop) : Prop :=
  match o.guard with
  | none => X K
  | some (j, want) => gd (yv ops e j) want w X K
def opW (P : Program) (o : Oper) (e : Env) (w : World) (K : Value → World → Prop) : Prop :=
  match clsOf P o.op with
  | .plain x => K (ev e x) w
  | .pure => pu P (execOp (ev e) o) fun v => K v w
  | .read => st P (execOp (ev e) o) w K
  | .eff => st P (execOp (ev e) o) w K
def seqW (P : Program) (ops : List Oper) (K : Env → World → Prop) : List Oper → Env → World → Prop
  | [], e, w => K e w
  | o :: rest, e, w => grd ops o e w (opW P o e w) fun v w' => seqW P ops K rest (put e o.dst v) w'

abbrev Fact := Nat × (World → Prop)
def isEff (P : Program) (o : Oper) : Bool :=
  match clsOf P o.op with
  | .eff => true
  | _ => false
def alive (P : Program) (ops : List Oper) (B : List Nat) (listed : List Bool) (i : Nat) : Bool :=
  go ops B listed
  where
  go : List Oper → List Nat → List Bool → Bool
    | o :: os, b :: bs, l :: ls => (!(l && isEff P o && Nat.testBit b i)) && go os bs ls
    | _, _, _ => true
def facts (P : Program) (ops : List Oper) (B : List Nat) (listed : List Bool) (w : World) : List Fact → Prop → Prop
  | [], K => K
  | (i, f) :: F, K => bif alive P ops B listed i then f w ∧ facts P ops B listed w F K else facts P ops B listed w F K
def readyB (listed : List Bool) (o : Oper) : Bool := o.after.toList.all fun e => !Region.binds .any e || listed.getD e.on false
def readyL (ops : List Oper) (listed : List Bool) : List (Nat × Oper) :=
  go ops listed 0
  where
  go : List Oper → List Bool → Nat → List (Nat × Oper)
    | o :: os, l :: ls, n => bif !l && readyB listed o then (n, o) :: go os ls (n + 1) else go os ls (n + 1)
    | _, _, _ => []
def firstFloat (P : Program) : List (Nat × Oper) → Option (Nat × Oper)
  | [] => none
  | (i, o) :: r => bif isEff P o then firstFloat P r else some (i, o)
def freeB (ops : List Oper) (listed : List Bool) (i : Nat) (oi : Oper) : Bool :=
  go ops listed 0
  where
  go : List Oper → List Bool → Nat → Bool
    | o :: os, l :: ls, n => (Nat.beq n i || l || o.after.toList.any (fun e => Region.binds .any e && Nat.beq e.on i) || oi.apart ops.toArray o) && go os ls (n + 1)
    | _, _, _ => true
def allOf (K : Nat → Oper → Prop) : List (Nat × Oper) → Prop
  | [] => True
  | [(i, o)] => K i o
  | (i, o) :: r => K i o ∧ allOf K r
def gfact (P : Program) (ops : List Oper) (o : Oper) (e : Env) (v : Value) : World → Prop :=
  match o.guard with
  | none => hold P (execOp (ev e) o) v
  | some (j, want) => fun w => isb (yv ops e j) want = true → hold P (execOp (ev e) o) v w
def drawW (P : Program) (ops : List Oper) (B : List Nat) (K : Env → World → Prop) : Nat → List Bool → List Fact → Env → World → Prop
  | 0, listed, _, e, w =>
    match readyL ops listed with
    | [] => K e w
    | _ => False
  | n + 1, listed, F, e, w =>
    match firstFloat P (readyL ops listed) with
    | some (i, o) =>
      match freeB ops listed i o with
      | false => False
      | true =>
        match clsOf P o.op with
        | .plain x => grd ops o e w (fun K' => K' (ev e x) w) fun v w' => drawW P ops B K n (listed.set i true) F (put e o.dst v) w'
        | .pure => grd ops o e w (fun K' => pu P (execOp (ev e) o) fun v => K' v w) fun v w' => drawW P ops B K n (listed.set i true) F (put e o.dst v) w'
        | .read => grd ops o e w (fun K' => rd P (execOp (ev e) o) w fun v => K' v w) fun v w' => drawW P ops B K n (listed.set i true) ((i, gfact P ops o e v) :: F) (put e o.dst v) w'
        | .eff => False
    | none =>
      match readyL ops listed with
      | [] => K e w
      | rs => allOf (fun i o => grd ops o e w (st P (execOp (ev e) o) w) fun v w' =>
          facts P ops B (listed.set i true) w' F (drawW P ops B K n (listed.set i true) F (put e o.dst v) w')) rs
def befores : List Oper → List Nat → List Nat
  | [], acc => acc
  | o :: os, acc => befores os (acc ++ [o.after.toList.foldl (fun s e => bif Region.binds .any e then s ||| ((1 <<< e.on) ||| acc.getD e.on 0) else s) 0])
def befOk (B : List Nat) : List Oper → List Nat → Bool
  | o :: os, b :: bs => Nat.beq b (o.after.toList.foldl (fun s e => bif Region.binds .any e then s ||| ((1 <<< e.on) ||| B.getD e.on 0) else s) 0) && befOk B os bs
  | [], [] => true
  | _, _ => false
def isSel (o : Oper) : Bool := match o.op with | .select .. => true | _ => false
def regW (P : Program) (ops : List Oper) (draw : Bool) (K : Env → World → Prop) (e : Env) (w : World) : Prop :=
  match draw with
  | false => seqW P ops K ops e w
  | true =>
    let B := befores ops []
    match befOk B ops B && !ops.any isSel with
    | true => drawW P ops B K ops.length (List.replicate ops.length false) [] e w.drew
    | false => False

structure Tab where
  join : Nat → List Nat
  loop : Nat → List Nat
def asgOps : List Oper → Nat → Nat
  | [], m => m
  | o :: os, m => asgOps os (match o.dst with | some d => m ||| (1 <<< d) | none => m)
def asg : Code → Nat
  | .region _ ops _ => asgOps ops.toList 0
  | .seq x y => asg x ||| asg y
  | .cond _ x y => asg x ||| asg y
  | .block _ c => asg c
  | .loop c => asg c
  | .scope c => asg c
  | _ => 0
def okOps (n : Nat) : List Oper → Bool
  | [] => true
  | o :: os => (match o.dst with | some d => Nat.blt d n | none => true) && okOps n os
def okDst (n : Nat) : Code → Bool
  | .region _ ops _ => okOps n ops.toList
  | .seq x y => okDst n x && okDst n y
  | .cond _ x y => okDst n x && okDst n y
  | .block _ c => okDst n c
  | .loop c => okDst n c
  | .scope c => okDst n c
  | _ => true
def branches : Code → Bool
  | .cond .. => true
  | .loop .. => true
  | .seq x y => branches x || branches y
  | .block _ c => branches c
  | .scope c => branches c
  | _ => false
def key : Code → Option Nat
  | .region i _ _ => some i
  | .seq x y => match key x with | some i => some i | none => key y
  | .cond _ x y => match key x with | some i => some i | none => key y
  | .block _ c => key c
  | .loop c => key c
  | .scope c => key c
  | _ => none
def keyD (c : Code) : Nat := match key c with | some i => i | none => 1000000
def idx : List Nat → Nat → Nat → Option Nat
  | [], _, _ => none
  | l :: ls, t, n => bif Nat.beq l t then some n else idx ls t (n + 1)
def mix (m : Nat) (L : List Nat) (s : List Value) (u : Env) (e : Env) : Env := fun t =>
  bif Nat.testBit m t then (match idx L t 0 with | some i => s.getD i undef | none => u t) else e t
def thn (K : Env → World → Prop) (Q : Exit → Env → World → Prop) : Exit → Env → World → Prop
  | .normal, e, w => K e w
  | x, e, w => Q x e w
def inb (id : Nat) (Q : Exit → Env → World → Prop) : Exit → Env → World → Prop
  | .exit id', e, w => bif Nat.beq id' id then Q .normal e w else Q (.exit id') e w
  | x, e, w => Q x e w
def cd0 (v : Value) (X Y : Prop) : Prop :=
  match v with
  | .bool b => if b = true then X else Y
  | _ => False
structure cd (v : Value) (X Y : Prop) : Prop where
  h : cd0 v X Y
def jn0 (R : List Value → Env → World → Prop) (X : (List Value → World → Prop) → Prop) : Prop :=
  ∃ k : List Value → World → Prop, (∀ s u w, k s w → R s u w) ∧ X k
structure jn (R : List Value → Env → World → Prop) (X : (List Value → World → Prop) → Prop) : Prop where
  h : jn0 R X
def lp0 (s0 : List Value) (w0 : World) (R : List Value → Env → World → (List Value → World → Prop) → Prop) : Prop :=
  ∃ (I : List Value → World → Prop) (μ : List Value → World → Nat), I s0 w0 ∧ ∀ s u w, I s w → R s u w fun s' w' => I s' w' ∧ μ s' w' < μ s w
structure lp (s0 : List Value) (w0 : World) (R : List Value → Env → World → (List Value → World → Prop) → Prop) : Prop where
  h : lp0 s0 w0 R
def CW (P : Program) (T : Tab) : Code → (Exit → Env → World → Prop) → Env → World → Prop
  | .skip, Q, e, w => Q .normal e w
  | .region _ ops draw, Q, e, w => regW P ops.toList draw (Q .normal) e w
  | .seq x y, Q, e, w =>
    match branches x with
    | false => CW P T x (thn (CW P T y Q) Q) e w
    | true => jn (fun s u w' => CW P T y Q (mix (asg x) (T.join (keyD y)) s u e) w') fun k =>
        CW P T x (thn (fun e' w' => k ((T.join (keyD y)).map e') w') Q) e w
  | .cond c x y, Q, e, w => cd (ev e c) (CW P T x Q e w) (CW P T y Q e w)
  | .block id c, Q, e, w => CW P T c (inb id Q) e w
  | .loop c, Q, e, w => lp ((T.loop (keyD c)).map e) w fun s u w' C =>
      CW P T c (thn (fun e' w'' => C ((T.loop (keyD c)).map e') w'') Q) (mix (asg c) (T.loop (keyD c)) s u e) w'
  | .exit id, Q, e, w => Q (.exit id) e w
  | .ret, Q, e, w => Q .ret e w
  | _, _, _, _ => False

def tup : List Value → Value
  | [v] => v
  | vs => .tuple vs.toArray
def resW (P : Program) : List ResultVar → List Value → Env → World → (Value → World → Prop) → Prop
  | [], acc, _, w, K => K (tup acc) w
  | .tmp t :: r, acc, e, w, K => resW P r (acc ++ [e t]) e w K
  | .cell a t :: r, acc, e, w, K => rsl P t (e a) w fun v => resW P r (acc ++ [v]) e w K
def retQ (P : Program) (rs : List ResultVar) (K : Value → World → Prop) : Exit → Env → World → Prop
  | .normal, e, w => resW P rs [] e w K
  | .ret, e, w => resW P rs [] e w K
  | _, _, _ => False
def env0 (l : List Value) : Env := fun t => l.getD t undef
end Go.X
end
section
namespace Go.X
open Go
theorem eval_eq (a : Act) : a.eval = ev (envOf a) := by
  funext x; cases x <;> rfl
theorem runPure_run {P : Program} {v : Value} (w : World) : ∀ s : Sem Next, runPure P s = some v →
    s.run P w = .ok (.value v) w
  | .pure n, h => by cases n <;> simp [runPure] at h <;> simp [Sem.run, h]
  | .program k, h => by simp only [runPure] at h; simp only [Sem.run]; exact runPure_run w _ h
  | .mark _ k, h => by simp only [runPure] at h; simp only [Sem.run]; exact runPure_run w _ h
  | .load .., h | .store .., h | .new .., h | .shape .., h | .freeze .., h | .frozen .., h | .getObj .., h | .setObj .., h | .choose .., h | .sys .., h | .halt _, h => by simp [runPure] at h
def Fr (m : Nat) (a0 a : Act) : Prop := a.tmps.size = a0.tmps.size ∧ a.defers = a0.defers ∧ ∀ t, Nat.testBit m t = false → envOf a t = envOf a0 t
theorem Fr.refl (m : Nat) (a : Act) : Fr m a a := ⟨rfl, rfl, fun _ _ => rfl⟩
theorem Fr.trans {m m1 m2 : Nat} {a b c : Act} (h1 : Fr m1 a b) (h2 : Fr m2 b c) (s1 : ∀ t, Nat.testBit m t = false → Nat.testBit m1 t = false) (s2 : ∀ t, Nat.testBit m t = false → Nat.testBit m2 t = false) : Fr m a c :=
  ⟨h2.1.trans h1.1, h2.2.1.trans h1.2.1, fun t ht => (h2.2.2 t (s2 t ht)).trans (h1.2.2 t (s1 t ht))⟩
theorem put_size (a : Act) (d : Option Tmp) (v : Value) : (a.put d v).tmps.size = a.tmps.size := by cases d <;> simp [Act.put]
theorem put_defers (a : Act) (d : Option Tmp) (v : Value) : (a.put d v).defers = a.defers := by cases d <;> rfl
theorem beq_ne {t d : Nat} (h : t ≠ d) : Nat.beq t d = false := by
  cases e : Nat.beq t d with
  | false => rfl
  | true => exact absurd (Nat.eq_of_beq_eq_true e) h
theorem envOf_put (a : Act) (d : Option Tmp) (v : Value) (h : ∀ x, d = some x → x < a.tmps.size) : envOf (a.put d v) = put (envOf a) d v := by
  cases d with
  | none => rfl
  | some d =>
    funext t
    simp only [envOf, Act.put, put]
    by_cases e : t = d
    · subst e
      have := h t rfl
      simp [this]
    · have e1 : Nat.beq t d = false := beq_ne e
      simp [Array.getElem?_setIfInBounds_ne (Ne.symm e)]
      rw [e1]; rfl
theorem okOps_mem {n : Nat} {l : List Oper} (h : okOps n l = true) {o : Oper} (ho : o ∈ l) : ∀ x, o.dst = some x → x < n := by
  induction l with
  | nil => cases ho
  | cons b l ih =>
    simp only [okOps, Bool.and_eq_true] at h
    cases ho with
    | head => intro x hx; have := h.1; rw [hx] at this; exact Nat.le_of_ble_eq_true this
    | tail _ ho => exact ih h.2 ho
theorem asgOps_keep (l : List Oper) (m t : Nat) (h : Nat.testBit m t = true) : Nat.testBit (asgOps l m) t = true := by
  induction l generalizing m with
  | nil => exact h
  | cons o l ih =>
    simp only [asgOps]
    apply ih
    cases o.dst <;> simp [h, Nat.testBit_or]
theorem asgOps_mem {l : List Oper} {o : Oper} (ho : o ∈ l) : ∀ (m x : Nat), o.dst = some x → Nat.testBit (asgOps l m) x = true := by
  induction l with
  | nil => cases ho
  | cons b l ih =>
    intro m x hx
    simp only [asgOps]
    cases ho with
    | head =>
      apply asgOps_keep
      rw [hx]
      simp [Nat.testBit_or, Nat.testBit_shiftLeft]
    | tail _ ho => exact ih ho _ x hx
theorem Fr.put {m : Nat} {a0 a : Act} {d : Option Tmp} {v : Value} (h : Fr m a0 a) (hd : ∀ x, d = some x → x < a0.tmps.size ∧ Nat.testBit m x = true) : Fr m a0 (a.put d v) := by
  refine ⟨(put_size ..).trans h.1, (put_defers ..).trans h.2.1, fun t ht => ?_⟩
  rw [envOf_put _ _ _ (fun x hx => by rw [h.1]; exact (hd x hx).1)]
  cases d with
  | none => exact h.2.2 t ht
  | some d =>
    simp only [X.put]
    have : t ≠ d := fun e => by subst e; rw [(hd t rfl).2] at ht; cases ht
    have e1 : Nat.beq t d = false := beq_ne this
    rw [e1]
    exact h.2.2 t ht
theorem wanted_iff (ops : Array Oper) (a : Act) (o : Oper) : Region.wanted o (yielded ops a.tmps) = (match o.guard with | none => true | some (j, want) => isb (yv ops.toList (envOf a) j) want) := by
  unfold Region.wanted
  cases o.guard with
  | none => rfl
  | some g =>
    obtain ⟨j, want⟩ := g
    simp only [yielded, yv, Array.getElem?_toList]
    cases h : (ops[j]?).bind (·.dst) with
    | none => simp [isb, undef]
    | some d =>
      simp only [Option.bind_some, envOf]
      cases h2 : a.tmps[d]? with
      | none => simp [h2, isb, undef]
      | some v => cases v <;> simp [h2, isb]
section
variable {P : Program} {T : Tab}
theorem st_wp {o : Oper} {a : Act} {w : World} {K : Value → World → Prop} {next : Act → World → Prop} {Q : Exit → Act → World → Prop}
    (h : st P (execOp (ev (envOf a)) o) w K) (hk : ∀ v w', K v w' → next (a.put o.dst v) w') : o.wp P a w next Q := by
  unfold Oper.wp
  rw [eval_eq]
  replace h := h.h
  unfold st0 at h
  generalize (execOp (ev (envOf a)) o).run P w = r at *
  cases r with
  | ok n w' =>
    cases n <;> simp only at h <;> simp only [Oper.upon]
    case value v => exact hk _ _ h
    case skip => exact hk _ _ h
    case enter f args => exact Calls.mono h fun e w'' ⟨v, he, hv⟩ => by subst he; exact hk _ _ hv
  | halt x w' => simp only at h
theorem pu_wp {o : Oper} {a : Act} {w : World} {K : Value → Prop} {next : Act → World → Prop} {Q : Exit → Act → World → Prop}
    (h : pu P (execOp (ev (envOf a)) o) K) (hk : ∀ v, K v → next (a.put o.dst v) w) : o.wp P a w next Q := by
  replace h := h.h
  unfold pu0 at h
  cases hr : runPure P (execOp (ev (envOf a)) o) with
  | none => rw [hr] at h; exact h.elim
  | some v =>
    rw [hr] at h
    unfold Oper.wp
    rw [eval_eq]
    rw [runPure_run w _ hr]; exact hk _ h
theorem clsLen_plain {ts : Array TypeId} {x : Operand} (h : clsLen P ts = .plain x) : False := by
  unfold clsLen at h; split at h <;> cases h
theorem clsConv_plain {s d : TypeId} {x : Operand} (h : clsConv P s d = .plain x) : False := by
  unfold clsConv at h; split at h <;> cases h
theorem clsBin_plain {op : BinOp} {t : TypeId} {y z x : Operand} (h : clsBin P op t y z = .plain x) : False := by
  unfold clsBin at h; split at h <;> first | (cases h; done) | (split at h <;> cases h)
theorem cls_plain {op : Op} {x : Operand} (h : clsOf P op = .plain x) : op = .move x ∨ op = .assign x := by
  unfold clsOf at h
  split at h
  · injection h with h; subst h; exact .inl rfl
  · injection h with h; subst h; exact .inr rfl
  all_goals first
    | (cases h; done)
    | exact (clsLen_plain h).elim
    | exact (clsConv_plain h).elim
    | exact (clsBin_plain h).elim
theorem plain_wp {o : Oper} {x : Operand} (hc : clsOf P o.op = .plain x) {a : Act} {w : World} {next : Act → World → Prop} {Q : Exit → Act → World → Prop}
    (hk : next (a.put o.dst (ev (envOf a) x)) w) : o.wp P a w next Q := by
  unfold Oper.wp
  rw [eval_eq]
  have : execOp (ev (envOf a)) o = (Pure.pure (.value (ev (envOf a) x)) : Sem Next) := by
    rcases cls_plain hc with h | h <;> (unfold execOp; rw [h])
  rw [this]
  exact hk
theorem opW_wp {o : Oper} {a : Act} {w : World} {K : Value → World → Prop} {next : Act → World → Prop} {Q : Exit → Act → World → Prop}
    (h : opW P o (envOf a) w K) (hk : ∀ v w', K v w' → next (a.put o.dst v) w') : o.wp P a w next Q := by
  unfold opW at h
  cases hc : clsOf P o.op with
  | plain x => rw [hc] at h; exact plain_wp hc (hk _ _ h)
  | pure => rw [hc] at h; exact pu_wp h fun v hv => hk _ _ hv
  | read => rw [hc] at h; exact st_wp h hk
  | eff => rw [hc] at h; exact st_wp h hk
theorem seqW_sound {ops : Array Oper} {K : Env → World → Prop} {m : Nat} {a0 : Act} (Q : Exit → Act → World → Prop) (hQ : ∀ a w, Fr m a0 a → K (envOf a) w → Q .normal a w) :
    ∀ (l : List Oper) (a : Act) (w : World), okOps a0.tmps.size l = true → (∀ o ∈ l, ∀ x, o.dst = some x → Nat.testBit m x = true) → Fr m a0 a →
      seqW P ops.toList K l (envOf a) w → wpList P ops Q l a w
  | [], a, w, _, _, hf, h => hQ a w hf h
  | o :: l, a, w, hok, hm, hf, h => by
    have hdst : ∀ x, o.dst = some x → x < a0.tmps.size ∧ Nat.testBit m x = true := fun x hx => ⟨okOps_mem hok (List.mem_cons_self ..) x hx, hm o (List.mem_cons_self ..) x hx⟩
    have hok' : okOps a0.tmps.size l = true := by simp only [okOps, Bool.and_eq_true] at hok; exact hok.2
    have hm' : ∀ o ∈ l, ∀ x, o.dst = some x → Nat.testBit m x = true := fun o' ho => hm o' (List.mem_cons_of_mem _ ho)
    have step : ∀ v w', seqW P ops.toList K l (put (envOf a) o.dst v) w' → wpList P ops Q l (a.put o.dst v) w' := fun v w' hv =>
      seqW_sound Q hQ l _ w' hok' hm' (hf.put hdst) (by rw [envOf_put _ _ _ (fun x hx => by rw [hf.1]; exact (hdst x hx).1)]; exact hv)
    simp only [seqW, grd] at h
    simp only [wpList, wanted_iff]
    cases hg : o.guard with
    | none =>
      simp only [hg] at h
      rw [if_pos rfl]
      exact .inl (opW_wp h step)
    | some g =>
      obtain ⟨j, want⟩ := g
      simp only [hg] at h
      replace h := h.h
      unfold gd0 at h
      cases hb : isb (yv ops.toList (envOf a) j) want with
      | true =>
        simp only [hb, cond_true] at h
        rw [if_pos hb]
        exact .inl (opW_wp h step)
      | false =>
        simp only [hb, cond_false] at h
        rw [if_neg (show ¬ (isb (yv ops.toList (envOf a) j) want = true) from by rw [hb]; exact Bool.false_ne_true)]
        exact step _ _ h

theorem ready_go {listed : List Bool} : ∀ (os : List Oper) (ls : List Bool) (n i : Nat) (o : Oper),
    (i, o) ∈ readyL.go listed os ls n ↔ ∃ k, i = n + k ∧ os[k]? = some o ∧ ls[k]? = some false ∧ readyB listed o = true
  | [], ls, n, i, o => by simp [readyL.go]
  | o' :: os, [], n, i, o => by simp [readyL.go]
  | o' :: os, l :: ls, n, i, o => by
    have ih := ready_go (listed := listed) os ls (n + 1) i o
    have key : (∃ k, i = n + k ∧ (o' :: os)[k]? = some o ∧ (l :: ls)[k]? = some false ∧ readyB listed o = true) ↔
        (i = n ∧ o' = o ∧ l = false ∧ readyB listed o = true) ∨ (∃ k, i = n + 1 + k ∧ os[k]? = some o ∧ ls[k]? = some false ∧ readyB listed o = true) := by
      constructor
      · rintro ⟨k, h1, h2, h3, h4⟩
        cases k with
        | zero => left; simp at h1 h2 h3; exact ⟨h1, h2, h3, h4⟩
        | succ k => right; simp at h2 h3; exact ⟨k, by omega, h2, h3, h4⟩
      · rintro (⟨h1, h2, h3, h4⟩ | ⟨k, h1, h2, h3, h4⟩)
        · exact ⟨0, by omega, by simp [h2], by simp [h3], h4⟩
        · exact ⟨k + 1, by omega, by simpa using h2, by simpa using h3, h4⟩
    rw [key]
    simp only [readyL.go]
    cases hb : (!l && readyB listed o') with
    | true =>
      simp only [cond_true, List.mem_cons, ih]
      simp only [Bool.and_eq_true, Bool.not_eq_true'] at hb
      constructor
      · rintro (h | h)
        · left; injection h with h1 h2; subst h1 h2; exact ⟨rfl, rfl, hb.1, hb.2⟩
        · exact .inr h
      · rintro (⟨h1, h2, _, _⟩ | h)
        · left; rw [h1, h2]
        · exact .inr h
    | false =>
      simp only [cond_false, ih]
      constructor
      · exact .inr
      · rintro (⟨h1, h2, h3, h4⟩ | h)
        · subst h2 h3; rw [h4] at hb; cases hb
        · exact h
theorem mem_readyL {ops : List Oper} {l : List Bool} {i : Nat} {o : Oper} : (i, o) ∈ readyL ops l ↔ ops[i]? = some o ∧ l[i]? = some false ∧ readyB l o = true := by
  unfold readyL
  rw [ready_go]
  constructor
  · rintro ⟨k, h1, h⟩; have : i = k := by omega
    subst this; exact h
  · intro h; exact ⟨i, by omega, h⟩
theorem getD_true_iff {l : List Bool} {i : Nat} : l.toArray.getD i true = false ↔ l[i]? = some false := by
  cases h : l[i]? with
  | none => simp [h]
  | some b => simp [h]
theorem readyB_iff {l : List Bool} {o : Oper} : readyB l o = true ↔ ∀ e ∈ o.after, Region.binds .any e = true → l.toArray.getD e.on false = true := by
  unfold readyB
  rw [List.all_eq_true]
  constructor
  · intro h e he hb
    have := h e (Array.mem_toList_iff.2 he)
    simpa [hb] using this
  · intro h e he
    have h2 := h e (Array.mem_toList_iff.1 he)
    cases hb : Region.binds .any e with
    | false => rfl
    | true => have := h2 hb; simpa using this
theorem ready_iff {ops : Array Oper} {l : List Bool} {i : Nat} : i ∈ Region.ready .any ops l.toArray ↔ ∃ o, (i, o) ∈ readyL ops.toList l := by
  rw [mem_ready, getD_true_iff]
  constructor
  · rintro ⟨h1, o, h2, h3⟩
    exact ⟨o, mem_readyL.2 ⟨by simpa using h2, h1, readyB_iff.2 h3⟩⟩
  · rintro ⟨o, h⟩
    obtain ⟨h1, h2, h3⟩ := mem_readyL.1 h
    exact ⟨h2, o, by simpa using h1, readyB_iff.1 h3⟩
theorem alive_go {i : Nat} : ∀ (os : List Oper) (bs : List Nat) (ls : List Bool), alive.go P i os bs ls = true ↔
    ∀ (k : Nat) (o : Oper) (b : Nat), os[k]? = some o → bs[k]? = some b → ls[k]? = some true → isEff P o = true → Nat.testBit b i = false
  | [], bs, ls => by simp [alive.go]
  | o' :: os, [], ls => by simp [alive.go]
  | o' :: os, b' :: bs, [] => by simp [alive.go]
  | o' :: os, b' :: bs, l' :: ls => by
    simp only [alive.go, Bool.and_eq_true, alive_go os bs ls]
    constructor
    · rintro ⟨h1, h2⟩ k o b ho hb hl he
      cases k with
      | zero =>
        simp at ho hb hl
        subst ho hb hl
        simpa [he] using h1
      | succ k => exact h2 k o b (by simpa using ho) (by simpa using hb) (by simpa using hl) he
    · intro h
      refine ⟨?_, fun k o b ho hb hl he => h (k + 1) o b (by simpa using ho) (by simpa using hb) (by simpa using hl) he⟩
      cases hl : l' <;> cases he : isEff P o' <;> simp
      exact h 0 o' b' (by simp) (by simp) (by simp [hl]) he
theorem alive_iff {ops : List Oper} {B : List Nat} {l : List Bool} {i : Nat} : alive P ops B l i = true ↔
    ∀ (k : Nat) (o : Oper) (b : Nat), ops[k]? = some o → B[k]? = some b → l[k]? = some true → isEff P o = true → Nat.testBit b i = false := alive_go ops B l
theorem facts_spec {ops : List Oper} {B : List Nat} {l : List Bool} {w : World} {K : Prop} : ∀ {F : List Fact}, facts P ops B l w F K → (∀ f ∈ F, alive P ops B l f.1 = true → f.2 w) ∧ K
  | [], h => ⟨by simp, h⟩
  | (i, f) :: F, h => by
    simp only [facts] at h
    cases ha : alive P ops B l i with
    | true =>
      simp only [ha, cond_true] at h
      obtain ⟨h1, h2⟩ := facts_spec h.2
      refine ⟨fun g hg hal => ?_, h2⟩
      cases hg with
      | head => exact h.1
      | tail _ hg => exact h1 g hg hal
    | false =>
      simp only [ha, cond_false] at h
      obtain ⟨h1, h2⟩ := facts_spec h
      refine ⟨fun g hg hal => ?_, h2⟩
      cases hg with
      | head => rw [ha] at hal; cases hal
      | tail _ hg => exact h1 g hg hal
def DC (B : List Nat) (l : List Bool) : Prop := ∀ (k b i : Nat), B[k]? = some b → l[k]? = some true → Nat.testBit b i = true → l[i]? = some true
def foldB (B : List Nat) (es : List Edge) (s : Nat) : Nat := es.foldl (fun s e => bif Region.binds .any e then s ||| ((1 <<< e.on) ||| B.getD e.on 0) else s) s
theorem foldB_bit {B : List Nat} {i : Nat} : ∀ {es : List Edge} {s : Nat}, Nat.testBit (foldB B es s) i = true →
    Nat.testBit s i = true ∨ ∃ e ∈ es, Region.binds .any e = true ∧ (e.on = i ∨ Nat.testBit (B.getD e.on 0) i = true)
  | [], s, h => .inl h
  | e :: es, s, h => by
    have h' : Nat.testBit (foldB B es (bif Region.binds .any e then s ||| ((1 <<< e.on) ||| B.getD e.on 0) else s)) i = true := h
    rcases foldB_bit h' with h1 | ⟨e', he', hb, h2⟩
    · cases hb : Region.binds .any e with
      | false => simp only [hb, cond_false] at h1; exact .inl h1
      | true =>
        simp only [hb, cond_true, Nat.testBit_or, Bool.or_eq_true] at h1
        rcases h1 with h1 | h1 | h1
        · exact .inl h1
        · right
          refine ⟨e, List.mem_cons_self .., hb, .inl ?_⟩
          simp only [Nat.testBit_shiftLeft, Bool.and_eq_true, decide_eq_true_eq] at h1
          have h3 := h1.2
          have : i - e.on = 0 := by
            rcases Nat.eq_zero_or_pos (i - e.on) with h4 | h4
            · exact h4
            · exfalso
              obtain ⟨k, hk⟩ : ∃ k, i - e.on = k + 1 := ⟨i - e.on - 1, by omega⟩
              rw [hk, Nat.testBit_succ] at h3
              simp at h3
          omega
        · exact .inr ⟨e, List.mem_cons_self .., hb, .inr h1⟩
    · exact .inr ⟨e', List.mem_cons_of_mem _ he', hb, h2⟩
theorem befOk_spec {B : List Nat} : ∀ {os : List Oper} {bs : List Nat}, befOk B os bs = true → os.length = bs.length ∧ ∀ (k : Nat) (o : Oper) (b : Nat), os[k]? = some o → bs[k]? = some b → b = foldB B o.after.toList 0
  | [], [], _ => ⟨rfl, by simp⟩
  | [], b :: bs, h => by simp [befOk] at h
  | o :: os, [], h => by simp [befOk] at h
  | o :: os, b :: bs, h => by
    simp only [befOk, Bool.and_eq_true] at h
    obtain ⟨h1, h2⟩ := befOk_spec h.2
    refine ⟨by simp [h1], fun k o' b' ho hb => ?_⟩
    cases k with
    | zero => simp at ho hb; subst ho hb; exact Nat.eq_of_beq_eq_true h.1
    | succ k => exact h2 k o' b' (by simpa using ho) (by simpa using hb)
theorem ready_dc {ops : List Oper} {B : List Nat} (hB : befOk B ops B = true) {l : List Bool} (hdc : DC B l) {j i b : Nat} {o : Oper} (ho : ops[j]? = some o) (hb : B[j]? = some b)
    (hr : readyB l o = true) (ht : Nat.testBit b i = true) : l[i]? = some true := by
  have e := (befOk_spec hB).2 j o b ho hb
  subst e
  rcases foldB_bit ht with h | ⟨e, he, hbd, h⟩
  · simp at h
  · have hl := readyB_iff.1 hr e (Array.mem_toList_iff.1 he) hbd
    have hl' : l[e.on]? = some true := by
      cases hx : l[e.on]? with
      | none => simp [hx] at hl
      | some b => simp [hx] at hl; rw [hl]
    rcases h with h | h
    · rw [← h]; exact hl'
    · cases hx : B[e.on]? with
      | none => simp [hx] at h
      | some b' => simp [hx] at h; exact hdc e.on b' i hx hl' h
theorem set_true_get {l : List Bool} {j k : Nat} (h : l[k]? = some true) : (l.set j true)[k]? = some true := by
  by_cases e : j = k
  · subst e; rw [List.getElem?_set_self (List.getElem?_eq_some_iff.1 h).1]
  · rw [List.getElem?_set_ne e]; exact h
theorem DC.set {ops : List Oper} {B : List Nat} (hB : befOk B ops B = true) {l : List Bool} (hdc : DC B l) {j : Nat} {o : Oper} (ho : ops[j]? = some o) (hr : readyB l o = true) : DC B (l.set j true) := by
  intro k b i hb hk ht
  by_cases e : j = k
  · subst e; exact set_true_get (ready_dc hB hdc ho hb hr ht)
  · rw [List.getElem?_set_ne e] at hk
    exact set_true_get (hdc k b i hb hk ht)
def anyF (P : Program) (ops : Array Oper) (B : List Nat) (Q : Exit → Act → World → Prop) (F : List Fact) : Nat → List Bool → Act → World → Prop
  | 0, l, a, w => Region.ready .any ops l.toArray = [] ∧ Q .normal a w
  | n + 1, l, a, w => (Region.ready .any ops l.toArray = [] → Q .normal a w) ∧
    ∀ i ∈ Region.ready .any ops l.toArray, wpOp P ops Q i (fun a' w' => (∀ f ∈ F, alive P ops.toList B (l.set i true) f.1 = true → f.2 w') ∧ anyF P ops B Q F n (l.set i true) a' w') a w
theorem toArray_set (l : List Bool) (i : Nat) : (l.set i true).toArray = l.toArray.setIfInBounds i true := by simp
theorem wpAny_of_anyF {ops : Array Oper} {B : List Nat} {Q : Exit → Act → World → Prop} {F : List Fact} : ∀ (n : Nat) (l : List Bool) (a : Act) (w : World),
    anyF P ops B Q F n l a w → wpAny P .any ops Q n l.toArray a w
  | 0, _, _, _, h => h
  | n + 1, l, a, w, h => ⟨h.1, fun i hi => wpOp_mono (fun a' w' h' => by rw [← toArray_set]; exact wpAny_of_anyF n _ a' w' h'.2) (h.2 i hi)⟩
theorem anyF_mono {ops : Array Oper} {B : List Nat} {Q : Exit → Act → World → Prop} {F F' : List Fact} (hF : ∀ f ∈ F, f ∈ F') : ∀ (n : Nat) (l : List Bool) (a : Act) (w : World),
    anyF P ops B Q F' n l a w → anyF P ops B Q F n l a w
  | 0, _, _, _, h => h
  | n + 1, l, a, w, h => ⟨h.1, fun i hi => wpOp_mono (fun a' w' h' => ⟨fun f hf => h'.1 f (hF f hf), anyF_mono hF n _ a' w' h'.2⟩) (h.2 i hi)⟩
theorem alive_unset {ops : List Oper} {B : List Nat} {l : List Bool} {j x : Nat} (h : alive P ops B (l.set j true) x = true) : alive P ops B l x = true :=
  alive_iff.2 fun k o b ho hb hl he => alive_iff.1 h k o b ho hb (set_true_get hl) he
theorem alive_float {ops : List Oper} {B : List Nat} {l : List Bool} {i x : Nat} {oi : Oper} (hi : ops[i]? = some oi) (hne : isEff P oi = false) (h : alive P ops B l x = true) : alive P ops B (l.set i true) x = true :=
  alive_iff.2 fun k o b ho hb hl he => by
    by_cases e : i = k
    · subst e; rw [hi] at ho; injection ho with ho; subst ho; rw [hne] at he; cases he
    · rw [List.getElem?_set_ne e] at hl; exact alive_iff.1 h k o b ho hb hl he
theorem anyF_first {ops : Array Oper} {B : List Nat} {Q : Exit → Act → World → Prop} {F : List Fact} {i : Nat} {oi : Oper} {v : Value} {ρ : World → Prop} (hB : befOk B ops.toList B = true)
    (hi : ops[i]? = some oi) (hsel : ∀ (j : Nat) (o : Oper) cs b, ops[j]? = some o → o.op ≠ .select cs b) (hQ : ∀ c a w, ¬ Q (.panic c) a w) (hne : isEff P oi = false) :
    ∀ (n : Nat) (l : List Bool) (a : Act) (w : World), (∀ j oj, ops[j]? = some oj → j ≠ i → l[j]? = some false → (∀ e ∈ oj.after, Region.binds .any e = true → e.on ≠ i) → oi.apart ops oj = true) →
      i ∈ Region.ready .any ops l.toArray → YieldsIf P ops ρ oi v a → ρ w → DC B l → (∀ f ∈ F, alive P ops.toList B l f.1 = true → f.2 w) →
      anyF P ops B Q ((i, ρ) :: F) n (l.set i true) (a.put oi.dst v) w → anyF P ops B Q F (n + 1) l a w := by
  have hi' : ops.toList[i]? = some oi := by simpa using hi
  intro n
  induction n with
  | zero =>
    intro l a w _ hr hy hρ hdc hF H
    refine ⟨fun h => (by rw [h] at hr; cases hr), fun j hj => ?_⟩
    by_cases hji : j = i
    · subst hji
      exact hy.wpOp hi hρ ⟨fun f hf hal => hF f hf (alive_unset hal), H⟩
    · have := ready_mono hj hji
      rw [← toArray_set, H.1] at this
      cases this
  | succ n ih =>
    intro l a w hfree hr hy hρ hdc hF H
    refine ⟨fun h => (by rw [h] at hr; cases hr), fun j hj => ?_⟩
    by_cases hji : j = i
    · subst hji
      exact hy.wpOp hi hρ ⟨fun f hf hal => hF f hf (alive_unset hal), anyF_mono (fun f hf => List.mem_cons_of_mem _ hf) _ _ _ _ H⟩
    · have h1 := H.2 j (by rw [toArray_set]; exact ready_mono hj hji)
      obtain ⟨oj, hoj⟩ := ready_iff.1 hj
      obtain ⟨hoj', hlj, hrj⟩ := mem_readyL.1 hoj
      have hoj2 : ops[j]? = some oj := by simpa using hoj'
      obtain ⟨oi', hoi⟩ := ready_iff.1 hr
      obtain ⟨hoi', hli, hri⟩ := mem_readyL.1 hoi
      have hnot : ∀ e ∈ oj.after, Region.binds .any e = true → e.on ≠ i := fun e he hb heq => by
        have h2 := readyB_iff.1 hrj e he hb
        rw [heq] at h2
        simp [hli] at h2
      have h2 := wpOp_putIf hoj2 (hfree j oj hoj2 hji hlj hnot) (fun cs b => hsel i oi cs b hi) (fun cs b => hsel j oj cs b hoj2) (fun c a w h => absurd h (hQ c _ w)) hy h1
      have hji' : i ≠ j := Ne.symm hji
      have hali : ∀ x, alive P ops.toList B (l.set j true) x = true → alive P ops.toList B ((l.set i true).set j true) x = true := fun x hx => by
        rw [List.set_comm _ _ hji']; exact alive_float hi' hne hx
      have haliI : alive P ops.toList B ((l.set i true).set j true) i = true := alive_iff.2 fun k o b ho hb hl he => by
        cases ht : Nat.testBit b i with
        | false => rfl
        | true =>
          exfalso
          by_cases e1 : k = j
          · subst e1
            have := ready_dc hB hdc ho hb (by rw [hoj'] at ho; injection ho with ho; subst ho; exact hrj) ht
            rw [hli] at this; cases this
          · by_cases e2 : k = i
            · subst e2; rw [hi'] at ho; injection ho with ho; subst ho; rw [hne] at he; cases he
            · rw [List.getElem?_set_ne (Ne.symm e1), List.getElem?_set_ne (Ne.symm e2)] at hl
              have := hdc k b i hb hl ht
              rw [hli] at this; cases this
      refine wpOp_mono (fun a' w' h3 => ⟨fun f hf hal => h3.2.1 f (List.mem_cons_of_mem _ hf) (hali f.1 hal), ?_⟩) h2
      refine ih (l.set j true) a' w' (fun k ok hk hki hun hno => ?_) (by rw [toArray_set]; exact ready_mono hr hji') h3.1 (h3.2.1 (i, ρ) (List.mem_cons_self ..) haliI) (hdc.set hB hoj' hrj) (fun f hf hal => h3.2.1 f (List.mem_cons_of_mem _ hf) (hali f.1 hal)) ?_
      · refine hfree k ok hk hki ?_ hno
        by_cases e : j = k
        · subst e
          rw [List.getElem?_set_self (List.getElem?_eq_some_iff.1 hlj).1] at hun; cases hun
        · rw [List.getElem?_set_ne e] at hun; exact hun
      · rw [List.set_comm _ _ hji]; exact h3.2.2
theorem free_go {ops : List Oper} {i : Nat} {oi : Oper} : ∀ (os : List Oper) (ls : List Bool) (n : Nat), freeB.go ops i oi os ls n = true → os.length = ls.length →
    ∀ (k : Nat) (o : Oper), os[k]? = some o → n + k ≠ i → ls[k]? = some false → (∀ e ∈ o.after, Region.binds .any e = true → e.on ≠ i) → oi.apart ops.toArray o = true
  | [], ls, n, _, _ => by simp
  | o' :: os, [], n, _, hl => by simp at hl
  | o' :: os, l' :: ls, n, h, hl => by
    intro k o ho hne hls hno
    simp only [freeB.go, Bool.and_eq_true] at h
    cases k with
    | zero =>
      simp at ho hls
      subst ho hls
      have h1 := h.1
      rw [beq_ne (show n ≠ i by omega)] at h1
      simp only [Bool.false_or, Bool.or_eq_true] at h1
      rcases h1 with h1 | h1
      · obtain ⟨e, he, hb⟩ := List.any_eq_true.1 h1
        simp only [Bool.and_eq_true] at hb
        exact absurd (Nat.eq_of_beq_eq_true hb.2) (hno e (Array.mem_toList_iff.1 he) hb.1)
      · exact h1
    | succ k => exact free_go os ls (n + 1) h.2 (by simpa using hl) k o (by simpa using ho) (by omega) (by simpa using hls) hno
theorem firstFloat_mem {l : List (Nat × Oper)} {i : Nat} {o : Oper} (h : firstFloat P l = some (i, o)) : (i, o) ∈ l ∧ isEff P o = false := by
  induction l with
  | nil => cases h
  | cons x l ih =>
    obtain ⟨i', o'⟩ := x
    simp only [firstFloat] at h
    cases he : isEff P o' with
    | true => simp only [he, cond_true] at h; exact ⟨List.mem_cons_of_mem _ (ih h).1, (ih h).2⟩
    | false => simp only [he, cond_false] at h; injection h with h; injection h with h1 h2; subst h1 h2; exact ⟨List.mem_cons_self .., he⟩
theorem allOf_mem {K : Nat → Oper → Prop} : ∀ {l : List (Nat × Oper)}, allOf K l → ∀ i o, (i, o) ∈ l → K i o
  | [], _, _, _, h => by cases h
  | [(i, o)], h, i', o', hm => by simp at hm; obtain ⟨rfl, rfl⟩ := hm; exact h
  | (i, o) :: x :: r, h, i', o', hm => by
    simp only [allOf] at h
    cases hm with
    | head => exact h.1
    | tail _ hm => exact allOf_mem h.2 i' o' hm
theorem run_plain {o : Oper} {x : Operand} (hc : clsOf P o.op = .plain x) (ρ : Operand → Value) (w : World) : (execOp ρ o).run P w = .ok (.value (ρ x)) w := by
  have : execOp ρ o = (Pure.pure (.value (ρ x)) : Sem Next) := by
    rcases cls_plain hc with h | h <;> (unfold execOp; rw [h])
  rw [this]; rfl
theorem anyF_addTrue {ops : Array Oper} {B : List Nat} {Q : Exit → Act → World → Prop} {F : List Fact} {i : Nat} : ∀ (n : Nat) (l : List Bool) (a : Act) (w : World),
    anyF P ops B Q F n l a w → anyF P ops B Q ((i, fun _ => True) :: F) n l a w
  | 0, _, _, _, h => h
  | n + 1, l, a, w, h => ⟨h.1, fun j hj => wpOp_mono (fun a' w' h' => ⟨fun f hf => by
      cases hf with
      | head => exact fun _ => trivial
      | tail _ hf => exact h'.1 f hf, anyF_addTrue n _ a' w' h'.2⟩) (h.2 j hj)⟩
theorem drawW_sound {ops : Array Oper} {B : List Nat} {K : Env → World → Prop} {Q : Exit → Act → World → Prop} {m : Nat} {a0 : Act} (hB : befOk B ops.toList B = true)
    (hsel : ∀ (j : Nat) (o : Oper) cs b, ops[j]? = some o → o.op ≠ .select cs b) (hQ : ∀ c a w, ¬ Q (.panic c) a w)
    (hK : ∀ a w, Fr m a0 a → K (envOf a) w → Q .normal a w) (hd : ∀ o ∈ ops.toList, ∀ x, o.dst = some x → x < a0.tmps.size ∧ Nat.testBit m x = true) :
    ∀ (n : Nat) (l : List Bool) (F : List Fact) (a : Act) (w : World), drawW P ops.toList B K n l F (envOf a) w → Fr m a0 a → DC B l → l.length = ops.size →
      (∀ f ∈ F, alive P ops.toList B l f.1 = true → f.2 w) → anyF P ops B Q F n l a w
  | 0, l, F, a, w, h, hf, _, _, _ => by
    simp only [drawW] at h
    cases hr : readyL ops.toList l with
    | nil =>
      rw [hr] at h
      refine ⟨?_, hK a w hf h⟩
      cases hx : Region.ready .any ops l.toArray with
      | nil => rfl
      | cons y ys =>
        obtain ⟨o, ho⟩ := ready_iff.1 (show y ∈ Region.ready .any ops l.toArray by rw [hx]; exact List.mem_cons_self ..)
        rw [hr] at ho; cases ho
    | cons y ys => rw [hr] at h; exact h.elim
  | n + 1, l, F, a, w, h, hf, hdc, hlen, hF => by
    simp only [drawW] at h
    cases hff : firstFloat P (readyL ops.toList l) with
    | some p =>
      obtain ⟨i, o⟩ := p
      obtain ⟨hmem, hne⟩ := firstFloat_mem hff
      obtain ⟨hoi, hli, hri⟩ := mem_readyL.1 hmem
      have hoi' : ops[i]? = some o := by simpa using hoi
      have hdst := hd o (List.mem_of_getElem? hoi)
      simp only [hff] at h
      cases hfr : freeB ops.toList l i o with
      | false => rw [hfr] at h; exact h.elim
      | true =>
        simp only [hfr] at h
        have hfree : ∀ j oj, ops[j]? = some oj → j ≠ i → l[j]? = some false → (∀ e ∈ oj.after, Region.binds .any e = true → e.on ≠ i) → o.apart ops oj = true := fun j oj hj hji hun hno => by
          have := free_go ops.toList l 0 hfr (by simpa using hlen.symm) j oj (by simpa using hj) (by omega) hun hno
          simpa using this
        have hready : i ∈ Region.ready .any ops l.toArray := ready_iff.2 ⟨o, hmem⟩
        have henv : ∀ v, envOf (a.put o.dst v) = put (envOf a) o.dst v := fun v => envOf_put _ _ _ (fun x hx => by rw [hf.1]; exact (hdst x hx).1)
        have hlen' : (l.set i true).length = ops.size := by simpa using hlen
        have hdc' : DC B (l.set i true) := hdc.set hB hoi hri
        have hFi : ∀ f ∈ F, alive P ops.toList B (l.set i true) f.1 = true → f.2 w := fun f hf' hal => hF f hf' (alive_unset hal)
        -- an operation that yields whatever the world is
        have goAll : ∀ v, YieldsIf P ops (fun _ => True) o v a → drawW P ops.toList B K n (l.set i true) F (put (envOf a) o.dst v) w → anyF P ops B Q F (n + 1) l a w := fun v hy hrest => by
          refine anyF_first hB hoi' hsel hQ hne n l a w hfree hready hy trivial hdc hF ?_
          have ih := drawW_sound hB hsel hQ hK hd n (l.set i true) F (a.put o.dst v) w (by rw [henv]; exact hrest) (hf.put hdst) hdc' hlen' hFi
          exact anyF_addTrue n _ _ _ ih
        have hw := wanted_iff ops a o
        have passed : Region.wanted o (yielded ops a.tmps) = false → drawW P ops.toList B K n (l.set i true) F (put (envOf a) o.dst undef) w → anyF P ops B Q F (n + 1) l a w := fun hwf hrest =>
          goAll undef (.inr ⟨hwf, rfl⟩) hrest
        cases hc : clsOf P o.op with
        | eff => rw [hc] at h; exact h.elim
        | plain x =>
          simp only [hc, grd] at h
          cases hg : o.guard with
          | none =>
            simp only [hg] at h hw
            exact goAll _ (.inl ⟨hw, fun w' _ => by rw [eval_eq]; exact run_plain hc _ w'⟩) h
          | some g =>
            obtain ⟨j, want⟩ := g
            simp only [hg] at h hw
            replace h := h.h
            unfold gd0 at h
            cases hb : isb (yv ops.toList (envOf a) j) want with
            | true =>
              simp only [hb, cond_true] at h hw
              exact goAll _ (.inl ⟨hw, fun w' _ => by rw [eval_eq]; exact run_plain hc _ w'⟩) h
            | false =>
              simp only [hb, cond_false] at h hw
              exact passed hw h
        | pure =>
          have pureGo : Region.wanted o (yielded ops a.tmps) = true → pu P (execOp (ev (envOf a)) o) (fun v => drawW P ops.toList B K n (l.set i true) F (put (envOf a) o.dst v) w) → anyF P ops B Q F (n + 1) l a w := fun hwt hp => by
            replace hp := hp.h
            unfold pu0 at hp
            cases hrp : runPure P (execOp (ev (envOf a)) o) with
            | none => rw [hrp] at hp; exact hp.elim
            | some v =>
              rw [hrp] at hp
              exact goAll v (.inl ⟨hwt, fun w' _ => by rw [eval_eq]; exact runPure_run w' _ hrp⟩) hp
          simp only [hc, grd] at h
          cases hg : o.guard with
          | none => simp only [hg] at h hw; exact pureGo hw h
          | some g =>
            obtain ⟨j, want⟩ := g
            simp only [hg] at h hw
            replace h := h.h
            unfold gd0 at h
            cases hb : isb (yv ops.toList (envOf a) j) want with
            | true => simp only [hb, cond_true] at h hw; exact pureGo hw h
            | false => simp only [hb, cond_false] at h hw; exact passed hw h
        | read =>
          have readGo : ∀ v, YieldsIf P ops (gfact P ops.toList o (envOf a) v) o v a → gfact P ops.toList o (envOf a) v w →
              drawW P ops.toList B K n (l.set i true) ((i, gfact P ops.toList o (envOf a) v) :: F) (put (envOf a) o.dst v) w → anyF P ops B Q F (n + 1) l a w := fun v hy hv hp => by
            refine anyF_first (ρ := gfact P ops.toList o (envOf a) v) hB hoi' hsel hQ hne n l a w hfree hready hy hv hdc hF ?_
            refine drawW_sound hB hsel hQ hK hd n (l.set i true) _ (a.put o.dst v) w (by rw [henv]; exact hp) (hf.put hdst) hdc' hlen' ?_
            intro f hf' hal
            cases hf' with
            | head => exact hv
            | tail _ hf' => exact hFi f hf' hal
          simp only [hc, grd] at h
          cases hg : o.guard with
          | none =>
            simp only [hg] at h hw
            obtain ⟨⟨v, hv, hp⟩⟩ := h
            have hgf : gfact P ops.toList o (envOf a) v = hold P (execOp (ev (envOf a)) o) v := by unfold gfact; rw [hg]
            exact readGo v (.inl ⟨hw, fun w' h' => by rw [hgf] at h'; rw [eval_eq]; exact h'.h⟩) (by rw [hgf]; exact ⟨hv⟩) hp
          | some g =>
            obtain ⟨j, want⟩ := g
            simp only [hg] at h hw
            replace h := h.h
            unfold gd0 at h
            have hgf : ∀ v, gfact P ops.toList o (envOf a) v = fun w => isb (yv ops.toList (envOf a) j) want = true → hold P (execOp (ev (envOf a)) o) v w := fun v => by unfold gfact; rw [hg]
            cases hb : isb (yv ops.toList (envOf a) j) want with
            | true =>
              simp only [hb, cond_true] at h hw
              obtain ⟨⟨v, hv, hp⟩⟩ := h
              exact readGo v (.inl ⟨hw, fun w' h' => by rw [hgf] at h'; rw [eval_eq]; exact (h' hb).h⟩) (by rw [hgf]; exact fun _ => ⟨hv⟩) hp
            | false =>
              simp only [hb, cond_false] at h hw
              exact readGo undef (.inr ⟨hw, rfl⟩) (by rw [hgf]; intro h'; rw [hb] at h'; cases h') h
    | none =>
      simp only [hff] at h
      have empty : readyL ops.toList l = [] → Region.ready .any ops l.toArray = [] := fun hr => by
        cases hx : Region.ready .any ops l.toArray with
        | nil => rfl
        | cons y ys =>
          obtain ⟨o, ho⟩ := ready_iff.1 (show y ∈ Region.ready .any ops l.toArray by rw [hx]; exact List.mem_cons_self ..)
          rw [hr] at ho; cases ho
      cases hr : readyL ops.toList l with
      | nil =>
        simp only [hr] at h
        exact ⟨fun _ => hK a w hf h, fun i hi => by rw [empty hr] at hi; cases hi⟩
      | cons x xs =>
        simp only [hr] at h
        have hall := allOf_mem h
        refine ⟨fun h0 => ?_, fun i hi => ?_⟩
        · have : x.1 ∈ Region.ready .any ops l.toArray := ready_iff.2 ⟨x.2, by rw [hr]; exact List.mem_cons_self ..⟩
          rw [h0] at this; cases this
        · obtain ⟨o, ho⟩ := ready_iff.1 hi
          obtain ⟨hoi, hli, hri⟩ := mem_readyL.1 ho
          have hoi' : ops[i]? = some o := by simpa using hoi
          have hdst := hd o (List.mem_of_getElem? hoi)
          have henv : ∀ v, envOf (a.put o.dst v) = put (envOf a) o.dst v := fun v => envOf_put _ _ _ (fun x hx => by rw [hf.1]; exact (hdst x hx).1)
          have hx := hall i o (by rw [← hr]; exact ho)
          have next : ∀ v w', facts P ops.toList B (l.set i true) w' F (drawW P ops.toList B K n (l.set i true) F (put (envOf a) o.dst v) w') →
              (∀ f ∈ F, alive P ops.toList B (l.set i true) f.1 = true → f.2 w') ∧ anyF P ops B Q F n (l.set i true) (a.put o.dst v) w' := fun v w' h' => by
            obtain ⟨h1, h2⟩ := facts_spec h'
            exact ⟨h1, drawW_sound hB hsel hQ hK hd n (l.set i true) F (a.put o.dst v) w' (by rw [henv]; exact h2) (hf.put hdst) (hdc.set hB hoi hri) (by simpa using hlen) h1⟩
          unfold wpOp
          simp only [hoi']
          have hw := wanted_iff ops a o
          simp only [grd] at hx
          cases hg : o.guard with
          | none =>
            simp only [hg] at hx hw
            rw [if_pos hw]
            exact .inl (st_wp hx next)
          | some g =>
            obtain ⟨j, want⟩ := g
            simp only [hg] at hx hw
            replace hx := hx.h
            unfold gd0 at hx
            cases hb : isb (yv ops.toList (envOf a) j) want with
            | true =>
              simp only [hb, cond_true] at hx hw
              rw [if_pos hw]
              exact .inl (st_wp hx next)
            | false =>
              simp only [hb, cond_false] at hx hw
              rw [if_neg (by rw [hw]; exact Bool.false_ne_true)]
              exact next _ _ hx
end
end Go.X
end
section
namespace Go.X
open Go
section
variable {P : Program} {T : Tab}
def Ps (m : Nat) (a : Act) (Q : Exit → Env → World → Prop) : Exit → Act → World → Prop
  | .panic _, _, _ => False
  | .outgrown, _, _ => False
  | .goto _, _, _ => False
  | x, a', w' => Fr m a a' ∧ Q x (envOf a') w'
theorem Fr.weaken {m m1 : Nat} {a b : Act} (h : Fr m1 a b) (s : ∀ t, Nat.testBit m t = false → Nat.testBit m1 t = false) : Fr m a b :=
  ⟨h.1, h.2.1, fun t ht => h.2.2 t (s t ht)⟩
theorem Ps.weaken {m m1 : Nat} {a b : Act} {Q : Exit → Env → World → Prop} (hf : Fr m a b) (s : ∀ t, Nat.testBit m t = false → Nat.testBit m1 t = false) {x : Exit} {a' : Act} {w' : World}
    (h : Ps m1 b Q x a' w') : Ps m a Q x a' w' := by
  cases x <;> first | exact h | exact ⟨hf.trans h.1 (fun _ h => h) s, h.2⟩
theorem idx_spec : ∀ (L : List Nat) (t n i : Nat), idx L t n = some i → ∃ k, i = n + k ∧ L[k]? = some t
  | [], _, _, _, h => by cases h
  | l :: ls, t, n, i, h => by
    simp only [idx] at h
    cases hb : Nat.beq l t with
    | true =>
      simp only [hb, cond_true] at h
      injection h with h
      exact ⟨0, by omega, by simp [Nat.eq_of_beq_eq_true hb]⟩
    | false =>
      simp only [hb, cond_false] at h
      obtain ⟨k, h1, h2⟩ := idx_spec ls t (n + 1) i h
      exact ⟨k + 1, by omega, by simpa using h2⟩
theorem mix_eq {m : Nat} {L : List Nat} {e e1 : Env} (h : ∀ t, Nat.testBit m t = false → e1 t = e t) : mix m L (L.map e1) e1 e = e1 := by
  funext t
  unfold mix
  cases hb : Nat.testBit m t with
  | false => simp only [cond_false]; exact (h t hb).symm
  | true =>
    simp only [cond_true]
    cases hi : idx L t 0 with
    | none => rfl
    | some i =>
      obtain ⟨k, h1, h2⟩ := idx_spec L t 0 i hi
      have : i = k := by omega
      subst this
      simp [List.getD, h2]
theorem okOps_all {n : Nat} {ops : Array Oper} (h : okOps n ops.toList = true) : ∀ o ∈ ops.toList, ∀ x, o.dst = some x → x < n ∧ Nat.testBit (asgOps ops.toList 0) x = true :=
  fun _ ho x hx => ⟨okOps_mem h ho x hx, asgOps_mem ho 0 x hx⟩
def Qn (R : Act → World → Prop) : Exit → Act → World → Prop
  | .normal, a, w => R a w
  | _, _, _ => False
theorem bit_or {a b t : Nat} (h : Nat.testBit (a ||| b) t = false) : Nat.testBit a t = false ∧ Nat.testBit b t = false := by
  rw [Nat.testBit_or, Bool.or_eq_false_iff] at h; exact h
theorem CW_sound (hm : P.follows .mixedOrders = true) : ∀ (c : Code) (Q : Exit → Env → World → Prop) (a : Act) (w : World), okDst a.tmps.size c = true → CW P T c Q (envOf a) w → c.wp P (Ps (asg c) a Q) a w
  | .skip, Q, a, w, _, h => wp_skip ⟨Fr.refl _ _, h⟩
  | .region id ops draw, Q, a, w, hok, h => by
    simp only [CW] at h
    simp only [okDst] at hok
    have hd := okOps_all hok
    cases draw with
    | false =>
      simp only [regW] at h
      exact wp_region_list (seqW_sound (m := asgOps ops.toList 0) (a0 := a) _ (fun a' w' hf hk => ⟨hf, hk⟩) _ _ _ hok (fun o ho x hx => (hd o ho x hx).2) (Fr.refl _ _) h)
    | true =>
      simp only [regW] at h
      cases hb : (befOk (befores ops.toList []) ops.toList (befores ops.toList []) && !ops.toList.any isSel) with
      | false => rw [hb] at h; exact h.elim
      | true =>
        rw [hb] at h
        simp only [Bool.and_eq_true, Bool.not_eq_true'] at hb
        have hsel : ∀ (j : Nat) (o : Oper) cs b, ops[j]? = some o → o.op ≠ .select cs b := fun j o cs b ho hop => by
          have h1 := hb.2
          rw [List.any_eq_false] at h1
          exact h1 o (List.mem_of_getElem? (by simpa using ho)) (by unfold isSel; rw [hop])
        have key := drawW_sound (Q := Qn fun a' w' => Fr (asgOps ops.toList 0) a a' ∧ Q .normal (envOf a') w') (K := Q .normal) (m := asgOps ops.toList 0) (a0 := a) hb.1 hsel (fun c a w h => h) (fun a' w' hf hk => ⟨hf, hk⟩)
          hd ops.toList.length (List.replicate ops.toList.length false) [] a w.drew h (Fr.refl _ _)
          (fun k b i _ hk _ => by rw [List.getElem?_replicate] at hk; split at hk <;> cases hk) (by simp) (by simp)
        have key2 := wpAny_of_anyF _ _ _ _ key
        have e1 : ops.toList.length = ops.size := by simp
        have e2 : (List.replicate ops.size false).toArray = Array.replicate ops.size false := by simp
        rw [e1, e2] at key2
        refine wp_mono (wp_region_any hm key2) fun e a' w' hq => ?_
        cases e <;> first | exact hq.elim | exact hq
  | .seq x y, Q, a, w, hok, h => by
    simp only [okDst, Bool.and_eq_true] at hok
    have done : ∀ a1 w1, Fr (asg x) a a1 → CW P T y Q (envOf a1) w1 → y.wp P (Ps (asg (.seq x y)) a Q) a1 w1 := fun a1 w1 hf hy =>
      wp_mono (CW_sound hm y Q a1 w1 (by rw [hf.1]; exact hok.2) hy) fun e a2 w2 hq => Ps.weaken (hf.weaken fun t ht => (bit_or ht).1) (fun t ht => (bit_or ht).2) hq
    have out : ∀ (K : Env → World → Prop) e a1 w1, Ps (asg x) a (thn K Q) e a1 w1 → (e = .normal → K (envOf a1) w1 → Fr (asg x) a a1 → y.wp P (Ps (asg (.seq x y)) a Q) a1 w1) → Exit.then (y.wp P (Ps (asg (.seq x y)) a Q)) (Ps (asg (.seq x y)) a Q) e a1 w1 := fun K e a1 w1 hq hn => by
      cases e <;> simp only [Exit.then] <;> first
        | exact hn rfl hq.2 hq.1
        | exact hq
        | exact ⟨hq.1.weaken fun t ht => (bit_or ht).1, hq.2⟩
    simp only [CW] at h
    cases hb : branches x with
    | false =>
      rw [hb] at h
      exact wp_seq (wp_mono (CW_sound hm x _ a w hok.1 h) fun e a1 w1 hq => out _ e a1 w1 hq fun _ hk hf => done a1 w1 hf hk)
    | true =>
      rw [hb] at h
      obtain ⟨⟨k, hk, hx⟩⟩ := h
      exact wp_seq (wp_mono (CW_sound hm x _ a w hok.1 hx) fun e a1 w1 hq => out _ e a1 w1 hq fun _ hk1 hf => done a1 w1 hf (by
        have := hk _ (envOf a1) w1 hk1
        simp only [mix_eq hf.2.2] at this
        exact this))
  | .cond c x y, Q, a, w, hok, h => by
    simp only [okDst, Bool.and_eq_true] at hok
    simp only [CW] at h
    replace h := h.h
    unfold cd0 at h
    cases hv : ev (envOf a) c with
    | bool b =>
      simp only [hv] at h
      have hc : a.eval c = .bool b := by rw [eval_eq]; exact hv
      cases b with
      | true =>
        rw [if_pos rfl] at h
        exact wp_cond_true hc (wp_mono (CW_sound hm x Q a w hok.1 h) fun e a1 w1 hq => Ps.weaken (Fr.refl _ _) (fun t ht => (bit_or ht).1) hq)
      | false =>
        rw [if_neg Bool.false_ne_true] at h
        exact wp_cond_false hc (wp_mono (CW_sound hm y Q a w hok.2 h) fun e a1 w1 hq => Ps.weaken (Fr.refl _ _) (fun t ht => (bit_or ht).2) hq)
    | _ => rw [hv] at h; exact h.elim
  | .block id c, Q, a, w, hok, h => by
    simp only [okDst] at hok
    simp only [CW] at h
    refine wp_block (wp_mono (CW_sound hm c _ a w hok h) fun e a1 w1 hq => ?_)
    cases e with
    | exit id' =>
      simp only [Exit.inBlock]
      obtain ⟨hf, hq⟩ := hq
      simp only [inb] at hq
      by_cases e : id' = id
      · subst e
        rw [if_pos rfl]
        have : Nat.beq id' id' = true := Nat.beq_refl ..
        rw [this] at hq
        exact ⟨hf, hq⟩
      · rw [if_neg e]
        rw [beq_ne e] at hq
        exact ⟨hf, hq⟩
    | _ => exact hq
  | .loop c, Q, a, w, hok, h => by
    simp only [okDst] at hok
    simp only [CW] at h
    obtain ⟨⟨I, μ, h0, hr⟩⟩ := h
    refine wp_loop (fun a1 w1 => Fr (asg c) a a1 ∧ I ((T.loop (keyD c)).map (envOf a1)) w1) (fun a1 w1 => μ ((T.loop (keyD c)).map (envOf a1)) w1) ⟨Fr.refl _ _, h0⟩ fun a1 w1 ⟨hf, hI⟩ => ?_
    have h1 := hr _ (envOf a1) w1 hI
    simp only [mix_eq hf.2.2] at h1
    refine wp_mono (CW_sound hm c _ a1 w1 (by rw [hf.1]; exact hok) h1) fun e a2 w2 hq => ?_
    cases e <;> simp only [Exit.then] <;> first
      | exact ⟨⟨hf.trans hq.1 (fun _ h => h) (fun _ h => h), hq.2.1⟩, hq.2.2⟩
      | exact hq
      | exact ⟨hf.trans hq.1 (fun _ h => h) (fun _ h => h), hq.2⟩
  | .exit id, Q, a, w, _, h => wp_exit ⟨Fr.refl _ _, h⟩
  | .ret, Q, a, w, _, h => wp_ret ⟨Fr.refl _ _, h⟩
  | .rangeFunc .., _, _, _, _, h => by simp only [CW] at h
  | .scope _, _, _, _, _, h => by simp only [CW] at h
  | .label _, _, _, _, _, h => by simp only [CW] at h
  | .goto _, _, _, _, _, h => by simp only [CW] at h
  | .refuse _, _, _, _, _, h => by simp only [CW] at h
def resM (tmps : Array Value) : ResultVar → Sem Value
  | .tmp t => pure (tmps.getD t undef)
  | .cell a t => do loadVar t (← asAddr (tmps.getD a undef))
theorem resW_sound {K : Value → World → Prop} {e : Env} {w : World} (tmps : Array Value) (he : e = fun t => tmps.getD t undef) : ∀ (rs : List ResultVar) (acc : List Value), resW P rs acc e w K →
    ∃ vs : List Value, (rs.mapM (resM tmps)).run P w = .ok vs w ∧ K (tup (acc ++ vs)) w
  | [], acc, h => ⟨[], by rw [List.mapM_nil]; rfl, by rw [List.append_nil]; exact h⟩
  | .tmp t :: r, acc, h => by
    simp only [resW] at h
    obtain ⟨vs, h1, h2⟩ := resW_sound tmps he r _ h
    refine ⟨e t :: vs, ?_, by simpa using h2⟩
    have hv' : (resM tmps (.tmp t)).run P w = .ok (e t) w := by rw [he]; rfl
    simp only [List.mapM_cons, Sem.run_bind, h1, hv', Result.andThen_ok]
    rfl
  | .cell a t :: r, acc, h => by
    simp only [resW] at h
    obtain ⟨⟨v, hv, h⟩⟩ := h
    obtain ⟨vs, h1, h2⟩ := resW_sound tmps he r _ h
    refine ⟨v :: vs, ?_, by simpa using h2⟩
    have hv' : (resM tmps (.cell a t)).run P w = .ok v w := by rw [← hv, he]; rfl
    simp only [List.mapM_cons, Sem.run_bind, h1, hv', Result.andThen_ok]
    rfl
theorem results_run {K : Value → World → Prop} {fn : Func} {a : Act} {w : World} (h : resW P fn.results.toList [] (envOf a) w K) : ∃ v, (results fn a.tmps).run P w = .ok v w ∧ K v w := by
  obtain ⟨vs, h1, h2⟩ := resW_sound a.tmps rfl _ _ h
  refine ⟨tup vs, ?_, by simpa using h2⟩
  have e : fn.results.mapM (resM a.tmps) = (fun l : List Value => l.toArray) <$> fn.results.toList.mapM (resM a.tmps) := by
    rw [Array.mapM_eq_mapM_toList]
  have e2 : results fn a.tmps = (do
      let vs ← fn.results.mapM (resM a.tmps)
      pure (if h : vs.size = 1 then vs[0] else .tuple vs)) := by
    unfold results
    congr 1
  rw [e2, e, Sem.run_bind, Sem.run_map, h1]
  simp only [Result.andThen_ok]
  match vs with
  | [] => rfl
  | [v] => rfl
  | v :: u :: r => rfl
theorem envOf_enter (args : List Value) (n : Nat) : envOf { tmps := args.toArray ++ Array.replicate n undef, defers := [] } = env0 args := by
  funext t
  simp only [envOf, env0, Array.getD_eq_getD_getElem?, List.getD_eq_getElem?_getD]
  by_cases h : t < args.length
  · rw [Array.getElem?_append_left (by simpa using h)]; simp
  · rw [Array.getElem?_append_right (by simpa using h)]
    rw [List.getElem?_eq_none (by omega)]
    simp only [Array.getElem?_replicate]
    split <;> rfl
theorem cl_of_cw {f : FuncId} {fn : Func} {c : Code} {args : List Value} {w : World} {K : Value → World → Prop} (hf : P.funcs[f]? = some fn) (hb : fn.body = some c) (hm : P.follows .mixedOrders = true)
    (hd : okDst fn.ntmps c = true) (ha : args.length ≤ fn.ntmps) (h : CW P T c (retQ P fn.results.toList K) (env0 args) w) : Cl P f args.toArray w K := by
  refine calls_of_wp hf hb ?_
  have hs : (args.toArray ++ Array.replicate (fn.ntmps - args.toArray.size) undef).size = fn.ntmps := by simp; omega
  refine wp_mono (CW_sound (T := T) hm c (retQ P fn.results.toList K) _ w (by rw [hs]; exact hd) (by rw [envOf_enter]; exact h)) fun e a' w' hq => ?_
  have fin : ∀ x, Ps (asg c) { tmps := args.toArray ++ Array.replicate (fn.ntmps - args.toArray.size) undef, defers := [] } (retQ P fn.results.toList K) x a' w' → (x = .normal ∨ x = .ret) →
      a'.defers = [] ∧ ∃ v, (results fn a'.tmps).run P w' = .ok v w' ∧ ∃ v', Ending.returned v = .returned v' ∧ K v' w' := fun x hx hor => by
    have hres : Fr (asg c) { tmps := args.toArray ++ Array.replicate (fn.ntmps - args.toArray.size) undef, defers := [] } a' ∧ resW P fn.results.toList [] (envOf a') w' K := by
      rcases hor with rfl | rfl <;> exact hx
    obtain ⟨v, h1, h2⟩ := results_run hres.2
    exact ⟨hres.1.2.1, v, h1, v, rfl, h2⟩
  cases e with
  | normal => exact fin _ hq (.inl rfl)
  | ret => exact fin _ hq (.inr rfl)
  | exit id => exact hq.2.elim
  | goto l => exact hq.elim
  | panic c => exact hq.elim
  | outgrown => exact hq.elim
end
end Go.X
end
section
namespace Go.X
open Go
def v' (s : Sem Value) : Sem Next := do pure (.value (← s))
def u' (s : Sem Unit) : Sem Next := do s; pure .skip
def fl (c : Bool) : Operand := match c with | true => .const (.bool true) | false => .tmp 0
def oPick (c a b : Value) : Sem Next := do pure (.value (if ← asBool c then a else b))
def oAlloc (t : TypeId) : Sem Next := v' (Instr.alloc t true (.tuple #[]))
def oBox (t : TypeId) (x : Value) : Sem Next := v' (Instr.box t x)
def oBuild (t : TypeId) (ps : Array (Nat × Value)) : Sem Next := v' (Instr.build t ps)
def oBuildSlice (t : TypeId) (n : Nat) (ps : Array (Nat × Value)) : Sem Next := v' (Instr.buildSlice t n ps)
def oLoad (t : TypeId) (a : Value) : Sem Next := v' (Instr.loadAt t a)
def oStore (t : TypeId) (a x : Value) : Sem Next := u' (Instr.storeAt t a x)
def oNil (x : Value) : Sem Next :=
  match x with
  | .pointer none | .nilIface | .nilFunc => runtimePanic .nilDeref
  | .func (.method name) first captured =>
    match (first[0]? : Option Value) with
    | some .nilIface => runtimePanic .nilDeref
    | some (.iface t w) => do
      if (← nilAhead ((← program).types.size + Made.depth) t w name) != some false then
        unsupported (.noEntry "op/nilCheck.the method's receiver behind this interface value is a nil pointer, or cannot be seen to be none, and the arguments act or may panic (ledger 612)")
      pure (.value (.func (.method name) first captured))
    | _ => pure (.value (.func (.method name) first captured))
  | x => pure (.value x)
def oBin (op : BinOp) (t : TypeId) (cx cy : Bool) (x y : Value) : Sem Next := v' (do eqGuard op t (fl cx) (fl cy) x y; binOp op t x y)
def oUn (op : UnOp) (x : Value) : Sem Next := v' (Op.unary op x)
def oConv (s d : TypeId) (x : Value) : Sem Next := v' (convert s d x)
def oMkMap (t : TypeId) (r : Option Value) : Sem Next := v' (Instr.makeMap t r)
def oMkSlice (t : TypeId) (l c : Value) : Sem Next := v' (Instr.makeSlice t l c)
def oSlice (t : TypeId) (x : Value) (lo hi mx : Option Value) : Sem Next := v' (Instr.sliceAt t x lo hi mx)
def oFldA (t : TypeId) (x : Value) (f : Nat) : Sem Next := v' (Instr.fieldAt t x f)
def oIdxA (t : TypeId) (x i : Value) : Sem Next := v' (Instr.indexAt t x i)
def oIdx (t : TypeId) (x i : Value) : Sem Next := v' (Instr.index t x i)
def oLookup (t : TypeId) (x i : Value) (ok : Bool) : Sem Next := v' (Instr.lookup t x i ok)
def oMapUp (t : TypeId) (m k x : Value) : Sem Next := u' (Instr.mapUpdate t m k x)
def oRange (t : TypeId) (x : Value) : Sem Next := v' (Instr.range t x)
def oNext (i : Value) (isStr : Bool) (t : TypeId) : Sem Next := v' (Instr.next i isStr t)
def oEntry (i : Value) : Sem Next := v' (Instr.entry i)
def oExtract (x : Value) (i : Nat) : Sem Next := v' (Instr.extract x i)
def oBuiltin (b : Builtin) (ats : Array TypeId) (t : TypeId) (cs : Array Bool) (args : Array Value) : Sem Next := builtin b ats t cs args
def oCall (f : FuncId) (args : Array Value) : Sem Next := callFunc f args
def S (l : List UInt8) : Value := .string ⟨l.toArray⟩
abbrev gs (s : List Value) (i : Nat) : Value := s.getD i undef
end Go.X
end
section
namespace Go.Proofs.Ytfiepdikejoeeaa.X
open Go Go.X
noncomputable abbrev P : Program := Go.Proofs.Try.prog
theorem follows_mixed : P.follows .mixedOrders = true := by kernel_rfl
namespace T
abbrev ty_2e38e77b : Nat := 0
abbrev int64 : Nat := 2
abbrev int : Nat := 3
abbrev bool : Nat := 4
abbrev uint8 : Nat := 5
abbrev string : Nat := 9
abbrev sl_impl_Entry : Nat := 22
abbrev sl_string : Nat := 24
abbrev sl_impl_Info : Nat := 26
abbrev impl_Info : Nat := 29
abbrev sl_uint8 : Nat := 31
abbrev impl_Entry : Nat := 33
abbrev sl_p_mem_FileInfo : Nat := 38
abbrev error : Nat := 40
abbrev p_mem_FileInfo : Nat := 45
abbrev uint32 : Nat := 47
abbrev os_FileMode : Nat := 48
abbrev map_string_p_mem_FileInfo : Nat := 50
abbrev p_mem_FileData : Nat := 54
abbrev mem_FileData : Nat := 58
abbrev mem_FileInfo : Nat := 60
end T
namespace Fn
abbrev laws_FnMergeNothing : Nat := 3
abbrev laws_zzFits15 : Nat := 4
abbrev laws_listed : Nat := 5
abbrev laws_lastNames : Nat := 6
abbrev impl_MergeDirs : Nat := 7
abbrev laws_sameInfos : Nat := 8
abbrev laws_zzFits16 : Nat := 9
abbrev spec_Rooted : Nat := 10
abbrev spec_MemName : Nat := 11
abbrev spec_MemBase : Nat := 12
abbrev laws_hasName : Nat := 13
abbrev afero_DoorMerge : Nat := 14
abbrev impl_infos : Nat := 15
abbrev impl_fromInfos : Nat := 16
abbrev afero_defaultUnionMergeDirsFn : Nat := 17
abbrev mem_DoorInfo : Nat := 18
abbrev impl_fromInfo : Nat := 19
abbrev mem_FileInfo_Name : Nat := 20
abbrev afero_zzSort : Nat := 21
abbrev mem_FileInfo_Size : Nat := 22
abbrev mem_FileInfo_Mode : Nat := 23
abbrev mem_FileInfo_IsDir : Nat := 24
abbrev mem_FileInfo_ModTime : Nat := 25
abbrev path_Split : Nat := 26
abbrev bytealg_LastIndexByteString : Nat := 27
end Fn
theorem cl_of_eq {T : Tab} {f : FuncId} {fn : Func} {c : Code} {args : List Value} {w : World} {K : Value → World → Prop} {A : Prop} (hf : P.funcs[f]? = some fn) (hb : fn.body = some c) (hm : P.follows .mixedOrders = true)
    (hd : okDst fn.ntmps c = true) (ha : args.length ≤ fn.ntmps) (h : CW P T c (retQ P fn.results.toList K) (env0 args) w = A) (hA : A) : Cl P f args.toArray w K :=
  cl_of_cw hf hb hm hd ha (by rw [h]; exact hA)
end Go.Proofs.Ytfiepdikejoeeaa.X
end
section
namespace Go.X
open Go
section
variable {P : Program}
theorem st_eq_value {s : Sem Next} {w w' : World} {v : Value} {K : Value → World → Prop} (h : s.run P w = .ok (.value v) w') : st P s w K = K v w' :=
  propext ⟨fun x => by have := x.h; unfold st0 at this; rw [h] at this; exact this, fun x => ⟨by unfold st0; rw [h]; exact x⟩⟩
theorem st_eq_skip {s : Sem Next} {w w' : World} {K : Value → World → Prop} (h : s.run P w = .ok .skip w') : st P s w K = K undef w' :=
  propext ⟨fun x => by have := x.h; unfold st0 at this; rw [h] at this; exact this, fun x => ⟨by unfold st0; rw [h]; exact x⟩⟩
theorem st_eq_enter {s : Sem Next} {w w' : World} {f : FuncId} {args : Array Value} {K : Value → World → Prop} (h : s.run P w = .ok (.enter f args) w') : st P s w K = Cl P f args w' K :=
  propext ⟨fun x => by have := x.h; unfold st0 at this; rw [h] at this; exact this, fun x => ⟨by unfold st0; rw [h]; exact x⟩⟩
theorem pu_eq {s : Sem Next} {v : Value} {K : Value → Prop} (h : runPure P s = some v) : pu P s K = K v :=
  propext ⟨fun x => by have := x.h; unfold pu0 at this; rw [h] at this; exact this, fun x => ⟨by unfold pu0; rw [h]; exact x⟩⟩
theorem rd_eq {s : Sem Next} {w : World} {v : Value} {K : Value → Prop} (h : s.run P w = .ok (.value v) w) : rd P s w K = K v :=
  propext ⟨fun x => by obtain ⟨v', h', k⟩ := x.h; rw [h] at h'; injection h' with h1; injection h1 with h1; subst h1; exact k, fun x => ⟨⟨v, h, x⟩⟩⟩
theorem hold_eq {s : Sem Next} {w : World} {v v' : Value} (h : s.run P w = .ok (.value v) w) : hold P s v' w = (v = v') :=
  propext ⟨fun x => by have := x.h; unfold hold0 at this; rw [h] at this; injection this with h1; injection h1, fun x => ⟨by unfold hold0; rw [h, x]⟩⟩
theorem cd_eq (b : Bool) (X Y : Prop) : cd (.bool b) X Y = (if b = true then X else Y) :=
  propext ⟨fun x => x.h, fun x => ⟨x⟩⟩
theorem gd_true (b : Bool) (w : World) (X : (Value → World → Prop) → Prop) (K : Value → World → Prop) : gd (.bool b) true w X K = (if b = true then X K else K undef w) :=
  propext ⟨fun x => by have := x.h; unfold gd0 isb at this; cases b <;> simpa using this, fun x => ⟨by unfold gd0 isb; cases b <;> simpa using x⟩⟩
theorem gd_false (b : Bool) (w : World) (X : (Value → World → Prop) → Prop) (K : Value → World → Prop) : gd (.bool b) false w X K = (if b = true then K undef w else X K) :=
  propext ⟨fun x => by have := x.h; unfold gd0 isb at this; cases b <;> simpa using this, fun x => ⟨by unfold gd0 isb; cases b <;> simpa using x⟩⟩
@[go_sem] theorem isb_bool (b c : Bool) : isb (.bool b) c = (b == c) := rfl
theorem jn_with {R : List Value → Env → World → Prop} {X : (List Value → World → Prop) → Prop} (k : List Value → World → Prop) (h1 : ∀ s u w, k s w → R s u w) (h2 : X k) : jn R X := ⟨⟨k, h1, h2⟩⟩
theorem lp_intro {s0 : List Value} {w0 : World} {R : List Value → Env → World → (List Value → World → Prop) → Prop} (I : List Value → World → Prop) (μ : List Value → World → Nat) (h0 : I s0 w0)
    (h : ∀ s u w, I s w → R s u w fun s' w' => I s' w' ∧ μ s' w' < μ s w) : lp s0 w0 R := ⟨⟨I, μ, h0, h⟩⟩
theorem run_v' {s : Sem Value} {w w' : World} {v : Value} (h : s.run P w = .ok v w') : (v' s).run P w = .ok (.value v) w' := by
  unfold X.v'; rw [Sem.run_bind, h]; rfl
theorem run_u' {s : Sem Unit} {w w' : World} (h : s.run P w = .ok () w') : (u' s).run P w = .ok .skip w' := by
  unfold u'; rw [Sem.run_bind, h]; rfl
def rp (P : Program) {α : Type} : Sem α → Option α
  | .pure a => some a
  | .program k => rp P (k P)
  | .mark _ k => rp P k
  | _ => none
@[simp] theorem rp_pure {α : Type} (a : α) : rp P (Pure.pure a : Sem α) = some a := rfl
@[simp] theorem rp_pure' {α : Type} (a : α) : rp P (Sem.pure a : Sem α) = some a := rfl
@[simp] theorem rp_program : rp P program = some P := rfl
@[simp] theorem rp_halt {α : Type} (h : Halt) : rp P (.halt h : Sem α) = none := rfl
theorem rp_bind {α β : Type} (x : Sem α) (f : α → Sem β) : rp P (x >>= f) = (rp P x).bind fun a => rp P (f a) := by
  show rp P (x.bind f) = _
  induction x <;> simp_all [Sem.bind, rp]
theorem rp_map {α β : Type} (x : Sem α) (f : α → β) : rp P (f <$> x) = (rp P x).map f := by
  show rp P (x.bind fun a => Sem.pure (f a)) = _
  induction x <;> simp_all [Sem.bind, rp]
theorem runPure_v' (s : Sem Value) : runPure P (v' s) = rp P s := by
  show runPure P (s.bind fun a => Sem.pure (.value a)) = _
  induction s <;> simp_all [Sem.bind, runPure, rp]
theorem rp_underlying {t : TypeId} {d : TypeDesc} (h : P.underlying t = some d) : rp P (underlying t) = some d := by
  unfold underlying; simp [rp_bind, h]
theorem pu_v' {s : Sem Value} {v : Value} {K : Value → Prop} (h : rp P s = some v) : pu P (v' s) K = K v := pu_eq (by rw [runPure_v']; exact h)
variable (K : Value → Prop)
@[go_sem] theorem oNil_ptr (a : Addr) : pu P (oNil (.pointer (some a))) K = K (.pointer (some a)) := pu_eq rfl
theorem oPick_eq (c : Bool) (a b : Value) : pu P (oPick (.bool c) a b) K = K (if c = true then a else b) := pu_eq rfl
@[go_sem] theorem oExtract2_0 (a b : Value) : pu P (oExtract (tup [a, b]) 0) K = K a := pu_eq rfl
@[go_sem] theorem oExtract2_1 (a b : Value) : pu P (oExtract (tup [a, b]) 1) K = K b := pu_eq rfl
@[go_sem] theorem oExtract3_0 (a b c : Value) : pu P (oExtract (tup [a, b, c]) 0) K = K a := pu_eq rfl
@[go_sem] theorem oExtract3_1 (a b c : Value) : pu P (oExtract (tup [a, b, c]) 1) K = K b := pu_eq rfl
@[go_sem] theorem oExtract3_2 (a b c : Value) : pu P (oExtract (tup [a, b, c]) 2) K = K c := pu_eq rfl
@[go_sem] theorem oExtract4_0 (a b c d : Value) : pu P (oExtract (tup [a, b, c, d]) 0) K = K a := pu_eq rfl
@[go_sem] theorem oExtract4_1 (a b c d : Value) : pu P (oExtract (tup [a, b, c, d]) 1) K = K b := pu_eq rfl
@[go_sem] theorem oExtract4_2 (a b c d : Value) : pu P (oExtract (tup [a, b, c, d]) 2) K = K c := pu_eq rfl
@[go_sem] theorem oExtract4_3 (a b c d : Value) : pu P (oExtract (tup [a, b, c, d]) 3) K = K d := pu_eq rfl
@[go_sem] theorem tup_one (a : Value) : tup [a] = a := rfl
@[go_sem] theorem oNot (b : Bool) : pu P (oUn .not (.bool b)) K = K (.bool (!b)) := pu_eq rfl
@[go_sem] theorem gs0 (a : Value) (l : List Value) : gs (a :: l) 0 = a := rfl
@[go_sem] theorem gs1 (a b : Value) (l : List Value) : gs (a :: b :: l) 1 = b := rfl
@[go_sem] theorem gs2 (a b c : Value) (l : List Value) : gs (a :: b :: c :: l) 2 = c := rfl
@[go_sem] theorem gs3 (a b c d : Value) (l : List Value) : gs (a :: b :: c :: d :: l) 3 = d := rfl
@[go_sem] theorem gs4 (a b c d e : Value) (l : List Value) : gs (a :: b :: c :: d :: e :: l) 4 = e := rfl
@[go_sem] theorem gs5 (a b c d e f : Value) (l : List Value) : gs (a :: b :: c :: d :: e :: f :: l) 5 = f := rfl
@[go_sem] theorem gs6 (a b c d e f g : Value) (l : List Value) : gs (a :: b :: c :: d :: e :: f :: g :: l) 6 = g := rfl
theorem rp_eqGuard_int (op : BinOp) (t : TypeId) (cx cy : Bool) (k j : IntKind) (x y : Int) : rp P (eqGuard op t (fl cx) (fl cy) (.int k x) (.int j y)) = some () := by
  unfold eqGuard; cases op <;> rfl
theorem rp_eqGuard_str (op : BinOp) (t : TypeId) (cx cy : Bool) (x y : ByteArray) : rp P (eqGuard op t (fl cx) (fl cy) (.string x) (.string y)) = some () := by
  unfold eqGuard; cases op <;> rfl
theorem rp_eqGuard_bool (op : BinOp) (t : TypeId) (cx cy : Bool) (x y : Bool) : rp P (eqGuard op t (fl cx) (fl cy) (.bool x) (.bool y)) = some () := by
  unfold eqGuard; cases op <;> rfl
theorem bin_int {op : BinOp} {t : TypeId} {cx cy : Bool} {k j : IntKind} {x y : Int} {v : Value} (h : rp P (binOp op t (.int k x) (.int j y)) = some v) : pu P (oBin op t cx cy (.int k x) (.int j y)) K = K v :=
  pu_v' (by rw [rp_bind, rp_eqGuard_int]; exact h)
theorem bin_str {op : BinOp} {t : TypeId} {cx cy : Bool} {x y : ByteArray} {v : Value} (h : rp P (binOp op t (.string x) (.string y)) = some v) : pu P (oBin op t cx cy (.string x) (.string y)) K = K v :=
  pu_v' (by rw [rp_bind, rp_eqGuard_str]; exact h)
@[go_sem] theorem oAdd (t : TypeId) (cx cy : Bool) (k : IntKind) (x y : Int) : pu P (oBin .add t cx cy (.int k x) (.int k y)) K = K (.int k (k.wrap (x + y))) :=
  bin_int K (by simp [binOp, Op.intArith])
@[go_sem] theorem oSub (t : TypeId) (cx cy : Bool) (k : IntKind) (x y : Int) : pu P (oBin .sub t cx cy (.int k x) (.int k y)) K = K (.int k (k.wrap (x - y))) :=
  bin_int K (by simp [binOp, Op.intArith])
@[go_sem] theorem oMul (t : TypeId) (cx cy : Bool) (k : IntKind) (x y : Int) : pu P (oBin .mul t cx cy (.int k x) (.int k y)) K = K (.int k (k.wrap (x * y))) :=
  bin_int K (by simp [binOp, Op.intArith])
@[go_sem] theorem oQuo (t : TypeId) (cx cy : Bool) (k : IntKind) (x y : Int) (hy : y ≠ 0) : pu P (oBin .quo t cx cy (.int k x) (.int k y)) K = K (.int k (k.wrap (x.tdiv y))) :=
  bin_int K (by simp [binOp, Op.intDiv, hy])
@[go_sem] theorem oRem (t : TypeId) (cx cy : Bool) (k : IntKind) (x y : Int) (hy : y ≠ 0) : pu P (oBin .rem t cx cy (.int k x) (.int k y)) K = K (.int k (x.tmod y)) :=
  bin_int K (by simp [binOp, Op.intDiv, hy])
@[go_sem] theorem oLss (t : TypeId) (cx cy : Bool) (k : IntKind) (x y : Int) : pu P (oBin .lss t cx cy (.int k x) (.int k y)) K = K (.bool (decide (x < y))) :=
  bin_int K (by simp [binOp, Op.intCmp])
@[go_sem] theorem oLeq (t : TypeId) (cx cy : Bool) (k : IntKind) (x y : Int) : pu P (oBin .leq t cx cy (.int k x) (.int k y)) K = K (.bool (decide (x ≤ y))) :=
  bin_int K (by simp [binOp, Op.intCmp])
@[go_sem] theorem oGtr (t : TypeId) (cx cy : Bool) (k : IntKind) (x y : Int) : pu P (oBin .gtr t cx cy (.int k x) (.int k y)) K = K (.bool (decide (y < x))) :=
  bin_int K (by simp [binOp, Op.intCmp])
@[go_sem] theorem oGeq (t : TypeId) (cx cy : Bool) (k : IntKind) (x y : Int) : pu P (oBin .geq t cx cy (.int k x) (.int k y)) K = K (.bool (decide (y ≤ x))) :=
  bin_int K (by simp [binOp, Op.intCmp])
@[go_sem] theorem oEql (t : TypeId) (cx cy : Bool) (k : IntKind) (x y : Int) : pu P (oBin .eql t cx cy (.int k x) (.int k y)) K = K (.bool (decide (x = y))) :=
  bin_int K (by simp [binOp, Op.intCmp]; by_cases h : x = y <;> simp [h])
@[go_sem] theorem oNeq (t : TypeId) (cx cy : Bool) (k : IntKind) (x y : Int) : pu P (oBin .neq t cx cy (.int k x) (.int k y)) K = K (.bool (decide (x ≠ y))) :=
  bin_int K (by simp [binOp, Op.intCmp]; by_cases h : x = y <;> simp [h])
@[go_sem] theorem oEqlS (t : TypeId) (cx cy : Bool) (x y : List UInt8) : pu P (oBin .eql t cx cy (S x) (S y)) K = K (.bool (decide (x = y))) :=
  bin_str K (by simp [binOp, Op.stringOp]; by_cases h : x = y <;> simp [h])
@[go_sem] theorem oNeqS (t : TypeId) (cx cy : Bool) (x y : List UInt8) : pu P (oBin .neq t cx cy (S x) (S y)) K = K (.bool (decide (x ≠ y))) :=
  bin_str K (by simp [binOp, Op.stringOp]; by_cases h : x = y <;> simp [h])
@[go_sem] theorem oAddS (t : TypeId) (cx cy : Bool) (x y : List UInt8) (h : x.length + y.length ≤ 9223372036854775807) : pu P (oBin .add t cx cy (S x) (S y)) K = K (S (x ++ y)) :=
  bin_str K (by
    have h2 : ¬ (((ByteArray.mk x.toArray).size + (ByteArray.mk y.toArray).size : Nat) : Int) > IntKind.i64.max := by
      show ¬ ((x.toArray.size + y.toArray.size : Nat) : Int) > 9223372036854775807
      simp; omega
    have e : binOp .add t (.string ⟨x.toArray⟩) (.string ⟨y.toArray⟩) = pure (.string (⟨x.toArray⟩ ++ ⟨y.toArray⟩)) := by
      simp only [binOp, Op.stringOp]
      rw [if_neg h2]
    rw [e, rp_pure]
    have e2 : (ByteArray.mk x.toArray ++ ByteArray.mk y.toArray) = ByteArray.mk (x ++ y).toArray := by apply ByteArray.ext; simp
    rw [e2]; rfl)
@[go_sem] theorem oLssS (t : TypeId) (cx cy : Bool) (x y : List UInt8) : pu P (oBin .lss t cx cy (S x) (S y)) K = K (.bool (Op.bytesLess x y)) :=
  bin_str K (by simp [binOp, Op.stringOp])
@[go_sem] theorem oLeqS (t : TypeId) (cx cy : Bool) (x y : List UInt8) : pu P (oBin .leq t cx cy (S x) (S y)) K = K (.bool (Op.bytesLess x y || decide (x = y))) :=
  bin_str K (by simp [binOp, Op.stringOp]; by_cases h : x = y <;> simp [h])
@[go_sem] theorem oGtrS (t : TypeId) (cx cy : Bool) (x y : List UInt8) : pu P (oBin .gtr t cx cy (S x) (S y)) K = K (.bool (!(Op.bytesLess x y || decide (x = y)))) :=
  bin_str K (by simp [binOp, Op.stringOp]; by_cases h : x = y <;> simp [h])
@[go_sem] theorem oGeqS (t : TypeId) (cx cy : Bool) (x y : List UInt8) : pu P (oBin .geq t cx cy (S x) (S y)) K = K (.bool (!Op.bytesLess x y)) :=
  bin_str K (by simp [binOp, Op.stringOp])
theorem pu_builtin {b : Builtin} {ats : Array TypeId} {t : TypeId} {cs : Array Bool} {args : Array Value} {s : Sem Value} {v : Value} (hb : builtin b ats t cs args = v' s) (h : rp P s = some v) :
    pu P (oBuiltin b ats t cs args) K = K v := by
  unfold oBuiltin; rw [hb]; exact pu_v' h
theorem oLenS (t ty : TypeId) (c : Bool) (x : List UInt8) (h : P.underlying t = some .string) : pu P (oBuiltin .len #[t] ty #[c] #[S x]) K = K (.int .i64 x.length) :=
  pu_builtin K (s := Builtin.len_ #[t] ty #[S x]) rfl (by
    simp only [Builtin.len_]
    simp [rp_bind, rp_underlying h, S, goInt]; rfl)
theorem oLenL (t ty e : TypeId) (c : Bool) (a : Option Addr) (n m : Nat) (h : P.underlying t = some (.slice e)) : pu P (oBuiltin .len #[t] ty #[c] #[.slice a n m]) K = K (.int .i64 n) :=
  pu_builtin K (s := Builtin.len_ #[t] ty #[.slice a n m]) rfl (by
    simp only [Builtin.len_]
    simp [rp_bind, rp_underlying h, goInt])
theorem oIdxS (t : TypeId) (x : List UInt8) (k : IntKind) (i : Int) (h : P.underlying t = some .string) (h0 : 0 ≤ i) (h1 : i < x.length) :
    pu P (oIdx t (S x) (.int k i)) K = K (.int .u8 (x.getD i.toNat 0).toNat) :=
  pu_v' (by
    have hs : i.toNat < x.length := by omega
    have e : (ByteArray.mk x.toArray)[i.toNat]? = some (x.getD i.toNat 0) := by
      rw [ByteArray.getElem?_lt' _ _ (by show i.toNat < x.toArray.size; simpa using hs)]
      show some (x.toArray[i.toNat]'(by simpa using hs)) = _
      simp [List.getD, hs]
    simp only [Instr.index, S]
    simp [rp_bind, rp_underlying h, asIntOf, h0, e])
theorem oConvI {s d : TypeId} {k j : IntKind} {x : Int} (hs : P.underlying s = some (.int k)) (hd : P.underlying d = some (.int j)) : pu P (oConv s d (.int k x)) K = K (.int j (j.wrap x)) :=
  pu_v' (by
    unfold convert
    simp [rp_bind, rp_underlying hs, rp_underlying hd, Conv.intToInt])
@[go_sem] theorem oMaxI (t u ty : TypeId) (c1 c2 : Bool) (k : IntKind) (x y : Int) : pu P (oBuiltin .max #[t, u] ty #[c1, c2] #[.int k x, .int k y]) K = K (.int k (max x y)) :=
  pu_builtin K (s := Builtin.max2 (.int k x) (.int k y)) (by
    show X.v' (Builtin.max_ _ _ _) = _
    simp [Builtin.max_]) (by
    simp only [Builtin.max2, rp_pure]
    congr 2
    by_cases h : y > x
    · rw [if_pos h]; omega
    · rw [if_neg h]; omega)
@[go_sem] theorem oMinI (t u ty : TypeId) (c1 c2 : Bool) (k : IntKind) (x y : Int) : pu P (oBuiltin .min #[t, u] ty #[c1, c2] #[.int k x, .int k y]) K = K (.int k (min x y)) :=
  pu_builtin K (s := Builtin.min2 (.int k x) (.int k y)) (by
    show X.v' (Builtin.min_ _ _ _) = _
    simp [Builtin.min_]) (by
    simp only [Builtin.min2, rp_pure]
    congr 2
    by_cases h : y < x
    · rw [if_pos h]; omega
    · rw [if_neg h]; omega)
theorem rp_sliceBound (k : IntKind) (i : Int) (y : Nat) (code : BoundsCode) (h0 : 0 ≤ i) (h1 : i ≤ y) : rp P (Instr.sliceBound (.int k i) y code) = some i.toNat := by
  simp [Instr.sliceBound, asIntOf, rp_bind, h0, h1]
theorem ext_S (x : List UInt8) (a b : Nat) : (ByteArray.mk x.toArray).extract a b = ⟨((x.drop a).take (b - a)).toArray⟩ := ByteArray.extract_mk x a b
theorem size_S (x : List UInt8) : (ByteArray.mk x.toArray).size = x.length := by show x.toArray.size = _; simp
theorem oSliceS_lo (t : TypeId) (x : List UInt8) (k : IntKind) (i : Int) (h : P.underlying t = some .string) (h0 : 0 ≤ i) (h1 : i ≤ x.length) :
    pu P (oSlice t (S x) (some (.int k i)) none none) K = K (S (x.drop i.toNat)) :=
  pu_v' (by
    simp only [Instr.sliceAt, Instr.slice, S, Instr.sliceBounds]
    simp [rp_bind, rp_map, rp_underlying h, size_S, rp_sliceBound k i x.length _ h0 h1, ext_S]
    rw [List.take_of_length_le (by simp)])
theorem oSliceS_hi (t : TypeId) (x : List UInt8) (k : IntKind) (i : Int) (h : P.underlying t = some .string) (h0 : 0 ≤ i) (h1 : i ≤ x.length) :
    pu P (oSlice t (S x) none (some (.int k i)) none) K = K (S (x.take i.toNat)) :=
  pu_v' (by
    simp only [Instr.sliceAt, Instr.slice, S, Instr.sliceBounds]
    simp [rp_bind, rp_map, rp_underlying h, size_S, rp_sliceBound k i x.length _ h0 h1, ext_S])
theorem oSliceS (t : TypeId) (x : List UInt8) (k l : IntKind) (i j : Int) (h : P.underlying t = some .string) (h0 : 0 ≤ i) (h1 : i ≤ j) (h2 : j ≤ x.length) :
    pu P (oSlice t (S x) (some (.int k i)) (some (.int l j)) none) K = K (S ((x.drop i.toNat).take (j.toNat - i.toNat))) :=
  pu_v' (by
    have h3 : 0 ≤ j := by omega
    simp only [Instr.sliceAt, Instr.slice, S, Instr.sliceBounds]
    simp [rp_bind, rp_map, rp_underlying h, size_S, rp_sliceBound l j x.length _ h3 h2, ext_S, rp_sliceBound k i j.toNat _ h0 (by omega)])
theorem fldA_law {t : TypeId} {fields : Array Field} {f : Nat} {b o d : Nat} (h : P.underlying t = some (.struct fields)) (hf : (fields[f]?).map (fun x => (x.offset, P.cellsOf x.type == 0)) = some (d, false))
    (ha : (Addr.mk b o none).add d = ⟨b, o + d, none⟩) : pu P (oFldA t (.pointer (some ⟨b, o, none⟩)) f) K = K (.pointer (some ⟨b, o + d, none⟩)) :=
  pu_v' (by
    cases hx : fields[f]? with
    | none => rw [hx] at hf; cases hf
    | some fd =>
      rw [hx] at hf
      simp only [Option.map_some, Option.some.injEq, Prod.mk.injEq, beq_eq_false_iff_ne] at hf
      simp only [Instr.fieldAt, Instr.sureAddr, fieldPlace]
      have e : rp P (sizeOf fd.type) = some (P.cellsOf fd.type) := by
        have h2 := hf.2
        unfold Program.cellsOf at h2 ⊢
        cases hi : P.info? fd.type with
        | none => rw [hi] at h2; exact absurd rfl h2
        | some i => simp [sizeOf, typeInfo, rp_bind, hi]
      simp [rp_bind, rp_underlying h, hx, e, hf.2, hf.1, ha])
theorem st_call {f : FuncId} {fn : Func} {args : Array Value} {w : World} {K : Value → World → Prop} (hf : P.funcs[f]? = some fn) (hn : (fn.name == "runtime.NumGoroutine") = false) (hb : fn.body.isNone = false) :
    st P (oCall f args) w K = Cl P f args w K :=
  st_eq_enter (by
    unfold oCall callFunc
    simp only [Sem.run_bind, run_program, Result.andThen_ok, hf, hn, hb]
    rfl)
theorem w_u32 {n : Int} (h0 : 0 ≤ n) (h1 : n ≤ 4294967295) : IntKind.u32.wrap n = n := by
  simp only [IntKind.wrap]; simp [IntKind.bits, IntKind.signed]; omega
theorem w_u64 {n : Int} (h0 : 0 ≤ n) (h1 : n ≤ 18446744073709551615) : IntKind.u64.wrap n = n := by
  simp only [IntKind.wrap]; simp [IntKind.bits, IntKind.signed]; omega
theorem w_u16 {n : Int} (h0 : 0 ≤ n) (h1 : n ≤ 65535) : IntKind.u16.wrap n = n := by
  simp only [IntKind.wrap]; simp [IntKind.bits, IntKind.signed]; omega
theorem w_u8 {n : Int} (h0 : 0 ≤ n) (h1 : n ≤ 255) : IntKind.u8.wrap n = n := by
  simp only [IntKind.wrap]; simp [IntKind.bits, IntKind.signed]; omega
theorem w_i64 {n : Int} (h0 : -9223372036854775808 ≤ n) (h1 : n ≤ 9223372036854775807) : IntKind.i64.wrap n = n := by
  simp only [IntKind.wrap]; simp [IntKind.bits, IntKind.signed]; omega
end
end Go.X
end
section
namespace Go.Proofs.Ytfiepdikejoeeaa.X
open Go Go.X Go.Proofs
namespace U
theorem int64 : P.underlying T.int64 = some (.int .i64) := Try.underlying2
theorem int : P.underlying T.int = some (.int .i64) := Try.underlying3
theorem bool : P.underlying T.bool = some (.bool) := Try.underlying4
theorem uint8 : P.underlying T.uint8 = some (.int .u8) := Try.underlying5
theorem string : P.underlying T.string = some (.string) := Try.underlying9
theorem sl_impl_Entry : P.underlying T.sl_impl_Entry = some (.slice T.impl_Entry) := Try.underlying22
theorem sl_string : P.underlying T.sl_string = some (.slice T.string) := Try.underlying24
theorem sl_impl_Info : P.underlying T.sl_impl_Info = some (.slice T.impl_Info) := Try.underlying26
theorem sl_uint8 : P.underlying T.sl_uint8 = some (.slice T.uint8) := Try.underlying31
theorem sl_p_mem_FileInfo : P.underlying T.sl_p_mem_FileInfo = some (.slice T.p_mem_FileInfo) := Try.underlying38
theorem p_mem_FileInfo : P.underlying T.p_mem_FileInfo = some (.pointer T.mem_FileInfo) := Try.underlying45
theorem uint32 : P.underlying T.uint32 = some (.int .u32) := Try.underlying47
theorem os_FileMode : P.underlying T.os_FileMode = some (.int .u32) := Try.underlying48
theorem map_string_p_mem_FileInfo : P.underlying T.map_string_p_mem_FileInfo = some (.map T.string T.p_mem_FileInfo) := Try.underlying50
theorem p_mem_FileData : P.underlying T.p_mem_FileData = some (.pointer T.mem_FileData) := Try.underlying54
end U
namespace A
theorem impl_Info_0 (b o : Nat) (K : Value → Prop) : pu P (oFldA T.impl_Info (.pointer (some ⟨b, o, none⟩)) 0) K = K (.pointer (some ⟨b, o + 0, none⟩)) := fldA_law K Try.underlying29 (by kernel_rfl) (by kernel_rfl)
theorem impl_Entry_0 (b o : Nat) (K : Value → Prop) : pu P (oFldA T.impl_Entry (.pointer (some ⟨b, o, none⟩)) 0) K = K (.pointer (some ⟨b, o + 0, none⟩)) := fldA_law K Try.underlying33 (by kernel_rfl) (by kernel_rfl)
theorem impl_Entry_1 (b o : Nat) (K : Value → Prop) : pu P (oFldA T.impl_Entry (.pointer (some ⟨b, o, none⟩)) 1) K = K (.pointer (some ⟨b, o + 1, none⟩)) := fldA_law K Try.underlying33 (by kernel_rfl) (by kernel_rfl)
theorem impl_Entry_2 (b o : Nat) (K : Value → Prop) : pu P (oFldA T.impl_Entry (.pointer (some ⟨b, o, none⟩)) 2) K = K (.pointer (some ⟨b, o + 2, none⟩)) := fldA_law K Try.underlying33 (by kernel_rfl) (by kernel_rfl)
theorem impl_Entry_3 (b o : Nat) (K : Value → Prop) : pu P (oFldA T.impl_Entry (.pointer (some ⟨b, o, none⟩)) 3) K = K (.pointer (some ⟨b, o + 3, none⟩)) := fldA_law K Try.underlying33 (by kernel_rfl) (by kernel_rfl)
theorem impl_Entry_4 (b o : Nat) (K : Value → Prop) : pu P (oFldA T.impl_Entry (.pointer (some ⟨b, o, none⟩)) 4) K = K (.pointer (some ⟨b, o + 4, none⟩)) := fldA_law K Try.underlying33 (by kernel_rfl) (by kernel_rfl)
theorem mem_FileData_0 (b o : Nat) (K : Value → Prop) : pu P (oFldA T.mem_FileData (.pointer (some ⟨b, o, none⟩)) 0) K = K (.pointer (some ⟨b, o + 0, none⟩)) := fldA_law K Try.underlying58 (by kernel_rfl) (by kernel_rfl)
theorem mem_FileData_1 (b o : Nat) (K : Value → Prop) : pu P (oFldA T.mem_FileData (.pointer (some ⟨b, o, none⟩)) 1) K = K (.pointer (some ⟨b, o + 1, none⟩)) := fldA_law K Try.underlying58 (by kernel_rfl) (by kernel_rfl)
theorem mem_FileData_3 (b o : Nat) (K : Value → Prop) : pu P (oFldA T.mem_FileData (.pointer (some ⟨b, o, none⟩)) 3) K = K (.pointer (some ⟨b, o + 3, none⟩)) := fldA_law K Try.underlying58 (by kernel_rfl) (by kernel_rfl)
theorem mem_FileData_4 (b o : Nat) (K : Value → Prop) : pu P (oFldA T.mem_FileData (.pointer (some ⟨b, o, none⟩)) 4) K = K (.pointer (some ⟨b, o + 4, none⟩)) := fldA_law K Try.underlying58 (by kernel_rfl) (by kernel_rfl)
theorem mem_FileData_5 (b o : Nat) (K : Value → Prop) : pu P (oFldA T.mem_FileData (.pointer (some ⟨b, o, none⟩)) 5) K = K (.pointer (some ⟨b, o + 5, none⟩)) := fldA_law K Try.underlying58 (by kernel_rfl) (by kernel_rfl)
theorem mem_FileInfo_0 (b o : Nat) (K : Value → Prop) : pu P (oFldA T.mem_FileInfo (.pointer (some ⟨b, o, none⟩)) 0) K = K (.pointer (some ⟨b, o + 0, none⟩)) := fldA_law K Try.underlying60 (by kernel_rfl) (by kernel_rfl)
end A
attribute [go_sem] A.impl_Info_0 A.impl_Entry_0 A.impl_Entry_1 A.impl_Entry_2 A.impl_Entry_3 A.impl_Entry_4 A.mem_FileData_0 A.mem_FileData_1 A.mem_FileData_3 A.mem_FileData_4 A.mem_FileData_5 A.mem_FileInfo_0
namespace V
theorem int__uint32 (K : Value → Prop) (x : Int) : pu P (oConv T.int T.uint32 (.int .i64 x)) K = K (.int .u32 (IntKind.u32.wrap x)) := oConvI K U.int U.uint32
theorem os_FileMode__int (K : Value → Prop) (x : Int) : pu P (oConv T.os_FileMode T.int (.int .u32 x)) K = K (.int .i64 (IntKind.i64.wrap x)) := oConvI K U.os_FileMode U.int
theorem len_string (K : Value → Prop) (c : Bool) (x : List UInt8) : pu P (oBuiltin .len #[T.string] T.int #[c] #[S x]) K = K (.int .i64 x.length) := oLenS K _ _ _ _ U.string
theorem len_sl_impl_Entry (K : Value → Prop) (c : Bool) (a : Option Addr) (n m : Nat) : pu P (oBuiltin .len #[T.sl_impl_Entry] T.int #[c] #[.slice a n m]) K = K (.int .i64 n) := oLenL K _ _ _ _ _ _ _ U.sl_impl_Entry
theorem len_sl_string (K : Value → Prop) (c : Bool) (a : Option Addr) (n m : Nat) : pu P (oBuiltin .len #[T.sl_string] T.int #[c] #[.slice a n m]) K = K (.int .i64 n) := oLenL K _ _ _ _ _ _ _ U.sl_string
theorem len_sl_impl_Info (K : Value → Prop) (c : Bool) (a : Option Addr) (n m : Nat) : pu P (oBuiltin .len #[T.sl_impl_Info] T.int #[c] #[.slice a n m]) K = K (.int .i64 n) := oLenL K _ _ _ _ _ _ _ U.sl_impl_Info
theorem len_sl_uint8 (K : Value → Prop) (c : Bool) (a : Option Addr) (n m : Nat) : pu P (oBuiltin .len #[T.sl_uint8] T.int #[c] #[.slice a n m]) K = K (.int .i64 n) := oLenL K _ _ _ _ _ _ _ U.sl_uint8
theorem len_sl_p_mem_FileInfo (K : Value → Prop) (c : Bool) (a : Option Addr) (n m : Nat) : pu P (oBuiltin .len #[T.sl_p_mem_FileInfo] T.int #[c] #[.slice a n m]) K = K (.int .i64 n) := oLenL K _ _ _ _ _ _ _ U.sl_p_mem_FileInfo
end V
attribute [go_sem] V.int__uint32 V.os_FileMode__int V.len_string V.len_sl_impl_Entry V.len_sl_string V.len_sl_impl_Info V.len_sl_uint8 V.len_sl_p_mem_FileInfo
namespace C
theorem laws_FnMergeNothing {args : Array Value} {w : World} {K : Value → World → Prop} : st P (oCall Fn.laws_FnMergeNothing args) w K = Cl P Fn.laws_FnMergeNothing args w K := st_call Try.func3 (by kernel_rfl) (by kernel_rfl)
theorem laws_zzFits15 {args : Array Value} {w : World} {K : Value → World → Prop} : st P (oCall Fn.laws_zzFits15 args) w K = Cl P Fn.laws_zzFits15 args w K := st_call Try.func4 (by kernel_rfl) (by kernel_rfl)
theorem laws_listed {args : Array Value} {w : World} {K : Value → World → Prop} : st P (oCall Fn.laws_listed args) w K = Cl P Fn.laws_listed args w K := st_call Try.func5 (by kernel_rfl) (by kernel_rfl)
theorem laws_lastNames {args : Array Value} {w : World} {K : Value → World → Prop} : st P (oCall Fn.laws_lastNames args) w K = Cl P Fn.laws_lastNames args w K := st_call Try.func6 (by kernel_rfl) (by kernel_rfl)
theorem impl_MergeDirs {args : Array Value} {w : World} {K : Value → World → Prop} : st P (oCall Fn.impl_MergeDirs args) w K = Cl P Fn.impl_MergeDirs args w K := st_call Try.func7 (by kernel_rfl) (by kernel_rfl)
theorem laws_sameInfos {args : Array Value} {w : World} {K : Value → World → Prop} : st P (oCall Fn.laws_sameInfos args) w K = Cl P Fn.laws_sameInfos args w K := st_call Try.func8 (by kernel_rfl) (by kernel_rfl)
theorem laws_zzFits16 {args : Array Value} {w : World} {K : Value → World → Prop} : st P (oCall Fn.laws_zzFits16 args) w K = Cl P Fn.laws_zzFits16 args w K := st_call Try.func9 (by kernel_rfl) (by kernel_rfl)
theorem spec_Rooted {args : Array Value} {w : World} {K : Value → World → Prop} : st P (oCall Fn.spec_Rooted args) w K = Cl P Fn.spec_Rooted args w K := st_call Try.func10 (by kernel_rfl) (by kernel_rfl)
theorem spec_MemName {args : Array Value} {w : World} {K : Value → World → Prop} : st P (oCall Fn.spec_MemName args) w K = Cl P Fn.spec_MemName args w K := st_call Try.func11 (by kernel_rfl) (by kernel_rfl)
theorem spec_MemBase {args : Array Value} {w : World} {K : Value → World → Prop} : st P (oCall Fn.spec_MemBase args) w K = Cl P Fn.spec_MemBase args w K := st_call Try.func12 (by kernel_rfl) (by kernel_rfl)
theorem laws_hasName {args : Array Value} {w : World} {K : Value → World → Prop} : st P (oCall Fn.laws_hasName args) w K = Cl P Fn.laws_hasName args w K := st_call Try.func13 (by kernel_rfl) (by kernel_rfl)
theorem afero_DoorMerge {args : Array Value} {w : World} {K : Value → World → Prop} : st P (oCall Fn.afero_DoorMerge args) w K = Cl P Fn.afero_DoorMerge args w K := st_call Try.func14 (by kernel_rfl) (by kernel_rfl)
theorem impl_infos {args : Array Value} {w : World} {K : Value → World → Prop} : st P (oCall Fn.impl_infos args) w K = Cl P Fn.impl_infos args w K := st_call Try.func15 (by kernel_rfl) (by kernel_rfl)
theorem impl_fromInfos {args : Array Value} {w : World} {K : Value → World → Prop} : st P (oCall Fn.impl_fromInfos args) w K = Cl P Fn.impl_fromInfos args w K := st_call Try.func16 (by kernel_rfl) (by kernel_rfl)
theorem afero_defaultUnionMergeDirsFn {args : Array Value} {w : World} {K : Value → World → Prop} : st P (oCall Fn.afero_defaultUnionMergeDirsFn args) w K = Cl P Fn.afero_defaultUnionMergeDirsFn args w K := st_call Try.func17 (by kernel_rfl) (by kernel_rfl)
theorem mem_DoorInfo {args : Array Value} {w : World} {K : Value → World → Prop} : st P (oCall Fn.mem_DoorInfo args) w K = Cl P Fn.mem_DoorInfo args w K := st_call Try.func18 (by kernel_rfl) (by kernel_rfl)
theorem impl_fromInfo {args : Array Value} {w : World} {K : Value → World → Prop} : st P (oCall Fn.impl_fromInfo args) w K = Cl P Fn.impl_fromInfo args w K := st_call Try.func19 (by kernel_rfl) (by kernel_rfl)
theorem mem_FileInfo_Name {args : Array Value} {w : World} {K : Value → World → Prop} : st P (oCall Fn.mem_FileInfo_Name args) w K = Cl P Fn.mem_FileInfo_Name args w K := st_call Try.func20 (by kernel_rfl) (by kernel_rfl)
theorem afero_zzSort {args : Array Value} {w : World} {K : Value → World → Prop} : st P (oCall Fn.afero_zzSort args) w K = Cl P Fn.afero_zzSort args w K := st_call Try.func21 (by kernel_rfl) (by kernel_rfl)
theorem mem_FileInfo_Size {args : Array Value} {w : World} {K : Value → World → Prop} : st P (oCall Fn.mem_FileInfo_Size args) w K = Cl P Fn.mem_FileInfo_Size args w K := st_call Try.func22 (by kernel_rfl) (by kernel_rfl)
theorem mem_FileInfo_Mode {args : Array Value} {w : World} {K : Value → World → Prop} : st P (oCall Fn.mem_FileInfo_Mode args) w K = Cl P Fn.mem_FileInfo_Mode args w K := st_call Try.func23 (by kernel_rfl) (by kernel_rfl)
theorem mem_FileInfo_IsDir {args : Array Value} {w : World} {K : Value → World → Prop} : st P (oCall Fn.mem_FileInfo_IsDir args) w K = Cl P Fn.mem_FileInfo_IsDir args w K := st_call Try.func24 (by kernel_rfl) (by kernel_rfl)
theorem mem_FileInfo_ModTime {args : Array Value} {w : World} {K : Value → World → Prop} : st P (oCall Fn.mem_FileInfo_ModTime args) w K = Cl P Fn.mem_FileInfo_ModTime args w K := st_call Try.func25 (by kernel_rfl) (by kernel_rfl)
theorem path_Split {args : Array Value} {w : World} {K : Value → World → Prop} : st P (oCall Fn.path_Split args) w K = Cl P Fn.path_Split args w K := st_call Try.func26 (by kernel_rfl) (by kernel_rfl)
theorem bytealg_LastIndexByteString {args : Array Value} {w : World} {K : Value → World → Prop} : st P (oCall Fn.bytealg_LastIndexByteString args) w K = Cl P Fn.bytealg_LastIndexByteString args w K := st_call Try.func27 (by kernel_rfl) (by kernel_rfl)
end C
attribute [go_sem] C.laws_FnMergeNothing C.laws_zzFits15 C.laws_listed C.laws_lastNames C.impl_MergeDirs C.laws_sameInfos C.laws_zzFits16 C.spec_Rooted C.spec_MemName C.spec_MemBase C.laws_hasName C.afero_DoorMerge C.impl_infos C.impl_fromInfos C.afero_defaultUnionMergeDirsFn C.mem_DoorInfo C.impl_fromInfo C.mem_FileInfo_Name C.afero_zzSort C.mem_FileInfo_Size C.mem_FileInfo_Mode C.mem_FileInfo_IsDir C.mem_FileInfo_ModTime C.path_Split C.bytealg_LastIndexByteString
end Go.Proofs.Ytfiepdikejoeeaa.X
end
section
namespace Go.X
open Go Go.RowKit
def bk (w : World) (b : Nat) : Option Obj := w.heap[b]?
abbrev CB (l : List Value) (t : TypeId) : Obj := .cells l.toArray t (0, 0)
def AG (l : List Value) : Value := .agg l.toArray
abbrev pt (b o : Nat) : Value := .pointer (some ⟨b, o, none⟩)
def setb (w : World) (b : Nat) (o : Obj) : World := { w with heap := w.heap.setIfInBounds b o }
theorem bk_lt {w : World} {b : Nat} {o : Obj} (h : bk w b = some o) : b < w.heap.size := by
  unfold bk at h
  exact (Array.getElem?_eq_some_iff.1 h).1
@[go_sem] theorem bk_drew (w : World) (b : Nat) : bk w.drew b = bk w b := rfl
@[go_sem] theorem bk_alloc_eq (w : World) (o : Obj) (b : Nat) (h : b = w.heap.size) : bk (w.alloc o) b = some o := by
  subst h; show (w.heap.push o)[w.heap.size]? = _; simp
@[go_sem] theorem bk_alloc_ne (w : World) (o : Obj) (b : Nat) (h : b ≠ w.heap.size) : bk (w.alloc o) b = bk w b := by
  show (w.heap.push o)[b]? = w.heap[b]?
  rw [Array.getElem?_push, if_neg h]
@[go_sem] theorem sZb (w : World) (b : Nat) (o : Obj) : (setb w b o).heap.size = w.heap.size := by simp [setb]
@[go_sem] theorem sZa (w : World) (o : Obj) : (w.alloc o).heap.size = w.heap.size + 1 := World.size_alloc w o
@[go_sem] theorem sZd (w : World) : w.drew.heap.size = w.heap.size := rfl
@[go_sem] theorem bk_setb_eq (w : World) (b b' : Nat) (o : Obj) (h : b' = b) (hb : b < w.heap.size) : bk (setb w b o) b' = some o := by
  subst h; unfold bk setb; simp [hb]
@[go_sem] theorem bk_setb_ne (w : World) (b b' : Nat) (o : Obj) (h : b' ≠ b) : bk (setb w b o) b' = bk w b' := by
  unfold bk setb; simp [Array.getElem?_setIfInBounds_ne (Ne.symm h)]
def cellOf (o : Option Obj) (i : Nat) : Option Value :=
  match o with
  | some (.cells c _ _) => c[i]?
  | _ => none
def frzOf (o : Option Obj) (i : Nat) : Bool :=
  match o with
  | some (.cells _ _ (lo, hi)) => lo ≤ i && i < hi
  | _ => false
def rowOf (o : Option Obj) (i n : Nat) : Option (List Value) :=
  match o with
  | some (.cells c _ _) => if i + n ≤ c.size then some ((c.toList.drop i).take n) else none
  | _ => none
def stoOf (o : Option Obj) (i : Nat) (x : Value) : Option Obj :=
  match o with
  | some (.cells c e fz) => if i < c.size ∧ frzOf (some (.cells c e fz)) i = false ∧ x.oneCell' = true then some (.cells (c.setIfInBounds i x) e fz) else none
  | _ => none
def stoNOf (o : Option Obj) (i n : Nat) (xs : List Value) : Option Obj :=
  match o with
  | some (.cells c e (0, 0)) => if i + n ≤ c.size ∧ xs.length = n ∧ xs.all (·.oneCell') = true then some (.cells (c.toList.take i ++ xs ++ c.toList.drop (i + n)).toArray e (0, 0)) else none
  | _ => none
def optE {α : Type} (o : Option α) (K : α → Prop) (far : Prop) : Prop :=
  match o with
  | some v => K v
  | none => far
@[go_sem] theorem cellOf_CB (l : List Value) (t : TypeId) (i : Nat) : cellOf (some (CB l t)) i = l[i]? := by simp [cellOf]
def takeL : List Value → Nat → Option (List Value)
  | _, 0 => some []
  | [], _ + 1 => none
  | a :: l, n + 1 => (takeL l n).map (a :: ·)
def rowL : List Value → Nat → Nat → Option (List Value)
  | l, 0, n => takeL l n
  | [], _ + 1, _ => none
  | _ :: l, i + 1, n => rowL l i n
def setL : List Value → Nat → Value → Option (List Value)
  | [], _, _ => none
  | _ :: l, 0, x => some (x :: l)
  | a :: l, n + 1, x => (setL l n x).map (a :: ·)
def overL : List Value → Nat → List Value → Option (List Value)
  | l, 0, [] => some l
  | _ :: l, n + 1, x :: xs => (overL l n xs).map (x :: ·)
  | _, _, _ => none
def putL : List Value → Nat → Nat → List Value → Option (List Value)
  | l, 0, n, xs => overL l n xs
  | [], _ + 1, _, _ => none
  | a :: l, i + 1, n, xs => (putL l i n xs).map (a :: ·)
@[go_sem] theorem takeL_0 (l : List Value) : takeL l 0 = some [] := by cases l <;> rfl
@[go_sem] theorem takeL_s (a : Value) (l : List Value) (n : Nat) : takeL (a :: l) (n + 1) = (takeL l n).map (a :: ·) := rfl
@[go_sem] theorem rowL_0 (l : List Value) (n : Nat) : rowL l 0 n = takeL l n := by cases l <;> rfl
@[go_sem] theorem rowL_s (a : Value) (l : List Value) (i n : Nat) : rowL (a :: l) (i + 1) n = rowL l i n := rfl
@[go_sem] theorem setL_0 (a x : Value) (l : List Value) : setL (a :: l) 0 x = some (x :: l) := rfl
@[go_sem] theorem setL_s (a x : Value) (l : List Value) (n : Nat) : setL (a :: l) (n + 1) x = (setL l n x).map (a :: ·) := rfl
@[go_sem] theorem overL_0 (l : List Value) : overL l 0 [] = some l := by cases l <;> rfl
@[go_sem] theorem overL_s (a x : Value) (l xs : List Value) (n : Nat) : overL (a :: l) (n + 1) (x :: xs) = (overL l n xs).map (x :: ·) := rfl
@[go_sem] theorem putL_0 (l xs : List Value) (n : Nat) : putL l 0 n xs = overL l n xs := by cases l <;> rfl
@[go_sem] theorem putL_s (a : Value) (l xs : List Value) (i n : Nat) : putL (a :: l) (i + 1) n xs = (putL l i n xs).map (a :: ·) := rfl
theorem takeL_eq : ∀ (l : List Value) (n : Nat), takeL l n = if n ≤ l.length then some (l.take n) else none
  | l, 0 => by simp [takeL_0]
  | [], n + 1 => rfl
  | a :: l, n + 1 => by
    rw [takeL_s, takeL_eq l n]
    by_cases h : n ≤ l.length <;> simp [h]
theorem rowL_eq : ∀ (l : List Value) (i n : Nat), rowL l i n = if i + n ≤ l.length ∧ i ≤ l.length then some ((l.drop i).take n) else none
  | l, 0, n => by rw [rowL_0, takeL_eq]; simp
  | [], i + 1, n => by simp [rowL]
  | a :: l, i + 1, n => by
    rw [rowL_s, rowL_eq l i n]
    have e : (i + 1 + n ≤ (a :: l).length ∧ i + 1 ≤ (a :: l).length) ↔ (i + n ≤ l.length ∧ i ≤ l.length) := by simp; omega
    simp only [e, List.drop_succ_cons]
theorem setL_eq : ∀ (l : List Value) (i : Nat) (x : Value), setL l i x = if i < l.length then some (l.set i x) else none
  | [], i, x => by simp [setL]
  | a :: l, 0, x => by simp [setL]
  | a :: l, n + 1, x => by
    rw [setL_s, setL_eq l n x]
    by_cases h : n < l.length <;> simp [h]
theorem overL_eq : ∀ (l : List Value) (n : Nat) (xs : List Value), overL l n xs = if xs.length = n ∧ n ≤ l.length then some (xs ++ l.drop n) else none
  | l, 0, [] => by simp [overL_0]
  | l, 0, x :: xs => by simp [overL]
  | [], n + 1, xs => by simp [overL]
  | a :: l, n + 1, [] => by simp [overL]
  | a :: l, n + 1, x :: xs => by
    rw [overL_s, overL_eq l n xs]
    by_cases h : xs.length = n ∧ n ≤ l.length
    · simp [h]
    · rw [if_neg h, if_neg (by simpa using h)]; rfl
theorem putL_eq : ∀ (l : List Value) (i n : Nat) (xs : List Value), putL l i n xs = if i + n ≤ l.length ∧ xs.length = n then some (l.take i ++ xs ++ l.drop (i + n)) else none
  | l, 0, n, xs => by rw [putL_0, overL_eq]; simp [and_comm]
  | [], i + 1, n, xs => by
    simp only [putL]
    rw [if_neg (by simp)]
  | a :: l, i + 1, n, xs => by
    rw [putL_s, putL_eq l i n xs]
    by_cases h : i + n ≤ l.length ∧ xs.length = n
    · rw [if_pos h, if_pos (by simp; omega)]
      simp [show i + 1 + n = i + n + 1 by omega]
    · rw [if_neg h, if_neg (by simp; omega)]; rfl
@[go_sem low] theorem rowL_le (l : List Value) (i n : Nat) (h : i + n ≤ l.length) : rowL l i n = some ((l.drop i).take n) := by rw [rowL_eq, if_pos ⟨h, by omega⟩]
@[go_sem low] theorem setL_lt (l : List Value) (i : Nat) (x : Value) (h : i < l.length) : setL l i x = some (l.set i x) := by rw [setL_eq, if_pos h]
@[go_sem] theorem rowOf_L (l : List Value) (t : TypeId) (i n : Nat) (h : 0 < n) : rowOf (some (CB l t)) i n = rowL l i n := by
  rw [rowL_eq]
  simp only [rowOf, List.size_toArray]
  by_cases h1 : i + n ≤ l.length
  · rw [if_pos h1, if_pos ⟨h1, by omega⟩]
  · rw [if_neg h1, if_neg (by omega)]
@[go_sem] theorem stoOf_L (l : List Value) (t : TypeId) (i : Nat) (x : Value) : stoOf (some (CB l t)) i x = bif x.oneCell' then (setL l i x).map (CB · t) else none := by
  rw [setL_eq]
  by_cases h1 : i < l.length <;> by_cases h2 : x.oneCell' = true <;> simp [stoOf, h1, h2, frzOf]
@[go_sem] theorem stoNOf_L (l : List Value) (t : TypeId) (i n : Nat) (xs : List Value) : stoNOf (some (CB l t)) i n xs = bif xs.all (·.oneCell') then (putL l i n xs).map (CB · t) else none := by
  rw [putL_eq]
  simp only [stoNOf, List.size_toArray]
  by_cases h1 : i + n ≤ l.length <;> by_cases h2 : xs.length = n <;> by_cases h3 : xs.all (·.oneCell') = true <;> simp [h1, h2, h3]
attribute [go_sem] Option.map_some Option.isSome_some Option.getD_some cond_true List.getElem?_cons_zero List.getElem?_cons_succ Nat.zero_add Nat.add_zero List.all_cons List.all_nil Bool.and_self Bool.and_true Bool.true_and Option.bind_some
theorem optE_getD {α : Type} {o : Option α} (d : α) {K : α → Prop} {far : Prop} (h : o.isSome = true) : optE o K far = K (o.getD d) := by
  cases o with
  | none => cases h
  | some v => rfl
def noBk : Obj := .cells #[] 0 (0, 0)
theorem cell?_eq (w : World) (b o : Nat) : w.cell? ⟨b, o, none⟩ = cellOf (bk w b) o := by
  unfold World.cell? bk cellOf
  cases w.heap[b]? with
  | none => rfl
  | some ob => cases ob <;> rfl
theorem frozen?_eq (w : World) (b o : Nat) : w.frozen? ⟨b, o, none⟩ = frzOf (bk w b) o := by
  unfold World.frozen? bk frzOf
  cases w.heap[b]? with
  | none => rfl
  | some ob => cases ob <;> rfl
theorem setCell_eq (w : World) (b o : Nat) (x : Value) {c : Array Value} {e : TypeId} {fz : Nat × Nat} (h : bk w b = some (.cells c e fz)) : w.setCell ⟨b, o, none⟩ x = setb w b (.cells (c.setIfInBounds o x) e fz) := by
  have hlt := bk_lt h
  unfold bk at h
  unfold World.setCell setb
  congr 1
  apply Array.ext_getElem?
  intro i
  rw [Array.getElem?_modify]
  by_cases e1 : b = i
  · subst e1
    rw [if_pos rfl, h, Array.getElem?_setIfInBounds_self_of_lt hlt]; rfl
  · rw [if_neg e1, Array.getElem?_setIfInBounds_ne e1]
theorem setb_setb (w : World) (b : Nat) (o o' : Obj) : setb (setb w b o) b o' = setb w b o' := by
  unfold setb; simp
theorem setCells_eq (b : Nat) {e : TypeId} {fz : Nat × Nat} : ∀ (vs : List Value) (o : Nat) (w : World) (c : List Value), bk w b = some (.cells c.toArray e fz) → o + vs.length ≤ c.length →
    w.setCells b o vs = setb w b (.cells (c.take o ++ vs ++ c.drop (o + vs.length)).toArray e fz)
  | [], o, w, c, h, hl => by
    have hlt := bk_lt h
    simp only [World.setCells, List.append_nil, List.length_nil, Nat.add_zero, List.take_append_drop]
    unfold bk at h
    unfold setb
    cases w
    congr 1
    apply Array.ext_getElem?
    intro i
    by_cases e1 : b = i
    · subst e1; rw [Array.getElem?_setIfInBounds_self_of_lt hlt]; exact h
    · rw [Array.getElem?_setIfInBounds_ne e1]
  | v :: vs, o, w, c, h, hl => by
    have hlt := bk_lt h
    simp only [List.length_cons] at hl
    simp only [World.setCells]
    rw [setCell_eq w b o v h]
    rw [setCells_eq (e := e) (fz := fz) b vs (o + 1) _ (c.set o v) (by rw [bk_setb_eq _ _ _ _ rfl hlt]; simp) (by simp; omega), setb_setb]
    have e1 : (c.set o v).take (o + 1) = c.take o ++ [v] := by
      have ho : o < c.length := by omega
      apply List.ext_getElem (by simp; omega)
      intro i h1 h2
      simp only [List.getElem_take, List.getElem_set, List.getElem_append, List.length_take, List.getElem_singleton]
      have hi : i < o + 1 := by simp at h1; omega
      by_cases e1 : o = i
      · subst e1; simp; intro h; omega
      · have : i < min o c.length := by omega
        simp [e1, this]
    have e2 : (c.set o v).drop (o + 1 + vs.length) = c.drop (o + (v :: vs).length) := by
      apply List.ext_getElem?
      intro i
      simp only [List.getElem?_drop, List.length_cons]
      rw [List.getElem?_set_ne (by omega)]
      congr 1; omega
    rw [e1, e2]; simp
section
variable {P : Program} (K : Value → World → Prop) (w : World)
def farK (P : Program) (s : Sem Next) (w : World) (K : Value → World → Prop) : Prop := st P s w K
def farR (P : Program) (s : Sem Next) (w : World) (K : Value → Prop) : Prop := rd P s w K
def farH (P : Program) (s : Sem Next) (v : Value) (w : World) : Prop := hold P s v w
def farP (P : Program) (s : Sem Next) (K : Value → Prop) : Prop := pu P s K
def farL (P : Program) (t : TypeId) (x : Value) (w : World) (K : Value → Prop) : Prop := rsl P t x w K
theorem run_load1 {t : TypeId} {d : TypeDesc} (h : P.underlying t = some d) (hd : d.isRow = false) {b o : Nat} {v : Value} (hv : cellOf (bk w b) o = some v) : (loadVar t ⟨b, o, none⟩).run P w = .ok v w := by
  rw [← cell?_eq] at hv
  have hagg : (isAgg t).run P w = .ok false w := by
    unfold isAgg
    rw [Sem.run_bind, run_underlying h w]
    cases d <;> simp_all
  simp [loadVar, Sem.run_bind, hagg, hv]
theorem run_loadN {t : TypeId} {d : TypeDesc} {n : Nat} (h : P.underlying t = some d) (hd : d.isRow = true) (hn : (P.info? t).map (·.size) = some n) {b o : Nat} {l : List Value} (hv : rowOf (bk w b) o n = some l) :
    (loadVar t ⟨b, o, none⟩).run P w = .ok (AG l) w := by
  unfold rowOf at hv
  cases hb : bk w b with
  | none => rw [hb] at hv; cases hv
  | some ob =>
    rw [hb] at hv
    cases ob with
    | cells c e fz =>
      simp only at hv
      by_cases hle : o + n ≤ c.size
      · rw [if_pos hle] at hv
        injection hv with hv
        have hlen : l.length = n := by rw [← hv]; simp; omega
        refine run_loadVar_mid w b o t l d (fun j v hj => ?_) h hd (by rw [hlen]; exact hn)
        rw [cell?_eq, hb]
        show c[o + j]? = some v
        rw [← hv] at hj
        have hjn : j < n := by have := (List.getElem?_eq_some_iff.1 hj).1; simp at this; omega
        rw [List.getElem?_take_of_lt hjn, List.getElem?_drop] at hj
        simpa using hj
      · rw [if_neg hle] at hv; cases hv
    | _ => simp at hv
theorem oLoad1 {t : TypeId} {d : TypeDesc} (h : P.underlying t = some d) (hd : d.isRow = false) (b o : Nat) :
    st P (oLoad t (pt b o)) w K = optE (cellOf (bk w b) o) (fun v => K v w) (farK P (oLoad t (pt b o)) w K) := by
  cases hv : cellOf (bk w b) o with
  | none => rfl
  | some v => exact st_eq_value (run_v' (by simp only [Instr.loadAt, Instr.sureAddr, Sem.run_bind, Sem.run_pure, Result.andThen_ok]; exact run_load1 w h hd hv))
theorem oLoadN {t : TypeId} {d : TypeDesc} {n : Nat} (h : P.underlying t = some d) (hd : d.isRow = true) (hn : (P.info? t).map (·.size) = some n) (b o : Nat) :
    st P (oLoad t (pt b o)) w K = optE (rowOf (bk w b) o n) (fun l => K (AG l) w) (farK P (oLoad t (pt b o)) w K) := by
  cases hv : rowOf (bk w b) o n with
  | none => rfl
  | some v => exact st_eq_value (run_v' (by simp only [Instr.loadAt, Instr.sureAddr, Sem.run_bind, Sem.run_pure, Result.andThen_ok]; exact run_loadN w h hd hn hv))
theorem rLoad1 (K : Value → Prop) {t : TypeId} {d : TypeDesc} (h : P.underlying t = some d) (hd : d.isRow = false) (b o : Nat) :
    rd P (oLoad t (pt b o)) w K = optE (cellOf (bk w b) o) K (farR P (oLoad t (pt b o)) w K) := by
  cases hv : cellOf (bk w b) o with
  | none => rfl
  | some v => exact rd_eq (run_v' (by simp only [Instr.loadAt, Instr.sureAddr, Sem.run_bind, Sem.run_pure, Result.andThen_ok]; exact run_load1 w h hd hv))
theorem rLoadN (K : Value → Prop) {t : TypeId} {d : TypeDesc} {n : Nat} (h : P.underlying t = some d) (hd : d.isRow = true) (hn : (P.info? t).map (·.size) = some n) (b o : Nat) :
    rd P (oLoad t (pt b o)) w K = optE (rowOf (bk w b) o n) (fun l => K (AG l)) (farR P (oLoad t (pt b o)) w K) := by
  cases hv : rowOf (bk w b) o n with
  | none => rfl
  | some v => exact rd_eq (run_v' (by simp only [Instr.loadAt, Instr.sureAddr, Sem.run_bind, Sem.run_pure, Result.andThen_ok]; exact run_loadN w h hd hn hv))
theorem hLoad1 (v' : Value) {t : TypeId} {d : TypeDesc} (h : P.underlying t = some d) (hd : d.isRow = false) (b o : Nat) :
    hold P (oLoad t (pt b o)) v' w = optE (cellOf (bk w b) o) (fun v => v = v') (farH P (oLoad t (pt b o)) v' w) := by
  cases hv : cellOf (bk w b) o with
  | none => rfl
  | some v => exact hold_eq (run_v' (by simp only [Instr.loadAt, Instr.sureAddr, Sem.run_bind, Sem.run_pure, Result.andThen_ok]; exact run_load1 w h hd hv))
theorem rslN (K : Value → Prop) {t : TypeId} {d : TypeDesc} {n : Nat} (h : P.underlying t = some d) (hd : d.isRow = true) (hn : (P.info? t).map (·.size) = some n) (b o : Nat) :
    rsl P t (pt b o) w K = optE (rowOf (bk w b) o n) (fun l => K (AG l)) (farL P t (pt b o) w K) := by
  cases hv : rowOf (bk w b) o n with
  | none => rfl
  | some v =>
    have hr : (do loadVar t (← asAddr (pt b o)) : Sem Value).run P w = .ok (AG v) w := by
      have := run_loadN w h hd hn hv
      simpa [asAddr] using this
    exact propext ⟨fun x => by obtain ⟨v', h', k⟩ := x.h; rw [hr] at h'; injection h' with h1; subst h1; exact k, fun x => ⟨⟨_, hr, x⟩⟩⟩
theorem run_store1 {t : TypeId} (hn : (P.info? t).map (·.size) = some 1) {b o : Nat} {x : Value} {ob : Obj} (hv : stoOf (bk w b) o x = some ob) : (storeVar t ⟨b, o, none⟩ x).run P w = .ok () (setb w b ob) := by
  unfold stoOf at hv
  cases hb : bk w b with
  | none => rw [hb] at hv; cases hv
  | some ob' =>
    rw [hb] at hv
    cases ob' with
    | cells c e fz =>
      simp only at hv
      by_cases hle : o < c.size ∧ frzOf (some (.cells c e fz)) o = false ∧ x.oneCell' = true
      · rw [if_pos hle] at hv
        have hx := hle.2.2
        injection hv with hv
        have hcells : x.cells = #[x] := by cases x <;> first | rfl | (simp [Value.oneCell'] at hx)
        have hc : w.cell? ⟨b, o, none⟩ = some c[o] := by rw [cell?_eq, hb]; show c[o]? = _; simp [hle.1]
        have hf : w.frozen? ⟨b, o, none⟩ = false := by rw [frozen?_eq, hb]; exact hle.2.1
        cases hq : P.info? t with
        | none => simp [hq] at hn
        | some i =>
          have hs : i.size = 1 := by simpa [hq] using hn
          have hst : (store ⟨b, o, none⟩ x).run P w = .ok () (setb w b ob) := by
            rw [run_store P w _ x _ hx, hc]
            simp only [hf, Bool.false_eq_true, if_false]
            rw [setCell_eq w b o x hb, hv]
          have hadd : (Addr.mk b o none).add 0 = ⟨b, o, none⟩ := rfl
          simp [storeVar, Sem.run_bind, sizeOf, typeInfo, hq, hs, hcells, storeCells, hadd, hst]
      · rw [if_neg hle] at hv; cases hv
    | _ => simp at hv
theorem run_storeN {t : TypeId} {n : Nat} {xs : List Value} (hn : (P.info? t).map (·.size) = some n) {b o : Nat} {ob : Obj} (hv : stoNOf (bk w b) o n xs = some ob) :
    (storeVar t ⟨b, o, none⟩ (AG xs)).run P w = .ok () (setb w b ob) := by
  unfold stoNOf at hv
  cases hb : bk w b with
  | none => rw [hb] at hv; cases hv
  | some ob' =>
    rw [hb] at hv
    cases ob' with
    | cells c e fz =>
      obtain ⟨lo, hi⟩ := fz
      cases lo with
      | succ lo => simp at hv
      | zero =>
        cases hi with
        | succ hi => simp at hv
        | zero =>
          simp only at hv
          by_cases hle0 : o + n ≤ c.size ∧ xs.length = n ∧ xs.all (·.oneCell') = true
          · rw [if_pos hle0] at hv
            obtain ⟨hle, hlen, hx⟩ := hle0
            subst hlen
            injection hv with hv
            have hth : w.there b o xs.toArray.size := fun j hj => by
              have hj' : j < xs.length := by simpa using hj
              constructor
              · rw [cell?_eq, hb]
                show (c[o + j]?).isSome = true
                simp; omega
              · rw [frozen?_eq, hb]
                show (decide (0 ≤ o + j) && decide (o + j < 0)) = false
                simp
            have hr := run_storeVar_mid (P := P) w b o t xs.toArray hth (by simpa using hn) (by simpa using hx)
            rw [show (AG xs) = .agg xs.toArray from rfl, hr]
            congr 1
            rw [show xs.toArray.toList = xs by simp]
            rw [setCells_eq b xs o w c.toList (e := e) (fz := (0, 0)) (by simpa using hb) (by simpa using hle), ← hv]
          · rw [if_neg hle0] at hv; cases hv
    | _ => simp at hv
theorem oStore1 {t : TypeId} (hn : (P.info? t).map (·.size) = some 1) (b o : Nat) (x : Value) :
    st P (oStore t (pt b o) x) w K = optE (stoOf (bk w b) o x) (fun ob => K undef (setb w b ob)) (farK P (oStore t (pt b o) x) w K) := by
  cases hv : stoOf (bk w b) o x with
  | none => rfl
  | some v => exact st_eq_skip (run_u' (by simp only [Instr.storeAt, Instr.sureAddr, Sem.run_bind, Sem.run_pure, Result.andThen_ok]; exact run_store1 w hn hv))
theorem oStoreN {t : TypeId} {n : Nat} (hn : (P.info? t).map (·.size) = some n) (b o : Nat) (xs : List Value) :
    st P (oStore t (pt b o) (AG xs)) w K = optE (stoNOf (bk w b) o n xs) (fun ob => K undef (setb w b ob)) (farK P (oStore t (pt b o) (AG xs)) w K) := by
  cases hv : stoNOf (bk w b) o n xs with
  | none => rfl
  | some v => exact st_eq_skip (run_u' (by simp only [Instr.storeAt, Instr.sureAddr, Sem.run_bind, Sem.run_pure, Result.andThen_ok]; exact run_storeN w hn hv))
theorem oAlloc_of {t : TypeId} {l : List Value} {z : Value} (hz : ∀ w, (zeroValue t).run P w = .ok z w) (hc : z.cells = l.toArray) : st P (oAlloc t) w K = K (pt w.heap.size 0) (w.alloc (CB l t)) :=
  st_eq_value (run_v' (by simp [Instr.alloc, hz, newVar, newRow, hc]))
@[go_sem] theorem oBox_agg (t : TypeId) (l : List Value) : st P (oBox t (AG l)) w K = K (pt w.heap.size 0) (w.alloc (CB l t)) :=
  st_eq_value (run_v' (by simp [Instr.box, newVar, newRow, AG, Value.cells]))
@[go_sem] theorem oneC_bool (b : Bool) : (Value.bool b).oneCell' = true := rfl
@[go_sem] theorem oneC_int (k : IntKind) (n : Int) : (Value.int k n).oneCell' = true := rfl
@[go_sem] theorem oneC_string (s : ByteArray) : (Value.string s).oneCell' = true := rfl
@[go_sem] theorem oneC_pointer (a : Option Addr) : (Value.pointer a).oneCell' = true := rfl
@[go_sem] theorem oneC_slice (a : Option Addr) (n c : Nat) : (Value.slice a n c).oneCell' = true := rfl
@[go_sem] theorem oneC_map (a : Option Nat) : (Value.map a).oneCell' = true := rfl
@[go_sem] theorem oneC_iface (t : TypeId) (v : Value) : (Value.iface t v).oneCell' = true := rfl
@[go_sem] theorem oneC_nilIface : Value.nilIface.oneCell' = true := rfl
@[go_sem] theorem oneC_nilFunc : Value.nilFunc.oneCell' = true := rfl
@[go_sem] theorem oneC_func (f : Fn) (a b : Array Value) : (Value.func f a b).oneCell' = true := rfl
@[go_sem] theorem oneC_agg (a : Array Value) : (Value.agg a).oneCell' = false := rfl
@[go_sem] theorem oneCell_S (l : List UInt8) : (S l).oneCell' = true := rfl
def cellsL (v : Value) : List Value := v.cells.toList
@[go_sem] theorem cellsL_AG (l : List Value) : cellsL (AG l) = l := rfl
@[go_sem] theorem cellsL_int (k : IntKind) (n : Int) : cellsL (.int k n) = [.int k n] := rfl
@[go_sem] theorem cellsL_bool (b : Bool) : cellsL (.bool b) = [.bool b] := rfl
@[go_sem] theorem cellsL_S (l : List UInt8) : cellsL (S l) = [S l] := rfl
@[go_sem] theorem cellsL_ptr (a : Option Addr) : cellsL (.pointer a) = [.pointer a] := rfl
@[go_sem] theorem cellsL_slice (a : Option Addr) (n m : Nat) : cellsL (.slice a n m) = [.slice a n m] := rfl
@[go_sem] theorem cellsL_map (r : Option Nat) : cellsL (.map r) = [.map r] := rfl
@[go_sem] theorem cellsL_iface (t : TypeId) (v : Value) : cellsL (.iface t v) = [.iface t v] := rfl
@[go_sem] theorem cellsL_nilIface : cellsL .nilIface = [.nilIface] := rfl
@[go_sem] theorem cellsL_nilFunc : cellsL .nilFunc = [.nilFunc] := rfl
@[go_sem] theorem cellsL_func (f : Fn) (a b : Array Value) : cellsL (.func f a b) = [.func f a b] := rfl
def fillL (pl : List (Nat × Nat)) : List Value → List (Nat × Value) → Option (List Value)
  | cs, [] => some cs
  | cs, (i, v) :: r =>
    match pl[i]? with
    | none => none
    | some (off, n) => if (cellsL v).length = n ∧ off + n ≤ cs.length then fillL pl (cs.take off ++ cellsL v ++ cs.drop (off + n)) r else none
@[go_sem] theorem fillL_nil (pl : List (Nat × Nat)) (cs : List Value) : fillL pl cs [] = some cs := rfl
@[go_sem] theorem fillL_cons (pl : List (Nat × Nat)) (cs : List Value) (i : Nat) (v : Value) (r : List (Nat × Value)) :
    fillL pl cs ((i, v) :: r) = (pl[i]?).bind fun q => (putL cs q.1 q.2 (cellsL v)).bind fun cs => fillL pl cs r := by
  simp only [fillL]
  cases pl[i]? with
  | none => rfl
  | some q =>
    obtain ⟨off, n⟩ := q
    simp only [Option.bind_some, putL_eq]
    by_cases h : (cellsL v).length = n ∧ off + n ≤ cs.length
    · rw [if_pos h, if_pos ⟨h.2, h.1⟩]; rfl
    · rw [if_neg h, if_neg (by omega)]; rfl
theorem foldl_set (off : Nat) : ∀ (vs : List Value) (j : Nat) (cs : Array Value), off + j + vs.length ≤ cs.size →
    ((vs.zipIdx j).foldl (fun cs (x : Value × Nat) => cs.setIfInBounds (off + x.2) x.1) cs).toList = cs.toList.take (off + j) ++ vs ++ cs.toList.drop (off + j + vs.length)
  | [], j, cs, _ => by simp
  | v :: vs, j, cs, h => by
    simp only [List.length_cons] at h
    simp only [List.zipIdx_cons, List.foldl_cons]
    rw [foldl_set off vs (j + 1) _ (by simp; omega)]
    have ho : off + j < cs.toList.length := by simp; omega
    simp only [Array.toList_setIfInBounds]
    have e1 : (cs.toList.set (off + j) v).take (off + (j + 1)) = cs.toList.take (off + j) ++ [v] := by
      apply List.ext_getElem (by simp; omega)
      intro i h1 h2
      simp only [List.getElem_take, List.getElem_set, List.getElem_append, List.length_take, List.getElem_singleton]
      have hi : i < off + j + 1 := by simp at h1; omega
      by_cases e1 : off + j = i
      · subst e1; simp; intro h; omega
      · have : i < min (off + j) cs.toList.length := by omega
        simp at this
        simp [e1, this]
    have e2 : (cs.toList.set (off + j) v).drop (off + (j + 1) + vs.length) = cs.toList.drop (off + j + (v :: vs).length) := by
      apply List.ext_getElem?
      intro i
      simp only [List.getElem?_drop, List.length_cons]
      rw [List.getElem?_set_ne (by omega)]
      congr 1; omega
    rw [e1, e2]; simp
theorem fill_eq (pl : List (Nat × Nat)) : ∀ (ps : List (Nat × Value)) (cs : List Value) (out : List Value), fillL pl cs ps = some out → Instr.fill (fun i => pl[i]?) cs.toArray ps = some out.toArray
  | [], cs, out, h => by simp only [fillL, Option.some.injEq] at h; subst h; rfl
  | (i, v) :: r, cs, out, h => by
    simp only [fillL] at h
    simp only [Instr.fill]
    cases hp : pl[i]? with
    | none => rw [hp] at h; cases h
    | some q =>
      obtain ⟨off, n⟩ := q
      rw [hp] at h
      simp only at h
      by_cases hc : (cellsL v).length = n ∧ off + n ≤ cs.length
      · rw [if_pos hc] at h
        obtain ⟨h1, h2⟩ := hc
        have h3 : v.cells.size = n := by rw [← h1]; simp [cellsL]
        have h4 : (decide (v.cells.size ≠ n) || decide (off + v.cells.size > cs.toArray.size)) = false := by simp [h3]; omega
        simp only [h4, Bool.false_eq_true, if_false]
        have e : (v.cells.zipIdx.foldl (fun cs (x : Value × Nat) => cs.setIfInBounds (off + x.2) x.1) cs.toArray) = (cs.take off ++ cellsL v ++ cs.drop (off + n)).toArray := by
          apply Array.toList_inj.1
          have := foldl_set off (cellsL v) 0 cs.toArray (by simp; omega)
          rw [← Array.foldl_toList]
          simp only [Array.toList_zipIdx]
          rw [show v.cells.toList.zipIdx 0 = (cellsL v).zipIdx 0 from rfl, this]
          simp [h1]
        rw [e]
        exact fill_eq pl r _ out h
      · rw [if_neg hc] at h; cases h
theorem oBuild_of (K : Value → Prop) {t : TypeId} {fields : Array Field} {z : Value} {zs : List Value} {pl : List (Nat × Nat)} {ps : Array (Nat × Value)} (h : P.underlying t = some (.struct fields)) (hz : rp P (zeroValue t) = some z) (hc : z.cells = zs.toArray)
    (hp : rp P (fields.mapM fun f => do pure (f.offset, ← sizeOf f.type)) = some pl.toArray) :
    pu P (oBuild t ps) K = optE (fillL pl zs ps.toList) (fun l => K (AG l)) (farP P (oBuild t ps) K) := by
  cases hv : fillL pl zs ps.toList with
  | none => rfl
  | some l =>
    have hf := fill_eq pl ps.toList zs l hv
    refine pu_v' ?_
    unfold Instr.build
    simp only [rp_bind, hz, Option.bind_some, rp_underlying h, hp, hc]
    have e : (fun i : Nat => pl.toArray[i]?) = fun i : Nat => pl[i]? := by funext i; simp
    simp only [e, hf]
    rfl
def eqF (P : Program) (d : Nat) (xs ys : Array Value) : List Field → Option Bool
  | [] => some true
  | f :: fs =>
    if f.name ≠ "_" then
      (rp P (part f.type xs f.offset)).bind fun a => (rp P (part f.type ys f.offset)).bind fun b => (rp P (Op.equalIn d f.type a b)).bind fun r => if r = true then eqF P d xs ys fs else some false
    else eqF P d xs ys fs
theorem rp_ite {α : Type} (c : Prop) [Decidable c] (x y : Sem α) : rp P (if c then x else y) = if c then rp P x else rp P y := by split <;> rfl
theorem rp_eq_struct {t : TypeId} {fields : Array Field} {d : Nat} {xs ys : Array Value} (h : P.underlying t = some (.struct fields)) (hs : P.stoodInHeld t = false) :
    rp P (Op.equalIn (d + 1) t (.agg xs) (.agg ys)) = eqF P d xs ys fields.toList := by
  simp only [Op.equalIn, rp_bind, rp_underlying h, Option.bind_some, rp_program, hs, Bool.false_eq_true, if_false]
  rw [← Array.forIn_toList]
  generalize fields.toList = fs
  clear h
  induction fs with
  | nil => simp [eqF, rp_bind]
  | cons f fs ih =>
    simp only [List.forIn_cons, eqF, rp_bind, rp_ite]
    split
    · cases h1 : rp P (part f.type xs f.offset) with
      | none => simp [h1]
      | some a =>
        cases h2 : rp P (part f.type ys f.offset) with
        | none => simp [h1, h2]
        | some b =>
          cases h3 : rp P (Op.equalIn d f.type a b) with
          | none => simp [h1, h2, h3]
          | some r =>
            cases r
            · simp [h1, h2, h3]
            · simpa [h1, h2, h3] using ih
    · simpa [rp_bind] using ih
theorem rp_part1 {t : TypeId} {d : TypeDesc} {xs : Array Value} {off : Nat} {v : Value} (h : P.underlying t = some d) (hd : d.isRow = false) (hx : xs[off]? = some v) : rp P (part t xs off) = some v := by
  have hagg : rp P (isAgg t) = some false := by
    unfold isAgg
    rw [rp_bind, rp_underlying h]
    cases d <;> simp_all
  simp [part, rp_bind, hagg, hx]
theorem rp_eqI {t : TypeId} {k j : IntKind} {d : Nat} {a b : Int} (h : P.underlying t = some (.int j)) : rp P (Op.equalIn (d + 1) t (.int k a) (.int k b)) = some (decide (a = b)) := by
  simp [Op.equalIn, rp_bind, rp_underlying h]
  by_cases e : a = b <;> simp [e]
theorem rp_eqB {t : TypeId} {d : Nat} {a b : Bool} (h : P.underlying t = some .bool) : rp P (Op.equalIn (d + 1) t (.bool a) (.bool b)) = some (decide (a = b)) := by
  simp [Op.equalIn, rp_bind, rp_underlying h]
  cases a <;> cases b <;> rfl
theorem rp_eqS {t : TypeId} {d : Nat} {a b : List UInt8} (h : P.underlying t = some .string) : rp P (Op.equalIn (d + 1) t (S a) (S b)) = some (decide (a = b)) := by
  simp only [S, Op.equalIn, rp_bind, rp_underlying h, Option.bind_some, rp_pure, Option.some.injEq]
  rw [beq_toListBytes]
  simp
  by_cases e : a = b <;> simp [e]
theorem eqF_cons {d : Nat} {xs ys : Array Value} {f : Field} {fs : List Field} {a b : Value} {r : Bool} {e : Bool} (hn : f.name ≠ "_") (ha : rp P (part f.type xs f.offset) = some a) (hb : rp P (part f.type ys f.offset) = some b)
    (hr : rp P (Op.equalIn d f.type a b) = some r) (he : eqF P d xs ys fs = some e) : eqF P d xs ys (f :: fs) = some (r && e) := by
  simp only [eqF, hn, ne_eq, not_false_eq_true, if_true, ha, hb, hr, Option.bind_some, he]
  cases r <;> rfl
theorem bin_ne_agg (K : Value → Prop) {t : TypeId} {cx cy : Bool} {xs ys : List Value} {e : Bool} (hg : P.eqGuardType P.depth t = false) (he : rp P (Op.equal t (AG xs) (AG ys)) = some e) :
    pu P (oBin .neq t cx cy (AG xs) (AG ys)) K = K (.bool (!e)) :=
  pu_v' (by
    rw [rp_bind]
    have : rp P (eqGuard .neq t (fl cx) (fl cy) (AG xs) (AG ys)) = some () := by
      simp [eqGuard, AG, rp_bind, hg]
    rw [this]
    simp only [Option.bind_some]
    have e2 : binOp .neq t (AG xs) (AG ys) = (do pure (.bool (!(← Op.equal t (AG xs) (AG ys))))) := rfl
    rw [e2, rp_bind, he]; rfl)
end
end Go.X
end
section
namespace Go.Proofs.Ytfiepdikejoeeaa.X
open Go Go.X Go.Proofs
namespace M
theorem ld_int64 (K : Value → World → Prop) (w : World) (b o : Nat) (h : (cellOf (bk w b) o).isSome = true) : st P (oLoad T.int64 (pt b o)) w K = K ((cellOf (bk w b) o).getD undef) w := (oLoad1 K w Try.underlying2 rfl b o).trans (optE_getD undef h)
theorem rd_int64 (K : Value → Prop) (w : World) (b o : Nat) (h : (cellOf (bk w b) o).isSome = true) : rd P (oLoad T.int64 (pt b o)) w K = K ((cellOf (bk w b) o).getD undef) := (rLoad1 w K Try.underlying2 rfl b o).trans (optE_getD undef h)
theorem hd_int64 (v' : Value) (w : World) (b o : Nat) (h : (cellOf (bk w b) o).isSome = true) : hold P (oLoad T.int64 (pt b o)) v' w = ((cellOf (bk w b) o).getD undef = v') := (hLoad1 w v' Try.underlying2 rfl b o).trans (optE_getD undef h)
theorem rd_int (K : Value → Prop) (w : World) (b o : Nat) (h : (cellOf (bk w b) o).isSome = true) : rd P (oLoad T.int (pt b o)) w K = K ((cellOf (bk w b) o).getD undef) := (rLoad1 w K Try.underlying3 rfl b o).trans (optE_getD undef h)
theorem hd_int (v' : Value) (w : World) (b o : Nat) (h : (cellOf (bk w b) o).isSome = true) : hold P (oLoad T.int (pt b o)) v' w = ((cellOf (bk w b) o).getD undef = v') := (hLoad1 w v' Try.underlying3 rfl b o).trans (optE_getD undef h)
theorem ld_bool (K : Value → World → Prop) (w : World) (b o : Nat) (h : (cellOf (bk w b) o).isSome = true) : st P (oLoad T.bool (pt b o)) w K = K ((cellOf (bk w b) o).getD undef) w := (oLoad1 K w Try.underlying4 rfl b o).trans (optE_getD undef h)
theorem rd_bool (K : Value → Prop) (w : World) (b o : Nat) (h : (cellOf (bk w b) o).isSome = true) : rd P (oLoad T.bool (pt b o)) w K = K ((cellOf (bk w b) o).getD undef) := (rLoad1 w K Try.underlying4 rfl b o).trans (optE_getD undef h)
theorem hd_bool (v' : Value) (w : World) (b o : Nat) (h : (cellOf (bk w b) o).isSome = true) : hold P (oLoad T.bool (pt b o)) v' w = ((cellOf (bk w b) o).getD undef = v') := (hLoad1 w v' Try.underlying4 rfl b o).trans (optE_getD undef h)
theorem ld_string (K : Value → World → Prop) (w : World) (b o : Nat) (h : (cellOf (bk w b) o).isSome = true) : st P (oLoad T.string (pt b o)) w K = K ((cellOf (bk w b) o).getD undef) w := (oLoad1 K w Try.underlying9 rfl b o).trans (optE_getD undef h)
theorem rd_string (K : Value → Prop) (w : World) (b o : Nat) (h : (cellOf (bk w b) o).isSome = true) : rd P (oLoad T.string (pt b o)) w K = K ((cellOf (bk w b) o).getD undef) := (rLoad1 w K Try.underlying9 rfl b o).trans (optE_getD undef h)
theorem hd_string (v' : Value) (w : World) (b o : Nat) (h : (cellOf (bk w b) o).isSome = true) : hold P (oLoad T.string (pt b o)) v' w = ((cellOf (bk w b) o).getD undef = v') := (hLoad1 w v' Try.underlying9 rfl b o).trans (optE_getD undef h)
theorem ld_impl_Info (K : Value → World → Prop) (w : World) (b o : Nat) (h : (rowOf (bk w b) o 5).isSome = true) : st P (oLoad T.impl_Info (pt b o)) w K = K (AG ((rowOf (bk w b) o 5).getD [])) w := (oLoadN (n := 5) K w Try.underlying29 rfl (by kernel_rfl) b o).trans (optE_getD [] h)
theorem rd_impl_Info (K : Value → Prop) (w : World) (b o : Nat) (h : (rowOf (bk w b) o 5).isSome = true) : rd P (oLoad T.impl_Info (pt b o)) w K = K (AG ((rowOf (bk w b) o 5).getD [])) := (rLoadN (n := 5) w K Try.underlying29 rfl (by kernel_rfl) b o).trans (optE_getD [] h)
theorem rs_impl_Info (K : Value → Prop) (w : World) (b o : Nat) (h : (rowOf (bk w b) o 5).isSome = true) : rsl P T.impl_Info (pt b o) w K = K (AG ((rowOf (bk w b) o 5).getD [])) := (rslN (n := 5) w K Try.underlying29 rfl (by kernel_rfl) b o).trans (optE_getD [] h)
theorem ld_sl_uint8 (K : Value → World → Prop) (w : World) (b o : Nat) (h : (cellOf (bk w b) o).isSome = true) : st P (oLoad T.sl_uint8 (pt b o)) w K = K ((cellOf (bk w b) o).getD undef) w := (oLoad1 K w Try.underlying31 rfl b o).trans (optE_getD undef h)
theorem rd_sl_uint8 (K : Value → Prop) (w : World) (b o : Nat) (h : (cellOf (bk w b) o).isSome = true) : rd P (oLoad T.sl_uint8 (pt b o)) w K = K ((cellOf (bk w b) o).getD undef) := (rLoad1 w K Try.underlying31 rfl b o).trans (optE_getD undef h)
theorem ld_impl_Entry (K : Value → World → Prop) (w : World) (b o : Nat) (h : (rowOf (bk w b) o 5).isSome = true) : st P (oLoad T.impl_Entry (pt b o)) w K = K (AG ((rowOf (bk w b) o 5).getD [])) w := (oLoadN (n := 5) K w Try.underlying33 rfl (by kernel_rfl) b o).trans (optE_getD [] h)
theorem ld_p_mem_FileInfo (K : Value → World → Prop) (w : World) (b o : Nat) (h : (cellOf (bk w b) o).isSome = true) : st P (oLoad T.p_mem_FileInfo (pt b o)) w K = K ((cellOf (bk w b) o).getD undef) w := (oLoad1 K w Try.underlying45 rfl b o).trans (optE_getD undef h)
theorem ld_os_FileMode (K : Value → World → Prop) (w : World) (b o : Nat) (h : (cellOf (bk w b) o).isSome = true) : st P (oLoad T.os_FileMode (pt b o)) w K = K ((cellOf (bk w b) o).getD undef) w := (oLoad1 K w Try.underlying48 rfl b o).trans (optE_getD undef h)
theorem ld_p_mem_FileData (K : Value → World → Prop) (w : World) (b o : Nat) (h : (cellOf (bk w b) o).isSome = true) : st P (oLoad T.p_mem_FileData (pt b o)) w K = K ((cellOf (bk w b) o).getD undef) w := (oLoad1 K w Try.underlying54 rfl b o).trans (optE_getD undef h)
theorem st_string (K : Value → World → Prop) (w : World) (b o : Nat) (x : Value) (h : (stoOf (bk w b) o x).isSome = true) : st P (oStore T.string (pt b o) x) w K = K undef (setb w b ((stoOf (bk w b) o x).getD noBk)) := (oStore1 K w (by kernel_rfl) b o x).trans (optE_getD noBk h)
theorem st_impl_Info (K : Value → World → Prop) (w : World) (b o : Nat) (xs : List Value) (h : (stoNOf (bk w b) o 5 xs).isSome = true) : st P (oStore T.impl_Info (pt b o) (AG xs)) w K = K undef (setb w b ((stoNOf (bk w b) o 5 xs).getD noBk)) := (oStoreN K w (by kernel_rfl) b o xs).trans (optE_getD noBk h)
theorem st_impl_Entry (K : Value → World → Prop) (w : World) (b o : Nat) (xs : List Value) (h : (stoNOf (bk w b) o 5 xs).isSome = true) : st P (oStore T.impl_Entry (pt b o) (AG xs)) w K = K undef (setb w b ((stoNOf (bk w b) o 5 xs).getD noBk)) := (oStoreN K w (by kernel_rfl) b o xs).trans (optE_getD noBk h)
theorem st_p_mem_FileInfo (K : Value → World → Prop) (w : World) (b o : Nat) (x : Value) (h : (stoOf (bk w b) o x).isSome = true) : st P (oStore T.p_mem_FileInfo (pt b o) x) w K = K undef (setb w b ((stoOf (bk w b) o x).getD noBk)) := (oStore1 K w (by kernel_rfl) b o x).trans (optE_getD noBk h)
theorem al_impl_Info (K : Value → World → Prop) (w : World) : st P (oAlloc T.impl_Info) w K = K (pt w.heap.size 0) (w.alloc (CB [S [], .int .i64 0, .int .i64 0, .bool false, .int .i64 0] T.impl_Info)) := oAlloc_of K w (z := AG [S [], .int .i64 0, .int .i64 0, .bool false, .int .i64 0]) (fun _ => by kernel_rfl) rfl
theorem al_impl_Entry (K : Value → World → Prop) (w : World) : st P (oAlloc T.impl_Entry) w K = K (pt w.heap.size 0) (w.alloc (CB [S [], .int .i64 0, .bool false, .slice none 0 0, .int .i64 0] T.impl_Entry)) := oAlloc_of K w (z := AG [S [], .int .i64 0, .bool false, .slice none 0 0, .int .i64 0]) (fun _ => by kernel_rfl) rfl
theorem bd_impl_Info (K : Value → Prop) (ps : Array (Nat × Value)) (h : (fillL [(0, 1), (1, 1), (2, 1), (3, 1), (4, 1)] [S [], .int .i64 0, .int .i64 0, .bool false, .int .i64 0] ps.toList).isSome = true) : pu P (oBuild T.impl_Info ps) K = K (AG ((fillL [(0, 1), (1, 1), (2, 1), (3, 1), (4, 1)] [S [], .int .i64 0, .int .i64 0, .bool false, .int .i64 0] ps.toList).getD [])) := (oBuild_of K (z := AG [S [], .int .i64 0, .int .i64 0, .bool false, .int .i64 0]) Try.underlying29 (by kernel_rfl) rfl (by kernel_rfl)).trans (optE_getD [] h)
theorem bd_mem_FileData (K : Value → Prop) (ps : Array (Nat × Value)) (h : (fillL [(0, 1), (1, 1), (2, 1), (3, 1), (4, 1), (5, 1), (6, 1), (7, 1)] [S [], .slice none 0 0, .map none, .bool false, .int .u32 0, .int .i64 0, .int .i64 0, .int .i64 0] ps.toList).isSome = true) : pu P (oBuild T.mem_FileData ps) K = K (AG ((fillL [(0, 1), (1, 1), (2, 1), (3, 1), (4, 1), (5, 1), (6, 1), (7, 1)] [S [], .slice none 0 0, .map none, .bool false, .int .u32 0, .int .i64 0, .int .i64 0, .int .i64 0] ps.toList).getD [])) := (oBuild_of K (z := AG [S [], .slice none 0 0, .map none, .bool false, .int .u32 0, .int .i64 0, .int .i64 0, .int .i64 0]) Try.underlying58 (by kernel_rfl) rfl (by kernel_rfl)).trans (optE_getD [] h)
theorem bd_mem_FileInfo (K : Value → Prop) (ps : Array (Nat × Value)) (h : (fillL [(0, 1)] [.pointer none] ps.toList).isSome = true) : pu P (oBuild T.mem_FileInfo ps) K = K (AG ((fillL [(0, 1)] [.pointer none] ps.toList).getD [])) := (oBuild_of K (z := AG [.pointer none]) Try.underlying60 (by kernel_rfl) rfl (by kernel_rfl)).trans (optE_getD [] h)
theorem eqr_impl_Info (a0 b0 : List UInt8) (a1 b1 : Int) (a2 b2 : Int) (a3 b3 : Bool) (a4 b4 : Int) : rp P (Op.equal T.impl_Info (AG [S a0, .int .i64 a1, .int .i64 a2, .bool a3, .int .i64 a4]) (AG [S b0, .int .i64 b1, .int .i64 b2, .bool b3, .int .i64 b4])) = some (decide (a0 = b0) && (decide (a1 = b1) && (decide (a2 = b2) && (decide (a3 = b3) && (decide (a4 = b4) && true))))) := (rp_eq_struct Try.underlying29 (by kernel_rfl)).trans (eqF_cons (by decide) (rp_part1 Try.underlying9 rfl rfl) (rp_part1 Try.underlying9 rfl rfl) (rp_eqS Try.underlying9) (eqF_cons (by decide) (rp_part1 Try.underlying2 rfl rfl) (rp_part1 Try.underlying2 rfl rfl) (rp_eqI Try.underlying2) (eqF_cons (by decide) (rp_part1 Try.underlying3 rfl rfl) (rp_part1 Try.underlying3 rfl rfl) (rp_eqI Try.underlying3) (eqF_cons (by decide) (rp_part1 Try.underlying4 rfl rfl) (rp_part1 Try.underlying4 rfl rfl) (rp_eqB Try.underlying4) (eqF_cons (by decide) (rp_part1 Try.underlying2 rfl rfl) (rp_part1 Try.underlying2 rfl rfl) (rp_eqI Try.underlying2) rfl)))))
theorem ne_impl_Info (K : Value → Prop) (cx cy : Bool) (a0 b0 : List UInt8) (a1 b1 : Int) (a2 b2 : Int) (a3 b3 : Bool) (a4 b4 : Int) : pu P (oBin .neq T.impl_Info cx cy (AG [S a0, .int .i64 a1, .int .i64 a2, .bool a3, .int .i64 a4]) (AG [S b0, .int .i64 b1, .int .i64 b2, .bool b3, .int .i64 b4])) K = K (.bool (!(decide (a0 = b0) && (decide (a1 = b1) && (decide (a2 = b2) && (decide (a3 = b3) && (decide (a4 = b4) && true))))))) := bin_ne_agg K (by kernel_rfl) (eqr_impl_Info _ _ _ _ _ _ _ _ _ _)
end M
attribute [go_sem] M.ld_int64 M.rd_int64 M.hd_int64 M.rd_int M.hd_int M.ld_bool M.rd_bool M.hd_bool M.ld_string M.rd_string M.hd_string M.ld_impl_Info M.rd_impl_Info M.rs_impl_Info M.ld_sl_uint8 M.rd_sl_uint8 M.ld_impl_Entry M.ld_p_mem_FileInfo M.ld_os_FileMode M.ld_p_mem_FileData M.st_string M.st_impl_Info M.st_impl_Entry M.st_p_mem_FileInfo M.al_impl_Info M.al_impl_Entry M.bd_impl_Info M.bd_mem_FileData M.bd_mem_FileInfo M.ne_impl_Info
end Go.Proofs.Ytfiepdikejoeeaa.X
end
section
namespace Go.X
open Go
section
variable {P : Program} (K : Value → Prop)
theorem bv_nat (n : Nat) {x : Int} (h0 : 0 ≤ x) (h1 : x < 2 ^ n) : (BitVec.ofInt n x).toNat = x.toNat := by
  obtain ⟨a, rfl⟩ := Int.eq_ofNat_of_zero_le h0
  rw [BitVec.ofInt_natCast, BitVec.toNat_ofNat]
  have : a < 2 ^ n := by exact_mod_cast h1
  rw [Nat.mod_eq_of_lt this]; rfl
theorem wr_u64 (n : Nat) (h : n < 2 ^ 64) : IntKind.u64.wrap (n : Int) = n := w_u64 (by omega) (by omega)
theorem wr_u32 (n : Nat) (h : n < 2 ^ 32) : IntKind.u32.wrap (n : Int) = n := w_u32 (by omega) (by omega)
theorem wr_u16 (n : Nat) (h : n < 2 ^ 16) : IntKind.u16.wrap (n : Int) = n := w_u16 (by omega) (by omega)
theorem wr_u8 (n : Nat) (h : n < 2 ^ 8) : IntKind.u8.wrap (n : Int) = n := w_u8 (by omega) (by omega)
theorem wr_i64 (n : Nat) (h : n < 2 ^ 63) : IntKind.i64.wrap (n : Int) = n := w_i64 (by omega) (by omega)
@[go_sem] theorem oand_u64 (t : TypeId) (cx cy : Bool) (x y : Int) (h0 : 0 ≤ x) (h1 : x ≤ 18446744073709551615) (h2 : 0 ≤ y) (h3 : y ≤ 18446744073709551615) :
    pu P (oBin .and t cx cy (.int .u64 x) (.int .u64 y)) K = K (.int .u64 ((x.toNat &&& y.toNat : Nat) : Int)) :=
  bin_int K (by
    simp only [binOp, Op.intBits, BitVec.toNat_and]
    rw [if_neg (by simp), rp_pure]
    rw [bv_nat IntKind.u64.bits h0 (show x < 2 ^ 64 by omega), bv_nat IntKind.u64.bits h2 (show y < 2 ^ 64 by omega), wr_u64 _ (Nat.and_lt_two_pow _ (by omega))])
@[go_sem] theorem oor_u64 (t : TypeId) (cx cy : Bool) (x y : Int) (h0 : 0 ≤ x) (h1 : x ≤ 18446744073709551615) (h2 : 0 ≤ y) (h3 : y ≤ 18446744073709551615) :
    pu P (oBin .or t cx cy (.int .u64 x) (.int .u64 y)) K = K (.int .u64 ((x.toNat ||| y.toNat : Nat) : Int)) :=
  bin_int K (by
    simp only [binOp, Op.intBits, BitVec.toNat_or]
    rw [if_neg (by simp), rp_pure]
    rw [bv_nat IntKind.u64.bits h0 (show x < 2 ^ 64 by omega), bv_nat IntKind.u64.bits h2 (show y < 2 ^ 64 by omega), wr_u64 _ (Nat.or_lt_two_pow (by omega) (by omega))])
@[go_sem] theorem oxor_u64 (t : TypeId) (cx cy : Bool) (x y : Int) (h0 : 0 ≤ x) (h1 : x ≤ 18446744073709551615) (h2 : 0 ≤ y) (h3 : y ≤ 18446744073709551615) :
    pu P (oBin .xor t cx cy (.int .u64 x) (.int .u64 y)) K = K (.int .u64 ((x.toNat ^^^ y.toNat : Nat) : Int)) :=
  bin_int K (by
    simp only [binOp, Op.intBits, BitVec.toNat_xor]
    rw [if_neg (by simp), rp_pure]
    rw [bv_nat IntKind.u64.bits h0 (show x < 2 ^ 64 by omega), bv_nat IntKind.u64.bits h2 (show y < 2 ^ 64 by omega), wr_u64 _ (Nat.xor_lt_two_pow (by omega) (by omega))])
@[go_sem] theorem oand_u32 (t : TypeId) (cx cy : Bool) (x y : Int) (h0 : 0 ≤ x) (h1 : x ≤ 4294967295) (h2 : 0 ≤ y) (h3 : y ≤ 4294967295) :
    pu P (oBin .and t cx cy (.int .u32 x) (.int .u32 y)) K = K (.int .u32 ((x.toNat &&& y.toNat : Nat) : Int)) :=
  bin_int K (by
    simp only [binOp, Op.intBits, BitVec.toNat_and]
    rw [if_neg (by simp), rp_pure]
    rw [bv_nat IntKind.u32.bits h0 (show x < 2 ^ 32 by omega), bv_nat IntKind.u32.bits h2 (show y < 2 ^ 32 by omega), wr_u32 _ (Nat.and_lt_two_pow _ (by omega))])
@[go_sem] theorem oor_u32 (t : TypeId) (cx cy : Bool) (x y : Int) (h0 : 0 ≤ x) (h1 : x ≤ 4294967295) (h2 : 0 ≤ y) (h3 : y ≤ 4294967295) :
    pu P (oBin .or t cx cy (.int .u32 x) (.int .u32 y)) K = K (.int .u32 ((x.toNat ||| y.toNat : Nat) : Int)) :=
  bin_int K (by
    simp only [binOp, Op.intBits, BitVec.toNat_or]
    rw [if_neg (by simp), rp_pure]
    rw [bv_nat IntKind.u32.bits h0 (show x < 2 ^ 32 by omega), bv_nat IntKind.u32.bits h2 (show y < 2 ^ 32 by omega), wr_u32 _ (Nat.or_lt_two_pow (by omega) (by omega))])
@[go_sem] theorem oxor_u32 (t : TypeId) (cx cy : Bool) (x y : Int) (h0 : 0 ≤ x) (h1 : x ≤ 4294967295) (h2 : 0 ≤ y) (h3 : y ≤ 4294967295) :
    pu P (oBin .xor t cx cy (.int .u32 x) (.int .u32 y)) K = K (.int .u32 ((x.toNat ^^^ y.toNat : Nat) : Int)) :=
  bin_int K (by
    simp only [binOp, Op.intBits, BitVec.toNat_xor]
    rw [if_neg (by simp), rp_pure]
    rw [bv_nat IntKind.u32.bits h0 (show x < 2 ^ 32 by omega), bv_nat IntKind.u32.bits h2 (show y < 2 ^ 32 by omega), wr_u32 _ (Nat.xor_lt_two_pow (by omega) (by omega))])
@[go_sem] theorem oand_u16 (t : TypeId) (cx cy : Bool) (x y : Int) (h0 : 0 ≤ x) (h1 : x ≤ 65535) (h2 : 0 ≤ y) (h3 : y ≤ 65535) :
    pu P (oBin .and t cx cy (.int .u16 x) (.int .u16 y)) K = K (.int .u16 ((x.toNat &&& y.toNat : Nat) : Int)) :=
  bin_int K (by
    simp only [binOp, Op.intBits, BitVec.toNat_and]
    rw [if_neg (by simp), rp_pure]
    rw [bv_nat IntKind.u16.bits h0 (show x < 2 ^ 16 by omega), bv_nat IntKind.u16.bits h2 (show y < 2 ^ 16 by omega), wr_u16 _ (Nat.and_lt_two_pow _ (by omega))])
@[go_sem] theorem oor_u16 (t : TypeId) (cx cy : Bool) (x y : Int) (h0 : 0 ≤ x) (h1 : x ≤ 65535) (h2 : 0 ≤ y) (h3 : y ≤ 65535) :
    pu P (oBin .or t cx cy (.int .u16 x) (.int .u16 y)) K = K (.int .u16 ((x.toNat ||| y.toNat : Nat) : Int)) :=
  bin_int K (by
    simp only [binOp, Op.intBits, BitVec.toNat_or]
    rw [if_neg (by simp), rp_pure]
    rw [bv_nat IntKind.u16.bits h0 (show x < 2 ^ 16 by omega), bv_nat IntKind.u16.bits h2 (show y < 2 ^ 16 by omega), wr_u16 _ (Nat.or_lt_two_pow (by omega) (by omega))])
@[go_sem] theorem oxor_u16 (t : TypeId) (cx cy : Bool) (x y : Int) (h0 : 0 ≤ x) (h1 : x ≤ 65535) (h2 : 0 ≤ y) (h3 : y ≤ 65535) :
    pu P (oBin .xor t cx cy (.int .u16 x) (.int .u16 y)) K = K (.int .u16 ((x.toNat ^^^ y.toNat : Nat) : Int)) :=
  bin_int K (by
    simp only [binOp, Op.intBits, BitVec.toNat_xor]
    rw [if_neg (by simp), rp_pure]
    rw [bv_nat IntKind.u16.bits h0 (show x < 2 ^ 16 by omega), bv_nat IntKind.u16.bits h2 (show y < 2 ^ 16 by omega), wr_u16 _ (Nat.xor_lt_two_pow (by omega) (by omega))])
@[go_sem] theorem oand_u8 (t : TypeId) (cx cy : Bool) (x y : Int) (h0 : 0 ≤ x) (h1 : x ≤ 255) (h2 : 0 ≤ y) (h3 : y ≤ 255) :
    pu P (oBin .and t cx cy (.int .u8 x) (.int .u8 y)) K = K (.int .u8 ((x.toNat &&& y.toNat : Nat) : Int)) :=
  bin_int K (by
    simp only [binOp, Op.intBits, BitVec.toNat_and]
    rw [if_neg (by simp), rp_pure]
    rw [bv_nat IntKind.u8.bits h0 (show x < 2 ^ 8 by omega), bv_nat IntKind.u8.bits h2 (show y < 2 ^ 8 by omega), wr_u8 _ (Nat.and_lt_two_pow _ (by omega))])
@[go_sem] theorem oor_u8 (t : TypeId) (cx cy : Bool) (x y : Int) (h0 : 0 ≤ x) (h1 : x ≤ 255) (h2 : 0 ≤ y) (h3 : y ≤ 255) :
    pu P (oBin .or t cx cy (.int .u8 x) (.int .u8 y)) K = K (.int .u8 ((x.toNat ||| y.toNat : Nat) : Int)) :=
  bin_int K (by
    simp only [binOp, Op.intBits, BitVec.toNat_or]
    rw [if_neg (by simp), rp_pure]
    rw [bv_nat IntKind.u8.bits h0 (show x < 2 ^ 8 by omega), bv_nat IntKind.u8.bits h2 (show y < 2 ^ 8 by omega), wr_u8 _ (Nat.or_lt_two_pow (by omega) (by omega))])
@[go_sem] theorem oxor_u8 (t : TypeId) (cx cy : Bool) (x y : Int) (h0 : 0 ≤ x) (h1 : x ≤ 255) (h2 : 0 ≤ y) (h3 : y ≤ 255) :
    pu P (oBin .xor t cx cy (.int .u8 x) (.int .u8 y)) K = K (.int .u8 ((x.toNat ^^^ y.toNat : Nat) : Int)) :=
  bin_int K (by
    simp only [binOp, Op.intBits, BitVec.toNat_xor]
    rw [if_neg (by simp), rp_pure]
    rw [bv_nat IntKind.u8.bits h0 (show x < 2 ^ 8 by omega), bv_nat IntKind.u8.bits h2 (show y < 2 ^ 8 by omega), wr_u8 _ (Nat.xor_lt_two_pow (by omega) (by omega))])
@[go_sem] theorem oand_i64 (t : TypeId) (cx cy : Bool) (x y : Int) (h0 : 0 ≤ x) (h1 : x ≤ 9223372036854775807) (h2 : 0 ≤ y) (h3 : y ≤ 9223372036854775807) :
    pu P (oBin .and t cx cy (.int .i64 x) (.int .i64 y)) K = K (.int .i64 ((x.toNat &&& y.toNat : Nat) : Int)) :=
  bin_int K (by
    simp only [binOp, Op.intBits, BitVec.toNat_and]
    rw [if_neg (by simp), rp_pure]
    rw [bv_nat IntKind.i64.bits h0 (show x < 2 ^ 64 by omega), bv_nat IntKind.i64.bits h2 (show y < 2 ^ 64 by omega), wr_i64 _ (Nat.and_lt_two_pow _ (by omega))])
@[go_sem] theorem oor_i64 (t : TypeId) (cx cy : Bool) (x y : Int) (h0 : 0 ≤ x) (h1 : x ≤ 9223372036854775807) (h2 : 0 ≤ y) (h3 : y ≤ 9223372036854775807) :
    pu P (oBin .or t cx cy (.int .i64 x) (.int .i64 y)) K = K (.int .i64 ((x.toNat ||| y.toNat : Nat) : Int)) :=
  bin_int K (by
    simp only [binOp, Op.intBits, BitVec.toNat_or]
    rw [if_neg (by simp), rp_pure]
    rw [bv_nat IntKind.i64.bits h0 (show x < 2 ^ 64 by omega), bv_nat IntKind.i64.bits h2 (show y < 2 ^ 64 by omega), wr_i64 _ (Nat.or_lt_two_pow (by omega) (by omega))])
@[go_sem] theorem oxor_i64 (t : TypeId) (cx cy : Bool) (x y : Int) (h0 : 0 ≤ x) (h1 : x ≤ 9223372036854775807) (h2 : 0 ≤ y) (h3 : y ≤ 9223372036854775807) :
    pu P (oBin .xor t cx cy (.int .i64 x) (.int .i64 y)) K = K (.int .i64 ((x.toNat ^^^ y.toNat : Nat) : Int)) :=
  bin_int K (by
    simp only [binOp, Op.intBits, BitVec.toNat_xor]
    rw [if_neg (by simp), rp_pure]
    rw [bv_nat IntKind.i64.bits h0 (show x < 2 ^ 64 by omega), bv_nat IntKind.i64.bits h2 (show y < 2 ^ 64 by omega), wr_i64 _ (Nat.xor_lt_two_pow (by omega) (by omega))])
@[go_sem] theorem oShl_u64 (t : TypeId) (cx cy : Bool) (j : IntKind) (x y : Int) (h0 : 0 ≤ y) (h1 : y ≤ 64) :
    pu P (oBin .shl t cx cy (.int .u64 x) (.int j y)) K = K (.int .u64 (IntKind.u64.wrap (x * 2 ^ y.toNat))) :=
  bin_int K (by
    simp only [binOp, Op.shift]
    rw [if_neg (by omega), rp_pure, Nat.min_eq_left (show y.toNat ≤ IntKind.u64.bits from show y.toNat ≤ 64 by omega)])
@[go_sem] theorem oShr_u64 (t : TypeId) (cx cy : Bool) (j : IntKind) (x y : Int) (h0 : 0 ≤ y) (h1 : y ≤ 64) (h2 : 0 ≤ x) :
    pu P (oBin .shr t cx cy (.int .u64 x) (.int j y)) K = K (.int .u64 (x / 2 ^ y.toNat)) :=
  bin_int K (by
    simp only [binOp, Op.shift]
    rw [if_neg (by omega), rp_pure, Nat.min_eq_left (show y.toNat ≤ IntKind.u64.bits from show y.toNat ≤ 64 by omega)]
    congr 2
    exact Int.fdiv_eq_ediv_of_nonneg _ (by exact Int.le_of_lt (Int.pow_pos (by decide))))
@[go_sem] theorem oShl_u32 (t : TypeId) (cx cy : Bool) (j : IntKind) (x y : Int) (h0 : 0 ≤ y) (h1 : y ≤ 32) :
    pu P (oBin .shl t cx cy (.int .u32 x) (.int j y)) K = K (.int .u32 (IntKind.u32.wrap (x * 2 ^ y.toNat))) :=
  bin_int K (by
    simp only [binOp, Op.shift]
    rw [if_neg (by omega), rp_pure, Nat.min_eq_left (show y.toNat ≤ IntKind.u32.bits from show y.toNat ≤ 32 by omega)])
@[go_sem] theorem oShr_u32 (t : TypeId) (cx cy : Bool) (j : IntKind) (x y : Int) (h0 : 0 ≤ y) (h1 : y ≤ 32) (h2 : 0 ≤ x) :
    pu P (oBin .shr t cx cy (.int .u32 x) (.int j y)) K = K (.int .u32 (x / 2 ^ y.toNat)) :=
  bin_int K (by
    simp only [binOp, Op.shift]
    rw [if_neg (by omega), rp_pure, Nat.min_eq_left (show y.toNat ≤ IntKind.u32.bits from show y.toNat ≤ 32 by omega)]
    congr 2
    exact Int.fdiv_eq_ediv_of_nonneg _ (by exact Int.le_of_lt (Int.pow_pos (by decide))))
@[go_sem] theorem oShl_u16 (t : TypeId) (cx cy : Bool) (j : IntKind) (x y : Int) (h0 : 0 ≤ y) (h1 : y ≤ 16) :
    pu P (oBin .shl t cx cy (.int .u16 x) (.int j y)) K = K (.int .u16 (IntKind.u16.wrap (x * 2 ^ y.toNat))) :=
  bin_int K (by
    simp only [binOp, Op.shift]
    rw [if_neg (by omega), rp_pure, Nat.min_eq_left (show y.toNat ≤ IntKind.u16.bits from show y.toNat ≤ 16 by omega)])
@[go_sem] theorem oShr_u16 (t : TypeId) (cx cy : Bool) (j : IntKind) (x y : Int) (h0 : 0 ≤ y) (h1 : y ≤ 16) (h2 : 0 ≤ x) :
    pu P (oBin .shr t cx cy (.int .u16 x) (.int j y)) K = K (.int .u16 (x / 2 ^ y.toNat)) :=
  bin_int K (by
    simp only [binOp, Op.shift]
    rw [if_neg (by omega), rp_pure, Nat.min_eq_left (show y.toNat ≤ IntKind.u16.bits from show y.toNat ≤ 16 by omega)]
    congr 2
    exact Int.fdiv_eq_ediv_of_nonneg _ (by exact Int.le_of_lt (Int.pow_pos (by decide))))
@[go_sem] theorem oShl_u8 (t : TypeId) (cx cy : Bool) (j : IntKind) (x y : Int) (h0 : 0 ≤ y) (h1 : y ≤ 8) :
    pu P (oBin .shl t cx cy (.int .u8 x) (.int j y)) K = K (.int .u8 (IntKind.u8.wrap (x * 2 ^ y.toNat))) :=
  bin_int K (by
    simp only [binOp, Op.shift]
    rw [if_neg (by omega), rp_pure, Nat.min_eq_left (show y.toNat ≤ IntKind.u8.bits from show y.toNat ≤ 8 by omega)])
@[go_sem] theorem oShr_u8 (t : TypeId) (cx cy : Bool) (j : IntKind) (x y : Int) (h0 : 0 ≤ y) (h1 : y ≤ 8) (h2 : 0 ≤ x) :
    pu P (oBin .shr t cx cy (.int .u8 x) (.int j y)) K = K (.int .u8 (x / 2 ^ y.toNat)) :=
  bin_int K (by
    simp only [binOp, Op.shift]
    rw [if_neg (by omega), rp_pure, Nat.min_eq_left (show y.toNat ≤ IntKind.u8.bits from show y.toNat ≤ 8 by omega)]
    congr 2
    exact Int.fdiv_eq_ediv_of_nonneg _ (by exact Int.le_of_lt (Int.pow_pos (by decide))))
@[go_sem] theorem oShl_i64 (t : TypeId) (cx cy : Bool) (j : IntKind) (x y : Int) (h0 : 0 ≤ y) (h1 : y ≤ 64) :
    pu P (oBin .shl t cx cy (.int .i64 x) (.int j y)) K = K (.int .i64 (IntKind.i64.wrap (x * 2 ^ y.toNat))) :=
  bin_int K (by
    simp only [binOp, Op.shift]
    rw [if_neg (by omega), rp_pure, Nat.min_eq_left (show y.toNat ≤ IntKind.i64.bits from show y.toNat ≤ 64 by omega)])
@[go_sem] theorem oShr_i64 (t : TypeId) (cx cy : Bool) (j : IntKind) (x y : Int) (h0 : 0 ≤ y) (h1 : y ≤ 64) (h2 : 0 ≤ x) :
    pu P (oBin .shr t cx cy (.int .i64 x) (.int j y)) K = K (.int .i64 (x / 2 ^ y.toNat)) :=
  bin_int K (by
    simp only [binOp, Op.shift]
    rw [if_neg (by omega), rp_pure, Nat.min_eq_left (show y.toNat ≤ IntKind.i64.bits from show y.toNat ≤ 64 by omega)]
    congr 2
    exact Int.fdiv_eq_ediv_of_nonneg _ (by exact Int.le_of_lt (Int.pow_pos (by decide))))
end
end Go.X
end
section
namespace Go.X
open Go Go.RowKit
theorem bel_setb {B : Nat} {a w : World} (h : Below B a w) {b : Nat} (hb : B ≤ b) (o : Obj) : Below B a (setb w b o) :=
  ⟨h.os, h.tape, h.output, by rw [sZb]; exact h.size, fun k hk => by
    have : bk (setb w b o) k = bk w k := bk_setb_ne w b k o (by omega)
    exact this.trans (h.block k hk)⟩
theorem bel_bk {B : Nat} {w w' : World} (h : Below B w w') {b : Nat} (hb : b < B) : bk w' b = bk w b := h.block b hb
section
variable {P : Program} {p : Prop} [Decidable p] (X Y : Prop) (w : World) (G : (Value → World → Prop) → Prop) (K : Value → World → Prop) (L : Value → Prop) (a b : Value)
@[go_sem high] theorem cd_t : cd (.bool true) X Y = X := by rw [cd_eq]; simp
@[go_sem high] theorem cd_f : cd (.bool false) X Y = Y := by rw [cd_eq]; simp
@[go_sem high] theorem gdt_t : gd (.bool true) true w G K = G K := by rw [gd_true]; simp
@[go_sem high] theorem gdt_f : gd (.bool false) true w G K = K undef w := by rw [gd_true]; simp
@[go_sem high] theorem gdf_t : gd (.bool true) false w G K = K undef w := by rw [gd_false]; simp
@[go_sem high] theorem gdf_f : gd (.bool false) false w G K = G K := by rw [gd_false]; simp
@[go_sem high] theorem pick_t : pu P (oPick (.bool true) a b) L = L a := by rw [oPick_eq]; simp
@[go_sem high] theorem pick_f : pu P (oPick (.bool false) a b) L = L b := by rw [oPick_eq]; simp
theorem dec_t (h : p) : (Value.bool (decide p)) = .bool true := by simp [h]
theorem dec_f (h : ¬ p) : (Value.bool (decide p)) = .bool false := by simp [h]
@[go_sem] theorem toL_nil : (#[] : Array (Nat × Value)).toList = [] := rfl
@[go_sem] theorem toL_l (l : List (Nat × Value)) : l.toArray.toList = l := rfl
attribute [go_sem] Bool.not_false Bool.not_true Int.toNat_natCast
end
end Go.X
end
section
namespace Go.X
open Go Go.RowKit
section
variable {P : Program} (K : Value → World → Prop) (w : World)
@[go_sem] theorem oExtract1_0 (L : Value → Prop) (a : Value) : pu P (oExtract (.tuple #[a]) 0) L = L a := pu_eq rfl
def byt (b : UInt8) : Value := .int .u8 b.toNat
def rowB (w : World) (b o : Nat) (l : List UInt8) : Prop := rowOf (bk w b) o l.length = some (l.map byt)
abbrev sl (b o n m : Nat) : Value := .slice (some ⟨b, o, none⟩) n m
theorem rowB_old {w w' : World} {b o B : Nat} {l : List UInt8} (h : rowB w b o l) (hb : Below B w w') (hB : b < B) : rowB w' b o l := by
  unfold rowB at h ⊢; rw [bel_bk hb hB]; exact h
theorem rowOf_inv {ob : Option Obj} {o n : Nat} {l : List Value} (h : rowOf ob o n = some l) : ∃ c t fz, ob = some (.cells c t fz) ∧ o + n ≤ c.size ∧ (c.toList.drop o).take n = l := by
  unfold rowOf at h
  split at h
  · rename_i c t fz
    by_cases hle : o + n ≤ c.size
    · rw [if_pos hle] at h
      exact ⟨c, t, fz, rfl, hle, by injection h⟩
    · rw [if_neg hle] at h; cases h
  · cases h
theorem rowB_cell {w : World} {b o : Nat} {l : List UInt8} (h : rowB w b o l) {i : Nat} (hi : i < l.length) : cellOf (bk w b) (o + i) = some (byt l[i]) := by
  obtain ⟨c, t, fz, h1, h2, h3⟩ := rowOf_inv h
  rw [h1]
  show c[o + i]? = _
  have e : ((c.toList.drop o).take l.length)[i]? = (l.map byt)[i]? := by rw [h3]
  rw [List.getElem?_take_of_lt hi, List.getElem?_drop] at e
  simp only [Array.getElem?_toList] at e
  rw [e]; simp [hi]
theorem rp_size {e : TypeId} {n : Nat} (h : (P.info? e).map (·.size) = some n) : rp P (sizeOf e) = some n := by
  cases hi : P.info? e with
  | none => rw [hi] at h; cases h
  | some i => rw [hi] at h; injection h with h; simp [sizeOf, typeInfo, rp_bind, hi, h]
theorem oIdxA_sl (L : Value → Prop) {tB tE : TypeId} {size : Nat} (h2 : P.underlying tB = some (.slice tE)) (hs : (P.info? tE).map (·.size) = some size) {b o n m : Nat} {k : IntKind} {i : Int} (a0 : 0 ≤ i) (a1 : i < n) :
    pu P (oIdxA tB (sl b o n m) (.int k i)) L = L (pt b (o + i.toNat * size)) :=
  pu_v' (by
    simp only [Instr.indexAt]
    simp [rp_bind, rp_underlying h2, asIntOf, a0, a1, rp_size hs, Addr.add_lit, rp_map])
theorem oBuildSlice1 {tB tE : TypeId} {z : Value} (h2 : P.underlying tB = some (.slice tE)) (hi : (P.info? tE).map (fun i => (i.zero, i.size)) = some (some z, 1)) {x : Value} (hx : x.oneCell' = true) :
    st P (oBuildSlice tB 1 #[(0, x)]) w K = K (sl w.heap.size 0 1 1) (w.alloc (CB [x] tE)) := by
  cases hie : P.info? tE with
  | none => rw [hie] at hi; cases hi
  | some ie =>
  rw [hie] at hi
  simp only [Option.map_some, Option.some.injEq, Prod.mk.injEq] at hi
  obtain ⟨hz, hs⟩ := hi
  exact st_eq_value (run_v' (run_buildSlice w tB tE 1 _ #[x] ie z h2 hie hz (by simp [hs]) (by simp [hs]) (by
    have hcells : x.cells = #[x] := by cases x <;> first | rfl | (simp [Value.oneCell'] at hx)
    have hr : Array.range 1 = #[0] := rfl
    simp [hs, Instr.fill, hcells, hr])))
end
end Go.X
end
section
namespace Go.X
open Go Go.RowKit
section
variable {P : Program} (K : Value → World → Prop) (w : World)
def BS (w : World) (v : Value) (l : List UInt8) : Prop :=
  (l = [] ∧ ∃ a cap, v = .slice a 0 cap) ∨ ∃ b o cap, v = sl b o l.length cap ∧ l.length ≤ cap ∧ rowB w b o l ∧ b < w.heap.size
theorem BS_old {w w' : World} {v : Value} {l : List UInt8} {B : Nat} (h : BS w v l) (hb : Below B w w') (hB : w.heap.size ≤ B) : BS w' v l := by
  rcases h with h | ⟨b, o, cap, h1, h2, h3, h4⟩
  · exact .inl h
  · exact .inr ⟨b, o, cap, h1, h2, rowB_old h3 hb (by omega), Nat.lt_of_lt_of_le h4 hb.size⟩
theorem BS_slice {w : World} {v : Value} {l : List UInt8} (h : BS w v l) : ∃ a cap, v = .slice a l.length cap := by
  rcases h with ⟨rfl, a, cap, h⟩ | ⟨b, o, cap, h1, _⟩
  · exact ⟨a, cap, h⟩
  · exact ⟨_, cap, h1⟩
theorem oBuildSlice0 {tB tE : TypeId} {n : Nat} (h2 : P.underlying tB = some (.slice tE)) (hi : (P.info? tE).map (·.size) = some n) :
    st P (oBuildSlice tB 0 #[]) w K = K (sl w.heap.size 0 0 0) (w.alloc (CB [] tE)) := by
  cases hie : P.info? tE with
  | none => rw [hie] at hi; cases hi
  | some ie =>
  exact st_eq_value (run_v' (by
    have hr : Array.range 0 = #[] := rfl
    simp [Instr.buildSlice, run_underlying h2, sizeOf, typeInfo, hie, Instr.fill, newRow, hr]))
theorem src_BS {w : World} {v : Value} {l : List UInt8} {tB tE : TypeId} (h2 : P.underlying tB = some (.slice tE)) (h : BS w v l) (hl : l ≠ []) : Src P 1 tB v l.length (l.map byt) w := by
  rcases h with ⟨rfl, _⟩ | ⟨b, o, cap, rfl, h4, h5, h6⟩
  · exact absurd rfl hl
  · exact Src.ofSlice w h2 ⟨b, o, none⟩ l.length cap (l.map byt) (by simp) (fun j u hj => by
      have hjl : j < l.length := by have := (List.getElem?_eq_some_iff.1 hj).1; simpa using this
      have hc := rowB_cell h5 hjl
      rw [Addr.add_lit, cell?_eq, hc]
      simp [hjl] at hj; rw [← hj]) (fun u hu => by
      obtain ⟨b, _, rfl⟩ := List.mem_map.1 hu
      rfl)
theorem oAppend_empty {tB tE : TypeId} {z : Value} {cs : Array Bool} {a0 : Option Addr} (h2 : P.underlying tB = some (.slice tE)) (hi : (P.info? tE).map (fun i => (i.zero, i.size, i.bytes)) = some (some z, 1, 1)) {v1 : Value} {l : List UInt8} (hv : BS w v1 l) (hl : l.length ≤ 281474976710656)
    (h : ∀ v' w', Below w.heap.size w w' → BS w' v' l → K v' w') : st P (oBuiltin .append #[tB, tB] tB cs #[.slice a0 0 0, v1]) w K := by
  cases hie : P.info? tE with
  | none => rw [hie] at hi; cases hi
  | some ie =>
  rw [hie] at hi
  simp only [Option.map_some, Option.some.injEq, Prod.mk.injEq] at hi
  obtain ⟨hz, hs, hb⟩ := hi
  by_cases e : l = []
  · subst e
    obtain ⟨a, cap, rfl⟩ := BS_slice hv
    have hr : (Builtin.append_ #[tB, tB] tB #[.slice a0 0 0, .slice a 0 cap]).run P w = .ok (.slice a0 0 0) w := by
      cases a0 <;> cases a <;> simp [Builtin.append_, run_underlying h2, sizeOf, typeInfo, hie, Builtin.lenOf, Builtin.firstCells, loadCells, loadCellsFrom, storeCells]
    have e1 : st P (oBuiltin .append #[tB, tB] tB cs #[.slice a0 0 0, .slice a 0 cap]) w K = K (.slice a0 0 0) w := st_eq_value (run_v' hr)
    rw [show (([] : List UInt8).length) = 0 from rfl, e1]
    exact h _ _ (Below.refl _ _) (.inl ⟨rfl, _, _, rfl⟩)
  · have hsrc : Src P ie.size tB v1 l.length (l.map byt) w := by rw [hs]; exact src_BS h2 hv e
    have hpos : 0 < l.length := List.length_pos_iff.2 e
    have hr := run_append_grow_src (P := P) w tB tB tB tE ie z h2 hie hz a0 0 0 [] (by cases a0 <;> simp [Builtin.firstCells, loadCells, loadCellsFrom]) v1 l.length (l.map byt) hsrc (by omega) (by omega) (by
      rw [hb]; simp only [Builtin.nextslicecap]; rw [if_pos (by omega)]; omega)
    have e1 : st P (oBuiltin .append #[tB, tB] tB cs #[.slice a0 0 0, v1]) w K = _ := st_eq_value (K := K) (run_v' hr)
    rw [e1]
    simp only [Nat.zero_add, List.nil_append]
    refine h _ _ ((Below.refl _ _).drew.alloc (Nat.le_refl _) _) (.inr ⟨_, _, _, rfl, ?_, ?_, ?_⟩)
    · exact grownCap_ge w _ _ _
    · unfold rowB
      rw [bk_alloc_eq w.drew _ w.heap.size rfl]
      simp only [rowOf]
      rw [if_pos (by simp)]
      congr 1
      simp [List.take_append_of_le_length, List.take_of_length_le]
    · simp only [go_sem]; omega
end
end Go.X
end
section
namespace Go.X
open Go Go.RowKit
section
variable {P : Program} (K : Value → Prop)
def V32 (x : BitVec 32) : Value := .int .u32 (x.toNat : Int)
theorem wrap_bv32 (m : Nat) : IntKind.u32.wrap (m : Int) = ((BitVec.ofNat 32 m).toNat : Int) := by
  rw [BitVec.toNat_ofNat]
  simp [IntKind.wrap, IntKind.bits, IntKind.signed]
theorem ofInt_bv32 (x : BitVec 32) : BitVec.ofInt IntKind.u32.bits (x.toNat : Int) = x := by
  show BitVec.ofInt 32 (x.toNat : Int) = x
  rw [BitVec.ofInt_natCast]; simp
theorem bits32 (op : BinOp) (r : BitVec 32) : (Value.int .u32 (IntKind.u32.wrap (r.toNat : Int))) = V32 r := by
  rw [wrap_bv32]; simp [V32]
@[go_sem] theorem xorV32 (t : TypeId) (cx cy : Bool) (x y : BitVec 32) : pu P (oBin .xor t cx cy (V32 x) (V32 y)) K = K (V32 (x ^^^ y)) :=
  bin_int K (by
    simp only [binOp, Op.intBits]
    rw [if_neg (by simp), rp_pure, ofInt_bv32, ofInt_bv32]
    exact congrArg some (bits32 .xor (x ^^^ y)))
@[go_sem] theorem orV32 (t : TypeId) (cx cy : Bool) (x y : BitVec 32) : pu P (oBin .or t cx cy (V32 x) (V32 y)) K = K (V32 (x ||| y)) :=
  bin_int K (by
    simp only [binOp, Op.intBits]
    rw [if_neg (by simp), rp_pure, ofInt_bv32, ofInt_bv32]
    exact congrArg some (bits32 .or (x ||| y)))
@[go_sem] theorem andV32 (t : TypeId) (cx cy : Bool) (x y : BitVec 32) : pu P (oBin .and t cx cy (V32 x) (V32 y)) K = K (V32 (x &&& y)) :=
  bin_int K (by
    simp only [binOp, Op.intBits]
    rw [if_neg (by simp), rp_pure, ofInt_bv32, ofInt_bv32]
    exact congrArg some (bits32 .and (x &&& y)))
@[go_sem] theorem shlV32 (t : TypeId) (cx cy : Bool) (j : IntKind) (x : BitVec 32) (y : Int) (h0 : 0 ≤ y) (h1 : y ≤ 32) : pu P (oBin .shl t cx cy (V32 x) (.int j y)) K = K (V32 (x <<< y.toNat)) :=
  bin_int K (by
    simp only [binOp, Op.shift]
    rw [if_neg (by omega), rp_pure, Nat.min_eq_left (show y.toNat ≤ IntKind.u32.bits from show y.toNat ≤ 32 by omega)]
    congr 1
    rw [show ((x.toNat : Int) * 2 ^ y.toNat) = ((x.toNat * 2 ^ y.toNat : Nat) : Int) by simp, wrap_bv32]
    unfold V32
    congr 2
    rw [BitVec.toNat_shiftLeft, BitVec.toNat_ofNat, Nat.shiftLeft_eq])
@[go_sem] theorem shrV32 (t : TypeId) (cx cy : Bool) (j : IntKind) (x : BitVec 32) (y : Int) (h0 : 0 ≤ y) (h1 : y ≤ 32) : pu P (oBin .shr t cx cy (V32 x) (.int j y)) K = K (V32 (x >>> y.toNat)) :=
  bin_int K (by
    simp only [binOp, Op.shift]
    rw [if_neg (by omega), rp_pure, Nat.min_eq_left (show y.toNat ≤ IntKind.u32.bits from show y.toNat ≤ 32 by omega)]
    congr 1
    unfold V32
    congr 1
    rw [BitVec.toNat_ushiftRight, Nat.shiftRight_eq_div_pow, Int.fdiv_eq_ediv_of_nonneg _ (by exact Int.le_of_lt (Int.pow_pos (by decide)))]
    simp)
@[go_sem] theorem eqV32 (t : TypeId) (cx cy : Bool) (x y : BitVec 32) : pu P (oBin .eql t cx cy (V32 x) (V32 y)) K = K (.bool (decide (x = y))) :=
  (oEql K t cx cy .u32 x.toNat y.toNat).trans (by
    congr 2
    by_cases h : x = y
    · simp [h]
    · have : ¬ (x.toNat : Int) = y.toNat := fun e => h (BitVec.eq_of_toNat_eq (by omega))
      simp [h, this])
def V64 (x : BitVec 64) : Value := .int .u64 (x.toNat : Int)
theorem wrap_bv64 (m : Nat) : IntKind.u64.wrap (m : Int) = ((BitVec.ofNat 64 m).toNat : Int) := by
  rw [BitVec.toNat_ofNat]
  simp [IntKind.wrap, IntKind.bits, IntKind.signed]
theorem ofInt_bv64 (x : BitVec 64) : BitVec.ofInt IntKind.u64.bits (x.toNat : Int) = x := by
  show BitVec.ofInt 64 (x.toNat : Int) = x
  rw [BitVec.ofInt_natCast]; simp
theorem bits64 (op : BinOp) (r : BitVec 64) : (Value.int .u64 (IntKind.u64.wrap (r.toNat : Int))) = V64 r := by
  rw [wrap_bv64]; simp [V64]
@[go_sem] theorem xorV64 (t : TypeId) (cx cy : Bool) (x y : BitVec 64) : pu P (oBin .xor t cx cy (V64 x) (V64 y)) K = K (V64 (x ^^^ y)) :=
  bin_int K (by
    simp only [binOp, Op.intBits]
    rw [if_neg (by simp), rp_pure, ofInt_bv64, ofInt_bv64]
    exact congrArg some (bits64 .xor (x ^^^ y)))
@[go_sem] theorem orV64 (t : TypeId) (cx cy : Bool) (x y : BitVec 64) : pu P (oBin .or t cx cy (V64 x) (V64 y)) K = K (V64 (x ||| y)) :=
  bin_int K (by
    simp only [binOp, Op.intBits]
    rw [if_neg (by simp), rp_pure, ofInt_bv64, ofInt_bv64]
    exact congrArg some (bits64 .or (x ||| y)))
@[go_sem] theorem andV64 (t : TypeId) (cx cy : Bool) (x y : BitVec 64) : pu P (oBin .and t cx cy (V64 x) (V64 y)) K = K (V64 (x &&& y)) :=
  bin_int K (by
    simp only [binOp, Op.intBits]
    rw [if_neg (by simp), rp_pure, ofInt_bv64, ofInt_bv64]
    exact congrArg some (bits64 .and (x &&& y)))
@[go_sem] theorem shlV64 (t : TypeId) (cx cy : Bool) (j : IntKind) (x : BitVec 64) (y : Int) (h0 : 0 ≤ y) (h1 : y ≤ 64) : pu P (oBin .shl t cx cy (V64 x) (.int j y)) K = K (V64 (x <<< y.toNat)) :=
  bin_int K (by
    simp only [binOp, Op.shift]
    rw [if_neg (by omega), rp_pure, Nat.min_eq_left (show y.toNat ≤ IntKind.u64.bits from show y.toNat ≤ 64 by omega)]
    congr 1
    rw [show ((x.toNat : Int) * 2 ^ y.toNat) = ((x.toNat * 2 ^ y.toNat : Nat) : Int) by simp, wrap_bv64]
    unfold V64
    congr 2
    rw [BitVec.toNat_shiftLeft, BitVec.toNat_ofNat, Nat.shiftLeft_eq])
@[go_sem] theorem shrV64 (t : TypeId) (cx cy : Bool) (j : IntKind) (x : BitVec 64) (y : Int) (h0 : 0 ≤ y) (h1 : y ≤ 64) : pu P (oBin .shr t cx cy (V64 x) (.int j y)) K = K (V64 (x >>> y.toNat)) :=
  bin_int K (by
    simp only [binOp, Op.shift]
    rw [if_neg (by omega), rp_pure, Nat.min_eq_left (show y.toNat ≤ IntKind.u64.bits from show y.toNat ≤ 64 by omega)]
    congr 1
    unfold V64
    congr 1
    rw [BitVec.toNat_ushiftRight, Nat.shiftRight_eq_div_pow, Int.fdiv_eq_ediv_of_nonneg _ (by exact Int.le_of_lt (Int.pow_pos (by decide)))]
    simp)
@[go_sem] theorem eqV64 (t : TypeId) (cx cy : Bool) (x y : BitVec 64) : pu P (oBin .eql t cx cy (V64 x) (V64 y)) K = K (.bool (decide (x = y))) :=
  (oEql K t cx cy .u64 x.toNat y.toNat).trans (by
    congr 2
    by_cases h : x = y
    · simp [h]
    · have : ¬ (x.toNat : Int) = y.toNat := fun e => h (BitVec.eq_of_toNat_eq (by omega))
      simp [h, this])
def V16 (x : BitVec 16) : Value := .int .u16 (x.toNat : Int)
theorem wrap_bv16 (m : Nat) : IntKind.u16.wrap (m : Int) = ((BitVec.ofNat 16 m).toNat : Int) := by
  rw [BitVec.toNat_ofNat]
  simp [IntKind.wrap, IntKind.bits, IntKind.signed]
theorem ofInt_bv16 (x : BitVec 16) : BitVec.ofInt IntKind.u16.bits (x.toNat : Int) = x := by
  show BitVec.ofInt 16 (x.toNat : Int) = x
  rw [BitVec.ofInt_natCast]; simp
theorem bits16 (op : BinOp) (r : BitVec 16) : (Value.int .u16 (IntKind.u16.wrap (r.toNat : Int))) = V16 r := by
  rw [wrap_bv16]; simp [V16]
@[go_sem] theorem xorV16 (t : TypeId) (cx cy : Bool) (x y : BitVec 16) : pu P (oBin .xor t cx cy (V16 x) (V16 y)) K = K (V16 (x ^^^ y)) :=
  bin_int K (by
    simp only [binOp, Op.intBits]
    rw [if_neg (by simp), rp_pure, ofInt_bv16, ofInt_bv16]
    exact congrArg some (bits16 .xor (x ^^^ y)))
@[go_sem] theorem orV16 (t : TypeId) (cx cy : Bool) (x y : BitVec 16) : pu P (oBin .or t cx cy (V16 x) (V16 y)) K = K (V16 (x ||| y)) :=
  bin_int K (by
    simp only [binOp, Op.intBits]
    rw [if_neg (by simp), rp_pure, ofInt_bv16, ofInt_bv16]
    exact congrArg some (bits16 .or (x ||| y)))
@[go_sem] theorem andV16 (t : TypeId) (cx cy : Bool) (x y : BitVec 16) : pu P (oBin .and t cx cy (V16 x) (V16 y)) K = K (V16 (x &&& y)) :=
  bin_int K (by
    simp only [binOp, Op.intBits]
    rw [if_neg (by simp), rp_pure, ofInt_bv16, ofInt_bv16]
    exact congrArg some (bits16 .and (x &&& y)))
@[go_sem] theorem shlV16 (t : TypeId) (cx cy : Bool) (j : IntKind) (x : BitVec 16) (y : Int) (h0 : 0 ≤ y) (h1 : y ≤ 16) : pu P (oBin .shl t cx cy (V16 x) (.int j y)) K = K (V16 (x <<< y.toNat)) :=
  bin_int K (by
    simp only [binOp, Op.shift]
    rw [if_neg (by omega), rp_pure, Nat.min_eq_left (show y.toNat ≤ IntKind.u16.bits from show y.toNat ≤ 16 by omega)]
    congr 1
    rw [show ((x.toNat : Int) * 2 ^ y.toNat) = ((x.toNat * 2 ^ y.toNat : Nat) : Int) by simp, wrap_bv16]
    unfold V16
    congr 2
    rw [BitVec.toNat_shiftLeft, BitVec.toNat_ofNat, Nat.shiftLeft_eq])
@[go_sem] theorem shrV16 (t : TypeId) (cx cy : Bool) (j : IntKind) (x : BitVec 16) (y : Int) (h0 : 0 ≤ y) (h1 : y ≤ 16) : pu P (oBin .shr t cx cy (V16 x) (.int j y)) K = K (V16 (x >>> y.toNat)) :=
  bin_int K (by
    simp only [binOp, Op.shift]
    rw [if_neg (by omega), rp_pure, Nat.min_eq_left (show y.toNat ≤ IntKind.u16.bits from show y.toNat ≤ 16 by omega)]
    congr 1
    unfold V16
    congr 1
    rw [BitVec.toNat_ushiftRight, Nat.shiftRight_eq_div_pow, Int.fdiv_eq_ediv_of_nonneg _ (by exact Int.le_of_lt (Int.pow_pos (by decide)))]
    simp)
@[go_sem] theorem eqV16 (t : TypeId) (cx cy : Bool) (x y : BitVec 16) : pu P (oBin .eql t cx cy (V16 x) (V16 y)) K = K (.bool (decide (x = y))) :=
  (oEql K t cx cy .u16 x.toNat y.toNat).trans (by
    congr 2
    by_cases h : x = y
    · simp [h]
    · have : ¬ (x.toNat : Int) = y.toNat := fun e => h (BitVec.eq_of_toNat_eq (by omega))
      simp [h, this])
def V8 (x : BitVec 8) : Value := .int .u8 (x.toNat : Int)
theorem wrap_bv8 (m : Nat) : IntKind.u8.wrap (m : Int) = ((BitVec.ofNat 8 m).toNat : Int) := by
  rw [BitVec.toNat_ofNat]
  simp [IntKind.wrap, IntKind.bits, IntKind.signed]
theorem ofInt_bv8 (x : BitVec 8) : BitVec.ofInt IntKind.u8.bits (x.toNat : Int) = x := by
  show BitVec.ofInt 8 (x.toNat : Int) = x
  rw [BitVec.ofInt_natCast]; simp
theorem bits8 (op : BinOp) (r : BitVec 8) : (Value.int .u8 (IntKind.u8.wrap (r.toNat : Int))) = V8 r := by
  rw [wrap_bv8]; simp [V8]
@[go_sem] theorem xorV8 (t : TypeId) (cx cy : Bool) (x y : BitVec 8) : pu P (oBin .xor t cx cy (V8 x) (V8 y)) K = K (V8 (x ^^^ y)) :=
  bin_int K (by
    simp only [binOp, Op.intBits]
    rw [if_neg (by simp), rp_pure, ofInt_bv8, ofInt_bv8]
    exact congrArg some (bits8 .xor (x ^^^ y)))
@[go_sem] theorem orV8 (t : TypeId) (cx cy : Bool) (x y : BitVec 8) : pu P (oBin .or t cx cy (V8 x) (V8 y)) K = K (V8 (x ||| y)) :=
  bin_int K (by
    simp only [binOp, Op.intBits]
    rw [if_neg (by simp), rp_pure, ofInt_bv8, ofInt_bv8]
    exact congrArg some (bits8 .or (x ||| y)))
@[go_sem] theorem andV8 (t : TypeId) (cx cy : Bool) (x y : BitVec 8) : pu P (oBin .and t cx cy (V8 x) (V8 y)) K = K (V8 (x &&& y)) :=
  bin_int K (by
    simp only [binOp, Op.intBits]
    rw [if_neg (by simp), rp_pure, ofInt_bv8, ofInt_bv8]
    exact congrArg some (bits8 .and (x &&& y)))
@[go_sem] theorem shlV8 (t : TypeId) (cx cy : Bool) (j : IntKind) (x : BitVec 8) (y : Int) (h0 : 0 ≤ y) (h1 : y ≤ 8) : pu P (oBin .shl t cx cy (V8 x) (.int j y)) K = K (V8 (x <<< y.toNat)) :=
  bin_int K (by
    simp only [binOp, Op.shift]
    rw [if_neg (by omega), rp_pure, Nat.min_eq_left (show y.toNat ≤ IntKind.u8.bits from show y.toNat ≤ 8 by omega)]
    congr 1
    rw [show ((x.toNat : Int) * 2 ^ y.toNat) = ((x.toNat * 2 ^ y.toNat : Nat) : Int) by simp, wrap_bv8]
    unfold V8
    congr 2
    rw [BitVec.toNat_shiftLeft, BitVec.toNat_ofNat, Nat.shiftLeft_eq])
@[go_sem] theorem shrV8 (t : TypeId) (cx cy : Bool) (j : IntKind) (x : BitVec 8) (y : Int) (h0 : 0 ≤ y) (h1 : y ≤ 8) : pu P (oBin .shr t cx cy (V8 x) (.int j y)) K = K (V8 (x >>> y.toNat)) :=
  bin_int K (by
    simp only [binOp, Op.shift]
    rw [if_neg (by omega), rp_pure, Nat.min_eq_left (show y.toNat ≤ IntKind.u8.bits from show y.toNat ≤ 8 by omega)]
    congr 1
    unfold V8
    congr 1
    rw [BitVec.toNat_ushiftRight, Nat.shiftRight_eq_div_pow, Int.fdiv_eq_ediv_of_nonneg _ (by exact Int.le_of_lt (Int.pow_pos (by decide)))]
    simp)
@[go_sem] theorem eqV8 (t : TypeId) (cx cy : Bool) (x y : BitVec 8) : pu P (oBin .eql t cx cy (V8 x) (V8 y)) K = K (.bool (decide (x = y))) :=
  (oEql K t cx cy .u8 x.toNat y.toNat).trans (by
    congr 2
    by_cases h : x = y
    · simp [h]
    · have : ¬ (x.toNat : Int) = y.toNat := fun e => h (BitVec.eq_of_toNat_eq (by omega))
      simp [h, this])
end
end Go.X
end
section
namespace Go.X
open Go Go.RowKit
section
variable {P : Program} (K : Value → World → Prop) (w : World)
theorem oSlice_lo (L : Value → Prop) {tB tE : TypeId} {size : Nat} (h2 : P.underlying tB = some (.slice tE)) (hs : (P.info? tE).map (·.size) = some size) {b o n m : Nat} {k : IntKind} {lo : Int} (a0 : 0 ≤ lo) (a1 : lo ≤ n) (a2 : n ≤ m) :
    pu P (oSlice tB (sl b o n m) (some (.int k lo)) none none) L = L (sl b (if m = lo.toNat then o else o + lo.toNat * size) (n - lo.toNat) (m - lo.toNat)) :=
  pu_v' (by
    simp only [Instr.sliceAt, Instr.slice, Instr.sliceBounds]
    simp [rp_bind, rp_underlying h2, rp_sliceBound k lo n _ a0 a1, rp_size hs, rp_map]
    split <;> simp [Addr.add_lit, rp_map, rp_size hs])
theorem oSlice_hi (L : Value → Prop) {tB tE : TypeId} {size : Nat} (h2 : P.underlying tB = some (.slice tE)) (hs : (P.info? tE).map (·.size) = some size) {b o n m : Nat} {j : IntKind} {hi : Int} (a1 : 0 ≤ hi) (a2 : hi ≤ m) :
    pu P (oSlice tB (sl b o n m) none (some (.int j hi)) none) L = L (sl b o hi.toNat m) :=
  pu_v' (by
    simp only [Instr.sliceAt, Instr.slice, Instr.sliceBounds]
    simp [rp_bind, rp_underlying h2, rp_sliceBound j hi m _ a1 a2, rp_size hs, rp_map]
    intro h; simp [Addr.add_lit])
end
end Go.X
end
section
namespace Go.X
open Go Go.RowKit Go.WideShapes Go.Deep
end Go.X
end
section
namespace Go.X
open Go Go.RowKit
section
variable {P : Program} (K : Value → World → Prop) (w : World)
theorem own_nil (w : World) (B : Nat) (e : TypeId) (size : Nat) : w.ownsRow B e size (.slice none 0 0) 0 [] := ⟨by simp, .inl ⟨rfl, rfl⟩⟩
theorem own_old {w w' : World} {B C : Nat} {e : TypeId} {size : Nat} {v : Value} {n : Nat} {xs : List Value} (h : w.ownsRow B e size v n xs) (hb : Below C w w') (hC : w.heap.size ≤ C) : w'.ownsRow B e size v n xs := by
  refine ⟨h.1, ?_⟩
  rcases h.2 with h | ⟨g, cap, cur, h1, h2, h3, h4⟩
  · exact .inl h
  · refine .inr ⟨g, cap, cur, h1, h2, ?_, h4⟩
    have hg : g < w.heap.size := (Array.getElem?_eq_some_iff.1 h3).1
    rw [hb.block g (by omega)]; exact h3
theorem own_bel {w w' : World} {B : Nat} {e : TypeId} {size : Nat} {v : Value} {n : Nat} {xs : List Value} (h : w.ownsRow B e size v n xs) (hg : w.grownBy w' v.ownBlock) (hB : B ≤ w.heap.size) : Below B w w' :=
  (Below.refl B w).grown hg hB fun k hk => (h.lt k hk).1
theorem own_slice {w : World} {B : Nat} {e : TypeId} {size : Nat} {v : Value} {n : Nat} {xs : List Value} (h : w.ownsRow B e size v n xs) : ∃ a cap, v = .slice a n cap := by
  rcases h.2 with ⟨rfl, rfl⟩ | ⟨g, cap, cur, rfl, _⟩
  · exact ⟨_, _, rfl⟩
  · exact ⟨_, _, rfl⟩
theorem own_row {w : World} {B : Nat} {e : TypeId} {size : Nat} {v : Value} {n : Nat} {xs : List Value} (h : w.ownsRow B e size v n xs) (hn : n ≠ 0) : ∃ b cap cur, v = sl b 0 n cap ∧ n ≤ cap ∧ B ≤ b ∧ b < w.heap.size ∧ bk w b = some (CB cur e) ∧ cur.length = cap * size ∧ cur.take (n * size) = xs := by
  rcases h.2 with ⟨_, h0⟩ | ⟨g, cap, cur, rfl, h1, h2, h3, h4, h5, h6⟩
  · exact absurd h0 hn
  · exact ⟨g, cap, cur.toList, rfl, h3, h1, (Array.getElem?_eq_some_iff.1 h2).1, by unfold bk; rw [h2], by simpa using h5, h6⟩
theorem oAppend_own {t e : TypeId} {z : Value} {size bytes : Nat} {cs : Array Bool} {ty : TypeId} (ht : P.underlying t = some (.slice e)) (hi : (P.info? e).map (fun i => (i.zero, i.size, i.bytes)) = some (some z, size, bytes)) (hzs : z.cells.size = size) (hsz : 0 < size)
    {B : Nat} {v : Value} {n : Nat} {xs : List Value} (hown : w.ownsRow B e size v n xs) {b o m c : Nat} {news : List Value} (hl : news.length = m * size) (r : rowOf (bk w b) o news.length = some news) (h1 : ∀ u ∈ news, u.oneCell' = true)
    (h63 : n + m ≤ maxLen) (hbytes : (n + m) * bytes ≤ 140737488355328) (hbase : B ≤ w.heap.size)
    (h : ∀ v' w', w'.ownsRow B e size v' (n + m) (xs ++ news) → Below B w w' → K v' w') : st P (oBuiltin .append #[t, t] ty cs #[v, sl b o m c]) w K := by
  cases hie : P.info? e with
  | none => rw [hie] at hi; cases hi
  | some i =>
  rw [hie] at hi
  simp only [Option.map_some, Option.some.injEq, Prod.mk.injEq] at hi
  obtain ⟨hz, hs, hb⟩ := hi
  obtain ⟨c', t', fz, e1, e2, e3⟩ := rowOf_inv r
  have hnews : ∀ j u, news[j]? = some u → w.cell? ((⟨b, o, none⟩ : Addr).add j) = some u := fun j u hj => by
    have hjl := (List.getElem?_eq_some_iff.1 hj).1
    rw [Addr.add_lit, cell?_eq, e1]
    show c'[o + j]? = _
    rw [← e3, List.getElem?_take_of_lt hjl, List.getElem?_drop, Array.getElem?_toList] at hj
    exact hj
  obtain ⟨v', w', hr, hown', hg, _⟩ := run_append_own (P := P) w B t ty e i z size bytes ht hie hz hs hb hzs hsz v n xs hown ⟨b, o, none⟩ m c news hl hnews h1 h63 hbytes hbase
  have := st_eq_value (K := K) (run_v' hr)
  rw [show st P (oBuiltin .append #[t, t] ty cs #[v, sl b o m c]) w K = K v' w' from this]
  exact h _ _ hown' (own_bel hown hg hbase)
theorem oBuildSliceN {tB tE : TypeId} {z : Value} {size : Nat} (h2 : P.underlying tB = some (.slice tE)) (hi : (P.info? tE).map (fun i => (i.zero, i.size)) = some (some z, size)) (h0 : 0 < size) (h24 : size ≤ 16777216) {l : List Value} (hl : l.length = size) :
    st P (oBuildSlice tB 1 #[(0, AG l)]) w K = K (sl w.heap.size 0 1 1) (w.alloc (CB l tE)) := by
  cases hie : P.info? tE with
  | none => rw [hie] at hi; cases hi
  | some ie =>
  rw [hie] at hi
  simp only [Option.map_some, Option.some.injEq, Prod.mk.injEq] at hi
  obtain ⟨hz, hs⟩ := hi
  refine st_eq_value (run_v' (run_buildSlice w tB tE 1 _ l.toArray ie z h2 hie hz (by rw [hs]; omega) (by rw [hs]; omega) ?_))
  rw [hs]
  have hsz : (Array.map (fun x => z.cells[x % z.cells.size]!) (Array.range (1 * size))).size = size := by simp
  generalize Array.map (fun x => z.cells[x % z.cells.size]!) (Array.range (1 * size)) = zs at hsz ⊢
  have hc : (AG l).cells = l.toArray := rfl
  have hok : (decide (l.toArray.size ≠ size) || decide (0 * size + l.toArray.size > zs.size)) = false := by simp [hl, hsz]
  simp only [Instr.fill, hc, hok, Bool.false_eq_true, if_false]
  have e : (l.toArray.zipIdx.foldl (fun cs (x : Value × Nat) => cs.setIfInBounds (0 * size + x.2) x.1) zs) = l.toArray := by
    apply Array.toList_inj.1
    have := foldl_set (0 * size) l 0 zs (by simp [hl, hsz])
    rw [← Array.foldl_toList]
    simp only [Array.toList_zipIdx]
    rw [this]
    have hz0 : zs.toList.length = size := by simpa using hsz
    simp [List.drop_eq_nil_of_le, hl, hz0]
  exact congrArg some e
end
end Go.X
end
section
namespace Go.X
open Go Go.RowKit
end Go.X
end
section
namespace Go.X
open Go Go.RowKit
section
variable {P : Program} {K : Value → Prop} {L : Value → World → Prop}
@[go_sem high] theorem gd_undef (want : Bool) (w : World) (X : (Value → World → Prop) → Prop) (K : Value → World → Prop) : gd undef want w X K = K undef w :=
  propext ⟨fun x => x.h, fun x => ⟨x⟩⟩
theorem oNeqNil {t : TypeId} {ms : Array (String × TypeId)} (h : P.underlying t = some (.interface ms)) (cx : Bool) : pu P (oBin .neq t cx true .nilIface .nilIface) K = K (.bool false) :=
  pu_v' (by
    have e : rp P (eqGuard .neq t (fl cx) (fl true) .nilIface .nilIface) = some () := by unfold eqGuard; cases cx <;> rfl
    rw [rp_bind, e]
    show rp P (binOp .neq t .nilIface .nilIface) = _
    have h2 : ∀ d : Nat, rp P (Op.equalIn (d + 1) t .nilIface .nilIface) = some true := fun d => by simp [Op.equalIn, rp_bind, rp_underlying h]
    simp only [binOp]
    simp [Op.equal, Op.maxDepth, h2 9999, rp_bind, rp_map])
end
end Go.X
end
section
namespace Go.X
open Go Go.RowKit
section
variable {P : Program} {L : Value → World → Prop} {w : World}
theorem oAppend_own_at {t e : TypeId} {z : Value} {size bytes : Nat} {cs : Array Bool} {ty : TypeId} (ht : P.underlying t = some (.slice e)) (hi : (P.info? e).map (fun i => (i.zero, i.size, i.bytes)) = some (some z, size, bytes)) (hzs : z.cells.size = size) (hsz : 0 < size)
    {B : Nat} {v : Value} {n : Nat} {xs : List Value} (hown : w.ownsRow B e size v n xs) {b o m c : Nat} {news : List Value} (hl : news.length = m * size) (r : rowOf (bk w b) o news.length = some news) (h1 : ∀ u ∈ news, u.oneCell' = true)
    (h63 : n + m ≤ maxLen) (hbytes : (n + m) * bytes ≤ 140737488355328) (hbase : B ≤ w.heap.size)
    (h : ∀ v' w', w'.ownsRow B e size v' (n + m) (xs ++ news) → w.grownBy w' v.ownBlock → (v'.ownBlock = v.ownBlock ∨ v'.ownBlock = some w.heap.size) → L v' w') : st P (oBuiltin .append #[t, t] ty cs #[v, sl b o m c]) w L := by
  cases hie : P.info? e with
  | none => rw [hie] at hi; cases hi
  | some i =>
  rw [hie] at hi
  simp only [Option.map_some, Option.some.injEq, Prod.mk.injEq] at hi
  obtain ⟨hz, hs, hb⟩ := hi
  obtain ⟨c', t', fz, e1, e2, e3⟩ := rowOf_inv r
  have hnews : ∀ j u, news[j]? = some u → w.cell? ((⟨b, o, none⟩ : Addr).add j) = some u := fun j u hj => by
    have hjl := (List.getElem?_eq_some_iff.1 hj).1
    rw [Addr.add_lit, cell?_eq, e1]
    show c'[o + j]? = _
    rw [← e3, List.getElem?_take_of_lt hjl, List.getElem?_drop, Array.getElem?_toList] at hj
    exact hj
  obtain ⟨v', w', hr, hown', hg, _, ha⟩ := run_append_own_at (P := P) w B t ty e i z size bytes ht hie hz hs hb hzs hsz v n xs hown ⟨b, o, none⟩ m c news hl hnews h1 h63 hbytes hbase
  have := st_eq_value (K := L) (run_v' hr)
  rw [show st P (oBuiltin .append #[t, t] ty cs #[v, sl b o m c]) w L = L v' w' from this]
  exact h _ _ hown' hg ha
structure Kp (w w' : World) (S : Nat → Prop) : Prop where
  os : w'.os = w.os
  tape : w'.tape = w.tape
  output : w'.output = w.output
  size : w.heap.size ≤ w'.heap.size
  block : ∀ k, k < w.heap.size → ¬ S k → bk w' k = bk w k
theorem Kp.refl (w : World) (S : Nat → Prop) : Kp w w S := ⟨rfl, rfl, rfl, Nat.le_refl _, fun _ _ _ => rfl⟩
theorem Kp.trans {a b c : World} {S T : Nat → Prop} (h : Kp a b S) (k : Kp b c T) (hT : ∀ x, x < a.heap.size → T x → S x) : Kp a c S :=
  ⟨k.os.trans h.os, k.tape.trans h.tape, k.output.trans h.output, Nat.le_trans h.size k.size, fun x hx hs => (k.block x (Nat.lt_of_lt_of_le hx h.size) fun ht => hs (hT x hx ht)).trans (h.block x hx hs)⟩
theorem Kp.of_below {w w' : World} (h : Below w.heap.size w w') (S : Nat → Prop) : Kp w w' S := ⟨h.os, h.tape, h.output, h.size, fun k hk _ => h.block k hk⟩
theorem Kp.of_grown {w w' : World} {row : Option Nat} (h : w.grownBy w' row) : Kp w w' fun k => row = some k := ⟨h.os, h.tape, h.output, h.size, fun k hk hn => h.block k hk fun e => hn e.symm⟩
theorem Kp.setb (w : World) (b : Nat) (o : Obj) : Kp w (setb w b o) fun k => k = b := ⟨rfl, rfl, rfl, by simp only [go_sem]; exact Nat.le_refl _, fun k hk hn => bk_setb_ne _ _ _ _ hn⟩
theorem Kp.drew (w : World) (S : Nat → Prop) : Kp w w.drew S := ⟨rfl, rfl, rfl, Nat.le_refl _, fun _ _ _ => rfl⟩
theorem Kp.below {w w' : World} {S : Nat → Prop} {B : Nat} (h : Kp w w' S) (hS : ∀ k, k < B → ¬ S k) (hB : B ≤ w.heap.size) : Below B w w' := ⟨h.os, h.tape, h.output, h.size, fun k hk => h.block k (by omega) (hS k hk)⟩
theorem own_kp {w w' : World} {S : Nat → Prop} {B : Nat} {e : TypeId} {size : Nat} {v : Value} {n : Nat} {xs : List Value} (h : w.ownsRow B e size v n xs) (hb : Kp w w' S) (hS : ∀ k, v.ownBlock = some k → ¬ S k) : w'.ownsRow B e size v n xs := by
  refine ⟨h.1, ?_⟩
  rcases h.2 with h | ⟨g, cap, cur, rfl, h1, h2, h3, h4, h5, h6⟩
  · exact .inl h
  · have hlt := (Array.getElem?_eq_some_iff.1 h2).1
    have e1 := hb.block g hlt (hS g rfl)
    exact .inr ⟨g, cap, cur, rfl, h1, by unfold bk at e1; rw [e1, h2], h3, h4, h5, h6⟩
end
end Go.X
end
section
namespace Go.X
open Go Go.RowKit
section
variable {P : Program} {L : Value → World → Prop} {w : World}
theorem grown_refl (w : World) (r : Option Nat) : w.grownBy w r := ⟨rfl, rfl, rfl, Nat.le_refl _, fun _ _ _ => rfl⟩
end
end Go.X
end
section
namespace Go.X
open Go Go.RowKit
structure Fp where
  own : Nat → Prop
  use : Nat → Prop
def Fp.step (n : Nat) (F G : Fp) : Prop := ∀ b, b < n → (G.own b → F.own b) ∧ (G.use b → F.use b)
theorem Fp.step_refl (n : Nat) (F : Fp) : Fp.step n F F := fun _ _ => ⟨id, id⟩
theorem Fp.step_trans {n m : Nat} {F G H : Fp} (h : Fp.step n F G) (k : Fp.step m G H) (hnm : n ≤ m) : Fp.step n F H := fun b hb =>
  ⟨fun x => (h b hb).1 ((k b (by omega)).1 x), fun x => (h b hb).2 ((k b (by omega)).2 x)⟩
def Fp.sep (F G : Fp) : Prop := ∀ b, (F.own b → ¬ G.use b) ∧ (G.own b → ¬ F.use b)
theorem Fp.sep.symm {F G : Fp} (h : Fp.sep F G) : Fp.sep G F := fun b => ⟨(h b).2, (h b).1⟩
def Fp.in_ (F : Fp) (n : Nat) : Prop := ∀ b, F.use b → b < n
theorem Fp.sep.step {F F' G : Fp} {n : Nat} (h : Fp.sep F G) (k : Fp.step n F F') (hs : ∀ b, G.own b → G.use b) (hG : G.in_ n) : Fp.sep F' G := fun b => by
  refine ⟨fun x y => ?_, fun x y => ?_⟩
  · have := hG b y
    exact (h b).1 ((k b this).1 x) y
  · have := hG b (hs b x)
    exact (h b).2 x ((k b this).2 y)
structure Tr (w w' : World) (F F' : Fp) : Prop where
  kp : Kp w w' F.own
  st : Fp.step w.heap.size F F'
theorem Tr.refl (w : World) (F : Fp) : Tr w w F F := ⟨Kp.refl w _, Fp.step_refl _ _⟩
theorem Tr.trans {a b c : World} {F G H : Fp} (h : Tr a b F G) (k : Tr b c G H) : Tr a c F H :=
  ⟨h.kp.trans k.kp fun x hx hG => (h.st x hx).1 hG, Fp.step_trans h.st k.st h.kp.size⟩
theorem Tr.of_below {w w' : World} (h : Below w.heap.size w w') (F : Fp) : Tr w w' F F := ⟨Kp.of_below h _, Fp.step_refl _ _⟩
theorem Tr.after {a b c : World} {F G : Fp} (h : Tr a b F G) (k : Below b.heap.size b c) : Tr a c F G := h.trans (Tr.of_below k G)
theorem Tr.before {a b c : World} {F G : Fp} (k : Below a.heap.size a b) (h : Tr b c F G) : Tr a c F G := (Tr.of_below k F).trans h
section
variable {P : Program} {L : Value → World → Prop} {w : World}
theorem own_kp2 {w w' : World} {S : Nat → Prop} {B : Nat} {e : TypeId} {size : Nat} {v : Value} {n : Nat} {xs : List Value} (h : w.ownsRow B e size v n xs) (hb : Kp w w' S) (hS : ∀ k, v.ownBlock = some k → ¬ S k) : w'.ownsRow B e size v n xs := own_kp h hb hS
theorem own_in {w : World} {B n size : Nat} {e : TypeId} {v : Value} {xs : List Value} (h : w.ownsRow B e size v n xs) : ∀ k, v.ownBlock = some k → B ≤ k ∧ k < w.heap.size := fun k hk => by
  rcases h.2 with ⟨rfl, _⟩ | ⟨g, cap, cur, rfl, h1, h2, h3⟩
  · cases hk
  · injection hk with hk
    subst hk
    exact ⟨h1, (Array.getElem?_eq_some_iff.1 h2).1⟩
def RowS (w : World) (x : Value) (m : Nat) (news : List Value) : Prop := (∃ b o c, x = sl b o m c ∧ rowOf (bk w b) o news.length = some news) ∨ (m = 0 ∧ news = [] ∧ ∃ a c, x = .slice a 0 c)
theorem RowS.old {w w' : World} {x : Value} {m : Nat} {news : List Value} (h : RowS w x m news) (hb : Below w.heap.size w w') : RowS w' x m news := by
  rcases h with ⟨b, o, c, e, r⟩ | h
  · refine .inl ⟨b, o, c, e, ?_⟩
    have : b < w.heap.size := by
      obtain ⟨c', t', fz, e1, _, _⟩ := rowOf_inv r
      exact bk_lt e1
    rw [bel_bk hb this]; exact r
  · exact .inr h
theorem RowS.kp {w w' : World} {x : Value} {m : Nat} {news : List Value} {S : Nat → Prop} (h : RowS w x m news) (k : Kp w w' S) (hS : ∀ b, x.ownBlock = some b → ¬ S b) : RowS w' x m news := by
  rcases h with ⟨b, o, c, e, r⟩ | h
  · refine .inl ⟨b, o, c, e, ?_⟩
    have : b < w.heap.size := by
      obtain ⟨c', t', fz, e1, _, _⟩ := rowOf_inv r
      exact bk_lt e1
    rw [k.block b this (hS b (by rw [e]; rfl))]; exact r
  · exact .inr h
theorem oAppendR {t e : TypeId} {z : Value} {size bytes : Nat} {cs : Array Bool} {ty : TypeId} (ht : P.underlying t = some (.slice e)) (hi : (P.info? e).map (fun i => (i.zero, i.size, i.bytes)) = some (some z, size, bytes)) (hzs : z.cells.size = size) (hsz : 0 < size)
    {B : Nat} {v : Value} {n : Nat} {xs : List Value} (hown : w.ownsRow B e size v n xs) {x : Value} {m : Nat} {news : List Value} (hx : RowS w x m news) (hl : news.length = m * size) (h1 : ∀ u ∈ news, u.oneCell' = true)
    (h63 : n + m ≤ maxLen) (hbytes : (n + m) * bytes ≤ 140737488355328) (hbase : B ≤ w.heap.size)
    (h : ∀ v' w', w'.ownsRow B e size v' (n + m) (xs ++ news) → w.grownBy w' v.ownBlock → (v'.ownBlock = v.ownBlock ∨ v'.ownBlock = some w.heap.size) → L v' w') : st P (oBuiltin .append #[t, t] ty cs #[v, x]) w L := by
  rcases hx with ⟨b, o, c, rfl, r⟩ | ⟨rfl, rfl, a, c, rfl⟩
  · exact oAppend_own_at ht hi hzs hsz hown hl r h1 h63 hbytes hbase h
  · obtain ⟨a', cap, rfl⟩ := own_slice hown
    cases hie : P.info? e with
    | none => rw [hie] at hi; cases hi
    | some ie =>
    have hle : n ≤ cap := by
      rcases hown.2 with ⟨e1, rfl⟩ | ⟨g, cap', cur, e1, h3, h4, h5, h6, h7, h8⟩
      · exact Nat.zero_le _
      · injection e1 with _ _ e3; omega
    have hs : Src P ie.size t (.slice a 0 c) 0 [] w := by
      cases a with
      | none => exact Src.ofNil w ht c
      | some ad => exact Src.ofSlice w ht ad 0 c [] (by simp) (fun j u hj => by simp at hj) (fun u hu => by cases hu)
    have hr := run_append_nothing w t t ty e ie ht hie a' n cap hle (.slice a 0 c) hs
    have := st_eq_value (K := L) (run_v' hr)
    rw [show st P (oBuiltin .append #[t, t] ty cs #[.slice a' n cap, .slice a 0 c]) w L = L (.slice a' n cap) w from this]
    exact h _ _ (by simpa using hown) (grown_refl w _) (.inl rfl)
theorem own_idx {tB tE : TypeId} {size : Nat} (h2 : P.underlying tB = some (.slice tE)) (hs : (P.info? tE).map (·.size) = some size) {B : Nat} {v : Value} {n : Nat} {xs : List Value} (h : w.ownsRow B tE size v n xs) {i : Nat} (hi : i < n) :
    ∃ g cur, v.ownBlock = some g ∧ B ≤ g ∧ bk w g = some (CB cur tE) ∧ n * size ≤ cur.length ∧ cur.take (n * size) = xs ∧ ∀ (k : IntKind) (M : Value → Prop), pu P (oIdxA tB v (.int k i)) M = M (pt g (i * size)) := by
  obtain ⟨b, cap, cur, rfl, h3, h4, h5, h6, h7, h8⟩ := own_row h (by omega)
  refine ⟨b, cur, rfl, h4, h6, by rw [h7]; exact Nat.mul_le_mul_right _ h3, h8, fun k M => ?_⟩
  rw [oIdxA_sl (size := size) M h2 hs (by omega) (by omega), Int.toNat_natCast, Nat.zero_add]
theorem own_set {tE : TypeId} {size : Nat} {B : Nat} {v : Value} {n : Nat} {xs : List Value} (h : w.ownsRow B tE size v n xs) {g : Nat} {cur cur' : List Value} (hg : v.ownBlock = some g) (hb : bk w g = some (CB cur tE)) (hl : cur'.length = cur.length) (o : Obj) (ho : o = CB cur' tE) :
    (setb w g o).ownsRow B tE size v n (cur'.take (n * size)) := by
  subst ho
  rcases h.2 with ⟨rfl, rfl⟩ | ⟨g', cap, c0, rfl, h3, h4, h5, h6, h7, h8⟩
  · cases hg
  · have e : g' = g := Option.some.inj hg
    subst e
    have hb2 : bk w g' = some (.cells c0 tE (0, 0)) := h4
    rw [hb] at hb2
    injection hb2 with hb2
    injection hb2 with hb2
    subst hb2
    have h9 : n * size ≤ cap * size := Nat.mul_le_mul_right _ h5
    simp only [List.size_toArray] at h7
    refine ⟨by rw [List.length_take, hl, h7]; omega, .inr ⟨g', cap, cur'.toArray, rfl, h3, ?_, h5, h6, by simp [hl, h7], rfl⟩⟩
    exact bk_setb_eq _ _ _ _ rfl (bk_lt hb)
end
section
variable {α : Type} {emb : α → Value} {P : Program} {w w' : World}
def VS (emb : α → Value) (w : World) (v : Value) (l : List α) : Prop :=
  (l = [] ∧ ∃ a cap, v = .slice a 0 cap) ∨ ∃ b o cap, v = sl b o l.length cap ∧ l.length ≤ cap ∧ rowOf (bk w b) o l.length = some (l.map emb) ∧ b < w.heap.size
theorem VS.kp {v : Value} {l : List α} {S : Nat → Prop} (h : VS emb w v l) (k : Kp w w' S) (hS : ∀ b, v.ownBlock = some b → ¬ S b) : VS emb w' v l := by
  rcases h with h | ⟨b, o, cap, rfl, h2, h3, h4⟩
  · exact .inl h
  · exact .inr ⟨b, o, cap, rfl, h2, by rw [k.block b h4 (hS b rfl)]; exact h3, Nat.lt_of_lt_of_le h4 k.size⟩
theorem VS.old {v : Value} {l : List α} (h : VS emb w v l) (k : Below w.heap.size w w') : VS emb w' v l := by
  rcases h with h | ⟨b, o, cap, rfl, h2, h3, h4⟩
  · exact .inl h
  · exact .inr ⟨b, o, cap, rfl, h2, by rw [bel_bk k h4]; exact h3, Nat.lt_of_lt_of_le h4 k.size⟩
theorem VS.slice {v : Value} {l : List α} (h : VS emb w v l) : ∃ a cap, v = .slice a l.length cap := by
  rcases h with ⟨rfl, a, cap, h⟩ | ⟨b, o, cap, h1, _⟩
  · exact ⟨a, cap, h⟩
  · exact ⟨_, cap, h1⟩
theorem VS.row {v : Value} {l : List α} (h : VS emb w v l) : RowS w v l.length (l.map emb) := by
  rcases h with ⟨rfl, a, cap, h⟩ | ⟨b, o, cap, rfl, h2, h3, h4⟩
  · exact .inr ⟨rfl, rfl, a, cap, h⟩
  · exact .inl ⟨b, o, cap, rfl, by rw [List.length_map]; exact h3⟩
theorem VS.own {B : Nat} {e : TypeId} {v : Value} {l : List α} (h : w.ownsRow B e 1 v l.length (l.map emb)) : VS emb w v l := by
  by_cases h0 : l.length = 0
  · obtain ⟨a, cap, rfl⟩ := own_slice h
    exact .inl ⟨List.length_eq_zero_iff.1 h0, a, cap, by rw [h0]⟩
  · obtain ⟨b, cap, cur, rfl, h1, h2, h3, h4, h5, h6⟩ := own_row h h0
    refine .inr ⟨b, 0, cap, rfl, h1, ?_, h3⟩
    rw [h4]
    simp only [rowOf]
    rw [Nat.mul_one] at h5 h6
    rw [if_pos (by simp only [List.size_toArray]; omega)]
    simpa using h6
theorem VS.lo {tB tE : TypeId} (h2 : P.underlying tB = some (.slice tE)) (hs : (P.info? tE).map (·.size) = some 1) {v : Value} {l : List α} (h : VS emb w v l) {p : Nat} (hp : p ≤ l.length) :
    ∃ v', VS emb w v' (l.drop p) ∧ (∀ b, v'.ownBlock = some b → v.ownBlock = some b) ∧ ∀ (k : IntKind) (L : Value → Prop), pu P (oSlice tB v (some (.int k p)) none none) L = L v' := by
  rcases h with ⟨rfl, a, cap, rfl⟩ | ⟨b, o, cap, rfl, h3, h4, h5⟩
  · have hp0 : p = 0 := by simpa using hp
    subst hp0
    have hx : rp P (sizeOf tE) = some 1 := rp_size hs
    cases a with
    | none =>
      refine ⟨.slice none 0 cap, .inl ⟨rfl, _, _, rfl⟩, fun b hb => hb, fun k L => ?_⟩
      exact pu_v' (by
        simp only [Instr.sliceAt, Instr.slice, Instr.sliceBounds]
        simp [rp_bind, rp_map, rp_underlying h2, rp_sliceBound k 0 0 _ (by omega) (by omega), hx])
    | some ad =>
      refine ⟨.slice (some ad) 0 cap, .inl ⟨rfl, _, _, rfl⟩, fun b hb => hb, fun k L => ?_⟩
      exact pu_v' (by
        simp only [Instr.sliceAt, Instr.slice, Instr.sliceBounds]
        simp [rp_bind, rp_map, rp_underlying h2, rp_sliceBound k 0 0 _ (by omega) (by omega), hx]
        intro h
        simp [Addr.add])
  · refine ⟨sl b (if cap = p then o else o + p * 1) (l.length - p) (cap - p), ?_, fun b hb => hb, fun k L => ?_⟩
    · by_cases e : l.length - p = 0
      · exact .inl ⟨List.drop_eq_nil_of_le (by omega), some ⟨b, if cap = p then o else o + p * 1, none⟩, cap - p, by rw [e]⟩
      · refine .inr ⟨b, _, _, by rw [List.length_drop], by rw [List.length_drop]; omega, ?_, h5⟩
        rw [if_neg (by omega), Nat.mul_one]
        obtain ⟨c', t', fz, e1, e2, e3⟩ := rowOf_inv h4
        rw [e1]
        simp only [rowOf, List.length_drop]
        rw [if_pos (by omega)]
        congr 1
        rw [List.map_drop, ← e3]
        apply List.ext_getElem?
        intro i
        by_cases hi : i < l.length - p
        · rw [List.getElem?_take_of_lt hi, List.getElem?_drop, List.getElem?_drop, List.getElem?_take_of_lt (by omega), List.getElem?_drop]
          congr 1; omega
        · rw [List.getElem?_eq_none (by simp; omega), List.getElem?_eq_none (by simp; omega)]
    · rw [oSlice_lo (size := 1) L h2 hs (by omega) (by omega) (by omega), Int.toNat_natCast]
theorem VS.hi {tB tE : TypeId} (h2 : P.underlying tB = some (.slice tE)) (hs : (P.info? tE).map (·.size) = some 1) {v : Value} {l : List α} (h : VS emb w v l) {q : Nat} (hq : q ≤ l.length) :
    ∃ v', VS emb w v' (l.take q) ∧ (∀ b, v'.ownBlock = some b → v.ownBlock = some b) ∧ ∀ (j : IntKind) (L : Value → Prop), pu P (oSlice tB v none (some (.int j q)) none) L = L v' := by
  rcases h with ⟨rfl, a, cap, rfl⟩ | ⟨b, o, cap, rfl, h3, h4, h5⟩
  · have hq0 : q = 0 := by simpa using hq
    subst hq0
    have hx : rp P (sizeOf tE) = some 1 := rp_size hs
    refine ⟨.slice a 0 cap, .inl ⟨rfl, _, _, rfl⟩, fun b hb => hb, fun j L => ?_⟩
    cases a with
    | none =>
      exact pu_v' (by
        simp only [Instr.sliceAt, Instr.slice, Instr.sliceBounds]
        simp [rp_bind, rp_map, rp_underlying h2, rp_sliceBound j 0 cap _ (by omega) (by omega), hx])
    | some ad =>
      exact pu_v' (by
        simp only [Instr.sliceAt, Instr.slice, Instr.sliceBounds]
        simp [rp_bind, rp_map, rp_underlying h2, rp_sliceBound j 0 cap _ (by omega) (by omega), hx]
        intro h
        simp [Addr.add])
  · refine ⟨sl b o q cap, ?_, fun b hb => hb, fun j L => ?_⟩
    · by_cases e : q = 0
      · subst e
        exact .inl ⟨by simp, some ⟨b, o, none⟩, cap, rfl⟩
      · have el : (l.take q).length = q := by simp; omega
        refine .inr ⟨b, o, cap, by rw [el], by rw [el]; omega, ?_, h5⟩
        obtain ⟨c', t', fz, e1, e2, e3⟩ := rowOf_inv h4
        rw [e1]
        simp only [rowOf, el]
        rw [if_pos (by omega)]
        congr 1
        rw [List.map_take, ← e3, List.take_take, Nat.min_eq_left hq]
    · rw [oSlice_hi (size := 1) L h2 hs (by omega) (by omega), Int.toNat_natCast]
theorem VS.idx {tB tE : TypeId} (h2 : P.underlying tB = some (.slice tE)) (hs : (P.info? tE).map (·.size) = some 1) {v : Value} {l : List α} (h : VS emb w v l) {i : Nat} (hi : i < l.length) :
    ∃ b o, v.ownBlock = some b ∧ b < w.heap.size ∧ cellOf (bk w b) o = some (emb l[i]) ∧ ∀ (k : IntKind) (L : Value → Prop), pu P (oIdxA tB v (.int k i)) L = L (pt b o) := by
  rcases h with ⟨rfl, _⟩ | ⟨b, o, cap, rfl, h3, h4, h5⟩
  · simp at hi
  · refine ⟨b, o + i, rfl, h5, ?_, fun k L => ?_⟩
    · obtain ⟨c', t', fz, e1, e2, e3⟩ := rowOf_inv h4
      rw [e1]
      show c'[o + i]? = _
      have : ((c'.toList.drop o).take l.length)[i]? = (l.map emb)[i]? := by rw [e3]
      rw [List.getElem?_take_of_lt hi, List.getElem?_drop] at this
      simpa [hi] using this
    · rw [oIdxA_sl (size := 1) L h2 hs (by omega) (by omega), Int.toNat_natCast, Nat.mul_one]
end
section
variable {P : Program} {L : Value → World → Prop} {w : World}
theorem oMkRow {tB tE : TypeId} {z : Value} {bytes : Nat} (h2 : P.underlying tB = some (.slice tE)) (hi : (P.info? tE).map (fun i => (i.zero, i.size, i.bytes)) = some (some z, 1, bytes)) (hz : z.cells = #[z]) (n : Nat) (hn : bytes * n ≤ 281474976710656) (hn2 : n ≤ 281474976710656) :
    st P (oMkSlice tB (.int .i64 n) (.int .i64 n)) w L = L (sl w.heap.size 0 n n) (w.alloc (CB (List.replicate n z) tE)) := by
  have h := run_make_row' (P := P) tB tE z bytes h2 hi hz .i64 .i64 n (by omega) (by omega) w
  have e : madeCells #[z] n = (List.replicate n z).toArray := by
    apply Array.toList_inj.1
    apply List.ext_getElem
    · simp [madeCells]
    · intro i h1 h2
      simp [madeCells, Nat.mod_one]
  rw [e] at h
  exact st_eq_value (run_v' h)
end
end Go.X
end
section
namespace Go.X
open Go Go.RowKit Go.WideShapes Go.Deep
section
variable {H : Type} {enc : TypeId × Value → H} {P : Program} {W : World}
theorem open_elems {t e : TypeId} {size fuel : Nat} {cs : List Value} {x : DataW H × List MemPlace} (ht : P.underlying t = some (.slice e)) (hc : P.cellsOf e = size) (h0 : 0 < size) (h : DataW.trod enc P W 0 (fun _ => true) true fuel t cs = some x) :
    (∃ a cap, cs = [.slice a 0 cap]) ∨ ∃ b o n cap, cs = [sl b o n cap] ∧ n ≤ cap ∧ cap ≤ maxLen ∧ b < W.heap.size ∧ n ≠ 0 ∧ ∃ m, ∀ i, i < n → ∃ c y, rowOf (bk W b) (o + i * size) size = some c ∧ DataW.trod enc P W 0 (fun _ => true) true m e c = some y := by
  rcases open_slice ht h with ⟨h1, _⟩ | ⟨a, n, cap, m, k, D, Pl, rfl, _, h2, h3, h4, _, h5⟩
  · exact .inl ⟨none, 0, h1⟩
  · by_cases hn : n = 0
    · subst hn; exact .inl ⟨_, _, rfl⟩
    simp only [if_true] at h4
    subst h4
    obtain ⟨c0, hc0, _⟩ := h5 0 (by omega)
    obtain ⟨_, hl0, hg0⟩ := World.cells?_some hc0
    rw [hc] at hl0
    have h00 := hg0 0 (by omega)
    have hne : c0[0]? ≠ none := by rw [List.getElem?_eq_getElem (by omega)]; simp
    have hspot : a.spot = none := by
      cases hs : a.spot with
      | none => rfl
      | some s =>
        exfalso
        have hs2 : ((a.add (0 * P.cellsOf e)).add 0).spot = some s := by
          rw [Nat.zero_mul]
          exact hs
        unfold World.cell? at h00
        rw [hs2] at h00
        split at h00
        · simp at h00; rw [h00] at hl0; simp at hl0; omega
        · exact hne h00.symm
    obtain ⟨b, o, sp⟩ := a
    simp only at hspot
    subst hspot
    have row : ∀ i, i < n → ∃ c y, rowOf (bk W b) (o + i * size) size = some c ∧ DataW.trod enc P W 0 (fun _ => true) true k e c = some y := fun i hi => by
      obtain ⟨c, hc1, hc2⟩ := h5 i (by omega)
      obtain ⟨_, hl, hg⟩ := World.cells?_some hc1
      rw [hc] at hl hg
      refine ⟨c, _, ?_, hc2⟩
      have cell : ∀ j, j < size → cellOf (bk W b) (o + i * size + j) = c[j]? := fun j hj => by
        have := hg j hj
        rw [Addr.add_lit, Addr.add_lit, cell?_eq] at this
        exact this
      have hz := cell (size - 1) (by omega)
      have hlt : c[size - 1]? ≠ none := by rw [List.getElem?_eq_getElem (by omega)]; simp
      unfold cellOf at hz
      split at hz
      · rename_i cc tt fz hb
        rw [hb] at cell ⊢
        simp only [rowOf]
        have hlast : o + i * size + (size - 1) < cc.size := by
          refine Nat.lt_of_not_le fun hle => hlt ?_
          rw [← hz, Array.getElem?_eq_none hle]
        rw [if_pos (by omega)]
        congr 1
        apply List.ext_getElem?
        intro j
        by_cases hj : j < size
        · rw [List.getElem?_take_of_lt hj, List.getElem?_drop]
          have : cc[o + i * size + j]? = c[j]? := cell j hj
          rw [Array.getElem?_toList, this]
        · rw [List.getElem?_eq_none (by simp; omega), List.getElem?_eq_none (by omega)]
      · exact absurd hz.symm hlt
    refine .inr ⟨b, o, n, _, rfl, h2, h3, ?_, hn, k, row⟩
    obtain ⟨c, y, hr, _⟩ := row 0 (by omega)
    obtain ⟨c', t', fz, e1, _⟩ := rowOf_inv hr
    exact bk_lt e1
theorem open_bytes_cell {t e : TypeId} {fuel : Nat} {cs : List Value} {x : DataW H × List MemPlace} (ht : P.underlying t = some (.slice e)) (he : P.underlying e = some (.int .u8)) (hc : P.cellsOf e = 1) (h : DataW.trod enc P W 0 (fun _ => true) true fuel t cs = some x) :
    ∃ v l, cs = [v] ∧ BS W v l ∧ l.length ≤ maxLen := by
  rcases open_elems ht hc (by omega) h with ⟨a, cap, rfl⟩ | ⟨b, o, n, cap, rfl, h1, h2, h3, h4, m, h5⟩
  · exact ⟨_, [], rfl, .inl ⟨rfl, _, _, rfl⟩, by simp⟩
  · have hx : ∀ i, i < n → ∃ z : UInt8, rowOf (bk W b) (o + i) 1 = some [byt z] := fun i hi => by
      obtain ⟨c, y, e1, e2⟩ := h5 i hi
      obtain ⟨q, rfl, _, e3⟩ := DataW.trod_int he e2
      simp only [Lit.wf, Bool.and_eq_true, decide_eq_true_eq] at e3
      have z0 : 0 ≤ q := e3.1
      have z1 : q ≤ 255 := e3.2
      refine ⟨UInt8.ofNat q.toNat, ?_⟩
      rw [Nat.mul_one] at e1
      rw [e1, byt]
      congr 3
      simp
      omega
    have hlist : ∃ l : List UInt8, l.length = n ∧ ∀ i (hi : i < l.length), rowOf (bk W b) (o + i) 1 = some [byt l[i]] := by
      refine ⟨(List.range n).map fun i => match rowOf (bk W b) (o + i) 1 with | some [.int _ q] => UInt8.ofNat q.toNat | _ => 0, by simp, fun i hi => ?_⟩
      obtain ⟨z, hz⟩ := hx i (by simpa using hi)
      simp only [List.getElem_map, List.getElem_range, hz, byt]
      simp
    obtain ⟨l, hl, hV⟩ := hlist
    subst hl
    refine ⟨_, l, rfl, .inr ⟨b, o, cap, rfl, h1, ?_, h3⟩, by omega⟩
    have cell : ∀ i (hi : i < l.length), cellOf (bk W b) (o + i) = some (byt l[i]) := fun i hi => by
      have hr := hV i hi
      obtain ⟨c, tt, fz, e1, e2, e3⟩ := rowOf_inv hr
      rw [e1]
      show c[o + i]? = _
      have := congrArg (·[0]?) e3
      simp only [List.getElem?_take_of_lt (show 0 < 1 by omega), List.getElem?_drop, Nat.add_zero, Array.getElem?_toList] at this
      simpa using this
    unfold rowB
    have hlast := hV (l.length - 1) (by omega)
    obtain ⟨c, tt, fz, e1, e2, e3⟩ := rowOf_inv hlast
    rw [e1] at cell ⊢
    simp only [rowOf]
    have e2' : o + (l.length - 1) + 1 ≤ c.size := e2
    rw [if_pos (by omega)]
    congr 1
    apply List.ext_getElem?
    intro i
    by_cases hi : i < l.length
    · rw [List.getElem?_take_of_lt hi, List.getElem?_drop, Array.getElem?_toList]
      have : c[o + i]? = some (byt l[i]) := cell i hi
      rw [this]
      simp [hi]
    · rw [List.getElem?_eq_none (by simp; omega), List.getElem?_eq_none (by simp; omega)]
end
end Go.X
end
section
namespace Go.Proofs.Ytfiepdikejoeeaa.X
open Go Go.X Go.Proofs
def J_laws_FnMergeNothing_1 (t28 : Value) (t0 : Value) (t30 : Value) (t33 : Value) (K : Value → World → Prop) (s3 : List Value) (u3 : Env) (w6 : World) : Prop :=
 pu P (oBuiltin .len #[T.sl_impl_Info] T.int #[false] #[t28]) fun t56 =>
 pu P (oBuiltin .len #[T.sl_impl_Entry] T.int #[false] #[t0]) fun t58 =>
 pu P (oBin .eql T.int false false t56 t58) fun t59 =>
 gd t59 true w6 (fun K1 => K1 t28 w6) fun t61 w7 =>
 gd t59 true w7 (fun K2 => K2 t30 w7) fun t62 w8 =>
 gd t59 true w8 (fun K3 => st P (oCall Fn.laws_sameInfos #[t61, t62]) w8 K3) fun t63 w9 =>
 pu P (oPick t59 t63 (.bool false)) fun t64 =>
 gd t64 true w9 (fun K4 => K4 t28 w9) fun t66 w10 =>
 gd t64 true w10 (fun K5 => K5 t33 w10) fun t67 w11 =>
 gd t64 true w11 (fun K6 => st P (oCall Fn.laws_sameInfos #[t66, t67]) w11 K6) fun t68 w12 =>
 pu P (oPick t64 t68 (.bool false)) fun t69 =>
 K (tup [t69]) w12
def J_laws_FnMergeNothing_2 (s4 : List Value) (C1 : List Value → World → Prop) (s6 : List Value) (u6 : Env) (w15 : World) : Prop :=
 pu P (oBin .add T.int false true (gs s4 0) (.int .i64 1)) fun t54 =>
 C1 [t54] w15
def J_laws_FnMergeNothing_3 (s4 : List Value) (C1 : List Value → World → Prop) (t28 : Value) (K : Value → World → Prop) (s5 : List Value) (u5 : Env) (w14 : World) : Prop :=
 jn (J_laws_FnMergeNothing_2 s4 C1) fun k5 =>
 pu P (oIdxA T.sl_impl_Info t28 (gs s4 0)) fun t39 =>
 st P (oLoad T.impl_Info t39) w14 fun t40 w16 =>
 st P (oAlloc T.impl_Info) w16 fun t7 w17 =>
 st P (oStore T.impl_Info t7 t40) w17 fun _ w18 =>
 pu P (oBin .gtr T.int false true (gs s4 0) (.int .i64 0)) fun t42 =>
 gd t42 true w18.drew (fun K7 => K7 t28 w18.drew) fun t44 w19 =>
 gd t42 true w19 (fun K8 => K8 (gs s4 0) w19) fun t45 w20 =>
 gd t42 true w20 (fun K9 => pu P (oBin .sub T.int false true t45 (.int .i64 1)) fun v => K9 v w20) fun t46 w21 =>
 gd t42 true w21 (fun K10 => pu P (oIdxA T.sl_impl_Info t44 t46) fun v => K10 v w21) fun t47 w22 =>
 gd t42 true w22 (fun K11 => pu P (oFldA T.impl_Info t47 0) fun v => K11 v w22) fun t48 w23 =>
 gd t42 true w23 (fun K12 => rd P (oLoad T.string t48) w23 fun v => K12 v w23) fun t49 w24 =>
 gd t42 true w24 (fun K13 => pu P (oFldA T.impl_Info t7 0) fun v => K13 v w24) fun t50 w25 =>
 gd t42 true w25 (fun K14 => rd P (oLoad T.string t50) w25 fun v => K14 v w25) fun t51 w26 =>
 gd t42 true w26 (fun K15 => pu P (oBin .geq T.string false false t49 t51) fun v => K15 v w26) fun t52 w27 =>
 pu P (oPick t42 t52 (.bool false)) fun t53 =>
 cd t53 (
 K (tup [(.bool false)]) w27) (
 k5 [] w27)
def J_laws_FnMergeNothing_4 (t0 : Value) (K : Value → World → Prop) (s2 : List Value) (u2 : Env) (w2 : World) : Prop :=
 st P (oCall Fn.impl_MergeDirs #[t0, (.slice none 0 0)]) w2 fun t28 w3 =>
 st P (oCall Fn.impl_MergeDirs #[(.slice none 0 0), t0]) w3 fun t30 w4 =>
 st P (oCall Fn.impl_MergeDirs #[t0, t0]) w4 fun t33 w5 =>
 jn (J_laws_FnMergeNothing_1 t28 t0 t30 t33 K) fun k3 =>
 pu P (oBuiltin .len #[T.sl_impl_Info] T.int #[false] #[t28]) fun t35 =>
 lp [(.int .i64 0)] w5 fun s4 u4 w13 C1 =>
 pu P (oBin .lss T.int false false (gs s4 0) t35) fun t37 =>
 jn (J_laws_FnMergeNothing_3 s4 C1 t28 K) fun k4 =>
 cd t37 (
 k4 [] w13) (
 k3 [] w13)
def J_laws_FnMergeNothing_5 (t0 : Value) (K : Value → World → Prop) (s1 : List Value) (u1 : Env) (w1 : World) : Prop :=
 jn (J_laws_FnMergeNothing_4 t0 K) fun k2 =>
 st P (oCall Fn.laws_listed #[t0]) w1 fun t12 w28 =>
 pu P (oUn .not t12) fun t13 =>
 gd t13 false w28 (fun K16 => K16 t0 w28) fun t15 w29 =>
 gd t13 false w29 (fun K17 => st P (oCall Fn.laws_lastNames #[t15]) w29 K17) fun t16 w30 =>
 gd t13 false w30 (fun K18 => pu P (oBuiltin .len #[T.sl_string] T.int #[false] #[t16]) fun v => K18 v w30) fun t17 w31 =>
 gd t13 false w31 (fun K19 => K19 t0 w31) fun t18 w32 =>
 gd t13 false w32 (fun K20 => pu P (oBuiltin .len #[T.sl_impl_Entry] T.int #[false] #[t18]) fun v => K20 v w32) fun t19 w33 =>
 gd t13 false w33 (fun K21 => pu P (oBin .neq T.int false false t17 t19) fun v => K21 v w33) fun t20 w34 =>
 pu P (oPick t13 (.bool true) t20) fun t21 =>
 gd t21 false w34 (fun K22 => K22 t0 w34) fun t23 w35 =>
 gd t21 false w35 (fun K23 => pu P (oBuiltin .len #[T.sl_impl_Entry] T.int #[false] #[t23]) fun v => K23 v w35) fun t24 w36 =>
 gd t21 false w36 (fun K24 => pu P (oBin .eql T.int false true t24 (.int .i64 0)) fun v => K24 v w36) fun t25 w37 =>
 pu P (oPick t21 (.bool true) t25) fun t26 =>
 cd t26 (
 K (tup [(.bool true)]) w37) (
 k2 [] w37)
def F_laws_FnMergeNothing (t0 : Value) (w : World) (K : Value → World → Prop) : Prop :=
 jn (J_laws_FnMergeNothing_5 t0 K) fun k1 =>
 st P (oCall Fn.laws_zzFits15 #[t0]) w fun t9 w38 =>
 pu P (oUn .not t9) fun t10 =>
 cd t10 (
 K (tup [(.bool true)]) w38) (
 k1 [] w38)
def Tb_laws_FnMergeNothing : Tab := { join := fun n => match n with | _ => [], loop := fun n => match n with | 7 => [36] | _ => [] }
theorem S_laws_FnMergeNothing {t0 : Value} {w : World} {K : Value → World → Prop} (h : F_laws_FnMergeNothing t0 w K) : Cl P Fn.laws_FnMergeNothing #[t0] w K :=
  cl_of_eq (T := Tb_laws_FnMergeNothing) (args := [t0]) Try.func3 rfl follows_mixed (by kernel_rfl) (Nat.le_of_ble_eq_true (by kernel_rfl)) (by kernel_rfl) h
def F_laws_zzFits15 (t0 : Value) (w : World) (K : Value → World → Prop) : Prop :=
 jn (fun s1 u1 w1 =>
 jn (fun s2 u2 w2 =>
 K (tup [(.bool true)]) w2) fun k2 =>
 pu P (oBuiltin .len #[T.sl_impl_Entry] T.int #[false] #[t0]) fun t9 =>
 lp [(.int .i64 0)] w1 fun s3 u3 w3 C1 =>
 pu P (oBin .lss T.int false false (gs s3 0) t9) fun t11 =>
 jn (fun s4 u4 w4 =>
 jn (fun s5 u5 w5 =>
 pu P (oBin .add T.int false true (gs s3 0) (.int .i64 1)) fun t17 =>
 C1 [t17] w5) fun k4 =>
 pu P (oIdxA T.sl_impl_Entry t0 (gs s3 0)) fun t12 =>
 st P (oLoad T.impl_Entry t12) w4 fun t13 w6 =>
 st P (oAlloc T.impl_Entry) w6 fun t4 w7 =>
 st P (oStore T.impl_Entry t4 t13) w7 fun _ w8 =>
 st P (oLoad T.impl_Entry t4) w8 fun t14 w9 =>
 st P (oCall Fn.laws_zzFits16 #[t14]) w9 fun t15 w10 =>
 pu P (oUn .not t15) fun t16 =>
 cd t16 (
 K (tup [(.bool false)]) w10) (
 k4 [] w10)) fun k3 =>
 cd t11 (
 k3 [] w3) (
 k2 [] w3)) fun k1 =>
 pu P (oBuiltin .len #[T.sl_impl_Entry] T.int #[false] #[t0]) fun t6 =>
 pu P (oBin .gtr T.int false true t6 (.int .i64 2147483647)) fun t7 =>
 cd t7 (
 K (tup [(.bool false)]) w) (
 k1 [] w)
def Tb_laws_zzFits15 : Tab := { join := fun n => match n with | _ => [], loop := fun n => match n with | 4 => [10] | _ => [] }
theorem S_laws_zzFits15 {t0 : Value} {w : World} {K : Value → World → Prop} (h : F_laws_zzFits15 t0 w K) : Cl P Fn.laws_zzFits15 #[t0] w K :=
  cl_of_eq (T := Tb_laws_zzFits15) (args := [t0]) Try.func4 rfl follows_mixed (by kernel_rfl) (Nat.le_of_ble_eq_true (by kernel_rfl)) (by kernel_rfl) h
def F_laws_listed (t0 : Value) (w : World) (K : Value → World → Prop) : Prop :=
 jn (fun s1 u1 w1 =>
 jn (fun s2 u2 w2 =>
 K (tup [(.bool true)]) w2) fun k2 =>
 pu P (oBuiltin .len #[T.sl_impl_Entry] T.int #[false] #[t0]) fun t9 =>
 lp [(.int .i64 0)] w1 fun s3 u3 w3 C1 =>
 pu P (oBin .lss T.int false false (gs s3 0) t9) fun t11 =>
 jn (fun s4 u4 w4 =>
 jn (fun s5 u5 w5 =>
 pu P (oBin .add T.int false true (gs s3 0) (.int .i64 1)) fun t72 =>
 C1 [t72] w5) fun k4 =>
 pu P (oIdxA T.sl_impl_Entry t0 (gs s3 0)) fun t12 =>
 st P (oLoad T.impl_Entry t12) w4 fun t13 w6 =>
 st P (oAlloc T.impl_Entry) w6 fun t4 w7 =>
 st P (oStore T.impl_Entry t4 t13) w7 fun _ w8 =>
 pu P (oFldA T.impl_Entry t4 0) fun t14 =>
 rd P (oLoad T.string t14) w8.drew fun t15 =>
 st P (oCall Fn.spec_Rooted #[t15]) w8.drew fun t16 w9 =>
 pu P (oUn .not t16) fun t17 =>
 gd t17 false w9 (fun K1 => pu P (oFldA T.impl_Entry t4 0) fun v => K1 v w9) fun t19 w10 =>
 gd t17 false w10 (fun K2 => rd P (oLoad T.string t19) w10 fun v => K2 v w10) fun t20 w11 =>
 gd t17 false w11 (fun K3 => pu P (oFldA T.impl_Entry t4 0) fun v => K3 v w11) fun t22 w12 =>
 gd t17 false w12 (fun K4 => rd P (oLoad T.string t22) w12 fun v => K4 v w12) fun t23 w13 =>
 gd t17 false w13 (fun K5 => st P (oCall Fn.spec_MemName #[t20]) w13 K5) fun t21 w14 =>
 (isb t17 false = true → hold P (oLoad T.string t22) t23 w14) ∧ gd t17 false w14 (fun K6 => pu P (oBin .neq T.string false false t21 t23) fun v => K6 v w14) fun t24 w15 =>
 pu P (oPick t17 (.bool true) t24) fun t25 =>
 gd t25 false w15 (fun K7 => pu P (oFldA T.impl_Entry t4 0) fun v => K7 v w15) fun t27 w16 =>
 gd t25 false w16 (fun K8 => rd P (oLoad T.string t27) w16 fun v => K8 v w16) fun t28 w17 =>
 gd t25 false w17 (fun K9 => pu P (oBin .eql T.string false true t28 (S [47])) fun v => K9 v w17) fun t29 w18 =>
 pu P (oPick t25 (.bool true) t29) fun t30 =>
 gd t30 false w18 (fun K10 => pu P (oFldA T.impl_Entry t4 0) fun v => K10 v w18) fun t32 w19 =>
 gd t30 false w19 (fun K11 => rd P (oLoad T.string t32) w19 fun v => K11 v w19) fun t33 w20 =>
 gd t30 false w20 (fun K12 => pu P (oBuiltin .len #[T.string] T.int #[false] #[t33]) fun v => K12 v w20) fun t34 w21 =>
 gd t30 false w21 (fun K13 => pu P (oBin .gtr T.int false true t34 (.int .i64 200)) fun v => K13 v w21) fun t35 w22 =>
 pu P (oPick t30 (.bool true) t35) fun t36 =>
 gd t36 false w22 (fun K14 => pu P (oFldA T.impl_Entry t4 2) fun v => K14 v w22) fun t38 w23 =>
 gd t36 false w23 (fun K15 => rd P (oLoad T.bool t38) w23 fun v => K15 v w23) fun t39 w24 =>
 gd t36 false w24 (fun K16 => pu P (oFldA T.impl_Entry t4 1) fun v => K16 v w24) fun t40 w25 =>
 gd t36 false w25 (fun K17 => rd P (oLoad T.int t40) w25 fun v => K17 v w25) fun t41 w26 =>
 gd t36 false w26 (fun K18 => pu P (oBin .and T.int false true t41 (.int .i64 2147483648)) fun v => K18 v w26) fun t42 w27 =>
 gd t36 false w27 (fun K19 => pu P (oBin .neq T.int false true t42 (.int .i64 0)) fun v => K19 v w27) fun t43 w28 =>
 gd t36 false w28 (fun K20 => pu P (oBin .neq T.bool false false t39 t43) fun v => K20 v w28) fun t44 w29 =>
 pu P (oPick t36 (.bool true) t44) fun t45 =>
 gd t45 false w29 (fun K21 => pu P (oFldA T.impl_Entry t4 1) fun v => K21 v w29) fun t47 w30 =>
 gd t45 false w30 (fun K22 => rd P (oLoad T.int t47) w30 fun v => K22 v w30) fun t48 w31 =>
 gd t45 false w31 (fun K23 => pu P (oBin .andNot T.int false true t48 (.int .i64 2161115647)) fun v => K23 v w31) fun t49 w32 =>
 gd t45 false w32 (fun K24 => pu P (oBin .neq T.int false true t49 (.int .i64 0)) fun v => K24 v w32) fun t50 w33 =>
 pu P (oPick t45 (.bool true) t50) fun t51 =>
 gd t51 false w33 (fun K25 => pu P (oFldA T.impl_Entry t4 4) fun v => K25 v w33) fun t53 w34 =>
 gd t51 false w34 (fun K26 => rd P (oLoad T.int64 t53) w34 fun v => K26 v w34) fun t54 w35 =>
 gd t51 false w35 (fun K27 => pu P (oBin .lss T.int64 false true t54 (.int .i64 0)) fun v => K27 v w35) fun t55 w36 =>
 pu P (oPick t51 (.bool true) t55) fun t56 =>
 gd t56 false w36 (fun K28 => pu P (oFldA T.impl_Entry t4 4) fun v => K28 v w36) fun t58 w37 =>
 gd t56 false w37 (fun K29 => rd P (oLoad T.int64 t58) w37 fun v => K29 v w37) fun t59 w38 =>
 gd t56 false w38 (fun K30 => pu P (oBin .gtr T.int64 false true t59 (.int .i64 8589934592)) fun v => K30 v w38) fun t60 w39 =>
 pu P (oPick t56 (.bool true) t60) fun t61 =>
 gd t61 false w39 (fun K31 => pu P (oFldA T.impl_Entry t4 2) fun v => K31 v w39) fun t63 w40 =>
 gd t61 false w40 (fun K32 => rd P (oLoad T.bool t63) w40 fun v => K32 v w40) fun t64 w41 =>
 gd t61 false w41 (fun K33 => K33 t64 w41) fun t65 w42 =>
 gd t65 true w42 (fun K34 => pu P (oFldA T.impl_Entry t4 3) fun v => K34 v w42) fun t66 w43 =>
 gd t65 true w43 (fun K35 => rd P (oLoad T.sl_uint8 t66) w43 fun v => K35 v w43) fun t67 w44 =>
 gd t65 true w44 (fun K36 => pu P (oBuiltin .len #[T.sl_uint8] T.int #[false] #[t67]) fun v => K36 v w44) fun t68 w45 =>
 gd t65 true w45 (fun K37 => pu P (oBin .gtr T.int false true t68 (.int .i64 0)) fun v => K37 v w45) fun t69 w46 =>
 gd t61 false w46 (fun K38 => pu P (oPick t65 t69 (.bool false)) fun v => K38 v w46) fun t70 w47 =>
 pu P (oPick t61 (.bool true) t70) fun t71 =>
 cd t71 (
 K (tup [(.bool false)]) w47) (
 k4 [] w47)) fun k3 =>
 cd t11 (
 k3 [] w3) (
 k2 [] w3)) fun k1 =>
 pu P (oBuiltin .len #[T.sl_impl_Entry] T.int #[false] #[t0]) fun t6 =>
 pu P (oBin .gtr T.int false true t6 (.int .i64 60)) fun t7 =>
 cd t7 (
 K (tup [(.bool false)]) w) (
 k1 [] w)
def Tb_laws_listed : Tab := { join := fun n => match n with | _ => [], loop := fun n => match n with | 4 => [10] | _ => [] }
theorem S_laws_listed {t0 : Value} {w : World} {K : Value → World → Prop} (h : F_laws_listed t0 w K) : Cl P Fn.laws_listed #[t0] w K :=
  cl_of_eq (T := Tb_laws_listed) (args := [t0]) Try.func5 rfl follows_mixed (by kernel_rfl) (Nat.le_of_ble_eq_true (by kernel_rfl)) (by kernel_rfl) h
def F_laws_lastNames (t0 : Value) (w : World) (K : Value → World → Prop) : Prop :=
 st P (oBuildSlice T.sl_string 0 #[]) w fun t7 w1 =>
 jn (fun s1 u1 w2 =>
 K (tup [(gs s1 0)]) w2) fun k1 =>
 pu P (oBuiltin .len #[T.sl_impl_Entry] T.int #[false] #[t0]) fun t9 =>
 lp [t7, (.int .i64 0)] w1 fun s2 u2 w3 C1 =>
 pu P (oBin .lss T.int false false (gs s2 1) t9) fun t11 =>
 jn (fun s3 u3 w4 =>
 jn (fun s4 u4 w5 =>
 pu P (oBin .add T.int false true (gs s2 1) (.int .i64 1)) fun t25 =>
 C1 [(gs s4 0), t25] w5) fun k3 =>
 pu P (oIdxA T.sl_impl_Entry t0 (gs s2 1)) fun t12 =>
 st P (oLoad T.impl_Entry t12) w4 fun t13 w6 =>
 st P (oAlloc T.impl_Entry) w6 fun t5 w7 =>
 st P (oStore T.impl_Entry t5 t13) w7 fun _ w8 =>
 pu P (oFldA T.impl_Entry t5 0) fun t14 =>
 st P (oLoad T.string t14) w8 fun t15 w9 =>
 st P (oCall Fn.spec_MemBase #[t15]) w9 fun t16 w10 =>
 st P (oCall Fn.laws_hasName #[(gs s2 0), t16]) w10 fun t19 w11 =>
 pu P (oUn .not t19) fun t20 =>
 cd t20 (
 st P (oBuildSlice T.sl_string 1 #[(0, t16)]) w11 fun t23 w12 =>
 st P (oBuiltin .append #[T.sl_string, T.sl_string] T.sl_string #[false, false] #[(gs s2 0), t23]) w12 fun t24 w13 =>
 k3 [t24] w13) (
 k3 [(gs s2 0)] w11)) fun k2 =>
 cd t11 (
 k2 [] w3) (
 k1 [(gs s2 0)] w3)
def Tb_laws_lastNames : Tab := { join := fun n => match n with | 8 => [3] | 9 => [3] | _ => [], loop := fun n => match n with | 3 => [3, 10] | _ => [] }
theorem S_laws_lastNames {t0 : Value} {w : World} {K : Value → World → Prop} (h : F_laws_lastNames t0 w K) : Cl P Fn.laws_lastNames #[t0] w K :=
  cl_of_eq (T := Tb_laws_lastNames) (args := [t0]) Try.func6 rfl follows_mixed (by kernel_rfl) (Nat.le_of_ble_eq_true (by kernel_rfl)) (by kernel_rfl) h
def F_impl_MergeDirs (t0 t1 : Value) (w : World) (K : Value → World → Prop) : Prop :=
 st P (oCall Fn.impl_infos #[t0]) w fun t9 w1 =>
 st P (oCall Fn.impl_infos #[t1]) w1 fun t11 w2 =>
 st P (oCall Fn.afero_DoorMerge #[t9, t11]) w2 fun t12 w3 =>
 pu P (oExtract t12 0) fun t13 =>
 pu P (oExtract t12 1) fun t14 =>
 jn (fun s1 u1 w4 =>
 st P (oCall Fn.impl_fromInfos #[t13]) w4 fun t18 w5 =>
 K (tup [t18]) w5) fun k1 =>
 pu P (oBin .neq T.error false true t14 .nilIface) fun t16 =>
 cd t16 (
 K (tup [(.slice none 0 0)]) w3) (
 k1 [] w3)
def Tb_impl_MergeDirs : Tab := { join := fun n => match n with | _ => [], loop := fun n => match n with | _ => [] }
theorem S_impl_MergeDirs {t0 t1 : Value} {w : World} {K : Value → World → Prop} (h : F_impl_MergeDirs t0 t1 w K) : Cl P Fn.impl_MergeDirs #[t0, t1] w K :=
  cl_of_eq (T := Tb_impl_MergeDirs) (args := [t0, t1]) Try.func7 rfl follows_mixed (by kernel_rfl) (Nat.le_of_ble_eq_true (by kernel_rfl)) (by kernel_rfl) h
def F_laws_sameInfos (t0 t1 : Value) (w : World) (K : Value → World → Prop) : Prop :=
 jn (fun s1 u1 w1 =>
 jn (fun s2 u2 w2 =>
 K (tup [(.bool true)]) w2) fun k2 =>
 pu P (oBuiltin .len #[T.sl_impl_Info] T.int #[false] #[t0]) fun t12 =>
 lp [(.int .i64 0)] w1 fun s3 u3 w3 C1 =>
 pu P (oBin .lss T.int false false (gs s3 0) t12) fun t14 =>
 jn (fun s4 u4 w4 =>
 jn (fun s5 u5 w5 =>
 pu P (oBin .add T.int false true (gs s3 0) (.int .i64 1)) fun t25 =>
 C1 [t25] w5) fun k4 =>
 pu P (oIdxA T.sl_impl_Info t0 (gs s3 0)) fun t18 =>
 rd P (oLoad T.impl_Info t18) w4.drew fun t19 =>
 pu P (oIdxA T.sl_impl_Info t1 (gs s3 0)) fun t22 =>
 rd P (oLoad T.impl_Info t22) w4.drew fun t23 =>
 pu P (oBin .neq T.impl_Info false false t19 t23) fun t24 =>
 cd t24 (
 K (tup [(.bool false)]) w4.drew) (
 k4 [] w4.drew)) fun k3 =>
 cd t14 (
 k3 [] w3) (
 k2 [] w3)) fun k1 =>
 pu P (oBuiltin .len #[T.sl_impl_Info] T.int #[false] #[t0]) fun t7 =>
 pu P (oBuiltin .len #[T.sl_impl_Info] T.int #[false] #[t1]) fun t9 =>
 pu P (oBin .neq T.int false false t7 t9) fun t10 =>
 cd t10 (
 K (tup [(.bool false)]) w) (
 k1 [] w)
def Tb_laws_sameInfos : Tab := { join := fun n => match n with | _ => [], loop := fun n => match n with | 4 => [13] | _ => [] }
theorem S_laws_sameInfos {t0 t1 : Value} {w : World} {K : Value → World → Prop} (h : F_laws_sameInfos t0 t1 w K) : Cl P Fn.laws_sameInfos #[t0, t1] w K :=
  cl_of_eq (T := Tb_laws_sameInfos) (args := [t0, t1]) Try.func8 rfl follows_mixed (by kernel_rfl) (Nat.le_of_ble_eq_true (by kernel_rfl)) (by kernel_rfl) h
def F_laws_zzFits16 (t0 : Value) (w : World) (K : Value → World → Prop) : Prop :=
 st P (oBox T.impl_Entry t0) w fun t1 w1 =>
 jn (fun s1 u1 w2 =>
 jn (fun s2 u2 w3 =>
 K (tup [(.bool true)]) w3) fun k2 =>
 pu P (oFldA T.impl_Entry t1 3) fun t7 =>
 st P (oLoad T.sl_uint8 t7) w2 fun t8 w4 =>
 pu P (oBuiltin .len #[T.sl_uint8] T.int #[false] #[t8]) fun t9 =>
 pu P (oBin .gtr T.int false true t9 (.int .i64 2147483647)) fun t10 =>
 cd t10 (
 K (tup [(.bool false)]) w4) (
 k2 [] w4)) fun k1 =>
 pu P (oFldA T.impl_Entry t1 0) fun t3 =>
 st P (oLoad T.string t3) w1 fun t4 w5 =>
 pu P (oBuiltin .len #[T.string] T.int #[false] #[t4]) fun t5 =>
 pu P (oBin .gtr T.int false true t5 (.int .i64 2147483647)) fun t6 =>
 cd t6 (
 K (tup [(.bool false)]) w5) (
 k1 [] w5)
def Tb_laws_zzFits16 : Tab := { join := fun n => match n with | _ => [], loop := fun n => match n with | _ => [] }
theorem S_laws_zzFits16 {t0 : Value} {w : World} {K : Value → World → Prop} (h : F_laws_zzFits16 t0 w K) : Cl P Fn.laws_zzFits16 #[t0] w K :=
  cl_of_eq (T := Tb_laws_zzFits16) (args := [t0]) Try.func9 rfl follows_mixed (by kernel_rfl) (Nat.le_of_ble_eq_true (by kernel_rfl)) (by kernel_rfl) h
def F_spec_Rooted (t0 : Value) (w : World) (K : Value → World → Prop) : Prop :=
 pu P (oBin .neq T.string false true t0 (S [])) fun t4 =>
 gd t4 true w (fun K1 => K1 t0 w) fun t6 w1 =>
 gd t4 true w1 (fun K2 => pu P (oIdx T.string t6 (.int .i64 0)) fun v => K2 v w1) fun t7 w2 =>
 gd t4 true w2 (fun K3 => pu P (oBin .eql T.uint8 false true t7 (.int .u8 47)) fun v => K3 v w2) fun t8 w3 =>
 pu P (oPick t4 t8 (.bool false)) fun t9 =>
 K (tup [t9]) w3
def Tb_spec_Rooted : Tab := { join := fun n => match n with | _ => [], loop := fun n => match n with | _ => [] }
theorem S_spec_Rooted {t0 : Value} {w : World} {K : Value → World → Prop} (h : F_spec_Rooted t0 w K) : Cl P Fn.spec_Rooted #[t0] w K :=
  cl_of_eq (T := Tb_spec_Rooted) (args := [t0]) Try.func10 rfl follows_mixed (by kernel_rfl) (Nat.le_of_ble_eq_true (by kernel_rfl)) (by kernel_rfl) h
def F_spec_MemName (t0 : Value) (w : World) (K : Value → World → Prop) : Prop :=
 pu P (oBuiltin .len #[T.string] T.int #[false] #[t0]) fun t13 =>
 pu P (oBin .gtr T.int false true t13 (.int .i64 0)) fun t14 =>
 gd t14 true w.drew (fun K1 => K1 t0 w.drew) fun t16 w1 =>
 gd t14 true w1 (fun K2 => pu P (oIdx T.string t16 (.int .i64 0)) fun v => K2 v w1) fun t17 w2 =>
 gd t14 true w2 (fun K3 => pu P (oBin .eql T.uint8 false true t17 (.int .u8 47)) fun v => K3 v w2) fun t18 w3 =>
 pu P (oPick t14 t18 (.bool false)) fun t19 =>
 st P (oBuildSlice T.sl_string 0 #[]) w3 fun t11 w4 =>
 jn (fun s1 u1 w5 =>
 jn (fun s2 u2 w6 =>
 jn (fun s3 u3 w7 =>
 K (tup [(gs s2 0)]) w7) fun k3 =>
 pu P (oBin .eql T.string false true (gs s2 0) (S [])) fun t101 =>
 gd t101 false w6 (fun K4 => K4 (gs s2 0) w6) fun t103 w8 =>
 gd t101 false w8 (fun K5 => pu P (oBin .eql T.string false true t103 (S [46, 46])) fun v => K5 v w8) fun t104 w9 =>
 pu P (oPick t101 (.bool true) t104) fun t105 =>
 cd t105 (
 K (tup [(S [47])]) w9) (
 k3 [] w9)) fun k2 =>
 pu P (oBuiltin .len #[T.sl_string] T.int #[false] #[(gs s1 0)]) fun t83 =>
 lp [(S []), (.int .i64 0)] w5 fun s4 u4 w10 C1 =>
 pu P (oBin .lss T.int false false (gs s4 1) t83) fun t85 =>
 jn (fun s5 u5 w11 =>
 jn (fun s6 u6 w12 =>
 pu P (oBin .add T.int false true (gs s4 1) (.int .i64 1)) fun t99 =>
 C1 [(gs s6 0), t99] w12) fun k5 =>
 pu P (oIdxA T.sl_string (gs s1 0) (gs s4 1)) fun t87 =>
 st P (oLoad T.string t87) w11 fun t88 w13 =>
 jn (fun s7 u7 w14 =>
 pu P (oBin .add T.string false false (gs s7 0) t88) fun t98 =>
 k5 [t98] w14) fun k6 =>
 pu P (oBin .gtr T.int false true (gs s4 1) (.int .i64 0)) fun t90 =>
 gd t90 false w13 (fun K6 => K6 t19 w13) fun t92 w15 =>
 pu P (oPick t90 (.bool true) t92) fun t93 =>
 cd t93 (
 pu P (oBin .add T.string false true (gs s4 0) (S [47])) fun t95 =>
 k6 [t95] w15) (
 k6 [(gs s4 0)] w15)) fun k4 =>
 cd t85 (
 k4 [] w10) (
 k2 [(gs s4 0)] w10)) fun k1 =>
 lp [t11, (.int .i64 0)] w4 fun s8 u8 w16 C2 =>
 jn (fun s9 u9 w17 =>
 jn (fun s10 u10 w18 =>
 jn (fun s11 u11 w19 =>
 pu P (oBin .add T.int false true (gs s10 0) (.int .i64 1)) fun t81 =>
 C2 [(gs s11 0), t81] w19) fun k9 =>
 pu P (oSlice T.string t0 (some (gs s8 1)) (some (gs s10 0)) none) fun t40 =>
 pu P (oBin .eql T.string false true t40 (S [])) fun t43 =>
 gd t43 false w18 (fun K7 => K7 t40 w18) fun t45 w20 =>
 gd t43 false w20 (fun K8 => pu P (oBin .eql T.string false true t45 (S [46])) fun v => K8 v w20) fun t46 w21 =>
 pu P (oPick t43 (.bool true) t46) fun t47 =>
 cd t47 (
 k9 [(gs s8 0)] w21) (
 pu P (oBin .neq T.string false true t40 (S [46, 46])) fun t50 =>
 cd t50 (
 st P (oBuildSlice T.sl_string 1 #[(0, t40)]) w21 fun t53 w22 =>
 st P (oBuiltin .append #[T.sl_string, T.sl_string] T.sl_string #[false, false] #[(gs s8 0), t53]) w22 fun t54 w23 =>
 k9 [t54] w23) (
 pu P (oBuiltin .len #[T.sl_string] T.int #[false] #[(gs s8 0)]) fun t57 =>
 pu P (oBin .gtr T.int false true t57 (.int .i64 0)) fun t58 =>
 gd t58 true w21 (fun K9 => K9 (gs s8 0) w21) fun t60 w24 =>
 gd t58 true w24 (fun K10 => K10 (gs s8 0) w24) fun t61 w25 =>
 gd t58 true w25 (fun K11 => pu P (oBuiltin .len #[T.sl_string] T.int #[false] #[t61]) fun v => K11 v w25) fun t62 w26 =>
 gd t58 true w26 (fun K12 => pu P (oBin .sub T.int false true t62 (.int .i64 1)) fun v => K12 v w26) fun t63 w27 =>
 gd t58 true w27 (fun K13 => pu P (oIdxA T.sl_string t60 t63) fun v => K13 v w27) fun t64 w28 =>
 gd t58 true w28 (fun K14 => st P (oLoad T.string t64) w28 K14) fun t65 w29 =>
 gd t58 true w29 (fun K15 => pu P (oBin .neq T.string false true t65 (S [46, 46])) fun v => K15 v w29) fun t66 w30 =>
 pu P (oPick t58 t66 (.bool false)) fun t67 =>
 cd t67 (
 pu P (oBuiltin .len #[T.sl_string] T.int #[false] #[(gs s8 0)]) fun t70 =>
 pu P (oBin .sub T.int false true t70 (.int .i64 1)) fun t71 =>
 pu P (oSlice T.sl_string (gs s8 0) none (some t71) none) fun t72 =>
 k9 [t72] w30) (
 pu P (oUn .not t19) fun t75 =>
 cd t75 (
 st P (oBuildSlice T.sl_string 1 #[(0, t40)]) w30 fun t78 w31 =>
 st P (oBuiltin .append #[T.sl_string, T.sl_string] T.sl_string #[false, false] #[(gs s8 0), t78]) w31 fun t79 w32 =>
 k9 [t79] w32) (
 k9 [(gs s8 0)] w30))))) fun k8 =>
 lp [(gs s8 1)] w17 fun s12 u12 w33 C3 =>
 jn (fun s13 u13 w34 =>
 pu P (oBin .add T.int false true (gs s12 0) (.int .i64 1)) fun t36 =>
 C3 [t36] w34) fun k10 =>
 pu P (oBuiltin .len #[T.string] T.int #[false] #[t0]) fun t27 =>
 pu P (oBin .lss T.int false false (gs s12 0) t27) fun t28 =>
 gd t28 true w33 (fun K16 => K16 t0 w33) fun t30 w35 =>
 gd t28 true w35 (fun K17 => K17 (gs s12 0) w35) fun t31 w36 =>
 gd t28 true w36 (fun K18 => pu P (oIdx T.string t30 t31) fun v => K18 v w36) fun t32 w37 =>
 gd t28 true w37 (fun K19 => pu P (oBin .neq T.uint8 false true t32 (.int .u8 47)) fun v => K19 v w37) fun t33 w38 =>
 pu P (oPick t28 t33 (.bool false)) fun t34 =>
 cd t34 (
 k10 [] w38) (
 k8 [(gs s12 0)] w38)) fun k7 =>
 pu P (oBuiltin .len #[T.string] T.int #[false] #[t0]) fun t22 =>
 pu P (oBin .lss T.int false false (gs s8 1) t22) fun t23 =>
 cd t23 (
 k7 [] w16) (
 k1 [(gs s8 0)] w16)
def Tb_spec_MemName : Tab := { join := fun n => match n with | 7 => [6] | 15 => [3] | 16 => [3] | 22 => [8] | 23 => [8] | 24 => [8] | _ => [], loop := fun n => match n with | 3 => [3, 5] | 5 => [6] | 18 => [8, 84] | _ => [] }
theorem S_spec_MemName {t0 : Value} {w : World} {K : Value → World → Prop} (h : F_spec_MemName t0 w K) : Cl P Fn.spec_MemName #[t0] w K :=
  cl_of_eq (T := Tb_spec_MemName) (args := [t0]) Try.func11 rfl follows_mixed (by kernel_rfl) (Nat.le_of_ble_eq_true (by kernel_rfl)) (by kernel_rfl) h
def F_spec_MemBase (t0 : Value) (w : World) (K : Value → World → Prop) : Prop :=
 jn (fun s1 u1 w1 =>
 K (tup [t0]) w1) fun k1 =>
 pu P (oBuiltin .len #[T.string] T.int #[false] #[t0]) fun t5 =>
 pu P (oBin .sub T.int false true t5 (.int .i64 1)) fun t6 =>
 lp [t6] w fun s2 u2 w2 C1 =>
 jn (fun s3 u3 w3 =>
 jn (fun s4 u4 w4 =>
 pu P (oBin .sub T.int false true (gs s2 0) (.int .i64 1)) fun t10 =>
 C1 [t10] w4) fun k3 =>
 pu P (oIdx T.string t0 (gs s2 0)) fun t13 =>
 pu P (oBin .eql T.uint8 false true t13 (.int .u8 47)) fun t14 =>
 cd t14 (
 pu P (oBin .add T.int false true (gs s2 0) (.int .i64 1)) fun t17 =>
 pu P (oSlice T.string t0 (some t17) none none) fun t18 =>
 K (tup [t18]) w3) (
 k3 [] w3)) fun k2 =>
 pu P (oBin .geq T.int false true (gs s2 0) (.int .i64 0)) fun t8 =>
 cd t8 (
 k2 [] w2) (
 k1 [] w2)
def Tb_spec_MemBase : Tab := { join := fun n => match n with | _ => [], loop := fun n => match n with | 2 => [3] | _ => [] }
theorem S_spec_MemBase {t0 : Value} {w : World} {K : Value → World → Prop} (h : F_spec_MemBase t0 w K) : Cl P Fn.spec_MemBase #[t0] w K :=
  cl_of_eq (T := Tb_spec_MemBase) (args := [t0]) Try.func12 rfl follows_mixed (by kernel_rfl) (Nat.le_of_ble_eq_true (by kernel_rfl)) (by kernel_rfl) h
def F_laws_hasName (t0 t1 : Value) (w : World) (K : Value → World → Prop) : Prop :=
 jn (fun s1 u1 w1 =>
 K (tup [(.bool false)]) w1) fun k1 =>
 pu P (oBuiltin .len #[T.sl_string] T.int #[false] #[t0]) fun t8 =>
 lp [(.int .i64 0)] w fun s2 u2 w2 C1 =>
 pu P (oBin .lss T.int false false (gs s2 0) t8) fun t10 =>
 jn (fun s3 u3 w3 =>
 jn (fun s4 u4 w4 =>
 pu P (oBin .add T.int false true (gs s2 0) (.int .i64 1)) fun t16 =>
 C1 [t16] w4) fun k3 =>
 pu P (oIdxA T.sl_string t0 (gs s2 0)) fun t11 =>
 st P (oLoad T.string t11) w3 fun t12 w5 =>
 pu P (oBin .eql T.string false false t12 t1) fun t15 =>
 cd t15 (
 K (tup [(.bool true)]) w5) (
 k3 [] w5)) fun k2 =>
 cd t10 (
 k2 [] w2) (
 k1 [] w2)
def Tb_laws_hasName : Tab := { join := fun n => match n with | _ => [], loop := fun n => match n with | 2 => [9] | _ => [] }
theorem S_laws_hasName {t0 t1 : Value} {w : World} {K : Value → World → Prop} (h : F_laws_hasName t0 t1 w K) : Cl P Fn.laws_hasName #[t0, t1] w K :=
  cl_of_eq (T := Tb_laws_hasName) (args := [t0, t1]) Try.func13 rfl follows_mixed (by kernel_rfl) (Nat.le_of_ble_eq_true (by kernel_rfl)) (by kernel_rfl) h
def F_afero_DoorMerge (t0 t1 : Value) (w : World) (K : Value → World → Prop) : Prop :=
 st P (oCall Fn.afero_defaultUnionMergeDirsFn #[t0, t1]) w fun t8 w1 =>
 pu P (oExtract t8 0) fun t9 =>
 pu P (oExtract t8 1) fun t10 =>
 K (tup [t9, t10]) w1
def Tb_afero_DoorMerge : Tab := { join := fun n => match n with | _ => [], loop := fun n => match n with | _ => [] }
theorem S_afero_DoorMerge {t0 t1 : Value} {w : World} {K : Value → World → Prop} (h : F_afero_DoorMerge t0 t1 w K) : Cl P Fn.afero_DoorMerge #[t0, t1] w K :=
  cl_of_eq (T := Tb_afero_DoorMerge) (args := [t0, t1]) Try.func14 rfl follows_mixed (by kernel_rfl) (Nat.le_of_ble_eq_true (by kernel_rfl)) (by kernel_rfl) h
def F_impl_infos (t0 : Value) (w : World) (K : Value → World → Prop) : Prop :=
 jn (fun s1 u1 w1 =>
 K (tup [(gs s1 0)]) w1) fun k1 =>
 pu P (oBuiltin .len #[T.sl_impl_Entry] T.int #[false] #[t0]) fun t7 =>
 lp [(.slice none 0 0), (.int .i64 0)] w fun s2 u2 w2 C1 =>
 pu P (oBin .lss T.int false false (gs s2 1) t7) fun t9 =>
 jn (fun s3 u3 w3 =>
 pu P (oIdxA T.sl_impl_Entry t0 (gs s2 1)) fun t10 =>
 st P (oLoad T.impl_Entry t10) w3 fun t11 w4 =>
 st P (oAlloc T.impl_Entry) w4 fun t5 w5 =>
 st P (oStore T.impl_Entry t5 t11) w5 fun _ w6 =>
 pu P (oFldA T.impl_Entry t5 0) fun t13 =>
 rd P (oLoad T.string t13) w6.drew fun t14 =>
 pu P (oFldA T.impl_Entry t5 1) fun t15 =>
 rd P (oLoad T.int t15) w6.drew fun t16 =>
 pu P (oConv T.int T.uint32 t16) fun t17 =>
 pu P (oFldA T.impl_Entry t5 2) fun t18 =>
 rd P (oLoad T.bool t18) w6.drew fun t19 =>
 pu P (oFldA T.impl_Entry t5 3) fun t20 =>
 rd P (oLoad T.sl_uint8 t20) w6.drew fun t21 =>
 pu P (oFldA T.impl_Entry t5 4) fun t23 =>
 rd P (oLoad T.int64 t23) w6.drew fun t24 =>
 st P (oBuiltin .append #[T.sl_uint8, T.sl_uint8] T.sl_uint8 #[true, false] #[(.slice none 0 0), t21]) w6.drew fun t22 w7 =>
 hold P (oLoad T.int64 t23) t24 w7 ∧ hold P (oLoad T.bool t18) t19 w7 ∧ hold P (oLoad T.int t15) t16 w7 ∧ hold P (oLoad T.string t13) t14 w7 ∧ st P (oCall Fn.mem_DoorInfo #[t14, t17, t19, t22, t24]) w7 fun t25 w8 =>
 st P (oBuildSlice T.sl_p_mem_FileInfo 1 #[(0, t25)]) w8 fun t26 w9 =>
 st P (oBuiltin .append #[T.sl_p_mem_FileInfo, T.sl_p_mem_FileInfo] T.sl_p_mem_FileInfo #[false, false] #[(gs s2 0), t26]) w9 fun t27 w10 =>
 pu P (oBin .add T.int false true (gs s2 1) (.int .i64 1)) fun t28 =>
 C1 [t27, t28] w10) fun k2 =>
 cd t9 (
 k2 [] w2) (
 k1 [(gs s2 0)] w2)
def Tb_impl_infos : Tab := { join := fun n => match n with | 7 => [3] | _ => [], loop := fun n => match n with | 3 => [3, 8] | _ => [] }
theorem S_impl_infos {t0 : Value} {w : World} {K : Value → World → Prop} (h : F_impl_infos t0 w K) : Cl P Fn.impl_infos #[t0] w K :=
  cl_of_eq (T := Tb_impl_infos) (args := [t0]) Try.func15 rfl follows_mixed (by kernel_rfl) (Nat.le_of_ble_eq_true (by kernel_rfl)) (by kernel_rfl) h
def F_impl_fromInfos (t0 : Value) (w : World) (K : Value → World → Prop) : Prop :=
 jn (fun s1 u1 w1 =>
 K (tup [(gs s1 0)]) w1) fun k1 =>
 pu P (oBuiltin .len #[T.sl_p_mem_FileInfo] T.int #[false] #[t0]) fun t7 =>
 lp [(.slice none 0 0), (.int .i64 0)] w fun s2 u2 w2 C1 =>
 pu P (oBin .lss T.int false false (gs s2 1) t7) fun t9 =>
 jn (fun s3 u3 w3 =>
 pu P (oIdxA T.sl_p_mem_FileInfo t0 (gs s2 1)) fun t10 =>
 st P (oLoad T.p_mem_FileInfo t10) w3 fun t11 w4 =>
 st P (oCall Fn.impl_fromInfo #[t11]) w4 fun t14 w5 =>
 st P (oBuildSlice T.sl_impl_Info 1 #[(0, t14)]) w5 fun t15 w6 =>
 st P (oBuiltin .append #[T.sl_impl_Info, T.sl_impl_Info] T.sl_impl_Info #[false, false] #[(gs s2 0), t15]) w6 fun t16 w7 =>
 pu P (oBin .add T.int false true (gs s2 1) (.int .i64 1)) fun t17 =>
 C1 [t16, t17] w7) fun k2 =>
 cd t9 (
 k2 [] w2) (
 k1 [(gs s2 0)] w2)
def Tb_impl_fromInfos : Tab := { join := fun n => match n with | 7 => [3] | _ => [], loop := fun n => match n with | 3 => [3, 8] | _ => [] }
theorem S_impl_fromInfos {t0 : Value} {w : World} {K : Value → World → Prop} (h : F_impl_fromInfos t0 w K) : Cl P Fn.impl_fromInfos #[t0] w K :=
  cl_of_eq (T := Tb_impl_fromInfos) (args := [t0]) Try.func16 rfl follows_mixed (by kernel_rfl) (Nat.le_of_ble_eq_true (by kernel_rfl)) (by kernel_rfl) h
def J_afero_defaultUnionMergeDirsFn_1 (K : Value → World → Prop) (t64 : Value) (s4 : List Value) (u4 : Env) (w8 : World) : Prop :=
 K (tup [t64, .nilIface]) w8
def J_afero_defaultUnionMergeDirsFn_2 (s3 : List Value) (s5 : List Value) (t18 : Value) (t64 : Value) (C1 : List Value → World → Prop) (s6 : List Value) (u6 : Env) (w10 : World) : Prop :=
 pu P (oIdxA T.sl_string (gs s3 0) (gs s5 0)) fun t70 =>
 st P (oLoad T.string t70) w10 fun t71 w11 =>
 st P (oLookup T.map_string_p_mem_FileInfo t18 t71 false) w11 fun t76 w12 =>
 pu P (oIdxA T.sl_p_mem_FileInfo t64 (gs s5 0)) fun t77 =>
 st P (oStore T.p_mem_FileInfo t77 t76) w12 fun _ w13 =>
 pu P (oBin .add T.int false true (gs s5 0) (.int .i64 1)) fun t78 =>
 C1 [t78] w13
def J_afero_defaultUnionMergeDirsFn_3 (t18 : Value) (K : Value → World → Prop) (s3 : List Value) (u3 : Env) (w4 : World) : Prop :=
 st P (oCall Fn.afero_zzSort #[(gs s3 0)]) w4 fun t61 w5 =>
 st P (oBuiltin .len #[T.map_string_p_mem_FileInfo] T.int #[false] #[t18]) w5 fun t63 w6 =>
 st P (oMkSlice T.sl_p_mem_FileInfo t63 t63) w6 fun t64 w7 =>
 jn (J_afero_defaultUnionMergeDirsFn_1 K t64) fun k4 =>
 pu P (oBuiltin .len #[T.sl_string] T.int #[false] #[(gs s3 0)]) fun t66 =>
 lp [(.int .i64 0)] w7 fun s5 u5 w9 C1 =>
 pu P (oBin .lss T.int false false (gs s5 0) t66) fun t68 =>
 jn (J_afero_defaultUnionMergeDirsFn_2 s3 s5 t18 t64 C1) fun k5 =>
 cd t68 (
 k5 [] w9) (
 k4 [] w9)
def J_afero_defaultUnionMergeDirsFn_4 (t51 : Value) (s7 : List Value) (C2 : List Value → World → Prop) (s8 : List Value) (u8 : Env) (w17 : World) : Prop :=
 st P (oEntry t51) w17 fun t54 w18 =>
 pu P (oExtract t54 0) fun t55 =>
 st P (oBuildSlice T.sl_string 1 #[(0, t55)]) w18 fun t58 w19 =>
 st P (oBuiltin .append #[T.sl_string, T.sl_string] T.sl_string #[false, false] #[(gs s7 0), t58]) w19 fun t59 w20 =>
 C2 [t59] w20
def J_afero_defaultUnionMergeDirsFn_5 (t18 : Value) (K : Value → World → Prop) (s2 : List Value) (u2 : Env) (w3 : World) : Prop :=
 jn (J_afero_defaultUnionMergeDirsFn_3 t18 K) fun k3 =>
 st P (oRange T.map_string_p_mem_FileInfo t18) w3 fun t51 w14 =>
 lp [(.slice none 0 0)] w14 fun s7 u7 w15 C2 =>
 st P (oNext t51 false T.ty_2e38e77b) w15 fun t52 w16 =>
 pu P (oExtract t52 0) fun t53 =>
 jn (J_afero_defaultUnionMergeDirsFn_4 t51 s7 C2) fun k6 =>
 cd t53 (
 k6 [] w16) (
 k3 [(gs s7 0)] w16)
def J_afero_defaultUnionMergeDirsFn_7 (s9 : List Value) (C3 : List Value → World → Prop) (t1 : Value) (t18 : Value) (s10 : List Value) (u10 : Env) (w22 : World) : Prop :=
 jn (J_laws_FnMergeNothing_2 s9 C3) fun k8 =>
 pu P (oIdxA T.sl_p_mem_FileInfo t1 (gs s9 0)) fun t34 =>
 st P (oLoad T.p_mem_FileInfo t34) w22 fun t35 w24 =>
 st P (oCall Fn.mem_FileInfo_Name #[t35]) w24 fun t39 w25 =>
 st P (oLookup T.map_string_p_mem_FileInfo t18 t39 true) w25 fun t40 w26 =>
 pu P (oExtract t40 0) fun t41 =>
 pu P (oExtract t40 1) fun t42 =>
 pu P (oUn .not t42) fun t44 =>
 cd t44 (
 st P (oCall Fn.mem_FileInfo_Name #[t35]) w26 fun t47 w27 =>
 st P (oMapUp T.map_string_p_mem_FileInfo t18 t47 t35) w27 fun _ w28 =>
 k8 [] w28) (
 k8 [] w26)
def J_afero_defaultUnionMergeDirsFn_8 (t18 : Value) (K : Value → World → Prop) (t1 : Value) (s1 : List Value) (u1 : Env) (w2 : World) : Prop :=
 jn (J_afero_defaultUnionMergeDirsFn_5 t18 K) fun k2 =>
 pu P (oBuiltin .len #[T.sl_p_mem_FileInfo] T.int #[false] #[t1]) fun t31 =>
 lp [(.int .i64 0)] w2 fun s9 u9 w21 C3 =>
 pu P (oBin .lss T.int false false (gs s9 0) t31) fun t33 =>
 jn (J_afero_defaultUnionMergeDirsFn_7 s9 C3 t1 t18) fun k7 =>
 cd t33 (
 k7 [] w21) (
 k2 [] w21)
def J_afero_defaultUnionMergeDirsFn_9 (t0 : Value) (s12 : List Value) (t18 : Value) (C4 : List Value → World → Prop) (s13 : List Value) (u13 : Env) (w30 : World) : Prop :=
 pu P (oIdxA T.sl_p_mem_FileInfo t0 (gs s12 0)) fun t23 =>
 st P (oLoad T.p_mem_FileInfo t23) w30 fun t24 w31 =>
 st P (oCall Fn.mem_FileInfo_Name #[t24]) w31 fun t27 w32 =>
 st P (oMapUp T.map_string_p_mem_FileInfo t18 t27 t24) w32 fun _ w33 =>
 pu P (oBin .add T.int false true (gs s12 0) (.int .i64 1)) fun t29 =>
 C4 [t29] w33
def F_afero_defaultUnionMergeDirsFn (t0 t1 : Value) (w : World) (K : Value → World → Prop) : Prop :=
 st P (oMkMap T.map_string_p_mem_FileInfo none) w fun t18 w1 =>
 jn (J_afero_defaultUnionMergeDirsFn_8 t18 K t1) fun k1 =>
 pu P (oBuiltin .len #[T.sl_p_mem_FileInfo] T.int #[false] #[t0]) fun t20 =>
 lp [(.int .i64 0)] w1 fun s12 u12 w29 C4 =>
 pu P (oBin .lss T.int false false (gs s12 0) t20) fun t22 =>
 jn (J_afero_defaultUnionMergeDirsFn_9 t0 s12 t18 C4) fun k9 =>
 cd t22 (
 k9 [] w29) (
 k1 [] w29)
def Tb_afero_defaultUnionMergeDirsFn : Tab := { join := fun n => match n with | 19 => [13] | _ => [], loop := fun n => match n with | 3 => [21] | 8 => [32] | 16 => [13] | 22 => [67] | _ => [] }
theorem S_afero_defaultUnionMergeDirsFn {t0 t1 : Value} {w : World} {K : Value → World → Prop} (h : F_afero_defaultUnionMergeDirsFn t0 t1 w K) : Cl P Fn.afero_defaultUnionMergeDirsFn #[t0, t1] w K :=
  cl_of_eq (T := Tb_afero_defaultUnionMergeDirsFn) (args := [t0, t1]) Try.func17 rfl follows_mixed (by kernel_rfl) (Nat.le_of_ble_eq_true (by kernel_rfl)) (by kernel_rfl) h
def F_mem_DoorInfo (t0 t1 t2 t3 t4 : Value) (w : World) (K : Value → World → Prop) : Prop :=
 pu P (oBuild T.mem_FileData #[(0, t0), (4, t1), (3, t2), (1, t3), (5, t4)]) fun t16 =>
 st P (oBox T.mem_FileData t16) w fun t17 w1 =>
 pu P (oBuild T.mem_FileInfo #[(0, t17)]) fun t18 =>
 st P (oBox T.mem_FileInfo t18) w1 fun t19 w2 =>
 K (tup [t19]) w2
def Tb_mem_DoorInfo : Tab := { join := fun n => match n with | _ => [], loop := fun n => match n with | _ => [] }
theorem S_mem_DoorInfo {t0 t1 t2 t3 t4 : Value} {w : World} {K : Value → World → Prop} (h : F_mem_DoorInfo t0 t1 t2 t3 t4 w K) : Cl P Fn.mem_DoorInfo #[t0, t1, t2, t3, t4] w K :=
  cl_of_eq (T := Tb_mem_DoorInfo) (args := [t0, t1, t2, t3, t4]) Try.func18 rfl follows_mixed (by kernel_rfl) (Nat.le_of_ble_eq_true (by kernel_rfl)) (by kernel_rfl) h
def F_impl_fromInfo (t0 : Value) (w : World) (K : Value → World → Prop) : Prop :=
 st P (oAlloc T.impl_Info) w fun t2 w1 =>
 st P (oCall Fn.mem_FileInfo_Name #[t0]) w1 fun t4 w2 =>
 st P (oCall Fn.mem_FileInfo_Size #[t0]) w2 fun t6 w3 =>
 st P (oCall Fn.mem_FileInfo_Mode #[t0]) w3 fun t8 w4 =>
 pu P (oConv T.os_FileMode T.int t8) fun t9 =>
 st P (oCall Fn.mem_FileInfo_IsDir #[t0]) w4 fun t11 w5 =>
 st P (oCall Fn.mem_FileInfo_ModTime #[t0]) w5 fun t13 w6 =>
 pu P (oBuild T.impl_Info #[(0, t4), (1, t6), (2, t9), (3, t11), (4, t13)]) fun t14 =>
 st P (oStore T.impl_Info t2 t14) w6 fun _ w7 =>
 rsl P T.impl_Info t2 w7 fun r1 =>
 K (tup [r1]) w7
def Tb_impl_fromInfo : Tab := { join := fun n => match n with | _ => [], loop := fun n => match n with | _ => [] }
theorem S_impl_fromInfo {t0 : Value} {w : World} {K : Value → World → Prop} (h : F_impl_fromInfo t0 w K) : Cl P Fn.impl_fromInfo #[t0] w K :=
  cl_of_eq (T := Tb_impl_fromInfo) (args := [t0]) Try.func19 rfl follows_mixed (by kernel_rfl) (Nat.le_of_ble_eq_true (by kernel_rfl)) (by kernel_rfl) h
def F_mem_FileInfo_Name (t0 : Value) (w : World) (K : Value → World → Prop) : Prop :=
 pu P (oNil t0) fun t7 =>
 pu P (oFldA T.mem_FileInfo t7 0) fun t8 =>
 st P (oLoad T.p_mem_FileData t8) w fun t9 w1 =>
 pu P (oNil t9) fun t10 =>
 pu P (oFldA T.mem_FileData t10 0) fun t11 =>
 st P (oLoad T.string t11) w1 fun t12 w2 =>
 st P (oCall Fn.path_Split #[t12]) w2 fun t13 w3 =>
 pu P (oExtract t13 0) fun t14 =>
 pu P (oExtract t13 1) fun t15 =>
 K (tup [t15]) w3
def Tb_mem_FileInfo_Name : Tab := { join := fun n => match n with | _ => [], loop := fun n => match n with | _ => [] }
theorem S_mem_FileInfo_Name {t0 : Value} {w : World} {K : Value → World → Prop} (h : F_mem_FileInfo_Name t0 w K) : Cl P Fn.mem_FileInfo_Name #[t0] w K :=
  cl_of_eq (T := Tb_mem_FileInfo_Name) (args := [t0]) Try.func20 rfl follows_mixed (by kernel_rfl) (Nat.le_of_ble_eq_true (by kernel_rfl)) (by kernel_rfl) h
def F_afero_zzSort (t0 : Value) (w : World) (K : Value → World → Prop) : Prop :=
 lp [(.int .i64 1)] w fun s1 u1 w1 C1 =>
 jn (fun s2 u2 w2 =>
 jn (fun s3 u3 w3 =>
 pu P (oBin .add T.int false true (gs s1 0) (.int .i64 1)) fun t9 =>
 C1 [t9] w3) fun k2 =>
 lp [(gs s1 0)] w2 fun s4 u4 w4 C2 =>
 jn (fun s5 u5 w5 =>
 pu P (oBin .sub T.int false true (gs s4 0) (.int .i64 1)) fun t31 =>
 pu P (oBin .sub T.int false true (gs s4 0) (.int .i64 1)) fun t34 =>
 pu P (oIdxA T.sl_string t0 t34) fun t35 =>
 rd P (oLoad T.string t35) w5.drew fun t36 =>
 pu P (oIdxA T.sl_string t0 (gs s4 0)) fun t39 =>
 rd P (oLoad T.string t39) w5.drew fun t40 =>
 pu P (oIdxA T.sl_string t0 (gs s4 0)) fun t41 =>
 st P (oStore T.string t41 t36) w5.drew fun _ w6 =>
 pu P (oIdxA T.sl_string t0 t31) fun t42 =>
 st P (oStore T.string t42 t40) w6 fun _ w7 =>
 pu P (oBin .sub T.int false true (gs s4 0) (.int .i64 1)) fun t26 =>
 C2 [t26] w7) fun k3 =>
 pu P (oBin .gtr T.int false true (gs s4 0) (.int .i64 0)) fun t12 =>
 gd t12 true w4.drew (fun K1 => K1 t0 w4.drew) fun t14 w8 =>
 gd t12 true w8 (fun K2 => K2 (gs s4 0) w8) fun t15 w9 =>
 gd t12 true w9 (fun K3 => pu P (oIdxA T.sl_string t14 t15) fun v => K3 v w9) fun t16 w10 =>
 gd t12 true w10 (fun K4 => rd P (oLoad T.string t16) w10 fun v => K4 v w10) fun t17 w11 =>
 gd t12 true w11 (fun K5 => K5 t0 w11) fun t18 w12 =>
 gd t12 true w12 (fun K6 => K6 (gs s4 0) w12) fun t19 w13 =>
 gd t12 true w13 (fun K7 => pu P (oBin .sub T.int false true t19 (.int .i64 1)) fun v => K7 v w13) fun t20 w14 =>
 gd t12 true w14 (fun K8 => pu P (oIdxA T.sl_string t18 t20) fun v => K8 v w14) fun t21 w15 =>
 gd t12 true w15 (fun K9 => rd P (oLoad T.string t21) w15 fun v => K9 v w15) fun t22 w16 =>
 gd t12 true w16 (fun K10 => pu P (oBin .lss T.string false false t17 t22) fun v => K10 v w16) fun t23 w17 =>
 pu P (oPick t12 t23 (.bool false)) fun t24 =>
 cd t24 (
 k3 [] w17) (
 k2 [] w17)) fun k1 =>
 pu P (oBuiltin .len #[T.sl_string] T.int #[false] #[t0]) fun t6 =>
 pu P (oBin .lss T.int false false (gs s1 0) t6) fun t7 =>
 cd t7 (
 k1 [] w1) (
 K (tup []) w1)
def Tb_afero_zzSort : Tab := { join := fun n => match n with | _ => [], loop := fun n => match n with | 1 => [2] | 4 => [3] | _ => [] }
theorem S_afero_zzSort {t0 : Value} {w : World} {K : Value → World → Prop} (h : F_afero_zzSort t0 w K) : Cl P Fn.afero_zzSort #[t0] w K :=
  cl_of_eq (T := Tb_afero_zzSort) (args := [t0]) Try.func21 rfl follows_mixed (by kernel_rfl) (Nat.le_of_ble_eq_true (by kernel_rfl)) (by kernel_rfl) h
def F_mem_FileInfo_Size (t0 : Value) (w : World) (K : Value → World → Prop) : Prop :=
 jn (fun s1 u1 w1 =>
 pu P (oNil t0) fun t6 =>
 pu P (oFldA T.mem_FileInfo t6 0) fun t7 =>
 st P (oLoad T.p_mem_FileData t7) w1 fun t8 w2 =>
 pu P (oNil t8) fun t9 =>
 pu P (oFldA T.mem_FileData t9 1) fun t10 =>
 st P (oLoad T.sl_uint8 t10) w2 fun t11 w3 =>
 pu P (oBuiltin .len #[T.sl_uint8] T.int #[false] #[t11]) fun t12 =>
 K (tup [t12]) w3) fun k1 =>
 st P (oCall Fn.mem_FileInfo_IsDir #[t0]) w fun t4 w4 =>
 cd t4 (
 K (tup [(.int .i64 42)]) w4) (
 k1 [] w4)
def Tb_mem_FileInfo_Size : Tab := { join := fun n => match n with | _ => [], loop := fun n => match n with | _ => [] }
theorem S_mem_FileInfo_Size {t0 : Value} {w : World} {K : Value → World → Prop} (h : F_mem_FileInfo_Size t0 w K) : Cl P Fn.mem_FileInfo_Size #[t0] w K :=
  cl_of_eq (T := Tb_mem_FileInfo_Size) (args := [t0]) Try.func22 rfl follows_mixed (by kernel_rfl) (Nat.le_of_ble_eq_true (by kernel_rfl)) (by kernel_rfl) h
def F_mem_FileInfo_Mode (t0 : Value) (w : World) (K : Value → World → Prop) : Prop :=
 pu P (oNil t0) fun t4 =>
 pu P (oFldA T.mem_FileInfo t4 0) fun t5 =>
 st P (oLoad T.p_mem_FileData t5) w fun t6 w1 =>
 pu P (oNil t6) fun t7 =>
 pu P (oFldA T.mem_FileData t7 4) fun t8 =>
 st P (oLoad T.os_FileMode t8) w1 fun t9 w2 =>
 K (tup [t9]) w2
def Tb_mem_FileInfo_Mode : Tab := { join := fun n => match n with | _ => [], loop := fun n => match n with | _ => [] }
theorem S_mem_FileInfo_Mode {t0 : Value} {w : World} {K : Value → World → Prop} (h : F_mem_FileInfo_Mode t0 w K) : Cl P Fn.mem_FileInfo_Mode #[t0] w K :=
  cl_of_eq (T := Tb_mem_FileInfo_Mode) (args := [t0]) Try.func23 rfl follows_mixed (by kernel_rfl) (Nat.le_of_ble_eq_true (by kernel_rfl)) (by kernel_rfl) h
def F_mem_FileInfo_IsDir (t0 : Value) (w : World) (K : Value → World → Prop) : Prop :=
 pu P (oNil t0) fun t4 =>
 pu P (oFldA T.mem_FileInfo t4 0) fun t5 =>
 st P (oLoad T.p_mem_FileData t5) w fun t6 w1 =>
 pu P (oNil t6) fun t7 =>
 pu P (oFldA T.mem_FileData t7 3) fun t8 =>
 st P (oLoad T.bool t8) w1 fun t9 w2 =>
 K (tup [t9]) w2
def Tb_mem_FileInfo_IsDir : Tab := { join := fun n => match n with | _ => [], loop := fun n => match n with | _ => [] }
theorem S_mem_FileInfo_IsDir {t0 : Value} {w : World} {K : Value → World → Prop} (h : F_mem_FileInfo_IsDir t0 w K) : Cl P Fn.mem_FileInfo_IsDir #[t0] w K :=
  cl_of_eq (T := Tb_mem_FileInfo_IsDir) (args := [t0]) Try.func24 rfl follows_mixed (by kernel_rfl) (Nat.le_of_ble_eq_true (by kernel_rfl)) (by kernel_rfl) h
def F_mem_FileInfo_ModTime (t0 : Value) (w : World) (K : Value → World → Prop) : Prop :=
 pu P (oNil t0) fun t4 =>
 pu P (oFldA T.mem_FileInfo t4 0) fun t5 =>
 st P (oLoad T.p_mem_FileData t5) w fun t6 w1 =>
 pu P (oNil t6) fun t7 =>
 pu P (oFldA T.mem_FileData t7 5) fun t8 =>
 st P (oLoad T.int64 t8) w1 fun t9 w2 =>
 K (tup [t9]) w2
def Tb_mem_FileInfo_ModTime : Tab := { join := fun n => match n with | _ => [], loop := fun n => match n with | _ => [] }
theorem S_mem_FileInfo_ModTime {t0 : Value} {w : World} {K : Value → World → Prop} (h : F_mem_FileInfo_ModTime t0 w K) : Cl P Fn.mem_FileInfo_ModTime #[t0] w K :=
  cl_of_eq (T := Tb_mem_FileInfo_ModTime) (args := [t0]) Try.func25 rfl follows_mixed (by kernel_rfl) (Nat.le_of_ble_eq_true (by kernel_rfl)) (by kernel_rfl) h
def F_path_Split (t0 : Value) (w : World) (K : Value → World → Prop) : Prop :=
 st P (oCall Fn.bytealg_LastIndexByteString #[t0, (.int .u8 47)]) w fun t6 w1 =>
 pu P (oBin .add T.int false true t6 (.int .i64 1)) fun t9 =>
 pu P (oSlice T.string t0 none (some t9) none) fun t10 =>
 pu P (oBin .add T.int false true t6 (.int .i64 1)) fun t13 =>
 pu P (oSlice T.string t0 (some t13) none none) fun t14 =>
 K (tup [t10, t14]) w1.drew
def Tb_path_Split : Tab := { join := fun n => match n with | _ => [], loop := fun n => match n with | _ => [] }
theorem S_path_Split {t0 : Value} {w : World} {K : Value → World → Prop} (h : F_path_Split t0 w K) : Cl P Fn.path_Split #[t0] w K :=
  cl_of_eq (T := Tb_path_Split) (args := [t0]) Try.func26 rfl follows_mixed (by kernel_rfl) (Nat.le_of_ble_eq_true (by kernel_rfl)) (by kernel_rfl) h
def F_bytealg_LastIndexByteString (t0 t1 : Value) (w : World) (K : Value → World → Prop) : Prop :=
 jn (fun s1 u1 w1 =>
 K (tup [(.int .i64 (-1))]) w1) fun k1 =>
 pu P (oBuiltin .len #[T.string] T.int #[false] #[t0]) fun t7 =>
 pu P (oBin .sub T.int false true t7 (.int .i64 1)) fun t8 =>
 lp [t8] w fun s2 u2 w2 C1 =>
 jn (fun s3 u3 w3 =>
 jn (fun s4 u4 w4 =>
 pu P (oBin .sub T.int false true (gs s2 0) (.int .i64 1)) fun t12 =>
 C1 [t12] w4) fun k3 =>
 pu P (oIdx T.string t0 (gs s2 0)) fun t15 =>
 pu P (oBin .eql T.uint8 false false t15 t1) fun t17 =>
 cd t17 (
 K (tup [(gs s2 0)]) w3) (
 k3 [] w3)) fun k2 =>
 pu P (oBin .geq T.int false true (gs s2 0) (.int .i64 0)) fun t10 =>
 cd t10 (
 k2 [] w2) (
 k1 [] w2)
def Tb_bytealg_LastIndexByteString : Tab := { join := fun n => match n with | _ => [], loop := fun n => match n with | 2 => [5] | _ => [] }
theorem S_bytealg_LastIndexByteString {t0 t1 : Value} {w : World} {K : Value → World → Prop} (h : F_bytealg_LastIndexByteString t0 t1 w K) : Cl P Fn.bytealg_LastIndexByteString #[t0, t1] w K :=
  cl_of_eq (T := Tb_bytealg_LastIndexByteString) (args := [t0, t1]) Try.func27 rfl follows_mixed (by kernel_rfl) (Nat.le_of_ble_eq_true (by kernel_rfl)) (by kernel_rfl) h
end Go.Proofs.Ytfiepdikejoeeaa.X
end
section
namespace Go.X
theorem sorted_unique {α : Type} {lt : α → α → Prop} (irr : ∀ a, ¬ lt a a) (tr : ∀ a b c, lt a b → lt b c → lt a c) : ∀ (xs ys : List α), xs.Pairwise lt → ys.Pairwise lt → (∀ a, a ∈ xs ↔ a ∈ ys) → xs = ys
  | [], [], _, _, _ => rfl
  | [], y :: ys, _, _, h => absurd ((h y).2 (List.mem_cons_self ..)) (by simp)
  | x :: xs, [], _, _, h => absurd ((h x).1 (List.mem_cons_self ..)) (by simp)
  | x :: xs, y :: ys, hx, hy, h => by
    have hx' := List.pairwise_cons.1 hx
    have hy' := List.pairwise_cons.1 hy
    have e : x = y := by
      rcases List.mem_cons.1 ((h x).1 (List.mem_cons_self ..)) with q | q
      · exact q
      · rcases List.mem_cons.1 ((h y).2 (List.mem_cons_self ..)) with r | r
        · exact r.symm
        · exact absurd (tr _ _ _ (hy'.1 x q) (hx'.1 y r)) (irr y)
    subst e
    congr 1
    refine sorted_unique irr tr xs ys hx'.2 hy'.2 fun a => ⟨fun q => ?_, fun q => ?_⟩
    · rcases List.mem_cons.1 ((h a).1 (List.mem_cons_of_mem _ q)) with r | r
      · subst r; exact absurd (hx'.1 _ q) (irr _)
      · exact r
    · rcases List.mem_cons.1 ((h a).2 (List.mem_cons_of_mem _ q)) with r | r
      · subst r; exact absurd (hy'.1 _ q) (irr _)
      · exact r
end Go.X
end
section
namespace Go.Proofs.Ytfiepdikejoeeaa.X
open Go Go.X Go.Proofs Go.RowKit Go.WideShapes
structure Ent where
  name : List UInt8
  mode : Int
  dir : Bool
  data : List UInt8
  time : Int
  v : Value
def entC (x : Ent) : List Value := [S x.name, .int .i64 x.mode, .bool x.dir, x.v, .int .i64 x.time]
structure EntFit (x : Ent) : Prop where
  mode : -9223372036854775808 ≤ x.mode ∧ x.mode ≤ 9223372036854775807
  time : -9223372036854775808 ≤ x.time ∧ x.time ≤ 9223372036854775807
  name : x.name.length ≤ maxLen
  data : x.data.length ≤ maxLen
def EntsAt (w : World) (v : Value) (l : List Ent) : Prop :=
  (∀ x ∈ l, BS w x.v x.data) ∧ ((l = [] ∧ ∃ a cap, v = .slice a 0 cap) ∨ ∃ b o cap, v = sl b o l.length cap ∧ l.length ≤ cap ∧ b < w.heap.size ∧ ∀ i (h : i < l.length), rowOf (bk w b) (o + i * 5) 5 = some (entC l[i]))
theorem EntsAt.old {w w' : World} {v : Value} {l : List Ent} (h : EntsAt w v l) (hb : Below w.heap.size w w') : EntsAt w' v l := by
  refine ⟨fun x hx => BS_old (h.1 x hx) hb (Nat.le_refl _), ?_⟩
  rcases h.2 with h | ⟨b, o, cap, h1, h0, h2, h3⟩
  · exact .inl h
  · exact .inr ⟨b, o, cap, h1, h0, Nat.lt_of_lt_of_le h2 hb.size, fun i g => by rw [bel_bk hb h2]; exact h3 i g⟩
theorem EntsAt.slice {w : World} {v : Value} {l : List Ent} (h : EntsAt w v l) : ∃ a cap, v = .slice a l.length cap := by
  rcases h.2 with ⟨h, a, cap, e⟩ | ⟨b, o, cap, e, _⟩
  · exact ⟨a, cap, by rw [e, h]; rfl⟩
  · exact ⟨_, _, e⟩
theorem EntsAt.idx {w : World} {v : Value} {l : List Ent} (h : EntsAt w v l) {i : Nat} (hi : i < l.length) :
    ∃ b o, rowOf (bk w b) o 5 = some (entC l[i]) ∧ b < w.heap.size ∧ ∀ L : Value → Prop, pu P (oIdxA T.sl_impl_Entry v (.int .i64 i)) L = L (pt b o) := by
  rcases h.2 with ⟨h, _⟩ | ⟨b, o, cap, rfl, _, hb, hr⟩
  · rw [h] at hi; exact absurd hi (by simp)
  · refine ⟨b, o + i * 5, hr i hi, hb, fun L => ?_⟩
    rw [oIdxA_sl (size := 5) L U.sl_impl_Entry (by kernel_rfl) (by omega) (by omega), Int.toNat_natCast]
section
variable {H : Type} {enc : TypeId × Value → H} {W : World}
theorem open_S {t : TypeId} {fuel : Nat} {cs : List Value} {x : DataW H × List MemPlace} (ht : P.underlying t = some .string) (h : DataW.trod enc P W 0 (fun _ => true) true fuel t cs = some x) : ∃ l, cs = [S l] ∧ l.length ≤ maxLen := by
  obtain ⟨s, e, _, w⟩ := DataW.trod_string ht h
  exact ⟨s.data.toList, e, w⟩
theorem open_i64 {t : TypeId} {fuel : Nat} {cs : List Value} {x : DataW H × List MemPlace} (ht : P.underlying t = some (.int .i64)) (h : DataW.trod enc P W 0 (fun _ => true) true fuel t cs = some x) : ∃ n, cs = [.int .i64 n] ∧ -9223372036854775808 ≤ n ∧ n ≤ 9223372036854775807 := by
  obtain ⟨n, e, _, w⟩ := DataW.trod_int ht h
  simp only [Lit.wf, Bool.and_eq_true, decide_eq_true_eq] at w
  exact ⟨n, e, w.1, w.2⟩
theorem choose_range {β : Type} (R : Nat → β → Prop) : ∀ (n : Nat), (∀ i, i < n → ∃ b, R i b) → ∃ m : List β, m.length = n ∧ ∀ i (h : i < m.length), R i m[i]
  | 0, _ => ⟨[], rfl, fun i h => absurd h (by simp)⟩
  | n + 1, h => by
    obtain ⟨m, e, hm⟩ := choose_range R n fun i hi => h i (by omega)
    obtain ⟨b, hb⟩ := h n (by omega)
    refine ⟨m ++ [b], by simp [e], fun i hi => ?_⟩
    by_cases q : i < m.length
    · rw [List.getElem_append_left q]; exact hm i q
    · have : i = m.length := by simp at hi; omega
      subst this
      rw [List.getElem_append_right (by omega)]
      simp only [Nat.sub_self, List.getElem_cons_zero]
      rw [e]; exact hb
theorem open_ent {fuel : Nat} {c : List Value} {x : DataW H × List MemPlace} (h : DataW.trod enc P W 0 (fun _ => true) true fuel T.impl_Entry c = some x) : ∃ q : Ent, c = entC q ∧ BS W q.v q.data ∧ EntFit q := by
  obtain ⟨xs, n, _, _, hl, hlen, hf⟩ := DataW.trod_struct Try.underlying33 h
  have hl : c.length = 5 := hl
  match c, hl with
  | [c0, c1, c2, c3, c4], _ =>
    have g : ∀ i, i < 5 → ∃ y, xs[i]? = some y := fun i hi => ⟨xs[i]'(by rw [hlen]; exact hi), List.getElem?_eq_getElem _⟩
    obtain ⟨y0, z0⟩ := g 0 (by omega)
    obtain ⟨y1, z1⟩ := g 1 (by omega)
    obtain ⟨y2, z2⟩ := g 2 (by omega)
    obtain ⟨y3, z3⟩ := g 3 (by omega)
    obtain ⟨y4, z4⟩ := g 4 (by omega)
    obtain ⟨l0, e0, w0⟩ := open_S U.string ((hf 0 _ rfl).trans z0)
    obtain ⟨n1, e1, w1⟩ := open_i64 U.int ((hf 1 _ rfl).trans z1)
    obtain ⟨b2, e2, _⟩ := DataW.trod_bool U.bool ((hf 2 _ rfl).trans z2)
    obtain ⟨v3, l3, e3, bb3, w3⟩ := open_bytes_cell U.sl_uint8 U.uint8 (by kernel_rfl) ((hf 3 _ rfl).trans z3)
    obtain ⟨n4, e4, w4⟩ := open_i64 U.int64 ((hf 4 _ rfl).trans z4)
    replace e0 : [c0] = [S l0] := e0
    replace e1 : [c1] = [.int .i64 n1] := e1
    replace e2 : [c2] = [.bool b2] := e2
    replace e3 : [c3] = [v3] := e3
    replace e4 : [c4] = [.int .i64 n4] := e4
    obtain rfl : c0 = S l0 := by injection e0
    obtain rfl : c1 = .int .i64 n1 := by injection e1
    obtain rfl : c2 = .bool b2 := by injection e2
    obtain rfl : c3 = v3 := by injection e3
    obtain rfl : c4 = .int .i64 n4 := by injection e4
    exact ⟨⟨l0, n1, b2, l3, n4, c3⟩, rfl, bb3, ⟨w1, w4, w0, w3⟩⟩
theorem open_ents {r : Reach} {b0 : Nat} {v : Value} {d : DataW H} {p : List MemPlace} (hv : Value.okWide P W r b0 T.sl_impl_Entry v) (h : DataW.Trod enc P W 0 (fun _ => true) true T.sl_impl_Entry v d p) : ∃ l : List Ent, EntsAt W v l ∧ (∀ x ∈ l, EntFit x) ∧ l.length ≤ maxLen := by
  obtain ⟨a, n, cap, rfl⟩ := okWide_slice U.sl_impl_Entry hv
  obtain ⟨fuel, hf⟩ := h
  have hf : DataW.trod enc P W 0 (fun _ => true) true fuel T.sl_impl_Entry [.slice a n cap] = some (d, p) := hf
  rcases open_elems (size := 5) U.sl_impl_Entry (by kernel_rfl) (by omega) hf with ⟨a', cap', e⟩ | ⟨b, o, n', cap', e, h1, h2, h3, h4, m, h5⟩
  · injection e with e
    rw [e]
    exact ⟨[], ⟨fun x hx => (by cases hx), .inl ⟨rfl, a', cap', rfl⟩⟩, fun q hq => (by cases hq), by simp⟩
  · injection e with e
    rw [e]
    obtain ⟨l, hl, hq⟩ := choose_range (fun i (q : Ent) => rowOf (bk W b) (o + i * 5) 5 = some (entC q) ∧ BS W q.v q.data ∧ EntFit q) n' fun i hi => by
      obtain ⟨c, y, e1, e2⟩ := h5 i hi
      obtain ⟨q, rfl, q1, q2⟩ := open_ent e2
      exact ⟨q, e1, q1, q2⟩
    subst hl
    refine ⟨l, ⟨fun x hx => ?_, .inr ⟨b, o, cap', rfl, by omega, h3, fun i hi => (hq i hi).1⟩⟩, fun x hx => ?_, by omega⟩
    · obtain ⟨i, hi, rfl⟩ := List.getElem_of_mem hx
      exact (hq i hi).2.1
    · obtain ⟨i, hi, rfl⟩ := List.getElem_of_mem hx
      exact (hq i hi).2.2
end
end Go.Proofs.Ytfiepdikejoeeaa.X
end
