/- A second reading of the loaded code, by environments in the place of frames: 'CW', proved sound for 'Calls' once and for all; a function's own text is then laid by a program and held against 'CW' by the kernel. No condition: nothing is said of any one program. -/
import Derived.WalkKit
import Derived.KernelRfl
import Derived.Orders
set_option linter.unusedVariables false
set_option linter.unusedSimpArgs false
namespace Go.X
open Go

abbrev Env := Nat → Value

def put (e : Env) (d : Option Nat) (v : Value) : Env :=
  match d with
  | some d => fun t => bif Nat.beq t d then v else e t
  | none => e

def ev (e : Env) : Operand → Value
  | .tmp t => e t
  | .const v => v
  | .global g => .pointer (some ⟨g, 0, none⟩)
  | .func f => .func (.func f) #[] #[]

def envOf (a : Act) : Env := fun t => a.tmps.getD t undef

/-- A call that returns: every panic is shut out. -/
def Cl (P : Program) (f : FuncId) (args : Array Value) (w : World) (K : Value → World → Prop) : Prop :=
  Calls P f args w fun e w' => ∃ v, e = .returned v ∧ K v w'

theorem Cl.mono {P : Program} {f : FuncId} {args : Array Value} {w : World} {K K' : Value → World → Prop} (h : Cl P f args w K) (hk : ∀ v w', K v w' → K' v w') : Cl P f args w K' :=
  Calls.mono h fun _ _ ⟨v, he, hv⟩ => ⟨v, he, hk _ _ hv⟩

/-- An operation that may look at the world, write to it or call. -/
def st0 (P : Program) (s : Sem Next) (w : World) (K : Value → World → Prop) : Prop :=
  match s.run P w with
  | .ok (.value v) w' => K v w'
  | .ok .skip w' => K undef w'
  | .ok (.enter f args) w' => Cl P f args w' K
  | _ => False
structure st (P : Program) (s : Sem Next) (w : World) (K : Value → World → Prop) : Prop where
  h : st0 P s w K

/-- What a computation comes to that asks nothing of the world. -/
def runPure (P : Program) : Sem Next → Option Value
  | .pure (.value v) => some v
  | .program k => runPure P (k P)
  | .mark _ k => runPure P k
  | _ => none

def pu0 (P : Program) (s : Sem Next) (K : Value → Prop) : Prop :=
  match runPure P s with
  | some v => K v
  | none => False
structure pu (P : Program) (s : Sem Next) (K : Value → Prop) : Prop where
  h : pu0 P s K

/-- An operation that only looks. -/
def rd0 (P : Program) (s : Sem Next) (w : World) (K : Value → Prop) : Prop :=
  ∃ v, s.run P w = .ok (.value v) w ∧ K v
structure rd (P : Program) (s : Sem Next) (w : World) (K : Value → Prop) : Prop where
  h : rd0 P s w K

/-- The operation still comes to this. -/
def hold0 (P : Program) (s : Sem Next) (v : Value) (w : World) : Prop := s.run P w = .ok (.value v) w
structure hold (P : Program) (s : Sem Next) (v : Value) (w : World) : Prop where
  h : hold0 P s v w

/-- What lies in a result's own cell. -/
def rsl0 (P : Program) (t : TypeId) (x : Value) (w : World) (K : Value → Prop) : Prop := ∃ v, (do loadVar t (← asAddr x) : Sem Value).run P w = .ok v w ∧ K v
structure rsl (P : Program) (t : TypeId) (x : Value) (w : World) (K : Value → Prop) : Prop where
  h : rsl0 P t x w K

inductive Cls where
  | plain (x : Operand) | pure | read | eff

def clsConv (P : Program) (src dst : TypeId) : Cls :=
  match Region.shape P.types src, Region.shape P.types dst with
  | some (.int _), some (.int _) => .pure
  | some .string, some .string => .pure
  | some (.slice _), some .string => .read
  | some (.int _), some .string => .pure
  | _, _ => .eff

def clsLen (P : Program) (ts : Array TypeId) : Cls :=
  match (ts.toList.head?).bind (Region.shape P.types) with
  | some .string | some (.slice _) | some (.array ..) => .pure
  | _ => .read

/-- Two values of an interface or pointer type held against one another: that looks at the memory, unless one is written out (nil). -/
def clsBin (P : Program) (op : BinOp) (t : TypeId) (x y : Operand) : Cls :=
  match op, x, y with
  | _, .const _, _ | _, _, .const _ => .pure
  | .eql, _, _ | .neq, _, _ =>
    match Region.shape P.types t with
    | some (.interface _) | some (.pointer _) => .read
    | _ => .pure
  | _, _, _ => .pure

def clsOf (P : Program) : Op → Cls
  | .move x | .assign x => .plain x
  | .binOp op t x y _ => clsBin P op t x y
  | .pick .. | .nilCheck _ | .unOp .. | .makeInterface .. | .makeFunc .. | .slice .. | .fieldAddr .. | .field .. | .indexAddr .. | .index .. | .typeAssert .. | .extract .. | .build .. => .pure
  | .load .. | .lookup .. => .read
  | .convert src dst _ => clsConv P src dst
  | .call { callee := .builtin .len, argTypes, .. } => clsLen P argTypes
  | .call { callee := .builtin .cap, argTypes, .. } => clsLen P argTypes
  | .call { callee := .builtin .max, .. } => .pure
  | .call { callee := .builtin .min, .. } => .pure
  | _ => .eff

def isb (v : Value) (want : Bool) : Bool :=
  match v with
  | .bool b => b == want
  | _ => false

/-- Carried out if the guard's value is as wanted, else passed over. -/
def gd0 (v : Value) (want : Bool) (w : World) (X : (Value → World → Prop) → Prop) (K : Value → World → Prop) : Prop :=
  bif isb v want then X K else K undef w
structure gd (v : Value) (want : Bool) (w : World) (X : (Value → World → Prop) → Prop) (K : Value → World → Prop) : Prop where
  h : gd0 v want w X K

def yv (ops : List Oper) (e : Env) (j : Nat) : Value :=
  match (ops[j]?).bind (·.dst) with
  | some d => e d
  | none => undef

def grd (ops : List Oper) (o : Oper) (e : Env) (w : World) (X : (Value → World → Prop) → Prop) (K : Value → World → Prop) : Prop :=
  match o.guard with
  | none => X K
  | some (j, want) => gd (yv ops e j) want w X K

def opW (P : Program) (o : Oper) (e : Env) (w : World) (K : Value → World → Prop) : Prop :=
  match clsOf P o.op with
  | .plain x => K (ev e x) w
  | .pure => pu P (execOp (ev e) o) fun v => K v w
  | .read => st P (execOp (ev e) o) w K
  | .eff => st P (execOp (ev e) o) w K

/-- A region whose order is fixed. -/
def seqW (P : Program) (ops : List Oper) (K : Env → World → Prop) : List Oper → Env → World → Prop
  | [], e, w => K e w
  | o :: rest, e, w => grd ops o e w (opW P o e w) fun v w' => seqW P ops K rest (put e o.dst v) w'

/-! ### A region that draws its order -/

abbrev Fact := Nat × (World → Prop)

def isEff (P : Program) (o : Oper) : Bool :=
  match clsOf P o.op with
  | .eff => true
  | _ => false

/-- Every operation that is listed, and has an effect, does not come behind operation i. -/
def alive (P : Program) (ops : List Oper) (B : List Nat) (listed : List Bool) (i : Nat) : Bool :=
  go ops B listed
  where
  go : List Oper → List Nat → List Bool → Bool
    | o :: os, b :: bs, l :: ls => (!(l && isEff P o && Nat.testBit b i)) && go os bs ls
    | _, _, _ => true

def facts (P : Program) (ops : List Oper) (B : List Nat) (listed : List Bool) (w : World) : List Fact → Prop → Prop
  | [], K => K
  | (i, f) :: F, K => bif alive P ops B listed i then f w ∧ facts P ops B listed w F K else facts P ops B listed w F K

def readyB (listed : List Bool) (o : Oper) : Bool := o.after.toList.all fun e => !Region.binds .any e || listed.getD e.on false

/-- Those that may come up now. -/
def readyL (ops : List Oper) (listed : List Bool) : List (Nat × Oper) :=
  go ops listed 0
  where
  go : List Oper → List Bool → Nat → List (Nat × Oper)
    | o :: os, l :: ls, n => bif !l && readyB listed o then (n, o) :: go os ls (n + 1) else go os ls (n + 1)
    | _, _, _ => []

def firstFloat (P : Program) : List (Nat × Oper) → Option (Nat × Oper)
  | [] => none
  | (i, o) :: r => bif isEff P o then firstFloat P r else some (i, o)

/-- Nobody who has not come up, and does not wait for number i, touches its temporaries. -/
def freeB (ops : List Oper) (listed : List Bool) (i : Nat) (oi : Oper) : Bool :=
  go ops listed 0
  where
  go : List Oper → List Bool → Nat → Bool
    | o :: os, l :: ls, n => (Nat.beq n i || l || o.after.toList.any (fun e => Region.binds .any e && Nat.beq e.on i) || oi.apart ops.toArray o) && go os ls (n + 1)
    | _, _, _ => true

def allOf (K : Nat → Oper → Prop) : List (Nat × Oper) → Prop
  | [] => True
  | [(i, o)] => K i o
  | (i, o) :: r => K i o ∧ allOf K r

/-- What a look told is to stand, if it was carried out at all. -/
def gfact (P : Program) (ops : List Oper) (o : Oper) (e : Env) (v : Value) : World → Prop :=
  match o.guard with
  | none => hold P (execOp (ev e) o) v
  | some (j, want) => fun w => isb (yv ops e j) want = true → hold P (execOp (ev e) o) v w

def drawW (P : Program) (ops : List Oper) (B : List Nat) (K : Env → World → Prop) : Nat → List Bool → List Fact → Env → World → Prop
  | 0, listed, _, e, w =>
    match readyL ops listed with
    | [] => K e w
    | _ => False
  | n + 1, listed, F, e, w =>
    match firstFloat P (readyL ops listed) with
    | some (i, o) =>
      match freeB ops listed i o with
      | false => False
      | true =>
        match clsOf P o.op with
        | .plain x => grd ops o e w (fun K' => K' (ev e x) w) fun v w' => drawW P ops B K n (listed.set i true) F (put e o.dst v) w'
        | .pure => grd ops o e w (fun K' => pu P (execOp (ev e) o) fun v => K' v w) fun v w' => drawW P ops B K n (listed.set i true) F (put e o.dst v) w'
        | .read => grd ops o e w (fun K' => rd P (execOp (ev e) o) w fun v => K' v w) fun v w' => drawW P ops B K n (listed.set i true) ((i, gfact P ops o e v) :: F) (put e o.dst v) w'
        | .eff => False
    | none =>
      match readyL ops listed with
      | [] => K e w
      | rs => allOf (fun i o => grd ops o e w (st P (execOp (ev e) o) w) fun v w' =>
          facts P ops B (listed.set i true) w' F (drawW P ops B K n (listed.set i true) F (put e o.dst v) w')) rs

/-- For each operation, those that come ahead of it. -/
def befores : List Oper → List Nat → List Nat
  | [], acc => acc
  | o :: os, acc => befores os (acc ++ [o.after.toList.foldl (fun s e => bif Region.binds .any e then s ||| ((1 <<< e.on) ||| acc.getD e.on 0) else s) 0])

/-- The bits of 'b' are those of the edges, and what comes ahead of these. -/
def befOk (B : List Nat) : List Oper → List Nat → Bool
  | o :: os, b :: bs => Nat.beq b (o.after.toList.foldl (fun s e => bif Region.binds .any e then s ||| ((1 <<< e.on) ||| B.getD e.on 0) else s) 0) && befOk B os bs
  | [], [] => true
  | _, _ => false

def isSel (o : Oper) : Bool := match o.op with | .select .. => true | _ => false

def regW (P : Program) (ops : List Oper) (draw : Bool) (K : Env → World → Prop) (e : Env) (w : World) : Prop :=
  match draw with
  | false => seqW P ops K ops e w
  | true =>
    let B := befores ops []
    match befOk B ops B && !ops.any isSel with
    | true => drawW P ops B K ops.length (List.replicate ops.length false) [] e w.drew
    | false => False

/-! ### Code -/

structure Tab where
  join : Nat → List Nat
  loop : Nat → List Nat

def asgOps : List Oper → Nat → Nat
  | [], m => m
  | o :: os, m => asgOps os (match o.dst with | some d => m ||| (1 <<< d) | none => m)

/-- The slots that are written, as bits. -/
def asg : Code → Nat
  | .region _ ops _ => asgOps ops.toList 0
  | .seq x y => asg x ||| asg y
  | .cond _ x y => asg x ||| asg y
  | .block _ c => asg c
  | .loop c => asg c
  | .scope c => asg c
  | _ => 0

def okOps (n : Nat) : List Oper → Bool
  | [] => true
  | o :: os => (match o.dst with | some d => Nat.blt d n | none => true) && okOps n os

def okDst (n : Nat) : Code → Bool
  | .region _ ops _ => okOps n ops.toList
  | .seq x y => okDst n x && okDst n y
  | .cond _ x y => okDst n x && okDst n y
  | .block _ c => okDst n c
  | .loop c => okDst n c
  | .scope c => okDst n c
  | _ => true

def branches : Code → Bool
  | .cond .. => true
  | .loop .. => true
  | .seq x y => branches x || branches y
  | .block _ c => branches c
  | .scope c => branches c
  | _ => false

/-- The number of the first region. -/
def key : Code → Option Nat
  | .region i _ _ => some i
  | .seq x y => match key x with | some i => some i | none => key y
  | .cond _ x y => match key x with | some i => some i | none => key y
  | .block _ c => key c
  | .loop c => key c
  | .scope c => key c
  | _ => none

def keyD (c : Code) : Nat := match key c with | some i => i | none => 1000000

def idx : List Nat → Nat → Nat → Option Nat
  | [], _, _ => none
  | l :: ls, t, n => bif Nat.beq l t then some n else idx ls t (n + 1)

/-- An environment that may differ from 'e' in the slots of 'm': those of 'L' are told by 's', the others by whatever. -/
def mix (m : Nat) (L : List Nat) (s : List Value) (u : Env) (e : Env) : Env := fun t =>
  bif Nat.testBit m t then (match idx L t 0 with | some i => s.getD i undef | none => u t) else e t

def thn (K : Env → World → Prop) (Q : Exit → Env → World → Prop) : Exit → Env → World → Prop
  | .normal, e, w => K e w
  | x, e, w => Q x e w

def inb (id : Nat) (Q : Exit → Env → World → Prop) : Exit → Env → World → Prop
  | .exit id', e, w => bif Nat.beq id' id then Q .normal e w else Q (.exit id') e w
  | x, e, w => Q x e w

def cd0 (v : Value) (X Y : Prop) : Prop :=
  match v with
  | .bool b => if b = true then X else Y
  | _ => False
structure cd (v : Value) (X Y : Prop) : Prop where
  h : cd0 v X Y

/-- Where ways meet again: what holds there is to be told. -/
def jn0 (R : List Value → Env → World → Prop) (X : (List Value → World → Prop) → Prop) : Prop :=
  ∃ k : List Value → World → Prop, (∀ s u w, k s w → R s u w) ∧ X k
structure jn (R : List Value → Env → World → Prop) (X : (List Value → World → Prop) → Prop) : Prop where
  h : jn0 R X

/-- A loop: what holds at its head, and a measure. -/
def lp0 (s0 : List Value) (w0 : World) (R : List Value → Env → World → (List Value → World → Prop) → Prop) : Prop :=
  ∃ (I : List Value → World → Prop) (μ : List Value → World → Nat), I s0 w0 ∧ ∀ s u w, I s w → R s u w fun s' w' => I s' w' ∧ μ s' w' < μ s w
structure lp (s0 : List Value) (w0 : World) (R : List Value → Env → World → (List Value → World → Prop) → Prop) : Prop where
  h : lp0 s0 w0 R

def CW (P : Program) (T : Tab) : Code → (Exit → Env → World → Prop) → Env → World → Prop
  | .skip, Q, e, w => Q .normal e w
  | .region _ ops draw, Q, e, w => regW P ops.toList draw (Q .normal) e w
  | .seq x y, Q, e, w =>
    match branches x with
    | false => CW P T x (thn (CW P T y Q) Q) e w
    | true => jn (fun s u w' => CW P T y Q (mix (asg x) (T.join (keyD y)) s u e) w') fun k =>
        CW P T x (thn (fun e' w' => k ((T.join (keyD y)).map e') w') Q) e w
  | .cond c x y, Q, e, w => cd (ev e c) (CW P T x Q e w) (CW P T y Q e w)
  | .block id c, Q, e, w => CW P T c (inb id Q) e w
  | .loop c, Q, e, w => lp ((T.loop (keyD c)).map e) w fun s u w' C =>
      CW P T c (thn (fun e' w'' => C ((T.loop (keyD c)).map e') w'') Q) (mix (asg c) (T.loop (keyD c)) s u e) w'
  | .exit id, Q, e, w => Q (.exit id) e w
  | .ret, Q, e, w => Q .ret e w
  | _, _, _, _ => False

/-! ### What a function hands back -/

def tup : List Value → Value
  | [v] => v
  | vs => .tuple vs.toArray

def resW (P : Program) : List ResultVar → List Value → Env → World → (Value → World → Prop) → Prop
  | [], acc, _, w, K => K (tup acc) w
  | .tmp t :: r, acc, e, w, K => resW P r (acc ++ [e t]) e w K
  | .cell a t :: r, acc, e, w, K => rsl P t (e a) w fun v => resW P r (acc ++ [v]) e w K

def retQ (P : Program) (rs : List ResultVar) (K : Value → World → Prop) : Exit → Env → World → Prop
  | .normal, e, w => resW P rs [] e w K
  | .ret, e, w => resW P rs [] e w K
  | _, _, _ => False

def env0 (l : List Value) : Env := fun t => l.getD t undef

end Go.X
