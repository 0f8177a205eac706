/- The operations of the loaded code over values in the place of operands. No condition. -/
import Derived.Test.YtfiepdikejoeeaaDoorXCw
set_option linter.unusedVariables false
set_option linter.unusedSimpArgs false
namespace Go.X
open Go

def v' (s : Sem Value) : Sem Next := do pure (.value (← s))
def u' (s : Sem Unit) : Sem Next := do s; pure .skip
def fl (c : Bool) : Operand := match c with | true => .const (.bool true) | false => .tmp 0

def oPick (c a b : Value) : Sem Next := do pure (.value (if ← asBool c then a else b))
def oAlloc (t : TypeId) : Sem Next := v' (Instr.alloc t true (.tuple #[]))
def oBox (t : TypeId) (x : Value) : Sem Next := v' (Instr.box t x)
def oBuild (t : TypeId) (ps : Array (Nat × Value)) : Sem Next := v' (Instr.build t ps)
def oBuildSlice (t : TypeId) (n : Nat) (ps : Array (Nat × Value)) : Sem Next := v' (Instr.buildSlice t n ps)
def oLoad (t : TypeId) (a : Value) : Sem Next := v' (Instr.loadAt t a)
def oStore (t : TypeId) (a x : Value) : Sem Next := u' (Instr.storeAt t a x)
def oNil (x : Value) : Sem Next :=
  match x with
  | .pointer none | .nilIface | .nilFunc => runtimePanic .nilDeref
  | .func (.method name) first captured =>
    match (first[0]? : Option Value) with
    | some .nilIface => runtimePanic .nilDeref
    | some (.iface t w) => do
      if (← nilAhead ((← program).types.size + Made.depth) t w name) != some false then
        unsupported (.noEntry "op/nilCheck.the method's receiver behind this interface value is a nil pointer, or cannot be seen to be none, and the arguments act or may panic (ledger 612)")
      pure (.value (.func (.method name) first captured))
    | _ => pure (.value (.func (.method name) first captured))
  | x => pure (.value x)
def oBin (op : BinOp) (t : TypeId) (cx cy : Bool) (x y : Value) : Sem Next := v' (do eqGuard op t (fl cx) (fl cy) x y; binOp op t x y)
def oUn (op : UnOp) (x : Value) : Sem Next := v' (Op.unary op x)
def oConv (s d : TypeId) (x : Value) : Sem Next := v' (convert s d x)
def oMkIface (t : TypeId) (x : Value) : Sem Next := v' (Instr.makeInterface t x)
def oMkFunc (f : Fn) (a b : Array Value) : Sem Next := v' (Instr.makeFunc f a b)
def oMkMap (t : TypeId) (r : Option Value) : Sem Next := v' (Instr.makeMap t r)
def oMkSlice (t : TypeId) (l c : Value) : Sem Next := v' (Instr.makeSlice t l c)
def oSlice (t : TypeId) (x : Value) (lo hi mx : Option Value) : Sem Next := v' (Instr.sliceAt t x lo hi mx)
def oFldA (t : TypeId) (x : Value) (f : Nat) : Sem Next := v' (Instr.fieldAt t x f)
def oFld (t : TypeId) (x : Value) (f : Nat) : Sem Next := v' (Instr.field t x f)
def oIdxA (t : TypeId) (x i : Value) : Sem Next := v' (Instr.indexAt t x i)
def oIdx (t : TypeId) (x i : Value) : Sem Next := v' (Instr.index t x i)
def oLookup (t : TypeId) (x i : Value) (ok : Bool) : Sem Next := v' (Instr.lookup t x i ok)
def oMapUp (t : TypeId) (m k x : Value) : Sem Next := u' (Instr.mapUpdate t m k x)
def oMapEntry (t : TypeId) (m k : Value) : Sem Next := v' (Instr.mapEntry t m k)
def oEntStore (t : TypeId) (m s x : Value) : Sem Next := u' (Instr.entryStore t m s x)
def oRange (t : TypeId) (x : Value) : Sem Next := v' (Instr.range t x)
def oNext (i : Value) (isStr : Bool) (t : TypeId) : Sem Next := v' (Instr.next i isStr t)
def oEntry (i : Value) : Sem Next := v' (Instr.entry i)
def oAssert (x : Value) (xt t : TypeId) (ok : Bool) : Sem Next := v' (Instr.typeAssert x xt t ok)
def oExtract (x : Value) (i : Nat) : Sem Next := v' (Instr.extract x i)
def oPanic (x : Value) : Sem Next := v' (Instr.panic x)
def oBuiltin (b : Builtin) (ats : Array TypeId) (t : TypeId) (cs : Array Bool) (args : Array Value) : Sem Next := builtin b ats t cs args
/-- A call of a function by its number. -/
def oCall (f : FuncId) (args : Array Value) : Sem Next := callFunc f args
def oCallV (f : Value) (args : Array Value) : Sem Next := do
  let d ← Deferred.ofValue f args
  invoke d.target d.args
def oInvoke (x : Value) (name : String) (args : Array Value) : Sem Next := invoke (.fn (.method name) #[]) (#[x] ++ args)

/-- A string, by its bytes. -/
def S (l : List UInt8) : Value := .string ⟨l.toArray⟩

/-- Slot i of what is told. -/
abbrev gs (s : List Value) (i : Nat) : Value := s.getD i undef
end Go.X
