/- What the claim needs of the texts on it, laid together. No condition. -/
import Derived.WalkKit
import Derived.KernelRfl
import Derived.Orders
import Derived.OrdersHeld
import Derived.Test.YtdljebgllipdjaaGreatDoorProg
import Derived.Lib.Bytealg
import Derived.WalkLawsBesides
import Derived.Deep.MidRow
import Derived.Below
import Derived.Laws.RangeAny
import Derived.Laws.BytesString
import Derived.Deep.AppendSrc
import Derived.Lib.ConvBytes
import Derived.Great.BuildSlice
import Derived.Deep.Upon
import Derived.Deep.Slices
import Derived.WideShapes
import Derived.SizedLaws
import Derived.Laws.AppendOwn
import Derived.LaidEql
import Derived.Deep.OwnRows
import Derived.Maps.AppendAt
import Derived.Lib.AppendZerosOnto
set_option linter.unusedVariables false
set_option linter.unusedSimpArgs false
set_option linter.unusedSectionVars false
set_option maxRecDepth 100000
section
namespace Go.X
open Go
abbrev Env:=Nat->Value
def put(e:Env)(d:Option Nat)(v:Value):Env:=
 match d with
 |some d=>λt=>bif Nat.beq t d then v else e t
 |none=>e
def ev(e:Env):Operand->Value
 | .tmp t=>e t
 | .const v=>v
 | .global g=>.pointer (some ⟨g,0,none⟩)
 | .func f=>.func (.func f) #[] #[]
def za6(a:Act):Env:=λt=>a.tmps.getD t undef
def Cl(P:Program)(f:FuncId)(args:Array Value)(w:World)(K:Value->World->Prop):Prop:=Calls P f args w λe w'=>∃v,e=.returned v/\K v w'
theorem Cl.mono{P:Program}{f:FuncId}{args:Array Value}{w:World}{K K':Value->World->Prop}(h:Cl P f args w K)(hk:∀v w',K v w'->K' v w'):Cl P f args w K':=Calls.mono h λ_ _ ⟨v,he,hv⟩=>⟨v,he,hk _ _ hv⟩
def st0(P:Program)(s:Sem Next)(w:World)(K:Value->World->Prop):Prop:=
 match s.run P w with
 | .ok (.value v) w'=>K v w'
 | .ok .skip w'=>K undef w'
 | .ok (.enter f args) w'=>Cl P f args w' K
 |_=>False
structure st(P:Program)(s:Sem Next)(w:World)(K:Value->World->Prop):Prop where
 h:st0 P s w K
def zdw(P:Program):Sem Next->Option Value
 | .pure (.value v)=>some v
 | .program k=>zdw P (k P)
 | .mark _ k=>zdw P k
 |_=>none
def pu0(P:Program)(s:Sem Next)(K:Value->Prop):Prop:=
 match zdw P s with
 |some v=>K v
 |none=>False
structure pu(P:Program)(s:Sem Next)(K:Value->Prop):Prop where
 h:pu0 P s K
def rd0(P:Program)(s:Sem Next)(w:World)(K:Value->Prop):Prop:=∃v,s.run P w=.ok (.value v) w/\K v
structure rd(P:Program)(s:Sem Next)(w:World)(K:Value->Prop):Prop where
 h:rd0 P s w K
def hold0(P:Program)(s:Sem Next)(v:Value)(w:World):Prop:=s.run P w=.ok (.value v) w
structure hold(P:Program)(s:Sem Next)(v:Value)(w:World):Prop where
 h:hold0 P s v w
def rsl0(P:Program)(t:TypeId)(x:Value)(w:World)(K:Value->Prop):Prop:=∃v,(do loadVar t (<-asAddr x):Sem Value).run P w=.ok v w/\K v
structure rsl(P:Program)(t:TypeId)(x:Value)(w:World)(K:Value->Prop):Prop where
 h:rsl0 P t x w K
inductive Cls where
 |plain (x:Operand)|pure|read|eff
def zpc(P:Program)(src dst:TypeId):Cls:=
 match Region.shape P.types src,Region.shape P.types dst with
 |some (.int _),some (.int _)=>.pure
 |some .string,some .string=>.pure
 |some (.slice _),some .string=>.read
 |some (.int _),some .string=>.pure
 |_,_=>.eff
def zpL(P:Program)(ts:Array TypeId):Cls:=
 match(ts.toList.head?).bind (Region.shape P.types)with
 |some .string|some (.slice _)|some (.array ..)=>.pure
 |_=>.read
def zry(P:Program)(op:BinOp)(t:TypeId)(x y:Operand):Cls:=
 match op,x,y with
 |_,.const _,_|_,_,.const _=>.pure
 | .eql,_,_| .neq,_,_=>
  match Region.shape P.types t with
  |some (.interface _)|some (.pointer _)=>.read
  |_=>.pure
 |_,_,_=>.pure
def zne(P:Program):Op->Cls
 | .move x| .assign x=>.plain x
 | .binOp op t x y _=>zry P op t x y
 | .pick ..| .nilCheck _| .unOp ..| .makeInterface ..| .makeFunc ..| .slice ..| .fieldAddr ..| .field ..| .indexAddr ..| .index ..| .typeAssert ..| .extract ..| .build .. =>.pure
 | .load ..| .lookup .. =>.read
 | .convert src dst _=>zpc P src dst
 | .call {callee:=.builtin .len,argTypes,..}=>zpL P argTypes
 | .call {callee:=.builtin .cap,argTypes,..}=>zpL P argTypes
 | .call {callee:=.builtin .max,..}=>.pure
 | .call {callee:=.builtin .min,..}=>.pure
 |_=>.eff
def isb(v:Value)(want:Bool):Bool:=
 match v with
 | .bool b=>b==want
 |_=>false
def gd0(v:Value)(want:Bool)(w:World)(X:(Value->World->Prop)->Prop)(K:Value->World->Prop):Prop:=bif isb v want then X K else K undef w
structure gd(v:Value)(want:Bool)(w:World)(X:(Value->World->Prop)->Prop)(K:Value->World->Prop):Prop where
 h:gd0 v want w X K
def yv(ops:List Oper)(e:Env)(j:Nat):Value:=
 match(ops[j]?).bind (·.dst)with
 |some d=>e d
 |none=>undef
def grd(ops:List Oper)(o:Oper)(e:Env)(w:World)(X:(Value->World->Prop)->Prop)(K:Value->World->Prop):Prop:=
 match o.guard with
 |none=>X K
 |some (j,want)=>gd (yv ops e j) want w X K
def opW(P:Program)(o:Oper)(e:Env)(w:World)(K:Value->World->Prop):Prop:=
 match zne P o.op with
 | .plain x=>K (ev e x) w
 | .pure=>pu P (execOp (ev e) o) λv=>K v w
 | .read=>st P (execOp (ev e) o) w K
 | .eff=>st P (execOp (ev e) o) w K
def seqW(P:Program)(ops:List Oper)(K:Env->World->Prop):List Oper->Env->World->Prop
 |[],e,w=>K e w
 |o::rest,e,w=>grd ops o e w (opW P o e w) λv w'=>seqW P ops K rest (put e o.dst v) w'
abbrev Fact:=Nat×(World->Prop)
def znm(P:Program)(o:Oper):Bool:=
 match zne P o.op with
 | .eff=>true
 |_=>false
def zgU(P:Program)(ops:List Oper)(B:List Nat)(listed:List Bool)(i:Nat):Bool:=
 go ops B listed
 where
 go:List Oper->List Nat->List Bool->Bool
  |o::os,b::bs,l::ls=>(!(l&&znm P o&&Nat.testBit b i))&&go os bs ls
  |_,_,_=>true
def zqq(P:Program)(ops:List Oper)(B:List Nat)(listed:List Bool)(w:World):List Fact->Prop->Prop
 |[],K=>K
 |(i,f)::F,K=>bif zgU P ops B listed i then f w/\zqq P ops B listed w F K else zqq P ops B listed w F K
def zin(listed:List Bool)(o:Oper):Bool:=o.after.toList.all λe=> !Region.binds .any e||listed.getD e.on false
def zgh(ops:List Oper)(listed:List Bool):List (Nat×Oper):=
 go ops listed 0
 where
 go:List Oper->List Bool->Nat->List (Nat×Oper)
  |o::os,l::ls,n=>bif !l&&zin listed o then(n,o)::go os ls (n+1)else go os ls (n+1)
  |_,_,_=>[]
def zg1(P:Program):List (Nat×Oper)->Option (Nat×Oper)
 |[]=>none
 |(i,o)::r=>bif znm P o then zg1 P r else some (i,o)
def zsM(ops:List Oper)(listed:List Bool)(i:Nat)(oi:Oper):Bool:=
 go ops listed 0
 where
 go:List Oper->List Bool->Nat->Bool
  |o::os,l::ls,n=>(Nat.beq n i||l||o.after.toList.any (λe=>Region.binds .any e&&Nat.beq e.on i)||oi.apart ops.toArray o)&&go os ls (n+1)
  |_,_,_=>true
def zsT(K:Nat->Oper->Prop):List (Nat×Oper)->Prop
 |[]=>True
 |[(i,o)]=>K i o
 |(i,o)::r=>K i o/\zsT K r
def zng(P:Program)(ops:List Oper)(o:Oper)(e:Env)(v:Value):World->Prop:=
 match o.guard with
 |none=>hold P (execOp (ev e) o) v
 |some (j,want)=>λw=>isb (yv ops e j) want=true->hold P (execOp (ev e) o) v w
def zkC(P:Program)(ops:List Oper)(B:List Nat)(K:Env->World->Prop):Nat->List Bool->List Fact->Env->World->Prop
 |0,listed,_,e,w=>
  match zgh ops listed with
  |[]=>K e w
  |_=>False
 |n+1,listed,F,e,w=>
  match zg1 P (zgh ops listed)with
  |some (i,o)=>
   match zsM ops listed i o with
   |false=>False
   |true=>
    match zne P o.op with
    | .plain x=>grd ops o e w (λK'=>K' (ev e x) w) λv w'=>zkC P ops B K n (listed.set i true) F (put e o.dst v) w'
    | .pure=>grd ops o e w (λK'=>pu P (execOp (ev e) o) λv=>K' v w) λv w'=>zkC P ops B K n (listed.set i true) F (put e o.dst v) w'
    | .read=>grd ops o e w (λK'=>rd P (execOp (ev e) o) w λv=>K' v w) λv w'=>zkC P ops B K n (listed.set i true) ((i,zng P ops o e v)::F) (put e o.dst v) w'
    | .eff=>False
  |none=>
   match zgh ops listed with
   |[]=>K e w
   |rs=>zsT (λi o=>grd ops o e w (st P (execOp (ev e) o) w) λv w'=>zqq P ops B (listed.set i true) w' F (zkC P ops B K n (listed.set i true) F (put e o.dst v) w')) rs
def znn:List Oper->List Nat->List Nat
 |[],acc=>acc
 |o::os,acc=>znn os (acc++[o.after.toList.foldl (λs e=>bif Region.binds .any e then s|||((1<<<e.on)|||acc.getD e.on 0)else s) 0])
def zlM(B:List Nat):List Oper->List Nat->Bool
 |o::os,b::bs=>Nat.beq b (o.after.toList.foldl (λs e=>bif Region.binds .any e then s|||((1<<<e.on)|||B.getD e.on 0)else s) 0)&&zlM B os bs
 |[],[]=>true
 |_,_=>false
def isSel(o:Oper):Bool:=match o.op with| .select .. =>true|_=>false
def regW(P:Program)(ops:List Oper)(draw:Bool)(K:Env->World->Prop)(e:Env)(w:World):Prop:=
 match draw with
 |false=>seqW P ops K ops e w
 |true=>
  let B:=znn ops []
  match zlM B ops B&& !ops.any isSel with
  |true=>zkC P ops B K ops.length (List.replicate ops.length false) [] e w.drew
  |false=>False
structure Tab where
 join:Nat->List Nat
 loop:Nat->List Nat
def zjs:List Oper->Nat->Nat
 |[],m=>m
 |o::os,m=>zjs os (match o.dst with|some d=>m|||(1<<<d)|none=>m)
def asg:Code->Nat
 | .region _ ops _=>zjs ops.toList 0
 | .seq x y=>asg x|||asg y
 | .cond _ x y=>asg x|||asg y
 | .block _ c=>asg c
 | .loop c=>asg c
 | .scope c=>asg c
 |_=>0
def zoa(n:Nat):List Oper->Bool
 |[]=>true
 |o::os=>(match o.dst with|some d=>Nat.blt d n|none=>true)&&zoa n os
def zjF(n:Nat):Code->Bool
 | .region _ ops _=>zoa n ops.toList
 | .seq x y=>zjF n x&&zjF n y
 | .cond _ x y=>zjF n x&&zjF n y
 | .block _ c=>zjF n c
 | .loop c=>zjF n c
 | .scope c=>zjF n c
 |_=>true
def zjf:Code->Bool
 | .cond .. =>true
 | .loop .. =>true
 | .seq x y=>zjf x||zjf y
 | .block _ c=>zjf c
 | .scope c=>zjf c
 |_=>false
def key:Code->Option Nat
 | .region i _ _=>some i
 | .seq x y=>match key x with|some i=>some i|none=>key y
 | .cond _ x y=>match key x with|some i=>some i|none=>key y
 | .block _ c=>key c
 | .loop c=>key c
 | .scope c=>key c
 |_=>none
def keyD(c:Code):Nat:=match key c with|some i=>i|none=>1000000
def idx:List Nat->Nat->Nat->Option Nat
 |[],_,_=>none
 |l::ls,t,n=>bif Nat.beq l t then some n else idx ls t (n+1)
def mix(m:Nat)(L:List Nat)(s:List Value)(u:Env)(e:Env):Env:=λt=>bif Nat.testBit m t then(match idx L t 0 with|some i=>s.getD i undef|none=>u t)else e t
def thn(K:Env->World->Prop)(Q:Exit->Env->World->Prop):Exit->Env->World->Prop
 | .normal,e,w=>K e w
 |x,e,w=>Q x e w
def inb(id:Nat)(Q:Exit->Env->World->Prop):Exit->Env->World->Prop
 | .exit id',e,w=>bif Nat.beq id' id then Q .normal e w else Q (.exit id') e w
 |x,e,w=>Q x e w
def cd0(v:Value)(X Y:Prop):Prop:=
 match v with
 | .bool b=>if b=true then X else Y
 |_=>False
structure cd(v:Value)(X Y:Prop):Prop where
 h:cd0 v X Y
def jn0(R:List Value->Env->World->Prop)(X:(List Value->World->Prop)->Prop):Prop:=∃k:List Value->World->Prop,(∀s u w,k s w->R s u w)/\X k
structure jn(R:List Value->Env->World->Prop)(X:(List Value->World->Prop)->Prop):Prop where
 h:jn0 R X
def lp0(s0:List Value)(w0:World)(R:List Value->Env->World->(List Value->World->Prop)->Prop):Prop:=∃(I:List Value->World->Prop)(μ:List Value->World->Nat),I s0 w0/\∀s u w,I s w->R s u w λs' w'=>I s' w'/\μ s' w'<μ s w
structure lp(s0:List Value)(w0:World)(R:List Value->Env->World->(List Value->World->Prop)->Prop):Prop where
 h:lp0 s0 w0 R
def CW(P:Program)(T:Tab):Code->(Exit->Env->World->Prop)->Env->World->Prop
 | .skip,Q,e,w=>Q .normal e w
 | .region _ ops draw,Q,e,w=>regW P ops.toList draw (Q .normal) e w
 | .seq x y,Q,e,w=>
  match zjf x with
  |false=>CW P T x (thn (CW P T y Q) Q) e w
  |true=>jn (λs u w'=>CW P T y Q (mix (asg x) (T.join (keyD y)) s u e) w') λk=>CW P T x (thn (λe' w'=>k ((T.join (keyD y)).map e') w') Q) e w
 | .cond c x y,Q,e,w=>cd (ev e c) (CW P T x Q e w) (CW P T y Q e w)
 | .block id c,Q,e,w=>CW P T c (inb id Q) e w
 | .loop c,Q,e,w=>lp ((T.loop (keyD c)).map e) w λs u w' C=>CW P T c (thn (λe' w''=>C ((T.loop (keyD c)).map e') w'') Q) (mix (asg c) (T.loop (keyD c)) s u e) w'
 | .exit id,Q,e,w=>Q (.exit id) e w
 | .ret,Q,e,w=>Q .ret e w
 |_,_,_,_=>False
def tup:List Value->Value
 |[v]=>v
 |vs=>.tuple vs.toArray
def resW(P:Program):List ResultVar->List Value->Env->World->(Value->World->Prop)->Prop
 |[],acc,_,w,K=>K (tup acc) w
 | .tmp t::r,acc,e,w,K=>resW P r (acc++[e t]) e w K
 | .cell a t::r,acc,e,w,K=>rsl P t (e a) w λv=>resW P r (acc++[v]) e w K
def retQ(P:Program)(rs:List ResultVar)(K:Value->World->Prop):Exit->Env->World->Prop
 | .normal,e,w=>resW P rs [] e w K
 | .ret,e,w=>resW P rs [] e w K
 |_,_,_=>False
def env0(l:List Value):Env:=λt=>l.getD t undef
theorem zhu(a:Act):a.eval=ev (za6 a):=by funext x;cases x<;>rfl
theorem zhA{P:Program}{v:Value}(w:World):∀s:Sem Next,zdw P s=some v->
  s.run P w=.ok (.value v) w
 | .pure n,h=>by cases n<;>simp[zdw]at h<;>simp[Sem.run,h]
 | .program k,h=>by simp only[zdw]at h;simp only[Sem.run];exact zhA w _ h
 | .mark _ k,h=>by simp only[zdw]at h;simp only[Sem.run];exact zhA w _ h
 | .load ..,h| .store ..,h| .new ..,h| .shape ..,h| .freeze ..,h| .frozen ..,h| .getObj ..,h| .setObj ..,h| .choose ..,h| .sys ..,h| .halt _,h=>by simp[zdw]at h
def Fr(m:Nat)(a0 a:Act):Prop:=a.tmps.size=a0.tmps.size/\a.defers=a0.defers/\∀t,Nat.testBit m t=false->za6 a t=za6 a0 t
theorem Fr.refl(m:Nat)(a:Act):Fr m a a:=⟨rfl,rfl,λ_ _=>rfl⟩
theorem Fr.trans{m m1 m2:Nat}{a b c:Act}(h1:Fr m1 a b)(h2:Fr m2 b c)(s1:∀t,Nat.testBit m t=false->Nat.testBit m1 t=false)(s2:∀t,Nat.testBit m t=false->Nat.testBit m2 t=false):Fr m a c:=⟨h2.1.trans h1.1,h2.2.1.trans h1.2.1,λt ht=>(h2.2.2 t (s2 t ht)).trans (h1.2.2 t (s1 t ht))⟩
theorem zsR(a:Act)(d:Option Tmp)(v:Value):(a.put d v).tmps.size=a.tmps.size:=by cases d<;>simp[Act.put]
theorem zqm(a:Act)(d:Option Tmp)(v:Value):(a.put d v).defers=a.defers:=by cases d<;>rfl
theorem zpC{t d:Nat}(h:t≠d):Nat.beq t d=false:=by
 cases e:Nat.beq t d with
 |false=>rfl
 |true=>exact absurd (Nat.eq_of_beq_eq_true e) h
theorem zkd(a:Act)(d:Option Tmp)(v:Value)(h:∀x,d=some x->x<a.tmps.size):za6 (a.put d v)=put (za6 a) d v:=by
 cases d with
 |none=>rfl
 |some d=>
  funext t;simp only[za6,Act.put,put];by_cases e:t=d
  ·subst e;have:=h t rfl;simp[this]
  ·have e1:Nat.beq t d=false:=zpC e;simp[Array.getElem?_setIfInBounds_ne (Ne.symm e)];rw[e1];rfl
theorem zn1{n:Nat}{l:List Oper}(h:zoa n l=true){o:Oper}(ho:o∈l):∀x,o.dst=some x->x<n:=by
 induction l with
 |nil=>cases ho
 |cons b l ih=>
  simp only[zoa,Bool.and_eq_true]at h;cases ho with
  |head=>intro x hx;have:=h.1;rw[hx]at this;exact Nat.le_of_ble_eq_true this
  |tail _ ho=>exact ih h.2 ho
theorem zo0(l:List Oper)(m t:Nat)(h:Nat.testBit m t=true):Nat.testBit (zjs l m) t=true:=by
 induction l generalizing m with
 |nil=>exact h
 |cons o l ih=>simp only[zjs];apply ih;cases o.dst<;>simp[h,Nat.testBit_or]
theorem zqt{l:List Oper}{o:Oper}(ho:o∈l):∀(m x:Nat),o.dst=some x->Nat.testBit (zjs l m) x=true:=by
 induction l with
 |nil=>cases ho
 |cons b l ih=>
  intro m x hx;simp only[zjs];cases ho with
  |head=>apply zo0;rw[hx];simp[Nat.testBit_or,Nat.testBit_shiftLeft]
  |tail _ ho=>exact ih ho _ x hx
theorem Fr.put{m:Nat}{a0 a:Act}{d:Option Tmp}{v:Value}(h:Fr m a0 a)(hd:∀x,d=some x->x<a0.tmps.size/\Nat.testBit m x=true):Fr m a0 (a.put d v):=by
 refine⟨(zsR ..).trans h.1,(zqm ..).trans h.2.1,λt ht=>?_⟩;rw[zkd _ _ _ (λx hx=>by rw[h.1];exact(hd x hx).1)];cases d with
 |none=>exact h.2.2 t ht
 |some d=>
  simp only[X.put];have:t≠d:=λe=>by subst e;rw[(hd t rfl).2]at ht;cases ht
  have e1:Nat.beq t d=false:=zpC this;rw[e1];exact h.2.2 t ht
theorem zkB(ops:Array Oper)(a:Act)(o:Oper):Region.wanted o (yielded ops a.tmps)=(match o.guard with|none=>true|some (j,want)=>isb (yv ops.toList (za6 a) j) want):=by
 unfold Region.wanted;cases o.guard with
 |none=>rfl
 |some g=>
  obtain⟨j,want⟩:=g;simp only[yielded,yv,Array.getElem?_toList];cases h:(ops[j]?).bind (·.dst)with
  |none=>simp[isb,undef]
  |some d=>
   simp only[Option.bind_some,za6];cases h2:a.tmps[d]? with
   |none=>simp[h2,isb,undef]
   |some v=>cases v<;>simp[h2,isb]
section
variable{P:Program}{T:Tab}
theorem zsX{o:Oper}{a:Act}{w:World}{K:Value->World->Prop}{next:Act->World->Prop}{Q:Exit->Act->World->Prop}
  (h:st P (execOp (ev (za6 a)) o) w K) (hk:∀v w',K v w'->next (a.put o.dst v) w'):o.wp P a w next Q:=by
 unfold Oper.wp;rw[zhu];replace h:=h.h;unfold st0 at h;generalize (execOp (ev (za6 a)) o).run P w=r at*;cases r with
 |ok n w'=>
  cases n<;>simp only at h<;>simp only[Oper.upon]
  case value v=>exact hk _ _ h
  case skip=>exact hk _ _ h
  case enter f args=>exact Calls.mono h λe w'' ⟨v,he,hv⟩=>by subst he;exact hk _ _ hv
 |halt x w'=>simp only at h
theorem pu_wp{o:Oper}{a:Act}{w:World}{K:Value->Prop}{next:Act->World->Prop}{Q:Exit->Act->World->Prop}
  (h:pu P (execOp (ev (za6 a)) o) K) (hk:∀v,K v->next (a.put o.dst v) w):o.wp P a w next Q:=by
 replace h:=h.h;unfold pu0 at h;cases hr:zdw P (execOp (ev (za6 a)) o)with
 |none=>rw[hr]at h;exact h.elim
 |some v=>rw[hr]at h;unfold Oper.wp;rw[zhu];rw[zhA w _ hr];exact hk _ h
theorem zoj{ts:Array TypeId}{x:Operand}(h:zpL P ts=.plain x):False:=by unfold zpL at h;split at h<;>cases h
theorem znj{s d:TypeId}{x:Operand}(h:zpc P s d=.plain x):False:=by unfold zpc at h;split at h<;>cases h
theorem znZ{op:BinOp}{t:TypeId}{y z x:Operand}(h:zry P op t y z=.plain x):False:=by unfold zry at h;split at h<;>first|(cases h;done)|(split at h<;>cases h)
theorem zog{op:Op}{x:Operand}(h:zne P op=.plain x):op=.move x\/op=.assign x:=by
 unfold zne at h;split at h
 ·injection h with h;subst h;exact .inl rfl
 ·injection h with h;subst h;exact .inr rfl
 all_goals first
  |(cases h;done)
  |exact(zoj h).elim
  |exact(znj h).elim
  |exact(znZ h).elim
theorem zsK{o:Oper}{x:Operand}(hc:zne P o.op=.plain x){a:Act}{w:World}{next:Act->World->Prop}{Q:Exit->Act->World->Prop}
  (hk:next (a.put o.dst (ev (za6 a) x)) w):o.wp P a w next Q:=by
 unfold Oper.wp;rw[zhu];have:execOp (ev (za6 a)) o=(Pure.pure (.value (ev (za6 a) x)):Sem Next):=by rcases zog hc with h|h<;>(unfold execOp;rw[h])
 rw[this];exact hk
theorem ztV{o:Oper}{a:Act}{w:World}{K:Value->World->Prop}{next:Act->World->Prop}{Q:Exit->Act->World->Prop}
  (h:opW P o (za6 a) w K) (hk:∀v w',K v w'->next (a.put o.dst v) w'):o.wp P a w next Q:=by
 unfold opW at h;cases hc:zne P o.op with
 |plain x=>rw[hc]at h;exact zsK hc (hk _ _ h)
 |pure=>rw[hc]at h;exact pu_wp h λv hv=>hk _ _ hv
 |read=>rw[hc]at h;exact zsX h hk
 |eff=>rw[hc]at h;exact zsX h hk
theorem zmU{ops:Array Oper}{K:Env->World->Prop}{m:Nat}{a0:Act}(Q:Exit->Act->World->Prop)(hQ:∀a w,Fr m a0 a->K (za6 a) w->Q .normal a w):
  ∀(l:List Oper)(a:Act)(w:World),zoa a0.tmps.size l=true->(∀o∈l,∀x,o.dst=some x->Nat.testBit m x=true)->Fr m a0 a->
   seqW P ops.toList K l (za6 a) w->wpList P ops Q l a w
 |[],a,w,_,_,hf,h=>hQ a w hf h
 |o::l,a,w,hok,hm,hf,h=>by
  have hdst:∀x,o.dst=some x->x<a0.tmps.size/\Nat.testBit m x=true:=λx hx=>⟨zn1 hok (List.mem_cons_self ..) x hx,hm o (List.mem_cons_self ..) x hx⟩;have hok':zoa a0.tmps.size l=true:=by simp only[zoa,Bool.and_eq_true]at hok;exact hok.2
  have hm':∀o∈l,∀x,o.dst=some x->Nat.testBit m x=true:=λo' ho=>hm o' (List.mem_cons_of_mem _ ho);have step:∀v w',seqW P ops.toList K l (put (za6 a) o.dst v) w'->wpList P ops Q l (a.put o.dst v) w':=λv w' hv=>zmU Q hQ l _ w' hok' hm' (hf.put hdst) (by rw[zkd _ _ _ (λx hx=>by rw[hf.1];exact(hdst x hx).1)];exact hv)
  simp only[seqW,grd]at h;simp only[wpList,zkB];cases hg:o.guard with
  |none=>simp only[hg]at h;rw[if_pos rfl];exact .inl (ztV h step)
  |some g=>
   obtain⟨j,want⟩:=g;simp only[hg]at h;replace h:=h.h;unfold gd0 at h;cases hb:isb (yv ops.toList (za6 a) j) want with
   |true=>simp only[hb,cond_true]at h;rw[if_pos hb];exact .inl (ztV h step)
   |false=>simp only[hb,cond_false]at h;rw[if_neg (show¬(isb (yv ops.toList (za6 a) j) want=true)from by rw[hb];exact Bool.false_ne_true)];exact step _ _ h
theorem zpU{listed:List Bool}:∀(os:List Oper)(ls:List Bool)(n i:Nat)(o:Oper),
  (i,o)∈zgh.go listed os ls n↔∃k,i=n+k/\os[k]?=some o/\ls[k]?=some false/\zin listed o=true
 |[],ls,n,i,o=>by simp[zgh.go]
 |o'::os,[],n,i,o=>by simp[zgh.go]
 |o'::os,l::ls,n,i,o=>by
  have ih:=zpU (listed:=listed) os ls (n+1) i o;have key:(∃k,i=n+k/\(o'::os)[k]?=some o/\(l::ls)[k]?=some false/\zin listed o=true)↔
    (i=n/\o'=o/\l=false/\zin listed o=true)\/(∃k,i=n+1+k/\os[k]?=some o/\ls[k]?=some false/\zin listed o=true):=by
   constructor
   ·rintro⟨k,h1,h2,h3,h4⟩;cases k with
    |zero=>left;simp at h1 h2 h3;exact⟨h1,h2,h3,h4⟩
    |succ k=>right;simp at h2 h3;exact⟨k,by omega,h2,h3,h4⟩
   ·rintro(⟨h1,h2,h3,h4⟩|⟨k,h1,h2,h3,h4⟩)
    ·exact⟨0,by omega,by simp[h2],by simp[h3],h4⟩
    ·exact⟨k+1,by omega,by simpa using h2,by simpa using h3,h4⟩
  rw[key];simp only[zgh.go];cases hb:(!l&&zin listed o')with
  |true=>
   simp only[cond_true,List.mem_cons,ih];simp only[Bool.and_eq_true,Bool.not_eq_true']at hb;constructor
   ·rintro(h|h)
    ·left;injection h with h1 h2;subst h1 h2;exact⟨rfl,rfl,hb.1,hb.2⟩
    ·exact .inr h
   ·rintro(⟨h1,h2,_,_⟩|h)
    ·left;rw[h1,h2]
    ·exact .inr h
  |false=>
   simp only[cond_false,ih];constructor
   ·exact .inr
   ·rintro(⟨h1,h2,h3,h4⟩|h)
    ·subst h2 h3;rw[h4]at hb;cases hb
    ·exact h
theorem zfx{ops:List Oper}{l:List Bool}{i:Nat}{o:Oper}:(i,o)∈zgh ops l↔ops[i]?=some o/\l[i]?=some false/\zin l o=true:=by
 unfold zgh;rw[zpU];constructor
 ·rintro⟨k,h1,h⟩;have:i=k:=by omega
  subst this;exact h
 ·intro h;exact⟨i,by omega,h⟩
theorem znk{l:List Bool}{i:Nat}:l.toArray.getD i true=false↔l[i]?=some false:=by
 cases h:l[i]? with
 |none=>simp[h]
 |some b=>simp[h]
theorem zjb{l:List Bool}{o:Oper}:zin l o=true↔∀e∈o.after,Region.binds .any e=true->l.toArray.getD e.on false=true:=by
 unfold zin;rw[List.all_eq_true];constructor
 ·intro h e he hb;have:=h e (Array.mem_toList_iff.2 he);simpa[hb]using this
 ·intro h e he;have h2:=h e (Array.mem_toList_iff.1 he);cases hb:Region.binds .any e with
  |false=>rfl
  |true=>have:=h2 hb;simpa using this
theorem zfA{ops:Array Oper}{l:List Bool}{i:Nat}:i∈Region.ready .any ops l.toArray↔∃o,(i,o)∈zgh ops.toList l:=by
 rw[mem_ready,znk];constructor
 ·rintro⟨h1,o,h2,h3⟩;exact⟨o,zfx.2 ⟨by simpa using h2,h1,zjb.2 h3⟩⟩
 ·rintro⟨o,h⟩;obtain⟨h1,h2,h3⟩:=zfx.1 h;exact⟨h2,o,by simpa using h1,zjb.1 h3⟩
theorem zpR{i:Nat}:∀(os:List Oper)(bs:List Nat)(ls:List Bool),zgU.go P i os bs ls=true↔
  ∀(k:Nat)(o:Oper)(b:Nat),os[k]?=some o->bs[k]?=some b->ls[k]?=some true->znm P o=true->Nat.testBit b i=false
 |[],bs,ls=>by simp[zgU.go]
 |o'::os,[],ls=>by simp[zgU.go]
 |o'::os,b'::bs,[]=>by simp[zgU.go]
 |o'::os,b'::bs,l'::ls=>by
  simp only[zgU.go,Bool.and_eq_true,zpR os bs ls];constructor
  ·rintro⟨h1,h2⟩ k o b ho hb hl he;cases k with
   |zero=>simp at ho hb hl;subst ho hb hl;simpa[he]using h1
   |succ k=>exact h2 k o b (by simpa using ho) (by simpa using hb) (by simpa using hl) he
  ·intro h;refine⟨?_,λk o b ho hb hl he=>h (k+1) o b (by simpa using ho) (by simpa using hb) (by simpa using hl) he⟩;cases hl:l'<;>cases he:znm P o'<;>simp
   exact h 0 o' b' (by simp) (by simp) (by simp[hl]) he
theorem zij{ops:List Oper}{B:List Nat}{l:List Bool}{i:Nat}:zgU P ops B l i=true↔
  ∀(k:Nat)(o:Oper)(b:Nat),ops[k]?=some o->B[k]?=some b->l[k]?=some true->znm P o=true->Nat.testBit b i=false:=zpR ops B l
theorem zkD{ops:List Oper}{B:List Nat}{l:List Bool}{w:World}{K:Prop}:∀{F:List Fact},zqq P ops B l w F K->(∀f∈F,zgU P ops B l f.1=true->f.2 w)/\K
 |[],h=>⟨by simp,h⟩
 |(i,f)::F,h=>by
  simp only[zqq]at h;cases ha:zgU P ops B l i with
  |true=>
   simp only[ha,cond_true]at h;obtain⟨h1,h2⟩:=zkD h.2;refine⟨λg hg hal=>?_,h2⟩;cases hg with
   |head=>exact h.1
   |tail _ hg=>exact h1 g hg hal
  |false=>
   simp only[ha,cond_false]at h;obtain⟨h1,h2⟩:=zkD h;refine⟨λg hg hal=>?_,h2⟩;cases hg with
   |head=>rw[ha]at hal;cases hal
   |tail _ hg=>exact h1 g hg hal
def DC(B:List Nat)(l:List Bool):Prop:=∀(k b i:Nat),B[k]?=some b->l[k]?=some true->Nat.testBit b i=true->l[i]?=some true
def foldB(B:List Nat)(es:List Edge)(s:Nat):Nat:=es.foldl (λs e=>bif Region.binds .any e then s|||((1<<<e.on)|||B.getD e.on 0)else s) s
theorem zoi{B:List Nat}{i:Nat}:∀{es:List Edge}{s:Nat},Nat.testBit (foldB B es s) i=true->
  Nat.testBit s i=true\/∃e∈es,Region.binds .any e=true/\(e.on=i\/Nat.testBit (B.getD e.on 0) i=true)
 |[],s,h=>.inl h
 |e::es,s,h=>by
  have h':Nat.testBit (foldB B es (bif Region.binds .any e then s|||((1<<<e.on)|||B.getD e.on 0)else s)) i=true:=h;rcases zoi h' with h1|⟨e',he',hb,h2⟩
  ·cases hb:Region.binds .any e with
   |false=>simp only[hb,cond_false]at h1;exact .inl h1
   |true=>
    simp only[hb,cond_true,Nat.testBit_or,Bool.or_eq_true]at h1;rcases h1 with h1|h1|h1
    ·exact .inl h1
    ·right;refine⟨e,List.mem_cons_self ..,hb,.inl ?_⟩;simp only[Nat.testBit_shiftLeft,Bool.and_eq_true,decide_eq_true_eq]at h1;have h3:=h1.2;have:i - e.on=0:=by
      rcases Nat.eq_zero_or_pos (i - e.on)with h4|h4
      ·exact h4
      ·exfalso;obtain⟨k,hk⟩:∃k,i - e.on=k+1:=⟨i - e.on - 1,by omega⟩;rw[hk,Nat.testBit_succ]at h3;simp at h3
     omega
    ·exact .inr ⟨e,List.mem_cons_self ..,hb,.inr h1⟩
  ·exact .inr ⟨e',List.mem_cons_of_mem _ he',hb,h2⟩
theorem zmZ{B:List Nat}:∀{os:List Oper}{bs:List Nat},zlM B os bs=true->os.length=bs.length/\∀(k:Nat)(o:Oper)(b:Nat),os[k]?=some o->bs[k]?=some b->b=foldB B o.after.toList 0
 |[],[],_=>⟨rfl,by simp⟩
 |[],b::bs,h=>by simp[zlM]at h
 |o::os,[],h=>by simp[zlM]at h
 |o::os,b::bs,h=>by
  simp only[zlM,Bool.and_eq_true]at h;obtain⟨h1,h2⟩:=zmZ h.2;refine⟨by simp[h1],λk o' b' ho hb=>?_⟩;cases k with
  |zero=>simp at ho hb;subst ho hb;exact Nat.eq_of_beq_eq_true h.1
  |succ k=>exact h2 k o' b' (by simpa using ho) (by simpa using hb)
theorem zpE{ops:List Oper}{B:List Nat}(hB:zlM B ops B=true){l:List Bool}(hdc:DC B l){j i b:Nat}{o:Oper}(ho:ops[j]?=some o)(hb:B[j]?=some b)
  (hr:zin l o=true) (ht:Nat.testBit b i=true):l[i]?=some true:=by
 have e:=(zmZ hB).2 j o b ho hb;subst e;rcases zoi ht with h|⟨e,he,hbd,h⟩
 ·simp at h
 ·have hl:=zjb.1 hr e (Array.mem_toList_iff.1 he) hbd;have hl':l[e.on]?=some true:=by
   cases hx:l[e.on]? with
   |none=>simp[hx]at hl
   |some b=>simp[hx]at hl;rw[hl]
  rcases h with h|h
  ·rw[<-h];exact hl'
  ·cases hx:B[e.on]? with
   |none=>simp[hx]at h
   |some b'=>simp[hx]at h;exact hdc e.on b' i hx hl' h
theorem zil{l:List Bool}{j k:Nat}(h:l[k]?=some true):(l.set j true)[k]?=some true:=by
 by_cases e:j=k
 ·subst e;rw[List.getElem?_set_self (List.getElem?_eq_some_iff.1 h).1]
 ·rw[List.getElem?_set_ne e];exact h
theorem DC.set{ops:List Oper}{B:List Nat}(hB:zlM B ops B=true){l:List Bool}(hdc:DC B l){j:Nat}{o:Oper}(ho:ops[j]?=some o)(hr:zin l o=true):DC B (l.set j true):=by
 intro k b i hb hk ht;by_cases e:j=k
 ·subst e;exact zil (zpE hB hdc ho hb hr ht)
 ·rw[List.getElem?_set_ne e]at hk;exact zil (hdc k b i hb hk ht)
def anyF(P:Program)(ops:Array Oper)(B:List Nat)(Q:Exit->Act->World->Prop)(F:List Fact):Nat->List Bool->Act->World->Prop
 |0,l,a,w=>Region.ready .any ops l.toArray=[]/\Q .normal a w
 |n+1,l,a,w=>(Region.ready .any ops l.toArray=[]->Q .normal a w)/\
  ∀i∈Region.ready .any ops l.toArray,wpOp P ops Q i (λa' w'=>(∀f∈F,zgU P ops.toList B (l.set i true) f.1=true->f.2 w')/\anyF P ops B Q F n (l.set i true) a' w') a w
theorem zhB(l:List Bool)(i:Nat):(l.set i true).toArray=l.toArray.setIfInBounds i true:=by simp
theorem zka{ops:Array Oper}{B:List Nat}{Q:Exit->Act->World->Prop}{F:List Fact}:∀(n:Nat)(l:List Bool)(a:Act)(w:World),
  anyF P ops B Q F n l a w->wpAny P .any ops Q n l.toArray a w
 |0,_,_,_,h=>h
 |n+1,l,a,w,h=>⟨h.1,λi hi=>wpOp_mono (λa' w' h'=>by rw[<-zhB];exact zka n _ a' w' h'.2) (h.2 i hi)⟩
theorem zn4{ops:Array Oper}{B:List Nat}{Q:Exit->Act->World->Prop}{F F':List Fact}(hF:∀f∈F,f∈F'):∀(n:Nat)(l:List Bool)(a:Act)(w:World),
  anyF P ops B Q F' n l a w->anyF P ops B Q F n l a w
 |0,_,_,_,h=>h
 |n+1,l,a,w,h=>⟨h.1,λi hi=>wpOp_mono (λa' w' h'=>⟨λf hf=>h'.1 f (hF f hf),zn4 hF n _ a' w' h'.2⟩) (h.2 i hi)⟩
theorem zjH{ops:List Oper}{B:List Nat}{l:List Bool}{j x:Nat}(h:zgU P ops B (l.set j true) x=true):zgU P ops B l x=true:=zij.2 λk o b ho hb hl he=>zij.1 h k o b ho hb (zil hl) he
theorem zoV{ops:List Oper}{B:List Nat}{l:List Bool}{i x:Nat}{oi:Oper}(hi:ops[i]?=some oi)(hne:znm P oi=false)(h:zgU P ops B l x=true):zgU P ops B (l.set i true) x=true:=
 zij.2 λk o b ho hb hl he=>by
  by_cases e:i=k
  ·subst e;rw[hi]at ho;injection ho with ho;subst ho;rw[hne]at he;cases he
  ·rw[List.getElem?_set_ne e]at hl;exact zij.1 h k o b ho hb hl he
theorem zmS{ops:Array Oper}{B:List Nat}{Q:Exit->Act->World->Prop}{F:List Fact}{i:Nat}{oi:Oper}{v:Value}{ρ:World->Prop}(hB:zlM B ops.toList B=true)
  (hi:ops[i]?=some oi) (hsel:∀(j:Nat)(o:Oper)cs b,ops[j]?=some o->o.op≠ .select cs b) (hQ:∀c a w,¬Q (.panic c) a w) (hne:znm P oi=false):
  ∀(n:Nat)(l:List Bool)(a:Act)(w:World),(∀j oj,ops[j]?=some oj->j≠i->l[j]?=some false->(∀e∈oj.after,Region.binds .any e=true->e.on≠i)->oi.apart ops oj=true)->
   i∈Region.ready .any ops l.toArray->YieldsIf P ops ρ oi v a->ρ w->DC B l->(∀f∈F,zgU P ops.toList B l f.1=true->f.2 w)->
   anyF P ops B Q ((i,ρ)::F) n (l.set i true) (a.put oi.dst v) w->anyF P ops B Q F (n+1) l a w:=by
 have hi':ops.toList[i]?=some oi:=by simpa using hi
 intro n
 induction n with
 |zero=>
  intro l a w _ hr hy hρ hdc hF H;refine⟨λh=>(by rw[h]at hr;cases hr),λj hj=>?_⟩;by_cases hji:j=i
  ·subst hji;exact hy.wpOp hi hρ ⟨λf hf hal=>hF f hf (zjH hal),H⟩
  ·have:=ready_mono hj hji;rw[<-zhB,H.1]at this;cases this
 |succ n ih=>
  intro l a w hfree hr hy hρ hdc hF H;refine⟨λh=>(by rw[h]at hr;cases hr),λj hj=>?_⟩;by_cases hji:j=i
  ·subst hji;exact hy.wpOp hi hρ ⟨λf hf hal=>hF f hf (zjH hal),zn4 (λf hf=>List.mem_cons_of_mem _ hf) _ _ _ _ H⟩
  ·have h1:=H.2 j (by rw[zhB];exact ready_mono hj hji);obtain⟨oj,hoj⟩:=zfA.1 hj;obtain⟨hoj',hlj,hrj⟩:=zfx.1 hoj;have hoj2:ops[j]?=some oj:=by simpa using hoj'
   obtain⟨oi',hoi⟩:=zfA.1 hr;obtain⟨hoi',hli,hri⟩:=zfx.1 hoi;have hnot:∀e∈oj.after,Region.binds .any e=true->e.on≠i:=λe he hb heq=>by have h2:=zjb.1 hrj e he hb;rw[heq]at h2;simp[hli]at h2
   have h2:=wpOp_putIf hoj2 (hfree j oj hoj2 hji hlj hnot) (λcs b=>hsel i oi cs b hi) (λcs b=>hsel j oj cs b hoj2) (λc a w h=>absurd h (hQ c _ w)) hy h1;have hji':i≠j:=Ne.symm hji;have hali:∀x,zgU P ops.toList B (l.set j true) x=true->zgU P ops.toList B ((l.set i true).set j true) x=true:=λx hx=>by rw[List.set_comm _ _ hji'];exact zoV hi' hne hx
   have haliI:zgU P ops.toList B ((l.set i true).set j true) i=true:=zij.2 λk o b ho hb hl he=>by
    cases ht:Nat.testBit b i with
    |false=>rfl
    |true=>
     exfalso;by_cases e1:k=j
     ·subst e1;have:=zpE hB hdc ho hb (by rw[hoj']at ho;injection ho with ho;subst ho;exact hrj) ht;rw[hli]at this;cases this
     ·by_cases e2:k=i
      ·subst e2;rw[hi']at ho;injection ho with ho;subst ho;rw[hne]at he;cases he
      ·rw[List.getElem?_set_ne (Ne.symm e1),List.getElem?_set_ne (Ne.symm e2)]at hl;have:=hdc k b i hb hl ht;rw[hli]at this;cases this
   refine wpOp_mono (λa' w' h3=>⟨λf hf hal=>h3.2.1 f (List.mem_cons_of_mem _ hf) (hali f.1 hal),?_⟩) h2;refine ih (l.set j true) a' w' (λk ok hk hki hun hno=>?_) (by rw[zhB];exact ready_mono hr hji') h3.1 (h3.2.1 (i,ρ) (List.mem_cons_self ..) haliI) (hdc.set hB hoj' hrj) (λf hf hal=>h3.2.1 f (List.mem_cons_of_mem _ hf) (hali f.1 hal)) ?_
   ·refine hfree k ok hk hki ?_ hno;by_cases e:j=k
    ·subst e;rw[List.getElem?_set_self (List.getElem?_eq_some_iff.1 hlj).1]at hun;cases hun
    ·rw[List.getElem?_set_ne e]at hun;exact hun
   ·rw[List.set_comm _ _ hji];exact h3.2.2
theorem zq3{ops:List Oper}{i:Nat}{oi:Oper}:∀(os:List Oper)(ls:List Bool)(n:Nat),zsM.go ops i oi os ls n=true->os.length=ls.length->
  ∀(k:Nat)(o:Oper),os[k]?=some o->n+k≠i->ls[k]?=some false->(∀e∈o.after,Region.binds .any e=true->e.on≠i)->oi.apart ops.toArray o=true
 |[],ls,n,_,_=>by simp
 |o'::os,[],n,_,hl=>by simp at hl
 |o'::os,l'::ls,n,h,hl=>by
  intro k o ho hne hls hno;simp only[zsM.go,Bool.and_eq_true]at h;cases k with
  |zero=>
   simp at ho hls;subst ho hls;have h1:=h.1;rw[zpC (show n≠i by omega)]at h1;simp only[Bool.false_or,Bool.or_eq_true]at h1;rcases h1 with h1|h1
   ·obtain⟨e,he,hb⟩:=List.any_eq_true.1 h1;simp only[Bool.and_eq_true]at hb;exact absurd (Nat.eq_of_beq_eq_true hb.2) (hno e (Array.mem_toList_iff.1 he) hb.1)
   ·exact h1
  |succ k=>exact zq3 os ls (n+1) h.2 (by simpa using hl) k o (by simpa using ho) (by omega) (by simpa using hls) hno
theorem zmA{l:List (Nat×Oper)}{i:Nat}{o:Oper}(h:zg1 P l=some (i,o)):(i,o)∈l/\znm P o=false:=by
 induction l with
 |nil=>cases h
 |cons x l ih=>
  obtain⟨i',o'⟩:=x;simp only[zg1]at h;cases he:znm P o' with
  |true=>simp only[he,cond_true]at h;exact⟨List.mem_cons_of_mem _ (ih h).1,(ih h).2⟩
  |false=>simp only[he,cond_false]at h;injection h with h;injection h with h1 h2;subst h1 h2;exact⟨List.mem_cons_self ..,he⟩
theorem zn7{K:Nat->Oper->Prop}:∀{l:List (Nat×Oper)},zsT K l->∀i o,(i,o)∈l->K i o
 |[],_,_,_,h=>by cases h
 |[(i,o)],h,i',o',hm=>by simp at hm;obtain⟨rfl,rfl⟩:=hm;exact h
 |(i,o)::x::r,h,i',o',hm=>by
  simp only[zsT]at h;cases hm with
  |head=>exact h.1
  |tail _ hm=>exact zn7 h.2 i' o' hm
theorem zoc{o:Oper}{x:Operand}(hc:zne P o.op=.plain x)(ρ:Operand->Value)(w:World):(execOp ρ o).run P w=.ok (.value (ρ x)) w:=by
 have:execOp ρ o=(Pure.pure (.value (ρ x)):Sem Next):=by rcases zog hc with h|h<;>(unfold execOp;rw[h])
 rw[this];rfl
theorem zkT{ops:Array Oper}{B:List Nat}{Q:Exit->Act->World->Prop}{F:List Fact}{i:Nat}:∀(n:Nat)(l:List Bool)(a:Act)(w:World),
  anyF P ops B Q F n l a w->anyF P ops B Q ((i,λ_=>True)::F) n l a w
 |0,_,_,_,h=>h
 |n+1,l,a,w,h=>⟨h.1,λj hj=>wpOp_mono (λa' w' h'=>⟨λf hf=>by
   cases hf with
   |head=>exactλ_=>trivial
   |tail _ hf=>exact h'.1 f hf,zkT n _ a' w' h'.2⟩) (h.2 j hj)⟩
theorem zht{ops:Array Oper}{B:List Nat}{K:Env->World->Prop}{Q:Exit->Act->World->Prop}{m:Nat}{a0:Act}(hB:zlM B ops.toList B=true)
  (hsel:∀(j:Nat)(o:Oper)cs b,ops[j]?=some o->o.op≠ .select cs b) (hQ:∀c a w,¬Q (.panic c) a w)
  (hK:∀a w,Fr m a0 a->K (za6 a) w->Q .normal a w) (hd:∀o∈ops.toList,∀x,o.dst=some x->x<a0.tmps.size/\Nat.testBit m x=true):
  ∀(n:Nat)(l:List Bool)(F:List Fact)(a:Act)(w:World),zkC P ops.toList B K n l F (za6 a) w->Fr m a0 a->DC B l->l.length=ops.size->
   (∀f∈F,zgU P ops.toList B l f.1=true->f.2 w)->anyF P ops B Q F n l a w
 |0,l,F,a,w,h,hf,_,_,_=>by
  simp only[zkC]at h;cases hr:zgh ops.toList l with
  |nil=>
   rw[hr]at h;refine⟨?_,hK a w hf h⟩;cases hx:Region.ready .any ops l.toArray with
   |nil=>rfl
   |cons y ys=>obtain⟨o,ho⟩:=zfA.1 (show y∈Region.ready .any ops l.toArray by rw[hx];exact List.mem_cons_self ..);rw[hr]at ho;cases ho
  |cons y ys=>rw[hr]at h;exact h.elim
 |n+1,l,F,a,w,h,hf,hdc,hlen,hF=>by
  simp only[zkC]at h;cases hff:zg1 P (zgh ops.toList l)with
  |some p=>
   obtain⟨i,o⟩:=p;obtain⟨hmem,hne⟩:=zmA hff;obtain⟨hoi,hli,hri⟩:=zfx.1 hmem;have hoi':ops[i]?=some o:=by simpa using hoi
   have hdst:=hd o (List.mem_of_getElem? hoi);simp only[hff]at h;cases hfr:zsM ops.toList l i o with
   |false=>rw[hfr]at h;exact h.elim
   |true=>
    simp only[hfr]at h;have hfree:∀j oj,ops[j]?=some oj->j≠i->l[j]?=some false->(∀e∈oj.after,Region.binds .any e=true->e.on≠i)->o.apart ops oj=true:=λj oj hj hji hun hno=>by have:=zq3 ops.toList l 0 hfr (by simpa using hlen.symm) j oj (by simpa using hj) (by omega) hun hno;simpa using this
    have hready:i∈Region.ready .any ops l.toArray:=zfA.2 ⟨o,hmem⟩;have henv:∀v,za6 (a.put o.dst v)=put (za6 a) o.dst v:=λv=>zkd _ _ _ (λx hx=>by rw[hf.1];exact(hdst x hx).1);have hlen':(l.set i true).length=ops.size:=by simpa using hlen
    have hdc':DC B (l.set i true):=hdc.set hB hoi hri;have hFi:∀f∈F,zgU P ops.toList B (l.set i true) f.1=true->f.2 w:=λf hf' hal=>hF f hf' (zjH hal)
    --an operation that yields whatever the world is
    have goAll:∀v,YieldsIf P ops (λ_=>True) o v a->zkC P ops.toList B K n (l.set i true) F (put (za6 a) o.dst v) w->anyF P ops B Q F (n+1) l a w:=λv hy hrest=>by refine zmS hB hoi' hsel hQ hne n l a w hfree hready hy trivial hdc hF ?_;have ih:=zht hB hsel hQ hK hd n (l.set i true) F (a.put o.dst v) w (by rw[henv];exact hrest) (hf.put hdst) hdc' hlen' hFi;exact zkT n _ _ _ ih
    have hw:=zkB ops a o;have passed:Region.wanted o (yielded ops a.tmps)=false->zkC P ops.toList B K n (l.set i true) F (put (za6 a) o.dst undef) w->anyF P ops B Q F (n+1) l a w:=λhwf hrest=>goAll undef (.inr ⟨hwf,rfl⟩) hrest
    cases hc:zne P o.op with
    |eff=>rw[hc]at h;exact h.elim
    |plain x=>
     simp only[hc,grd]at h;cases hg:o.guard with
     |none=>simp only[hg]at h hw;exact goAll _ (.inl ⟨hw,λw' _=>by rw[zhu];exact zoc hc _ w'⟩) h
     |some g=>
      obtain⟨j,want⟩:=g;simp only[hg]at h hw;replace h:=h.h;unfold gd0 at h;cases hb:isb (yv ops.toList (za6 a) j) want with
      |true=>simp only[hb,cond_true]at h hw;exact goAll _ (.inl ⟨hw,λw' _=>by rw[zhu];exact zoc hc _ w'⟩) h
      |false=>simp only[hb,cond_false]at h hw;exact passed hw h
    |pure=>
     have pureGo:Region.wanted o (yielded ops a.tmps)=true->pu P (execOp (ev (za6 a)) o) (λv=>zkC P ops.toList B K n (l.set i true) F (put (za6 a) o.dst v) w)->anyF P ops B Q F (n+1) l a w:=λhwt hp=>by
      replace hp:=hp.h;unfold pu0 at hp;cases hrp:zdw P (execOp (ev (za6 a)) o)with
      |none=>rw[hrp]at hp;exact hp.elim
      |some v=>rw[hrp]at hp;exact goAll v (.inl ⟨hwt,λw' _=>by rw[zhu];exact zhA w' _ hrp⟩) hp
     simp only[hc,grd]at h;cases hg:o.guard with
     |none=>simp only[hg]at h hw;exact pureGo hw h
     |some g=>
      obtain⟨j,want⟩:=g;simp only[hg]at h hw;replace h:=h.h;unfold gd0 at h;cases hb:isb (yv ops.toList (za6 a) j) want with
      |true=>simp only[hb,cond_true]at h hw;exact pureGo hw h
      |false=>simp only[hb,cond_false]at h hw;exact passed hw h
    |read=>
     have readGo:∀v,YieldsIf P ops (zng P ops.toList o (za6 a) v) o v a->zng P ops.toList o (za6 a) v w->
       zkC P ops.toList B K n (l.set i true) ((i,zng P ops.toList o (za6 a) v)::F) (put (za6 a) o.dst v) w->anyF P ops B Q F (n+1) l a w:=λv hy hv hp=>by
      refine zmS (ρ:=zng P ops.toList o (za6 a) v) hB hoi' hsel hQ hne n l a w hfree hready hy hv hdc hF ?_;refine zht hB hsel hQ hK hd n (l.set i true) _ (a.put o.dst v) w (by rw[henv];exact hp) (hf.put hdst) hdc' hlen' ?_;intro f hf' hal;cases hf' with
      |head=>exact hv
      |tail _ hf'=>exact hFi f hf' hal
     simp only[hc,grd]at h;cases hg:o.guard with
     |none=>
      simp only[hg]at h hw;obtain⟨⟨v,hv,hp⟩⟩:=h;have hgf:zng P ops.toList o (za6 a) v=hold P (execOp (ev (za6 a)) o) v:=by unfold zng;rw[hg]
      exact readGo v (.inl ⟨hw,λw' h'=>by rw[hgf]at h';rw[zhu];exact h'.h⟩) (by rw[hgf];exact⟨hv⟩) hp
     |some g=>
      obtain⟨j,want⟩:=g;simp only[hg]at h hw;replace h:=h.h;unfold gd0 at h;have hgf:∀v,zng P ops.toList o (za6 a) v=λw=>isb (yv ops.toList (za6 a) j) want=true->hold P (execOp (ev (za6 a)) o) v w:=λv=>by unfold zng;rw[hg]
      cases hb:isb (yv ops.toList (za6 a) j) want with
      |true=>simp only[hb,cond_true]at h hw;obtain⟨⟨v,hv,hp⟩⟩:=h;exact readGo v (.inl ⟨hw,λw' h'=>by rw[hgf]at h';rw[zhu];exact(h' hb).h⟩) (by rw[hgf];exactλ_=>⟨hv⟩) hp
      |false=>simp only[hb,cond_false]at h hw;exact readGo undef (.inr ⟨hw,rfl⟩) (by rw[hgf];intro h';rw[hb]at h';cases h') h
  |none=>
   simp only[hff]at h;have empty:zgh ops.toList l=[]->Region.ready .any ops l.toArray=[]:=λhr=>by
    cases hx:Region.ready .any ops l.toArray with
    |nil=>rfl
    |cons y ys=>obtain⟨o,ho⟩:=zfA.1 (show y∈Region.ready .any ops l.toArray by rw[hx];exact List.mem_cons_self ..);rw[hr]at ho;cases ho
   cases hr:zgh ops.toList l with
   |nil=>simp only[hr]at h;exact⟨λ_=>hK a w hf h,λi hi=>by rw[empty hr]at hi;cases hi⟩
   |cons x xs=>
    simp only[hr]at h;have hall:=zn7 h;refine⟨λh0=>?_,λi hi=>?_⟩
    ·have:x.1∈Region.ready .any ops l.toArray:=zfA.2 ⟨x.2,by rw[hr];exact List.mem_cons_self ..⟩;rw[h0]at this;cases this
    ·obtain⟨o,ho⟩:=zfA.1 hi;obtain⟨hoi,hli,hri⟩:=zfx.1 ho;have hoi':ops[i]?=some o:=by simpa using hoi
     have hdst:=hd o (List.mem_of_getElem? hoi);have henv:∀v,za6 (a.put o.dst v)=put (za6 a) o.dst v:=λv=>zkd _ _ _ (λx hx=>by rw[hf.1];exact(hdst x hx).1);have hx:=hall i o (by rw[<-hr];exact ho);have next:∀v w',zqq P ops.toList B (l.set i true) w' F (zkC P ops.toList B K n (l.set i true) F (put (za6 a) o.dst v) w')->
       (∀f∈F,zgU P ops.toList B (l.set i true) f.1=true->f.2 w')/\anyF P ops B Q F n (l.set i true) (a.put o.dst v) w':=λv w' h'=>by
      obtain⟨h1,h2⟩:=zkD h';exact⟨h1,zht hB hsel hQ hK hd n (l.set i true) F (a.put o.dst v) w' (by rw[henv];exact h2) (hf.put hdst) (hdc.set hB hoi hri) (by simpa using hlen) h1⟩
     unfold wpOp;simp only[hoi'];have hw:=zkB ops a o;simp only[grd]at hx;cases hg:o.guard with
     |none=>simp only[hg]at hx hw;rw[if_pos hw];exact .inl (zsX hx next)
     |some g=>
      obtain⟨j,want⟩:=g;simp only[hg]at hx hw;replace hx:=hx.h;unfold gd0 at hx;cases hb:isb (yv ops.toList (za6 a) j) want with
      |true=>simp only[hb,cond_true]at hx hw;rw[if_pos hw];exact .inl (zsX hx next)
      |false=>simp only[hb,cond_false]at hx hw;rw[if_neg (by rw[hw];exact Bool.false_ne_true)];exact next _ _ hx
def Ps(m:Nat)(a:Act)(Q:Exit->Env->World->Prop):Exit->Act->World->Prop
 | .panic _,_,_=>False
 | .outgrown,_,_=>False
 | .goto _,_,_=>False
 |x,a',w'=>Fr m a a'/\Q x (za6 a') w'
theorem Fr.weaken{m m1:Nat}{a b:Act}(h:Fr m1 a b)(s:∀t,Nat.testBit m t=false->Nat.testBit m1 t=false):Fr m a b:=⟨h.1,h.2.1,λt ht=>h.2.2 t (s t ht)⟩
theorem Ps.weaken{m m1:Nat}{a b:Act}{Q:Exit->Env->World->Prop}(hf:Fr m a b)(s:∀t,Nat.testBit m t=false->Nat.testBit m1 t=false){x:Exit}{a':Act}{w':World}
  (h:Ps m1 b Q x a' w'):Ps m a Q x a' w':=by
 cases x<;>first|exact h|exact⟨hf.trans h.1 (λ_ h=>h) s,h.2⟩
theorem zpO:∀(L:List Nat)(t n i:Nat),idx L t n=some i->∃k,i=n+k/\L[k]?=some t
 |[],_,_,_,h=>by cases h
 |l::ls,t,n,i,h=>by
  simp only[idx]at h;cases hb:Nat.beq l t with
  |true=>simp only[hb,cond_true]at h;injection h with h;exact⟨0,by omega,by simp[Nat.eq_of_beq_eq_true hb]⟩
  |false=>simp only[hb,cond_false]at h;obtain⟨k,h1,h2⟩:=zpO ls t (n+1) i h;exact⟨k+1,by omega,by simpa using h2⟩
theorem zt0{m:Nat}{L:List Nat}{e e1:Env}(h:∀t,Nat.testBit m t=false->e1 t=e t):mix m L (L.map e1) e1 e=e1:=by
 funext t;unfold mix;cases hb:Nat.testBit m t with
 |false=>simp only[cond_false];exact(h t hb).symm
 |true=>
  simp only[cond_true];cases hi:idx L t 0 with
  |none=>rfl
  |some i=>
   obtain⟨k,h1,h2⟩:=zpO L t 0 i hi;have:i=k:=by omega
   subst this;simp[List.getD,h2]
theorem zrd{n:Nat}{ops:Array Oper}(h:zoa n ops.toList=true):∀o∈ops.toList,∀x,o.dst=some x->x<n/\Nat.testBit (zjs ops.toList 0) x=true:=λ_ ho x hx=>⟨zn1 h ho x hx,zqt ho 0 x hx⟩
def Qn(R:Act->World->Prop):Exit->Act->World->Prop
 | .normal,a,w=>R a w
 |_,_,_=>False
theorem zoe{a b t:Nat}(h:Nat.testBit (a|||b) t=false):Nat.testBit a t=false/\Nat.testBit b t=false:=by rw[Nat.testBit_or,Bool.or_eq_false_iff]at h;exact h
theorem zgf(hm:P.follows .mixedOrders=true):∀(c:Code)(Q:Exit->Env->World->Prop)(a:Act)(w:World),zjF a.tmps.size c=true->CW P T c Q (za6 a) w->c.wp P (Ps (asg c) a Q) a w
 | .skip,Q,a,w,_,h=>wp_skip ⟨Fr.refl _ _,h⟩
 | .region id ops draw,Q,a,w,hok,h=>by
  simp only[CW]at h;simp only[zjF]at hok;have hd:=zrd hok;cases draw with
  |false=>simp only[regW]at h;exact wp_region_list (zmU (m:=zjs ops.toList 0) (a0:=a) _ (λa' w' hf hk=>⟨hf,hk⟩) _ _ _ hok (λo ho x hx=>(hd o ho x hx).2) (Fr.refl _ _) h)
  |true=>
   simp only[regW]at h;cases hb:(zlM (znn ops.toList []) ops.toList (znn ops.toList [])&& !ops.toList.any isSel)with
   |false=>rw[hb]at h;exact h.elim
   |true=>
    rw[hb]at h;simp only[Bool.and_eq_true,Bool.not_eq_true']at hb;have hsel:∀(j:Nat)(o:Oper) cs b,ops[j]?=some o->o.op≠ .select cs b:=λj o cs b ho hop=>by have h1:=hb.2;rw[List.any_eq_false]at h1;exact h1 o (List.mem_of_getElem? (by simpa using ho)) (by unfold isSel;rw[hop])
    have key:=zht (Q:=Qn λa' w'=>Fr (zjs ops.toList 0) a a'/\Q .normal (za6 a') w') (K:=Q .normal) (m:=zjs ops.toList 0) (a0:=a) hb.1 hsel (λc a w h=>h) (λa' w' hf hk=>⟨hf,hk⟩)
     hd ops.toList.length (List.replicate ops.toList.length false) [] a w.drew h (Fr.refl _ _)
     (λk b i _ hk _=>by rw[List.getElem?_replicate]at hk;split at hk<;>cases hk) (by simp) (by simp)
    have key2:=zka _ _ _ _ key;have e1:ops.toList.length=ops.size:=by simp
    have e2:(List.replicate ops.size false).toArray=Array.replicate ops.size false:=by simp
    rw[e1,e2]at key2;refine wp_mono (wp_region_any hm key2) λe a' w' hq=>?_;cases e<;>first|exact hq.elim|exact hq
 | .seq x y,Q,a,w,hok,h=>by
  simp only[zjF,Bool.and_eq_true]at hok;have done:∀a1 w1,Fr (asg x) a a1->CW P T y Q (za6 a1) w1->y.wp P (Ps (asg (.seq x y)) a Q) a1 w1:=λa1 w1 hf hy=>wp_mono (zgf hm y Q a1 w1 (by rw[hf.1];exact hok.2) hy) λe a2 w2 hq=>Ps.weaken (hf.weaken λt ht=>(zoe ht).1) (λt ht=>(zoe ht).2) hq
  have out:∀(K:Env->World->Prop) e a1 w1,Ps (asg x) a (thn K Q) e a1 w1->(e=.normal->K (za6 a1) w1->Fr (asg x) a a1->y.wp P (Ps (asg (.seq x y)) a Q) a1 w1)->Exit.then (y.wp P (Ps (asg (.seq x y)) a Q)) (Ps (asg (.seq x y)) a Q) e a1 w1:=λK e a1 w1 hq hn=>by
   cases e<;>simp only[Exit.then]<;>first
    |exact hn rfl hq.2 hq.1
    |exact hq
    |exact⟨hq.1.weaken λt ht=>(zoe ht).1,hq.2⟩
  simp only[CW]at h;cases hb:zjf x with
  |false=>rw[hb]at h;exact wp_seq (wp_mono (zgf hm x _ a w hok.1 h) λe a1 w1 hq=>out _ e a1 w1 hq λ_ hk hf=>done a1 w1 hf hk)
  |true=>rw[hb]at h;obtain⟨⟨k,hk,hx⟩⟩:=h;exact wp_seq (wp_mono (zgf hm x _ a w hok.1 hx) λe a1 w1 hq=>out _ e a1 w1 hq λ_ hk1 hf=>done a1 w1 hf (by have:=hk _ (za6 a1) w1 hk1;simp only[zt0 hf.2.2]at this;exact this))
 | .cond c x y,Q,a,w,hok,h=>by
  simp only[zjF,Bool.and_eq_true]at hok;simp only[CW]at h;replace h:=h.h;unfold cd0 at h;cases hv:ev (za6 a) c with
  |bool b=>
   simp only[hv]at h;have hc:a.eval c=.bool b:=by rw[zhu];exact hv
   cases b with
   |true=>rw[if_pos rfl]at h;exact wp_cond_true hc (wp_mono (zgf hm x Q a w hok.1 h) λe a1 w1 hq=>Ps.weaken (Fr.refl _ _) (λt ht=>(zoe ht).1) hq)
   |false=>rw[if_neg Bool.false_ne_true]at h;exact wp_cond_false hc (wp_mono (zgf hm y Q a w hok.2 h) λe a1 w1 hq=>Ps.weaken (Fr.refl _ _) (λt ht=>(zoe ht).2) hq)
  |_=>rw[hv]at h;exact h.elim
 | .block id c,Q,a,w,hok,h=>by
  simp only[zjF]at hok;simp only[CW]at h;refine wp_block (wp_mono (zgf hm c _ a w hok h) λe a1 w1 hq=>?_);cases e with
  |exit id'=>
   simp only[Exit.inBlock];obtain⟨hf,hq⟩:=hq;simp only[inb]at hq;by_cases e:id'=id
   ·subst e;rw[if_pos rfl];have:Nat.beq id' id'=true:=Nat.beq_refl ..;rw[this]at hq;exact⟨hf,hq⟩
   ·rw[if_neg e];rw[zpC e]at hq;exact⟨hf,hq⟩
  |_=>exact hq
 | .loop c,Q,a,w,hok,h=>by
  simp only[zjF]at hok;simp only[CW]at h;obtain⟨⟨I,μ,h0,hr⟩⟩:=h;refine wp_loop (λa1 w1=>Fr (asg c) a a1/\I ((T.loop (keyD c)).map (za6 a1)) w1) (λa1 w1=>μ ((T.loop (keyD c)).map (za6 a1)) w1) ⟨Fr.refl _ _,h0⟩ λa1 w1 ⟨hf,hI⟩=>?_;have h1:=hr _ (za6 a1) w1 hI;simp only[zt0 hf.2.2]at h1;refine wp_mono (zgf hm c _ a1 w1 (by rw[hf.1];exact hok) h1) λe a2 w2 hq=>?_;cases e<;>simp only[Exit.then]<;>first
   |exact⟨⟨hf.trans hq.1 (λ_ h=>h) (λ_ h=>h),hq.2.1⟩,hq.2.2⟩
   |exact hq
   |exact⟨hf.trans hq.1 (λ_ h=>h) (λ_ h=>h),hq.2⟩
 | .exit id,Q,a,w,_,h=>wp_exit ⟨Fr.refl _ _,h⟩
 | .ret,Q,a,w,_,h=>wp_ret ⟨Fr.refl _ _,h⟩
 | .rangeFunc ..,_,_,_,_,h=>by simp only[CW]at h
 | .scope _,_,_,_,_,h=>by simp only[CW]at h
 | .label _,_,_,_,_,h=>by simp only[CW]at h
 | .goto _,_,_,_,_,h=>by simp only[CW]at h
 | .refuse _,_,_,_,_,h=>by simp only[CW]at h
def resM(tmps:Array Value):ResultVar->Sem Value
 | .tmp t=>pure (tmps.getD t undef)
 | .cell a t=>do loadVar t (<-asAddr (tmps.getD a undef))
theorem zkG{K:Value->World->Prop}{e:Env}{w:World}(tmps:Array Value)(he:e=λt=>tmps.getD t undef):∀(rs:List ResultVar)(acc:List Value),resW P rs acc e w K->
  ∃vs:List Value,(rs.mapM (resM tmps)).run P w=.ok vs w/\K (tup (acc++vs)) w
 |[],acc,h=>⟨[],by rw[List.mapM_nil];rfl,by rw[List.append_nil];exact h⟩
 | .tmp t::r,acc,h=>by
  simp only[resW]at h;obtain⟨vs,h1,h2⟩:=zkG tmps he r _ h;refine⟨e t::vs,?_,by simpa using h2⟩;have hv':(resM tmps (.tmp t)).run P w=.ok (e t) w:=by rw[he];rfl
  simp only[List.mapM_cons,Sem.run_bind,h1,hv',Result.andThen_ok];rfl
 | .cell a t::r,acc,h=>by
  simp only[resW]at h;obtain⟨⟨v,hv,h⟩⟩:=h;obtain⟨vs,h1,h2⟩:=zkG tmps he r _ h;refine⟨v::vs,?_,by simpa using h2⟩;have hv':(resM tmps (.cell a t)).run P w=.ok v w:=by rw[<-hv,he];rfl
  simp only[List.mapM_cons,Sem.run_bind,h1,hv',Result.andThen_ok];rfl
theorem zoZ{K:Value->World->Prop}{fn:Func}{a:Act}{w:World}(h:resW P fn.results.toList [] (za6 a) w K):∃v,(results fn a.tmps).run P w=.ok v w/\K v w:=by
 obtain⟨vs,h1,h2⟩:=zkG a.tmps rfl _ _ h;refine⟨tup vs,?_,by simpa using h2⟩;have e:fn.results.mapM (resM a.tmps)=(λl:List Value=>l.toArray)<$>fn.results.toList.mapM (resM a.tmps):=by rw[Array.mapM_eq_mapM_toList]
 have e2:results fn a.tmps=(do
   let vs<-fn.results.mapM (resM a.tmps)
   pure (if h:vs.size=1 then vs[0]else .tuple vs)):=by
  unfold results;congr 1
 rw[e2,e,Sem.run_bind,Sem.run_map,h1];simp only[Result.andThen_ok]
 match vs with
 |[]=>rfl
 |[v]=>rfl
 |v::u::r=>rfl
theorem zpb(args:List Value)(n:Nat):za6 {tmps:=args.toArray++Array.replicate n undef,defers:=[]}=env0 args:=by
 funext t;simp only[za6,env0,Array.getD_eq_getD_getElem?,List.getD_eq_getElem?_getD];by_cases h:t<args.length
 ·rw[Array.getElem?_append_left (by simpa using h)];simp
 ·rw[Array.getElem?_append_right (by simpa using h)];rw[List.getElem?_eq_none (by omega)];simp only[Array.getElem?_replicate];split<;>rfl
theorem zsG{f:FuncId}{fn:Func}{c:Code}{args:List Value}{w:World}{K:Value->World->Prop}(hf:P.funcs[f]?=some fn)(hb:fn.body=some c)(hm:P.follows .mixedOrders=true)
  (hd:zjF fn.ntmps c=true) (ha:args.length<=fn.ntmps) (h:CW P T c (retQ P fn.results.toList K) (env0 args) w):Cl P f args.toArray w K:=by
 refine calls_of_wp hf hb ?_;have hs:(args.toArray++Array.replicate (fn.ntmps - args.toArray.size) undef).size=fn.ntmps:=by simp;omega
 refine wp_mono (zgf (T:=T) hm c (retQ P fn.results.toList K) _ w (by rw[hs];exact hd) (by rw[zpb];exact h)) λe a' w' hq=>?_;have fin:∀x,Ps (asg c) {tmps:=args.toArray++Array.replicate (fn.ntmps - args.toArray.size) undef,defers:=[]} (retQ P fn.results.toList K) x a' w'->(x=.normal\/x=.ret)->
   a'.defers=[]/\∃v,(results fn a'.tmps).run P w'=.ok v w'/\∃v',Ending.returned v=.returned v'/\K v' w':=λx hx hor=>by
  have hres:Fr (asg c) {tmps:=args.toArray++Array.replicate (fn.ntmps - args.toArray.size) undef,defers:=[]} a'/\resW P fn.results.toList [] (za6 a') w' K:=by rcases hor with rfl|rfl<;>exact hx
  obtain⟨v,h1,h2⟩:=zoZ hres.2;exact⟨hres.1.2.1,v,h1,v,rfl,h2⟩
 cases e with
 |normal=>exact fin _ hq (.inl rfl)
 |ret=>exact fin _ hq (.inr rfl)
 |exit id=>exact hq.2.elim
 |goto l=>exact hq.elim
 |panic c=>exact hq.elim
 |outgrown=>exact hq.elim
end
def v'(s:Sem Value):Sem Next:=do pure (.value (<-s))
def u'(s:Sem Unit):Sem Next:=do s;pure .skip
def fl(c:Bool):Operand:=match c with|true=>.const (.bool true)|false=>.tmp 0
def zaD(c a b:Value):Sem Next:=do pure (.value (if<-asBool c then a else b))
def zbw(t:TypeId):Sem Next:=v' (Instr.alloc t true (.tuple #[]))
def oBox(t:TypeId)(x:Value):Sem Next:=v' (Instr.box t x)
def zaw(t:TypeId)(ps:Array (Nat×Value)):Sem Next:=v' (Instr.build t ps)
def zam(t:TypeId)(n:Nat)(ps:Array (Nat×Value)):Sem Next:=v' (Instr.buildSlice t n ps)
def zab(t:TypeId)(a:Value):Sem Next:=v' (Instr.loadAt t a)
def zai(t:TypeId)(a x:Value):Sem Next:=u' (Instr.storeAt t a x)
def oNil(x:Value):Sem Next:=
 match x with
 | .pointer none| .nilIface| .nilFunc=>runtimePanic .nilDeref
 | .func (.method name) first captured=>
  match(first[0]?:Option Value)with
  |some .nilIface=>runtimePanic .nilDeref
  |some (.iface t w)=>do
   if(<-nilAhead ((<-program).types.size+Made.depth) t w name)!=some false then
    unsupported (.noEntry "op/nilCheck.the method's receiver behind this interface value is a nil pointer, or cannot be seen to be none, and the arguments act or may panic (ledger 612)")
   pure (.value (.func (.method name) first captured))
  |_=>pure (.value (.func (.method name) first captured))
 |x=>pure (.value x)
def oBin(op:BinOp)(t:TypeId)(cx cy:Bool)(x y:Value):Sem Next:=v' (do eqGuard op t (fl cx) (fl cy) x y;binOp op t x y)
def oUn(op:UnOp)(x:Value):Sem Next:=v' (Op.unary op x)
def zj8(s d:TypeId)(x:Value):Sem Next:=v' (convert s d x)
def zbl(t:TypeId)(x:Value):Sem Next:=v' (Instr.makeInterface t x)
def zlF(t:TypeId)(r:Option Value):Sem Next:=v' (Instr.makeMap t r)
def zdx(t:TypeId)(l c:Value):Sem Next:=v' (Instr.makeSlice t l c)
def zaE(t:TypeId)(x:Value)(lo hi mx:Option Value):Sem Next:=v' (Instr.sliceAt t x lo hi mx)
def zad(t:TypeId)(x:Value)(f:Nat):Sem Next:=v' (Instr.fieldAt t x f)
def zaO(t:TypeId)(x i:Value):Sem Next:=v' (Instr.indexAt t x i)
def oIdx(t:TypeId)(x i:Value):Sem Next:=v' (Instr.index t x i)
def za3(t:TypeId)(x i:Value)(ok:Bool):Sem Next:=v' (Instr.lookup t x i ok)
def zee(t:TypeId)(m k x:Value):Sem Next:=u' (Instr.mapUpdate t m k x)
def zrt(t:TypeId)(x:Value):Sem Next:=v' (Instr.range t x)
def zqp(i:Value)(isStr:Bool)(t:TypeId):Sem Next:=v' (Instr.next i isStr t)
def zpB(i:Value):Sem Next:=v' (Instr.entry i)
def zgS(x:Value)(xt t:TypeId)(ok:Bool):Sem Next:=v' (Instr.typeAssert x xt t ok)
def zae(x:Value)(i:Nat):Sem Next:=v' (Instr.extract x i)
def oPanic(x:Value):Sem Next:=v' (Instr.panic x)
def zac(b:Builtin)(ats:Array TypeId)(t:TypeId)(cs:Array Bool)(args:Array Value):Sem Next:=builtin b ats t cs args
def zah(f:FuncId)(args:Array Value):Sem Next:=callFunc f args
def S(l:List UInt8):Value:=.string ⟨l.toArray⟩
abbrev gs(s:List Value)(i:Nat):Value:=s.getD i undef
end Go.X
end
section
namespace Go.Proofs.YtdljebgllipdjaaGreatDoor.X
open Go Go.X
noncomputable abbrev P:Program:=Go.Proofs.Tryz.prog
theorem znD:P.follows .mixedOrders=true:=by kernel_rfl
namespace T
abbrev aU:Nat:=0
abbrev aC:Nat:=2
abbrev int:Nat:=3
abbrev bool:Nat:=4
abbrev aJ:Nat:=5
abbrev string:Nat:=9
abbrev aw:Nat:=22
abbrev aK:Nat:=24
abbrev aE:Nat:=28
abbrev aR:Nat:=32
abbrev ah:Nat:=34
abbrev ae:Nat:=36
abbrev ar:Nat:=38
abbrev aj:Nat:=42
abbrev aM:Nat:=47
abbrev ab:Nat:=49
abbrev ay:Nat:=63
abbrev ag:Nat:=77
abbrev ap:Nat:=78
abbrev aH:Nat:=79
abbrev aA:Nat:=81
abbrev aT:Nat:=112
abbrev aP:Nat:=114
abbrev aB:Nat:=116
abbrev aG:Nat:=124
abbrev aQ:Nat:=130
abbrev aX:Nat:=131
abbrev aW:Nat:=135
abbrev aN:Nat:=136
abbrev af:Nat:=165
abbrev am:Nat:=173
abbrev aD:Nat:=177
abbrev au:Nat:=180
abbrev ai:Nat:=213
abbrev aL:Nat:=215
abbrev aF:Nat:=229
abbrev aS:Nat:=230
abbrev ak:Nat:=232
abbrev ao:Nat:=234
abbrev aq:Nat:=235
abbrev aO:Nat:=249
abbrev aI:Nat:=251
abbrev aY:Nat:=254
abbrev aV:Nat:=259
end T
namespace Fn
abbrev cK:Nat:=8
abbrev cI:Nat:=14
abbrev dt:Nat:=15
abbrev ck:Nat:=17
abbrev bE:Nat:=18
abbrev dC:Nat:=20
abbrev dh:Nat:=21
abbrev ay:Nat:=22
abbrev cM:Nat:=24
abbrev cH:Nat:=34
abbrev bR:Nat:=36
abbrev cG:Nat:=38
abbrev ai:Nat:=40
abbrev bu:Nat:=46
abbrev dq:Nat:=49
abbrev dk:Nat:=61
abbrev dp:Nat:=62
abbrev bX:Nat:=63
abbrev cS:Nat:=64
abbrev dr:Nat:=65
abbrev bK:Nat:=68
abbrev br:Nat:=69
abbrev bL:Nat:=70
abbrev bn:Nat:=72
abbrev bY:Nat:=73
abbrev bv:Nat:=74
abbrev cg:Nat:=75
abbrev cX:Nat:=79
abbrev dw:Nat:=95
abbrev cZ:Nat:=118
abbrev cO:Nat:=119
abbrev cW:Nat:=120
abbrev ci:Nat:=121
abbrev aG:Nat:=122
abbrev aM:Nat:=123
abbrev aT:Nat:=124
abbrev aJ:Nat:=125
abbrev aQ:Nat:=126
abbrev aE:Nat:=127
abbrev aA:Nat:=128
abbrev a7:Nat:=129
abbrev bJ:Nat:=130
abbrev bo:Nat:=131
abbrev bw:Nat:=132
abbrev aW:Nat:=133
abbrev aL:Nat:=134
abbrev aR:Nat:=135
abbrev aY:Nat:=136
abbrev aq:Nat:=137
abbrev ao:Nat:=138
abbrev aU:Nat:=139
abbrev aB:Nat:=140
abbrev cN:Nat:=141
abbrev aO:Nat:=142
abbrev aP:Nat:=143
abbrev aH:Nat:=144
abbrev aS:Nat:=145
abbrev bz:Nat:=146
abbrev bi:Nat:=147
abbrev cV:Nat:=148
abbrev cQ:Nat:=149
abbrev bU:Nat:=153
abbrev bV:Nat:=154
abbrev bC:Nat:=155
abbrev cw:Nat:=156
abbrev bM:Nat:=157
abbrev bc:Nat:=158
abbrev aF:Nat:=159
abbrev de:Nat:=160
abbrev df:Nat:=161
abbrev ap:Nat:=165
abbrev bF:Nat:=166
abbrev aZ:Nat:=167
abbrev cF:Nat:=168
abbrev bQ:Nat:=169
abbrev cU:Nat:=170
abbrev cA:Nat:=171
abbrev di:Nat:=172
abbrev bH:Nat:=173
abbrev ag:Nat:=174
abbrev cP:Nat:=175
abbrev ab:Nat:=176
abbrev ae:Nat:=177
abbrev aI:Nat:=178
abbrev aN:Nat:=179
abbrev au:Nat:=180
abbrev aK:Nat:=181
abbrev cC:Nat:=182
abbrev cY:Nat:=183
abbrev am:Nat:=184
abbrev bP:Nat:=185
abbrev bZ:Nat:=186
abbrev af:Nat:=187
abbrev bO:Nat:=188
abbrev bj:Nat:=189
abbrev aD:Nat:=190
abbrev ak:Nat:=191
abbrev dE:Nat:=192
abbrev dF:Nat:=193
abbrev du:Nat:=194
abbrev cL:Nat:=195
abbrev bG:Nat:=196
abbrev bl:Nat:=197
abbrev ct:Nat:=198
abbrev ah:Nat:=202
abbrev cz:Nat:=204
abbrev cJ:Nat:=206
abbrev ar:Nat:=207
abbrev dG:Nat:=208
abbrev aX:Nat:=209
abbrev aj:Nat:=210
abbrev cf:Nat:=211
abbrev cE:Nat:=212
abbrev bt:Nat:=213
abbrev dg:Nat:=214
abbrev co:Nat:=215
abbrev aw:Nat:=216
abbrev aV:Nat:=217
abbrev aC:Nat:=218
abbrev dz:Nat:=219
abbrev dB:Nat:=220
abbrev dy:Nat:=221
abbrev dm:Nat:=223
abbrev cT:Nat:=224
abbrev cB:Nat:=225
abbrev dA:Nat:=226
end Fn
namespace G
abbrev ab:Nat:=1
abbrev ah:Nat:=2
abbrev aj:Nat:=3
abbrev ai:Nat:=4
abbrev ae:Nat:=5
abbrev ao:Nat:=6
abbrev af:Nat:=7
abbrev ag:Nat:=8
abbrev am:Nat:=9
abbrev ak:Nat:=10
abbrev ap:Nat:=11
end G
def lkT:List (Nat×List Nat)->Nat->List Nat
 |[],_=>[]
 |x::r,n=>bif Nat.beq x.1 n then x.2 else lkT r n
def tb(j l:List (Nat×List Nat)):Tab:=⟨lkT j,lkT l⟩
theorem ce{T:Tab}{f:FuncId}{fn:Func}{c:Code}{args:List Value}{w:World}{K:Value->World->Prop}{A:Prop}(hf:P.funcs[f]?=some fn)(hb:fn.body=some c)(hA:A)
  (hd:zjF fn.ntmps c=true:=by kernel_rfl) (ha:Nat.ble args.length fn.ntmps=true:=by kernel_rfl) (h:CW P T c (retQ P fn.results.toList K) (env0 args) w=A:=by kernel_rfl):Cl P f args.toArray w K:=
 zsG hf hb znD hd (Nat.le_of_ble_eq_true ha) (by rw[h];exact hA)
end Go.Proofs.YtdljebgllipdjaaGreatDoor.X
end
section
namespace Go.X
open Go
section
variable{P:Program}
theorem zav{s:Sem Next}{w w':World}{v:Value}{K:Value->World->Prop}(h:s.run P w=.ok (.value v) w'):st P s w K=K v w':=propext ⟨λx=>by have:=x.h;unfold st0 at this;rw[h]at this;exact this,λx=>⟨by unfold st0;rw[h];exact x⟩⟩
theorem zkE{s:Sem Next}{w w':World}{K:Value->World->Prop}(h:s.run P w=.ok .skip w'):st P s w K=K undef w':=propext ⟨λx=>by have:=x.h;unfold st0 at this;rw[h]at this;exact this,λx=>⟨by unfold st0;rw[h];exact x⟩⟩
theorem zo4{s:Sem Next}{w w':World}{f:FuncId}{args:Array Value}{K:Value->World->Prop}(h:s.run P w=.ok (.enter f args) w'):st P s w K=Cl P f args w' K:=propext ⟨λx=>by have:=x.h;unfold st0 at this;rw[h]at this;exact this,λx=>⟨by unfold st0;rw[h];exact x⟩⟩
theorem zhy{s:Sem Next}{v:Value}{K:Value->Prop}(h:zdw P s=some v):pu P s K=K v:=propext ⟨λx=>by have:=x.h;unfold pu0 at this;rw[h]at this;exact this,λx=>⟨by unfold pu0;rw[h];exact x⟩⟩
theorem zsF{s:Sem Next}{w:World}{v:Value}{K:Value->Prop}(h:s.run P w=.ok (.value v) w):rd P s w K=K v:=propext ⟨λx=>by obtain⟨v',h',k⟩:=x.h;rw[h]at h';injection h' with h1;injection h1 with h1;subst h1;exact k,λx=>⟨⟨v,h,x⟩⟩⟩
theorem zrr{s:Sem Next}{w:World}{v v':Value}(h:s.run P w=.ok (.value v) w):hold P s v' w=(v=v'):=propext ⟨λx=>by have:=x.h;unfold hold0 at this;rw[h]at this;injection this with h1;injection h1,λx=>⟨by unfold hold0;rw[h,x]⟩⟩
theorem cd_eq(b:Bool)(X Y:Prop):cd (.bool b) X Y=(if b=true then X else Y):=propext ⟨λx=>x.h,λx=>⟨x⟩⟩
theorem zrm(b:Bool)(w:World)(X:(Value->World->Prop)->Prop)(K:Value->World->Prop):gd (.bool b) true w X K=(if b=true then X K else K undef w):=propext ⟨λx=>by have:=x.h;unfold gd0 isb at this;cases b<;>simpa using this,λx=>⟨by unfold gd0 isb;cases b<;>simpa using x⟩⟩
theorem zpH(b:Bool)(w:World)(X:(Value->World->Prop)->Prop)(K:Value->World->Prop):gd (.bool b) false w X K=(if b=true then K undef w else X K):=propext ⟨λx=>by have:=x.h;unfold gd0 isb at this;cases b<;>simpa using this,λx=>⟨by unfold gd0 isb;cases b<;>simpa using x⟩⟩
@[go_sem]theorem isb_bool(b c:Bool):isb (.bool b) c=(b==c):=rfl
theorem zaG{R:List Value->Env->World->Prop}{X:(List Value->World->Prop)->Prop}(h:X λs w=>∀u,R s u w):jn R X:=⟨⟨_,λ_ u _ h=>h u,h⟩⟩
theorem zaa{R:List Value->Env->World->Prop}{X:(List Value->World->Prop)->Prop}(k:List Value->World->Prop)(h1:∀s u w,k s w->R s u w)(h2:X k):jn R X:=⟨⟨k,h1,h2⟩⟩
theorem zaA{s0:List Value}{w0:World}{R:List Value->Env->World->(List Value->World->Prop)->Prop}(I:List Value->World->Prop)(μ:List Value->World->Nat)(h0:I s0 w0)
  (h:∀s u w,I s w->R s u w λs' w'=>I s' w'/\μ s' w'<μ s w):lp s0 w0 R:=⟨⟨I,μ,h0,h⟩⟩
theorem zbd{s:Sem Value}{w w':World}{v:Value}(h:s.run P w=.ok v w'):(v' s).run P w=.ok (.value v) w':=by unfold X.v';rw[Sem.run_bind,h];rfl
theorem zre{s:Sem Unit}{w w':World}(h:s.run P w=.ok () w'):(u' s).run P w=.ok .skip w':=by unfold u';rw[Sem.run_bind,h];rfl
def rp(P:Program){α:Type}:Sem α->Option α
 | .pure a=>some a
 | .program k=>rp P (k P)
 | .mark _ k=>rp P k
 |_=>none
@[simp]theorem zhx{α:Type}(a:α):rp P (Pure.pure a:Sem α)=some a:=rfl
@[simp]theorem rp_pure'{α:Type}(a:α):rp P (Sem.pure a:Sem α)=some a:=rfl
@[simp]theorem rp_program:rp P program=some P:=rfl
@[simp]theorem rp_halt{α:Type}(h:Halt):rp P (.halt h:Sem α)=none:=rfl
theorem zau{α β:Type}(x:Sem α)(f:α->Sem β):rp P (x>>=f)=(rp P x).bind λa=>rp P (f a):=by
 show rp P (x.bind f)=_
 induction x<;>simp_all[Sem.bind,rp]
theorem zci{α β:Type}(x:Sem α)(f:α->β):rp P (f<$>x)=(rp P x).map f:=by
 show rp P (x.bind λa=>Sem.pure (f a))=_
 induction x<;>simp_all[Sem.bind,rp]
theorem zqn(s:Sem Value):zdw P (v' s)=rp P s:=by
 show zdw P (s.bind λa=>Sem.pure (.value a))=_
 induction s<;>simp_all[Sem.bind,zdw,rp]
theorem zak{t:TypeId}{d:TypeDesc}(h:P.underlying t=some d):rp P (underlying t)=some d:=by unfold underlying;simp[zau,h]
theorem zca{s:Sem Value}{v:Value}{K:Value->Prop}(h:rp P s=some v):pu P (v' s) K=K v:=zhy (by rw[zqn];exact h)
variable(K:Value->Prop)
@[go_sem]theorem zsP(a:Addr):pu P (oNil (.pointer (some a))) K=K (.pointer (some a)):=zhy rfl
theorem zpK(c:Bool)(a b:Value):pu P (zaD (.bool c) a b) K=K (if c=true then a else b):=zhy rfl
@[go_sem]theorem zar(a b:Value):pu P (zae (tup [a,b]) 0) K=K a:=zhy rfl
@[go_sem]theorem zaq(a b:Value):pu P (zae (tup [a,b]) 1) K=K b:=zhy rfl
@[go_sem]theorem oExtract3_0(a b c:Value):pu P (zae (tup [a,b,c]) 0) K=K a:=zhy rfl
@[go_sem]theorem oExtract3_1(a b c:Value):pu P (zae (tup [a,b,c]) 1) K=K b:=zhy rfl
@[go_sem]theorem oExtract3_2(a b c:Value):pu P (zae (tup [a,b,c]) 2) K=K c:=zhy rfl
@[go_sem]theorem oExtract4_0(a b c d:Value):pu P (zae (tup [a,b,c,d]) 0) K=K a:=zhy rfl
@[go_sem]theorem oExtract4_1(a b c d:Value):pu P (zae (tup [a,b,c,d]) 1) K=K b:=zhy rfl
@[go_sem]theorem oExtract4_2(a b c d:Value):pu P (zae (tup [a,b,c,d]) 2) K=K c:=zhy rfl
@[go_sem]theorem oExtract4_3(a b c d:Value):pu P (zae (tup [a,b,c,d]) 3) K=K d:=zhy rfl
@[go_sem]theorem tup_one(a:Value):tup [a]=a:=rfl
@[go_sem]theorem oNot(b:Bool):pu P (oUn .not (.bool b)) K=K (.bool (!b)):=zhy rfl
@[go_sem]theorem gs0(a:Value)(l:List Value):gs (a::l) 0=a:=rfl
@[go_sem]theorem gs1(a b:Value)(l:List Value):gs (a::b::l) 1=b:=rfl
@[go_sem]theorem gs2(a b c:Value)(l:List Value):gs (a::b::c::l) 2=c:=rfl
@[go_sem]theorem gs3(a b c d:Value)(l:List Value):gs (a::b::c::d::l) 3=d:=rfl
@[go_sem]theorem gs4(a b c d e:Value)(l:List Value):gs (a::b::c::d::e::l) 4=e:=rfl
@[go_sem]theorem gs5(a b c d e f:Value)(l:List Value):gs (a::b::c::d::e::f::l) 5=f:=rfl
@[go_sem]theorem gs6(a b c d e f g:Value)(l:List Value):gs (a::b::c::d::e::f::g::l) 6=g:=rfl
theorem zmz(op:BinOp)(t:TypeId)(cx cy:Bool)(k j:IntKind)(x y:Int):rp P (eqGuard op t (fl cx) (fl cy) (.int k x) (.int j y))=some ():=by unfold eqGuard;cases op<;>rfl
theorem zmy(op:BinOp)(t:TypeId)(cx cy:Bool)(x y:ByteArray):rp P (eqGuard op t (fl cx) (fl cy) (.string x) (.string y))=some ():=by unfold eqGuard;cases op<;>rfl
theorem zik(op:BinOp)(t:TypeId)(cx cy:Bool)(x y:Bool):rp P (eqGuard op t (fl cx) (fl cy) (.bool x) (.bool y))=some ():=by unfold eqGuard;cases op<;>rfl
theorem zcU{op:BinOp}{t:TypeId}{cx cy:Bool}{k j:IntKind}{x y:Int}{v:Value}(h:rp P (binOp op t (.int k x) (.int j y))=some v):pu P (oBin op t cx cy (.int k x) (.int j y)) K=K v:=zca (by rw[zau,zmz];exact h)
theorem zjI{op:BinOp}{t:TypeId}{cx cy:Bool}{x y:ByteArray}{v:Value}(h:rp P (binOp op t (.string x) (.string y))=some v):pu P (oBin op t cx cy (.string x) (.string y)) K=K v:=zca (by rw[zau,zmy];exact h)
@[go_sem]theorem oAdd(t:TypeId)(cx cy:Bool)(k:IntKind)(x y:Int):pu P (oBin .add t cx cy (.int k x) (.int k y)) K=K (.int k (k.wrap (x+y))):=zcU K (by simp[binOp,Op.intArith])
@[go_sem]theorem oSub(t:TypeId)(cx cy:Bool)(k:IntKind)(x y:Int):pu P (oBin .sub t cx cy (.int k x) (.int k y)) K=K (.int k (k.wrap (x - y))):=zcU K (by simp[binOp,Op.intArith])
@[go_sem]theorem oMul(t:TypeId)(cx cy:Bool)(k:IntKind)(x y:Int):pu P (oBin .mul t cx cy (.int k x) (.int k y)) K=K (.int k (k.wrap (x*y))):=zcU K (by simp[binOp,Op.intArith])
@[go_sem]theorem oQuo(t:TypeId)(cx cy:Bool)(k:IntKind)(x y:Int)(hy:y≠0):pu P (oBin .quo t cx cy (.int k x) (.int k y)) K=K (.int k (k.wrap (x.tdiv y))):=zcU K (by simp[binOp,Op.intDiv,hy])
@[go_sem]theorem oRem(t:TypeId)(cx cy:Bool)(k:IntKind)(x y:Int)(hy:y≠0):pu P (oBin .rem t cx cy (.int k x) (.int k y)) K=K (.int k (x.tmod y)):=zcU K (by simp[binOp,Op.intDiv,hy])
@[go_sem]theorem oLss(t:TypeId)(cx cy:Bool)(k:IntKind)(x y:Int):pu P (oBin .lss t cx cy (.int k x) (.int k y)) K=K (.bool (decide (x<y))):=zcU K (by simp[binOp,Op.intCmp])
@[go_sem]theorem oLeq(t:TypeId)(cx cy:Bool)(k:IntKind)(x y:Int):pu P (oBin .leq t cx cy (.int k x) (.int k y)) K=K (.bool (decide (x<=y))):=zcU K (by simp[binOp,Op.intCmp])
@[go_sem]theorem oGtr(t:TypeId)(cx cy:Bool)(k:IntKind)(x y:Int):pu P (oBin .gtr t cx cy (.int k x) (.int k y)) K=K (.bool (decide (y<x))):=zcU K (by simp[binOp,Op.intCmp])
@[go_sem]theorem oGeq(t:TypeId)(cx cy:Bool)(k:IntKind)(x y:Int):pu P (oBin .geq t cx cy (.int k x) (.int k y)) K=K (.bool (decide (y<=x))):=zcU K (by simp[binOp,Op.intCmp])
@[go_sem]theorem oEql(t:TypeId)(cx cy:Bool)(k:IntKind)(x y:Int):pu P (oBin .eql t cx cy (.int k x) (.int k y)) K=K (.bool (decide (x=y))):=zcU K (by simp[binOp,Op.intCmp];by_cases h:x=y<;>simp[h])
@[go_sem]theorem oNeq(t:TypeId)(cx cy:Bool)(k:IntKind)(x y:Int):pu P (oBin .neq t cx cy (.int k x) (.int k y)) K=K (.bool (decide (x≠y))):=zcU K (by simp[binOp,Op.intCmp];by_cases h:x=y<;>simp[h])
@[go_sem]theorem oEqlS(t:TypeId)(cx cy:Bool)(x y:List UInt8):pu P (oBin .eql t cx cy (S x) (S y)) K=K (.bool (decide (x=y))):=zjI K (by simp[binOp,Op.stringOp];by_cases h:x=y<;>simp[h])
@[go_sem]theorem oNeqS(t:TypeId)(cx cy:Bool)(x y:List UInt8):pu P (oBin .neq t cx cy (S x) (S y)) K=K (.bool (decide (x≠y))):=zjI K (by simp[binOp,Op.stringOp];by_cases h:x=y<;>simp[h])
@[go_sem]theorem zoW(t:TypeId)(cx cy:Bool)(x y:List UInt8)(h:x.length+y.length<=9223372036854775807):pu P (oBin .add t cx cy (S x) (S y)) K=K (S (x++y)):=
 zjI K (by
  have h2:¬(((ByteArray.mk x.toArray).size+(ByteArray.mk y.toArray).size:Nat):Int)>IntKind.i64.max:=by show¬((x.toArray.size+y.toArray.size:Nat):Int)>9223372036854775807;simp;omega
  have e:binOp .add t (.string ⟨x.toArray⟩) (.string ⟨y.toArray⟩)=pure (.string (⟨x.toArray⟩++⟨y.toArray⟩)):=by simp only[binOp,Op.stringOp];rw[if_neg h2]
  rw[e,zhx];have e2:(ByteArray.mk x.toArray++ByteArray.mk y.toArray)=ByteArray.mk (x++y).toArray:=by apply ByteArray.ext;simp
  rw[e2];rfl)
@[go_sem]theorem oLssS(t:TypeId)(cx cy:Bool)(x y:List UInt8):pu P (oBin .lss t cx cy (S x) (S y)) K=K (.bool (Op.bytesLess x y)):=zjI K (by simp[binOp,Op.stringOp])
@[go_sem]theorem oLeqS(t:TypeId)(cx cy:Bool)(x y:List UInt8):pu P (oBin .leq t cx cy (S x) (S y)) K=K (.bool (Op.bytesLess x y||decide (x=y))):=zjI K (by simp[binOp,Op.stringOp];by_cases h:x=y<;>simp[h])
@[go_sem]theorem oGtrS(t:TypeId)(cx cy:Bool)(x y:List UInt8):pu P (oBin .gtr t cx cy (S x) (S y)) K=K (.bool (!(Op.bytesLess x y||decide (x=y)))):=zjI K (by simp[binOp,Op.stringOp];by_cases h:x=y<;>simp[h])
@[go_sem]theorem oGeqS(t:TypeId)(cx cy:Bool)(x y:List UInt8):pu P (oBin .geq t cx cy (S x) (S y)) K=K (.bool (!Op.bytesLess x y)):=zjI K (by simp[binOp,Op.stringOp])
theorem zja{b:Builtin}{ats:Array TypeId}{t:TypeId}{cs:Array Bool}{args:Array Value}{s:Sem Value}{v:Value}(hb:builtin b ats t cs args=v' s)(h:rp P s=some v):
  pu P (zac b ats t cs args) K=K v:=by
 unfold zac;rw[hb];exact zca h
theorem oLenS(t ty:TypeId)(c:Bool)(x:List UInt8)(h:P.underlying t=some .string):pu P (zac .len #[t] ty #[c] #[S x]) K=K (.int .i64 x.length):=zja K (s:=Builtin.len_ #[t] ty #[S x]) rfl (by simp only[Builtin.len_];simp[zau,zak h,S,goInt];rfl)
theorem zn2(t ty e:TypeId)(c:Bool)(a:Option Addr)(n m:Nat)(h:P.underlying t=some (.slice e)):pu P (zac .len #[t] ty #[c] #[.slice a n m]) K=K (.int .i64 n):=zja K (s:=Builtin.len_ #[t] ty #[.slice a n m]) rfl (by simp only[Builtin.len_];simp[zau,zak h,goInt])
theorem zoX(t:TypeId)(x:List UInt8)(k:IntKind)(i:Int)(h:P.underlying t=some .string)(h0:0<=i)(h1:i<x.length):
  pu P (oIdx t (S x) (.int k i)) K=K (.int .u8 (x.getD i.toNat 0).toNat):=
 zca (by
  have hs:i.toNat<x.length:=by omega
  have e:(ByteArray.mk x.toArray)[i.toNat]?=some (x.getD i.toNat 0):=by rw[ByteArray.getElem?_lt' _ _ (by show i.toNat<x.toArray.size;simpa using hs)];show some (x.toArray[i.toNat]'(by simpa using hs))=_;simp[List.getD,hs]
  simp only[Instr.index,S];simp[zau,zak h,asIntOf,h0,e])
theorem ztT{s d:TypeId}{k j:IntKind}{x:Int}(hs:P.underlying s=some (.int k))(hd:P.underlying d=some (.int j)):pu P (zj8 s d (.int k x)) K=K (.int j (j.wrap x)):=zca (by unfold convert;simp[zau,zak hs,zak hd,Conv.intToInt])
@[go_sem]theorem oMaxI(t u ty:TypeId)(c1 c2:Bool)(k:IntKind)(x y:Int):pu P (zac .max #[t,u] ty #[c1,c2] #[.int k x,.int k y]) K=K (.int k (max x y)):=
 zja K (s:=Builtin.max2 (.int k x) (.int k y)) (by
  show X.v' (Builtin.max_ _ _ _)=_;simp[Builtin.max_]) (by
  simp only[Builtin.max2,zhx];congr 2;by_cases h:y>x
  ·rw[if_pos h];omega
  ·rw[if_neg h];omega)
@[go_sem]theorem oMinI(t u ty:TypeId)(c1 c2:Bool)(k:IntKind)(x y:Int):pu P (zac .min #[t,u] ty #[c1,c2] #[.int k x,.int k y]) K=K (.int k (min x y)):=
 zja K (s:=Builtin.min2 (.int k x) (.int k y)) (by
  show X.v' (Builtin.min_ _ _ _)=_;simp[Builtin.min_]) (by
  simp only[Builtin.min2,zhx];congr 2;by_cases h:y<x
  ·rw[if_pos h];omega
  ·rw[if_neg h];omega)
theorem zaB(k:IntKind)(i:Int)(y:Nat)(code:BoundsCode)(h0:0<=i)(h1:i<=y):rp P (Instr.sliceBound (.int k i) y code)=some i.toNat:=by simp[Instr.sliceBound,asIntOf,zau,h0,h1]
theorem ext_S(x:List UInt8)(a b:Nat):(ByteArray.mk x.toArray).extract a b=⟨((x.drop a).take (b - a)).toArray⟩:=ByteArray.extract_mk x a b
theorem zpI(x:List UInt8):(ByteArray.mk x.toArray).size=x.length:=by show x.toArray.size=_;simp
theorem zg3(t:TypeId)(x:List UInt8)(k:IntKind)(i:Int)(h:P.underlying t=some .string)(h0:0<=i)(h1:i<=x.length):
  pu P (zaE t (S x) (some (.int k i)) none none) K=K (S (x.drop i.toNat)):=
 zca (by simp only[Instr.sliceAt,Instr.slice,S,Instr.sliceBounds];simp[zau,zci,zak h,zpI,zaB k i x.length _ h0 h1,ext_S];rw[List.take_of_length_le (by simp)])
theorem zel(t:TypeId)(x:List UInt8)(k:IntKind)(i:Int)(h:P.underlying t=some .string)(h0:0<=i)(h1:i<=x.length):
  pu P (zaE t (S x) none (some (.int k i)) none) K=K (S (x.take i.toNat)):=
 zca (by simp only[Instr.sliceAt,Instr.slice,S,Instr.sliceBounds];simp[zau,zci,zak h,zpI,zaB k i x.length _ h0 h1,ext_S])
theorem zq8(t:TypeId)(x:List UInt8)(k l:IntKind)(i j:Int)(h:P.underlying t=some .string)(h0:0<=i)(h1:i<=j)(h2:j<=x.length):
  pu P (zaE t (S x) (some (.int k i)) (some (.int l j)) none) K=K (S ((x.drop i.toNat).take (j.toNat - i.toNat))):=
 zca (by
  have h3:0<=j:=by omega
  simp only[Instr.sliceAt,Instr.slice,S,Instr.sliceBounds];simp[zau,zci,zak h,zpI,zaB l j x.length _ h3 h2,ext_S,zaB k i j.toNat _ h0 (by omega)])
theorem zsJ{t:TypeId}{fields:Array Field}{f:Nat}{b o d:Nat}(h:P.underlying t=some (.struct fields))(hf:(fields[f]?).map (λx=>(x.offset,P.cellsOf x.type==0))=some (d,false))
  (ha:(Addr.mk b o none).add d=⟨b,o+d,none⟩):pu P (zad t (.pointer (some ⟨b,o,none⟩)) f) K=K (.pointer (some ⟨b,o+d,none⟩)):=
 zca (by
  cases hx:fields[f]? with
  |none=>rw[hx]at hf;cases hf
  |some fd=>
   rw[hx]at hf;simp only[Option.map_some,Option.some.injEq,Prod.mk.injEq,beq_eq_false_iff_ne]at hf;simp only[Instr.fieldAt,Instr.sureAddr,fieldPlace];have e:rp P (sizeOf fd.type)=some (P.cellsOf fd.type):=by
    have h2:=hf.2;unfold Program.cellsOf at h2⊢;cases hi:P.info? fd.type with
    |none=>rw[hi]at h2;exact absurd rfl h2
    |some i=>simp[sizeOf,typeInfo,zau,hi]
   simp[zau,zak h,hx,e,hf.2,hf.1,ha])
theorem st_call{f:FuncId}{fn:Func}{args:Array Value}{w:World}{K:Value->World->Prop}(hf:P.funcs[f]?=some fn)(hn:(fn.name== "runtime.NumGoroutine")=false)(hb:fn.body.isNone=false):
  st P (zah f args) w K=Cl P f args w K:=
 zo4 (by unfold zah callFunc;simp only[Sem.run_bind,run_program,Result.andThen_ok,hf,hn,hb];rfl)
theorem zaJ{n:Int}(h0:0<=n)(h1:n<=4294967295):IntKind.u32.wrap n=n:=by simp only[IntKind.wrap];simp[IntKind.bits,IntKind.signed];omega
theorem zaM{n:Int}(h0:0<=n)(h1:n<=18446744073709551615):IntKind.u64.wrap n=n:=by simp only[IntKind.wrap];simp[IntKind.bits,IntKind.signed];omega
theorem zaK{n:Int}(h0:0<=n)(h1:n<=65535):IntKind.u16.wrap n=n:=by simp only[IntKind.wrap];simp[IntKind.bits,IntKind.signed];omega
theorem w_u8{n:Int}(h0:0<=n)(h1:n<=255):IntKind.u8.wrap n=n:=by simp only[IntKind.wrap];simp[IntKind.bits,IntKind.signed];omega
theorem zaI{n:Int}(h0:-9223372036854775808<=n)(h1:n<=9223372036854775807):IntKind.i64.wrap n=n:=by simp only[IntKind.wrap];simp[IntKind.bits,IntKind.signed];omega
end
end Go.X
end
section
namespace Go.Proofs.YtdljebgllipdjaaGreatDoor.X
open Go Go.X Go.Proofs
namespace U
theorem aH:P.underlying T.aC=some (.int .i64):=Tryz.underlying2
theorem int:P.underlying T.int=some (.int .i64):=Tryz.underlying3
theorem bool:P.underlying T.bool=some (.bool):=Tryz.underlying4
theorem aE:P.underlying T.aJ=some (.int .u8):=Tryz.underlying5
theorem string:P.underlying T.string=some (.string):=Tryz.underlying9
theorem aj:P.underlying T.aw=some (.slice T.ae):=Tryz.underlying22
theorem ar:P.underlying T.aK=some (.slice T.ab):=Tryz.underlying24
theorem am:P.underlying T.aE=some (.slice T.ar):=Tryz.underlying28
theorem au:P.underlying T.aR=some (.slice T.int):=Tryz.underlying32
theorem ab:P.underlying T.ah=some (.slice T.aJ):=Tryz.underlying34
theorem ae:P.underlying T.aj=some (.slice T.string):=Tryz.underlying42
theorem ap:P.underlying T.aM=some (.slice T.ay):=Tryz.underlying47
theorem ao:P.underlying T.ap=some (.slice T.ag):=Tryz.underlying78
theorem aw:P.underlying T.aH=some (.map T.int T.aT):=Tryz.underlying79
theorem aD:P.underlying T.aT=some (.pointer T.am):=Tryz.underlying112
theorem ai:P.underlying T.aP=some (.slice T.aG):=Tryz.underlying114
theorem aB:P.underlying T.aG=some (.pointer T.aF):=Tryz.underlying124
theorem aA:P.underlying T.aQ=some (.map T.int T.aX):=Tryz.underlying130
theorem aC:P.underlying T.aX=some (.pointer T.ao):=Tryz.underlying131
theorem aG:P.underlying T.aW=some (.int .u32):=Tryz.underlying135
theorem aF:P.underlying T.aN=some (.int .u32):=Tryz.underlying136
theorem ag:P.underlying T.af=some (.pointer T.ak):=Tryz.underlying165
theorem ak:P.underlying T.aD=some (.pointer T.au):=Tryz.underlying177
theorem af:P.underlying T.ai=some (.map T.string T.af):=Tryz.underlying213
theorem ay:P.underlying T.aS=some (.map T.string T.af):=Tryz.underlying230
theorem ah:P.underlying T.aq=some (.slice T.af):=Tryz.underlying235
theorem aq:P.underlying T.aO=some (.pointer T.aI):=Tryz.underlying249
theorem aI:P.underlying T.aV=some (.pointer T.aY):=Tryz.underlying259
end U
abbrev FA(t:TypeId)(i d:Nat):Prop:=∀(b o:Nat)(K:Value->Prop),pu P (zad t (.pointer (some ⟨b,o,none⟩)) i) K=K (.pointer (some ⟨b,o+d,none⟩))
theorem fa{t:TypeId}{fields:Array Field}{i d:Nat}(h:P.underlying t=some (.struct fields))(hf:(fields[i]?).map (λx=>(x.offset,P.cellsOf x.type==0))=some (d,false):=by kernel_rfl):FA t i d:=λb o K=>zsJ K h hf (by rw[Addr.add_lit])
abbrev CLf(f:FuncId):Prop:=∀(args:Array Value)(w:World)(K:Value->World->Prop),st P (zah f args) w K=Cl P f args w K
theorem clf{f:FuncId}{fn:Func}(hf:P.funcs[f]?=some fn)(hn:(fn.name== "runtime.NumGoroutine")=false:=by kernel_rfl)(hb:fn.body.isNone=false:=by kernel_rfl):CLf f:=λ_ _ _=>st_call hf hn hb
abbrev CvI(s d:TypeId)(k j:IntKind):Prop:=∀(K:Value->Prop)(x:Int),pu P (zj8 s d (.int k x)) K=K (.int j (j.wrap x))
abbrev LenS(t:TypeId):Prop:=∀(K:Value->Prop)(c:Bool)(x:List UInt8),pu P (zac .len #[t] T.int #[c] #[S x]) K=K (.int .i64 x.length)
abbrev LenL(t:TypeId):Prop:=∀(K:Value->Prop)(c:Bool)(a:Option Addr)(n m:Nat),pu P (zac .len #[t] T.int #[c] #[.slice a n m]) K=K (.int .i64 n)
namespace A
theorem aV:FA T.ae 0 0:=fa Tryz.underlying36
theorem aU:FA T.ae 1 1:=fa Tryz.underlying36
theorem bc:FA T.ae 2 2:=fa Tryz.underlying36
theorem aT:FA T.ae 3 3:=fa Tryz.underlying36
theorem aW:FA T.ae 4 4:=fa Tryz.underlying36
theorem aZ:FA T.ae 5 5:=fa Tryz.underlying36
theorem aY:FA T.ae 6 6:=fa Tryz.underlying36
theorem aX:FA T.ae 7 7:=fa Tryz.underlying36
theorem aR:FA T.ae 8 8:=fa Tryz.underlying36
theorem a7:FA T.ae 9 9:=fa Tryz.underlying36
theorem aP:FA T.ar 0 0:=fa Tryz.underlying38
theorem aN:FA T.ar 1 1:=fa Tryz.underlying38
theorem aO:FA T.ar 2 2:=fa Tryz.underlying38
theorem aQ:FA T.ar 3 3:=fa Tryz.underlying38
theorem aM:FA T.ar 4 4:=fa Tryz.underlying38
theorem aG:FA T.ab 0 0:=fa Tryz.underlying49
theorem aJ:FA T.ab 1 1:=fa Tryz.underlying49
theorem aH:FA T.ab 2 2:=fa Tryz.underlying49
theorem aL:FA T.ab 3 3:=fa Tryz.underlying49
theorem aI:FA T.ab 4 4:=fa Tryz.underlying49
theorem aK:FA T.ab 5 5:=fa Tryz.underlying49
theorem aS:FA T.ay 1 1:=fa Tryz.underlying63
theorem aB:FA T.ag 0 0:=fa Tryz.underlying77
theorem aq:FA T.ag 1 1:=fa Tryz.underlying77
theorem aC:FA T.ag 2 2:=fa Tryz.underlying77
theorem ap:FA T.ag 3 3:=fa Tryz.underlying77
theorem au:FA T.ag 4 4:=fa Tryz.underlying77
theorem bo:FA T.aA 0 0:=fa Tryz.underlying81
theorem bt:FA T.aA 1 1:=fa Tryz.underlying81
theorem bn:FA T.aA 2 2:=fa Tryz.underlying81
theorem bu:FA T.aA 3 3:=fa Tryz.underlying81
theorem ae:FA T.am 0 0:=fa Tryz.underlying173
theorem ag:FA T.am 1 1:=fa Tryz.underlying173
theorem ai:FA T.am 2 2:=fa Tryz.underlying173
theorem aj:FA T.am 3 3:=fa Tryz.underlying173
theorem ah:FA T.am 4 4:=fa Tryz.underlying173
theorem ak:FA T.au 0 0:=fa Tryz.underlying180
theorem aA:FA T.au 2 2:=fa Tryz.underlying180
theorem af:FA T.aL 0 0:=fa Tryz.underlying215
theorem ab:FA T.aF 0 0:=fa Tryz.underlying229
theorem ao:FA T.ak 0 0:=fa Tryz.underlying232
theorem aw:FA T.ak 1 1:=fa Tryz.underlying232
theorem ar:FA T.ak 2 2:=fa Tryz.underlying232
theorem aF:FA T.ak 3 3:=fa Tryz.underlying232
theorem ay:FA T.ak 4 4:=fa Tryz.underlying232
theorem am:FA T.ak 5 5:=fa Tryz.underlying232
theorem aD:FA T.ak 6 6:=fa Tryz.underlying232
theorem aE:FA T.ak 7 7:=fa Tryz.underlying232
theorem bi:FA T.ao 0 0:=fa Tryz.underlying234
theorem br:FA T.ao 1 1:=fa Tryz.underlying234
theorem bj:FA T.ao 2 2:=fa Tryz.underlying234
theorem bl:FA T.ao 3 3:=fa Tryz.underlying234
theorem bv:FA T.ao 4 4:=fa Tryz.underlying234
end A
attribute [go_sem] A.aV A.aU A.bc A.aT A.aW A.aZ A.aY A.aX A.aR A.a7 A.aP A.aN A.aO A.aQ A.aM A.aG A.aJ A.aH A.aL A.aI A.aK A.aS A.aB A.aq A.aC A.ap A.au A.bo A.bt A.bn A.bu A.ae A.ag A.ai A.aj A.ah A.ak A.aA A.af A.ab A.ao A.aw A.ar A.aF A.ay A.am A.aD A.aE A.bi A.br A.bj A.bl A.bv
namespace V
theorem ap:CvI T.int T.aW .i64 .u32:=λK _=>ztT K U.int U.aG
theorem aj:CvI T.aN T.int .u32 .i64:=λK _=>ztT K U.aF U.int
theorem ai:LenS T.string:=λK _ _=>oLenS K _ _ _ _ U.string
theorem af:LenL T.aw:=λK _ _ _ _=>zn2 K _ _ _ _ _ _ _ U.aj
theorem am:LenL T.aK:=λK _ _ _ _=>zn2 K _ _ _ _ _ _ _ U.ar
theorem ah:LenL T.aE:=λK _ _ _ _=>zn2 K _ _ _ _ _ _ _ U.am
theorem ao:LenL T.ah:=λK _ _ _ _=>zn2 K _ _ _ _ _ _ _ U.ab
theorem ae:LenL T.aj:=λK _ _ _ _=>zn2 K _ _ _ _ _ _ _ U.ae
theorem ak:LenL T.ap:=λK _ _ _ _=>zn2 K _ _ _ _ _ _ _ U.ao
theorem ag:LenL T.aP:=λK _ _ _ _=>zn2 K _ _ _ _ _ _ _ U.ai
theorem ab:LenL T.aq:=λK _ _ _ _=>zn2 K _ _ _ _ _ _ _ U.ah
end V
attribute [go_sem] V.ap V.aj V.ai V.af V.am V.ah V.ao V.ae V.ak V.ag V.ab
namespace C
theorem cN:CLf Fn.cK:=clf Tryz.func8
theorem bH:CLf Fn.cI:=clf Tryz.func14
theorem dz:CLf Fn.dt:=clf Tryz.func15
theorem dq:CLf Fn.ck:=clf Tryz.func17
theorem cC:CLf Fn.bE:=clf Tryz.func18
theorem dF:CLf Fn.dC:=clf Tryz.func20
theorem bF:CLf Fn.dh:=clf Tryz.func21
theorem bC:CLf Fn.ay:=clf Tryz.func22
theorem cO:CLf Fn.cM:=clf Tryz.func24
theorem cK:CLf Fn.cH:=clf Tryz.func34
theorem dh:CLf Fn.bR:=clf Tryz.func36
theorem cJ:CLf Fn.cG:=clf Tryz.func38
theorem aj:CLf Fn.ai:=clf Tryz.func40
theorem aO:CLf Fn.bu:=clf Tryz.func46
theorem dw:CLf Fn.dq:=clf Tryz.func49
theorem dt:CLf Fn.dk:=clf Tryz.func61
theorem bP:CLf Fn.dp:=clf Tryz.func62
theorem du:CLf Fn.bX:=clf Tryz.func63
theorem aM:CLf Fn.cS:=clf Tryz.func64
theorem dy:CLf Fn.dr:=clf Tryz.func65
theorem bZ:CLf Fn.bK:=clf Tryz.func68
theorem bU:CLf Fn.br:=clf Tryz.func69
theorem cf:CLf Fn.bL:=clf Tryz.func70
theorem cM:CLf Fn.bn:=clf Tryz.func72
theorem bz:CLf Fn.bY:=clf Tryz.func73
theorem aB:CLf Fn.bv:=clf Tryz.func74
theorem dm:CLf Fn.cg:=clf Tryz.func75
theorem cX:CLf Fn.cX:=clf Tryz.func79
theorem dG:CLf Fn.dw:=clf Tryz.func95
theorem cZ:CLf Fn.cZ:=clf Tryz.func118
theorem cQ:CLf Fn.cO:=clf Tryz.func119
theorem cW:CLf Fn.cW:=clf Tryz.func120
theorem aU:CLf Fn.ci:=clf Tryz.func121
theorem bM:CLf Fn.aG:=clf Tryz.func122
theorem aQ:CLf Fn.aM:=clf Tryz.func123
theorem bw:CLf Fn.aT:=clf Tryz.func124
theorem aP:CLf Fn.aJ:=clf Tryz.func125
theorem bu:CLf Fn.aQ:=clf Tryz.func126
theorem bK:CLf Fn.aE:=clf Tryz.func127
theorem bl:CLf Fn.aA:=clf Tryz.func128
theorem bO:CLf Fn.a7:=clf Tryz.func129
theorem bY:CLf Fn.bJ:=clf Tryz.func130
theorem bQ:CLf Fn.bo:=clf Tryz.func131
theorem bV:CLf Fn.bw:=clf Tryz.func132
theorem bJ:CLf Fn.aW:=clf Tryz.func133
theorem aI:CLf Fn.aL:=clf Tryz.func134
theorem bv:CLf Fn.aR:=clf Tryz.func135
theorem aX:CLf Fn.aY:=clf Tryz.func136
theorem aV:CLf Fn.aq:=clf Tryz.func137
theorem aC:CLf Fn.ao:=clf Tryz.func138
theorem bG:CLf Fn.aU:=clf Tryz.func139
theorem bR:CLf Fn.aB:=clf Tryz.func140
theorem dC:CLf Fn.cN:=clf Tryz.func141
theorem aZ:CLf Fn.aO:=clf Tryz.func142
theorem cP:CLf Fn.aP:=clf Tryz.func143
theorem cz:CLf Fn.aH:=clf Tryz.func144
theorem aK:CLf Fn.aS:=clf Tryz.func145
theorem cS:CLf Fn.bz:=clf Tryz.func146
theorem aT:CLf Fn.bi:=clf Tryz.func147
theorem cV:CLf Fn.cV:=clf Tryz.func148
theorem cw:CLf Fn.cQ:=clf Tryz.func149
theorem di:CLf Fn.bU:=clf Tryz.func153
theorem cH:CLf Fn.bV:=clf Tryz.func154
theorem cT:CLf Fn.bC:=clf Tryz.func155
theorem cF:CLf Fn.cw:=clf Tryz.func156
theorem bn:CLf Fn.bM:=clf Tryz.func157
theorem aS:CLf Fn.bc:=clf Tryz.func158
theorem bL:CLf Fn.aF:=clf Tryz.func159
theorem dg:CLf Fn.de:=clf Tryz.func160
theorem dk:CLf Fn.df:=clf Tryz.func161
theorem ar:CLf Fn.ap:=clf Tryz.func165
theorem dp:CLf Fn.bF:=clf Tryz.func166
theorem aJ:CLf Fn.aZ:=clf Tryz.func167
theorem cI:CLf Fn.cF:=clf Tryz.func168
theorem bt:CLf Fn.bQ:=clf Tryz.func169
theorem cU:CLf Fn.cU:=clf Tryz.func170
theorem de:CLf Fn.cA:=clf Tryz.func171
theorem dE:CLf Fn.di:=clf Tryz.func172
theorem cG:CLf Fn.bH:=clf Tryz.func173
theorem ae:CLf Fn.ag:=clf Tryz.func174
theorem bc:CLf Fn.cP:=clf Tryz.func175
theorem ab:CLf Fn.ab:=clf Tryz.func176
theorem ag:CLf Fn.ae:=clf Tryz.func177
theorem aE:CLf Fn.aI:=clf Tryz.func178
theorem ay:CLf Fn.aN:=clf Tryz.func179
theorem bj:CLf Fn.au:=clf Tryz.func180
theorem aH:CLf Fn.aK:=clf Tryz.func181
theorem aG:CLf Fn.cC:=clf Tryz.func182
theorem cY:CLf Fn.cY:=clf Tryz.func183
theorem ak:CLf Fn.am:=clf Tryz.func184
theorem br:CLf Fn.bP:=clf Tryz.func185
theorem aW:CLf Fn.bZ:=clf Tryz.func186
theorem ah:CLf Fn.af:=clf Tryz.func187
theorem aF:CLf Fn.bO:=clf Tryz.func188
theorem cB:CLf Fn.bj:=clf Tryz.func189
theorem aR:CLf Fn.aD:=clf Tryz.func190
theorem ap:CLf Fn.ak:=clf Tryz.func191
theorem ck:CLf Fn.dE:=clf Tryz.func192
theorem dB:CLf Fn.dF:=clf Tryz.func193
theorem bi:CLf Fn.du:=clf Tryz.func194
theorem dA:CLf Fn.cL:=clf Tryz.func195
theorem cE:CLf Fn.bG:=clf Tryz.func196
theorem aY:CLf Fn.bl:=clf Tryz.func197
theorem a7:CLf Fn.ct:=clf Tryz.func198
theorem aq:CLf Fn.ah:=clf Tryz.func202
theorem aD:CLf Fn.cz:=clf Tryz.func204
theorem dr:CLf Fn.cJ:=clf Tryz.func206
theorem ai:CLf Fn.ar:=clf Tryz.func207
theorem bX:CLf Fn.dG:=clf Tryz.func208
theorem am:CLf Fn.aX:=clf Tryz.func209
theorem af:CLf Fn.aj:=clf Tryz.func210
theorem ao:CLf Fn.cf:=clf Tryz.func211
theorem aw:CLf Fn.cE:=clf Tryz.func212
theorem aN:CLf Fn.bt:=clf Tryz.func213
theorem bE:CLf Fn.dg:=clf Tryz.func214
theorem aL:CLf Fn.co:=clf Tryz.func215
theorem au:CLf Fn.aw:=clf Tryz.func216
theorem co:CLf Fn.aV:=clf Tryz.func217
theorem aA:CLf Fn.aC:=clf Tryz.func218
theorem ci:CLf Fn.dz:=clf Tryz.func219
theorem ct:CLf Fn.dB:=clf Tryz.func220
theorem cg:CLf Fn.dy:=clf Tryz.func221
theorem cL:CLf Fn.dm:=clf Tryz.func223
theorem cA:CLf Fn.cT:=clf Tryz.func224
theorem df:CLf Fn.cB:=clf Tryz.func225
theorem bo:CLf Fn.dA:=clf Tryz.func226
end C
attribute [go_sem] C.cN C.bH C.dz C.dq C.cC C.dF C.bF C.bC C.cO C.cK C.dh C.cJ C.aj C.aO C.dw C.dt C.bP C.du C.aM C.dy C.bZ C.bU C.cf C.cM C.bz C.aB C.dm C.cX C.dG C.cZ C.cQ C.cW C.aU C.bM C.aQ C.bw C.aP C.bu C.bK C.bl C.bO C.bY C.bQ C.bV C.bJ C.aI C.bv C.aX C.aV C.aC C.bG C.bR C.dC C.aZ C.cP C.cz C.aK C.cS C.aT C.cV C.cw C.di C.cH C.cT C.cF C.bn C.aS C.bL C.dg C.dk C.ar C.dp C.aJ C.cI C.bt C.cU C.de C.dE C.cG C.ae C.bc C.ab C.ag C.aE C.ay C.bj C.aH C.aG C.cY C.ak C.br C.aW C.ah C.aF C.cB C.aR C.ap C.ck C.dB C.bi C.dA C.cE C.aY C.a7 C.aq C.aD C.dr C.ai C.bX C.am C.af C.ao C.aw C.aN C.bE C.aL C.au C.co C.aA C.ci C.ct C.cg C.cL C.cA C.df C.bo
end Go.Proofs.YtdljebgllipdjaaGreatDoor.X
end
section
namespace Go.X
open Go Go.RowKit
def bk(w:World)(b:Nat):Option Obj:=w.heap[b]?
abbrev CB(l:List Value)(t:TypeId):Obj:=.cells l.toArray t (0,0)
def AG(l:List Value):Value:=.agg l.toArray
abbrev pt(b o:Nat):Value:=.pointer (some ⟨b,o,none⟩)
def setb(w:World)(b:Nat)(o:Obj):World:={w with heap:=w.heap.setIfInBounds b o}
theorem zaj{w:World}{b:Nat}{o:Obj}(h:bk w b=some o):b<w.heap.size:=by unfold bk at h;exact(Array.getElem?_eq_some_iff.1 h).1
@[go_sem]theorem bk_drew(w:World)(b:Nat):bk w.drew b=bk w b:=rfl
@[go_sem]theorem zaf(w:World)(o:Obj)(b:Nat)(h:b=w.heap.size):bk (w.alloc o) b=some o:=by subst h;show(w.heap.push o)[w.heap.size]?=_;simp
@[go_sem]theorem zat(w:World)(o:Obj)(b:Nat)(h:b≠w.heap.size):bk (w.alloc o) b=bk w b:=by show(w.heap.push o)[b]?=w.heap[b]?;rw[Array.getElem?_push,if_neg h]
@[go_sem]theorem sZb(w:World)(b:Nat)(o:Obj):(setb w b o).heap.size=w.heap.size:=by simp[setb]
@[go_sem]theorem sZa(w:World)(o:Obj):(w.alloc o).heap.size=w.heap.size+1:=World.size_alloc w o
@[go_sem]theorem sZd(w:World):w.drew.heap.size=w.heap.size:=rfl
@[go_sem]theorem zap(w:World)(b b':Nat)(o:Obj)(h:b'=b)(hb:b<w.heap.size):bk (setb w b o) b'=some o:=by subst h;unfold bk setb;simp[hb]
@[go_sem]theorem zao(w:World)(b b':Nat)(o:Obj)(h:b'≠b):bk (setb w b o) b'=bk w b':=by unfold bk setb;simp[Array.getElem?_setIfInBounds_ne (Ne.symm h)]
def za1(o:Option Obj)(i:Nat):Option Value:=
 match o with
 |some (.cells c _ _)=>c[i]?
 |_=>none
def zrb(o:Option Obj)(i:Nat):Bool:=
 match o with
 |some (.cells _ _ (lo,hi))=>lo<=i&&i<hi
 |_=>false
def zaY(o:Option Obj)(i n:Nat):Option (List Value):=
 match o with
 |some (.cells c _ _)=>if i+n<=c.size then some ((c.toList.drop i).take n)else none
 |_=>none
def zn5(o:Option Obj)(i:Nat)(x:Value):Option Obj:=
 match o with
 |some (.cells c e fz)=>if i<c.size/\zrb (some (.cells c e fz)) i=false/\x.oneCell'=true then some (.cells (c.setIfInBounds i x) e fz)else none
 |_=>none
def zkW(o:Option Obj)(i n:Nat)(xs:List Value):Option Obj:=
 match o with
 |some (.cells c e (0,0))=>if i+n<=c.size/\xs.length=n/\xs.all (·.oneCell')=true then some (.cells (c.toList.take i++xs++c.toList.drop (i+n)).toArray e (0,0))else none
 |_=>none
def optE{α:Type}(o:Option α)(K:α->Prop)(far:Prop):Prop:=
 match o with
 |some v=>K v
 |none=>far
theorem zcZ{α:Type}(v:α)(K:α->Prop)(far:Prop):optE (some v) K far=K v:=rfl
@[go_sem]theorem zbe(l:List Value)(t:TypeId)(i:Nat):za1 (some (CB l t)) i=l[i]?:=by simp[za1]
theorem zlr(l:List Value)(t:TypeId)(i n:Nat)(h:i+n<=l.length):zaY (some (CB l t)) i n=some ((l.drop i).take n):=by simp[zaY,h]
def zoY:List Value->Nat->Option (List Value)
 |_,0=>some []
 |[],_+1=>none
 |a::l,n+1=>(zoY l n).map (a::·)
def rowL:List Value->Nat->Nat->Option (List Value)
 |l,0,n=>zoY l n
 |[],_+1,_=>none
 |_::l,i+1,n=>rowL l i n
def setL:List Value->Nat->Value->Option (List Value)
 |[],_,_=>none
 |_::l,0,x=>some (x::l)
 |a::l,n+1,x=>(setL l n x).map (a::·)
def zmx:List Value->Nat->List Value->Option (List Value)
 |l,0,[]=>some l
 |_::l,n+1,x::xs=>(zmx l n xs).map (x::·)
 |_,_,_=>none
def putL:List Value->Nat->Nat->List Value->Option (List Value)
 |l,0,n,xs=>zmx l n xs
 |[],_+1,_,_=>none
 |a::l,i+1,n,xs=>(putL l i n xs).map (a::·)
@[go_sem]theorem takeL_0(l:List Value):zoY l 0=some []:=by cases l<;>rfl
@[go_sem]theorem takeL_s(a:Value)(l:List Value)(n:Nat):zoY (a::l) (n+1)=(zoY l n).map (a::·):=rfl
@[go_sem]theorem rowL_0(l:List Value)(n:Nat):rowL l 0 n=zoY l n:=by cases l<;>rfl
@[go_sem]theorem rowL_s(a:Value)(l:List Value)(i n:Nat):rowL (a::l) (i+1) n=rowL l i n:=rfl
@[go_sem]theorem setL_0(a x:Value)(l:List Value):setL (a::l) 0 x=some (x::l):=rfl
@[go_sem]theorem setL_s(a x:Value)(l:List Value)(n:Nat):setL (a::l) (n+1) x=(setL l n x).map (a::·):=rfl
@[go_sem]theorem overL_0(l:List Value):zmx l 0 []=some l:=by cases l<;>rfl
@[go_sem]theorem overL_s(a x:Value)(l xs:List Value)(n:Nat):zmx (a::l) (n+1) (x::xs)=(zmx l n xs).map (x::·):=rfl
@[go_sem]theorem putL_0(l xs:List Value)(n:Nat):putL l 0 n xs=zmx l n xs:=by cases l<;>rfl
@[go_sem]theorem putL_s(a:Value)(l xs:List Value)(i n:Nat):putL (a::l) (i+1) n xs=(putL l i n xs).map (a::·):=rfl
theorem zpQ:∀(l:List Value)(n:Nat),zoY l n=if n<=l.length then some (l.take n)else none
 |l,0=>by simp[takeL_0]
 |[],n+1=>rfl
 |a::l,n+1=>by rw[takeL_s,zpQ l n];by_cases h:n<=l.length<;>simp[h]
theorem zpa:∀(l:List Value)(i n:Nat),rowL l i n=if i+n<=l.length/\i<=l.length then some ((l.drop i).take n)else none
 |l,0,n=>by rw[rowL_0,zpQ];simp
 |[],i+1,n=>by simp[rowL]
 |a::l,i+1,n=>by
  rw[rowL_s,zpa l i n];have e:(i+1+n<=(a::l).length/\i+1<=(a::l).length)↔(i+n<=l.length/\i<=l.length):=by simp;omega
  simp only[e,List.drop_succ_cons]
theorem zo2:∀(l:List Value)(i:Nat)(x:Value),setL l i x=if i<l.length then some (l.set i x)else none
 |[],i,x=>by simp[setL]
 |a::l,0,x=>by simp[setL]
 |a::l,n+1,x=>by rw[setL_s,zo2 l n x];by_cases h:n<l.length<;>simp[h]
theorem zpA:∀(l:List Value)(n:Nat)(xs:List Value),zmx l n xs=if xs.length=n/\n<=l.length then some (xs++l.drop n)else none
 |l,0,[]=>by simp[overL_0]
 |l,0,x::xs=>by simp[zmx]
 |[],n+1,xs=>by simp[zmx]
 |a::l,n+1,[]=>by simp[zmx]
 |a::l,n+1,x::xs=>by
  rw[overL_s,zpA l n xs];by_cases h:xs.length=n/\n<=l.length
  ·simp[h]
  ·rw[if_neg h,if_neg (by simpa using h)];rfl
theorem zo6:∀(l:List Value)(i n:Nat)(xs:List Value),putL l i n xs=if i+n<=l.length/\xs.length=n then some (l.take i++xs++l.drop (i+n))else none
 |l,0,n,xs=>by rw[putL_0,zpA];simp[and_comm]
 |[],i+1,n,xs=>by simp only[putL];rw[if_neg (by simp)]
 |a::l,i+1,n,xs=>by
  rw[putL_s,zo6 l i n xs];by_cases h:i+n<=l.length/\xs.length=n
  ·rw[if_pos h,if_pos (by simp;omega)];simp[show i+1+n=i+n+1 by omega]
  ·rw[if_neg h,if_neg (by simp;omega)];rfl
@[go_sem low]theorem rowL_le(l:List Value)(i n:Nat)(h:i+n<=l.length):rowL l i n=some ((l.drop i).take n):=by rw[zpa,if_pos ⟨h,by omega⟩]
@[go_sem low]theorem setL_lt(l:List Value)(i:Nat)(x:Value)(h:i<l.length):setL l i x=some (l.set i x):=by rw[zo2,if_pos h]
@[go_sem]theorem rowOf_L(l:List Value)(t:TypeId)(i n:Nat)(h:0<n):zaY (some (CB l t)) i n=rowL l i n:=by
 rw[zpa];simp only[zaY,List.size_toArray];by_cases h1:i+n<=l.length
 ·rw[if_pos h1,if_pos ⟨h1,by omega⟩]
 ·rw[if_neg h1,if_neg (by omega)]
@[go_sem]theorem stoOf_L(l:List Value)(t:TypeId)(i:Nat)(x:Value):zn5 (some (CB l t)) i x=bif x.oneCell' then(setL l i x).map (CB · t)else none:=by rw[zo2];by_cases h1:i<l.length<;>by_cases h2:x.oneCell'=true<;>simp[zn5,h1,h2,zrb]
@[go_sem]theorem stoNOf_L(l:List Value)(t:TypeId)(i n:Nat)(xs:List Value):zkW (some (CB l t)) i n xs=bif xs.all (·.oneCell')then(putL l i n xs).map (CB · t)else none:=by rw[zo6];simp only[zkW,List.size_toArray];by_cases h1:i+n<=l.length<;>by_cases h2:xs.length=n<;>by_cases h3:xs.all (·.oneCell')=true<;>simp[h1,h2,h3]
attribute [go_sem] Option.map_some Option.isSome_some Option.getD_some cond_true List.getElem?_cons_zero List.getElem?_cons_succ Nat.zero_add Nat.add_zero List.all_cons List.all_nil Bool.and_self Bool.and_true Bool.true_and Option.bind_some
theorem zcY{α:Type}{o:Option α}(d:α){K:α->Prop}{far:Prop}(h:o.isSome=true):optE o K far=K (o.getD d):=by
 cases o with
 |none=>cases h
 |some v=>rfl
def noBk:Obj:=.cells #[] 0 (0,0)
theorem cell?_eq(w:World)(b o:Nat):w.cell? ⟨b,o,none⟩=za1 (bk w b) o:=by
 unfold World.cell? bk za1;cases w.heap[b]? with
 |none=>rfl
 |some ob=>cases ob<;>rfl
theorem frozen?_eq(w:World)(b o:Nat):w.frozen? ⟨b,o,none⟩=zrb (bk w b) o:=by
 unfold World.frozen? bk zrb;cases w.heap[b]? with
 |none=>rfl
 |some ob=>cases ob<;>rfl
theorem zmR(w:World)(b o:Nat)(x:Value){c:Array Value}{e:TypeId}{fz:Nat×Nat}(h:bk w b=some (.cells c e fz)):w.setCell ⟨b,o,none⟩ x=setb w b (.cells (c.setIfInBounds o x) e fz):=by
 have hlt:=zaj h;unfold bk at h;unfold World.setCell setb;congr 1;apply Array.ext_getElem?;intro i;rw[Array.getElem?_modify];by_cases e1:b=i
 ·subst e1;rw[if_pos rfl,h,Array.getElem?_setIfInBounds_self_of_lt hlt];rfl
 ·rw[if_neg e1,Array.getElem?_setIfInBounds_ne e1]
theorem zq1(w:World)(b:Nat)(o o':Obj):setb (setb w b o) b o'=setb w b o':=by unfold setb;simp
theorem zfB(b:Nat){e:TypeId}{fz:Nat×Nat}:∀(vs:List Value)(o:Nat)(w:World)(c:List Value),bk w b=some (.cells c.toArray e fz)->o+vs.length<=c.length->
  w.setCells b o vs=setb w b (.cells (c.take o++vs++c.drop (o+vs.length)).toArray e fz)
 |[],o,w,c,h,hl=>by
  have hlt:=zaj h;simp only[World.setCells,List.append_nil,List.length_nil,Nat.add_zero,List.take_append_drop];unfold bk at h;unfold setb;cases w;congr 1;apply Array.ext_getElem?;intro i;by_cases e1:b=i
  ·subst e1;rw[Array.getElem?_setIfInBounds_self_of_lt hlt];exact h
  ·rw[Array.getElem?_setIfInBounds_ne e1]
 |v::vs,o,w,c,h,hl=>by
  have hlt:=zaj h;simp only[List.length_cons]at hl;simp only[World.setCells];rw[zmR w b o v h];rw[zfB (e:=e) (fz:=fz) b vs (o+1) _ (c.set o v) (by rw[zap _ _ _ _ rfl hlt];simp) (by simp;omega),zq1];have e1:(c.set o v).take (o+1)=c.take o++[v]:=by
   have ho:o<c.length:=by omega
   apply List.ext_getElem (by simp;omega);intro i h1 h2;simp only[List.getElem_take,List.getElem_set,List.getElem_append,List.length_take,List.getElem_singleton];have hi:i<o+1:=by simp at h1;omega
   by_cases e1:o=i
   ·subst e1;simp;intro h;omega
   ·have:i<min o c.length:=by omega
    simp[e1,this]
  have e2:(c.set o v).drop (o+1+vs.length)=c.drop (o+(v::vs).length):=by apply List.ext_getElem?;intro i;simp only[List.getElem?_drop,List.length_cons];rw[List.getElem?_set_ne (by omega)];congr 1;omega
  rw[e1,e2];simp
section
variable{P:Program}(K:Value->World->Prop)(w:World)
def farK(P:Program)(s:Sem Next)(w:World)(K:Value->World->Prop):Prop:=st P s w K
def farR(P:Program)(s:Sem Next)(w:World)(K:Value->Prop):Prop:=rd P s w K
def farH(P:Program)(s:Sem Next)(v:Value)(w:World):Prop:=hold P s v w
def farP(P:Program)(s:Sem Next)(K:Value->Prop):Prop:=pu P s K
def farL(P:Program)(t:TypeId)(x:Value)(w:World)(K:Value->Prop):Prop:=rsl P t x w K
theorem zlH{t:TypeId}{d:TypeDesc}(h:P.underlying t=some d)(hd:d.isRow=false){b o:Nat}{v:Value}(hv:za1 (bk w b) o=some v):(loadVar t ⟨b,o,none⟩).run P w=.ok v w:=by
 rw[<-cell?_eq]at hv;have hagg:(isAgg t).run P w=.ok false w:=by unfold isAgg;rw[Sem.run_bind,run_underlying h w];cases d<;>simp_all
 simp[loadVar,Sem.run_bind,hagg,hv]
theorem zj9{t:TypeId}{d:TypeDesc}{n:Nat}(h:P.underlying t=some d)(hd:d.isRow=true)(hn:(P.info? t).map (·.size)=some n){b o:Nat}{l:List Value}(hv:zaY (bk w b) o n=some l):
  (loadVar t ⟨b,o,none⟩).run P w=.ok (AG l) w:=by
 unfold zaY at hv;cases hb:bk w b with
 |none=>rw[hb]at hv;cases hv
 |some ob=>
  rw[hb]at hv;cases ob with
  |cells c e fz=>
   simp only at hv;by_cases hle:o+n<=c.size
   ·rw[if_pos hle]at hv;injection hv with hv;have hlen:l.length=n:=by rw[<-hv];simp;omega
    refine run_loadVar_mid w b o t l d (λj v hj=>?_) h hd (by rw[hlen];exact hn);rw[cell?_eq,hb];show c[o+j]?=some v;rw[<-hv]at hj;have hjn:j<n:=by have:=(List.getElem?_eq_some_iff.1 hj).1;simp at this;omega
    rw[List.getElem?_take_of_lt hjn,List.getElem?_drop]at hj;simpa using hj
   ·rw[if_neg hle]at hv;cases hv
  |_=>simp at hv
theorem oLoad1{t:TypeId}{d:TypeDesc}(h:P.underlying t=some d)(hd:d.isRow=false)(b o:Nat):
  st P (zab t (pt b o)) w K=optE (za1 (bk w b) o) (λv=>K v w) (farK P (zab t (pt b o)) w K):=by
 cases hv:za1 (bk w b) o with
 |none=>rfl
 |some v=>exact zav (zbd (by simp only[Instr.loadAt,Instr.sureAddr,Sem.run_bind,Sem.run_pure,Result.andThen_ok];exact zlH w h hd hv))
theorem oLoadN{t:TypeId}{d:TypeDesc}{n:Nat}(h:P.underlying t=some d)(hd:d.isRow=true)(hn:(P.info? t).map (·.size)=some n)(b o:Nat):
  st P (zab t (pt b o)) w K=optE (zaY (bk w b) o n) (λl=>K (AG l) w) (farK P (zab t (pt b o)) w K):=by
 cases hv:zaY (bk w b) o n with
 |none=>rfl
 |some v=>exact zav (zbd (by simp only[Instr.loadAt,Instr.sureAddr,Sem.run_bind,Sem.run_pure,Result.andThen_ok];exact zj9 w h hd hn hv))
theorem rLoad1(K:Value->Prop){t:TypeId}{d:TypeDesc}(h:P.underlying t=some d)(hd:d.isRow=false)(b o:Nat):
  rd P (zab t (pt b o)) w K=optE (za1 (bk w b) o) K (farR P (zab t (pt b o)) w K):=by
 cases hv:za1 (bk w b) o with
 |none=>rfl
 |some v=>exact zsF (zbd (by simp only[Instr.loadAt,Instr.sureAddr,Sem.run_bind,Sem.run_pure,Result.andThen_ok];exact zlH w h hd hv))
theorem rLoadN(K:Value->Prop){t:TypeId}{d:TypeDesc}{n:Nat}(h:P.underlying t=some d)(hd:d.isRow=true)(hn:(P.info? t).map (·.size)=some n)(b o:Nat):
  rd P (zab t (pt b o)) w K=optE (zaY (bk w b) o n) (λl=>K (AG l)) (farR P (zab t (pt b o)) w K):=by
 cases hv:zaY (bk w b) o n with
 |none=>rfl
 |some v=>exact zsF (zbd (by simp only[Instr.loadAt,Instr.sureAddr,Sem.run_bind,Sem.run_pure,Result.andThen_ok];exact zj9 w h hd hn hv))
theorem hLoad1(v':Value){t:TypeId}{d:TypeDesc}(h:P.underlying t=some d)(hd:d.isRow=false)(b o:Nat):
  hold P (zab t (pt b o)) v' w=optE (za1 (bk w b) o) (λv=>v=v') (farH P (zab t (pt b o)) v' w):=by
 cases hv:za1 (bk w b) o with
 |none=>rfl
 |some v=>exact zrr (zbd (by simp only[Instr.loadAt,Instr.sureAddr,Sem.run_bind,Sem.run_pure,Result.andThen_ok];exact zlH w h hd hv))
theorem hLoadN(v':Value){t:TypeId}{d:TypeDesc}{n:Nat}(h:P.underlying t=some d)(hd:d.isRow=true)(hn:(P.info? t).map (·.size)=some n)(b o:Nat):
  hold P (zab t (pt b o)) v' w=optE (zaY (bk w b) o n) (λl=>AG l=v') (farH P (zab t (pt b o)) v' w):=by
 cases hv:zaY (bk w b) o n with
 |none=>rfl
 |some v=>exact zrr (zbd (by simp only[Instr.loadAt,Instr.sureAddr,Sem.run_bind,Sem.run_pure,Result.andThen_ok];exact zj9 w h hd hn hv))
theorem rslN(K:Value->Prop){t:TypeId}{d:TypeDesc}{n:Nat}(h:P.underlying t=some d)(hd:d.isRow=true)(hn:(P.info? t).map (·.size)=some n)(b o:Nat):
  rsl P t (pt b o) w K=optE (zaY (bk w b) o n) (λl=>K (AG l)) (farL P t (pt b o) w K):=by
 cases hv:zaY (bk w b) o n with
 |none=>rfl
 |some v=>
  have hr:(do loadVar t (<-asAddr (pt b o)):Sem Value).run P w=.ok (AG v) w:=by have:=zj9 w h hd hn hv;simpa[asAddr]using this
  exact propext ⟨λx=>by obtain⟨v',h',k⟩:=x.h;rw[hr]at h';injection h' with h1;subst h1;exact k,λx=>⟨⟨_,hr,x⟩⟩⟩
theorem zqs{t:TypeId}(hn:(P.info? t).map (·.size)=some 1){b o:Nat}{x:Value}{ob:Obj}(hv:zn5 (bk w b) o x=some ob):(storeVar t ⟨b,o,none⟩ x).run P w=.ok () (setb w b ob):=by
 unfold zn5 at hv;cases hb:bk w b with
 |none=>rw[hb]at hv;cases hv
 |some ob'=>
  rw[hb]at hv;cases ob' with
  |cells c e fz=>
   simp only at hv;by_cases hle:o<c.size/\zrb (some (.cells c e fz)) o=false/\x.oneCell'=true
   ·rw[if_pos hle]at hv;have hx:=hle.2.2;injection hv with hv;have hcells:x.cells=#[x]:=by cases x<;>first|rfl|(simp[Value.oneCell']at hx)
    have hc:w.cell? ⟨b,o,none⟩=some c[o]:=by rw[cell?_eq,hb];show c[o]?=_;simp[hle.1]
    have hf:w.frozen? ⟨b,o,none⟩=false:=by rw[frozen?_eq,hb];exact hle.2.1
    cases hq:P.info? t with
    |none=>simp[hq]at hn
    |some i=>
     have hs:i.size=1:=by simpa[hq]using hn
     have hst:(store ⟨b,o,none⟩ x).run P w=.ok () (setb w b ob):=by rw[run_store P w _ x _ hx,hc];simp only[hf,Bool.false_eq_true,if_false];rw[zmR w b o x hb,hv]
     have hadd:(Addr.mk b o none).add 0=⟨b,o,none⟩:=rfl;simp[storeVar,Sem.run_bind,sizeOf,typeInfo,hq,hs,hcells,storeCells,hadd,hst]
   ·rw[if_neg hle]at hv;cases hv
  |_=>simp at hv
theorem zqu{t:TypeId}{n:Nat}{xs:List Value}(hn:(P.info? t).map (·.size)=some n){b o:Nat}{ob:Obj}(hv:zkW (bk w b) o n xs=some ob):
  (storeVar t ⟨b,o,none⟩ (AG xs)).run P w=.ok () (setb w b ob):=by
 unfold zkW at hv;cases hb:bk w b with
 |none=>rw[hb]at hv;cases hv
 |some ob'=>
  rw[hb]at hv;cases ob' with
  |cells c e fz=>
   obtain⟨lo,hi⟩:=fz;cases lo with
   |succ lo=>simp at hv
   |zero=>
    cases hi with
    |succ hi=>simp at hv
    |zero=>
     simp only at hv;by_cases hle0:o+n<=c.size/\xs.length=n/\xs.all (·.oneCell')=true
     ·rw[if_pos hle0]at hv;obtain⟨hle,hlen,hx⟩:=hle0;subst hlen;injection hv with hv;have hth:w.there b o xs.toArray.size:=λj hj=>by
       have hj':j<xs.length:=by simpa using hj
       constructor
       ·rw[cell?_eq,hb];show(c[o+j]?).isSome=true;simp;omega
       ·rw[frozen?_eq,hb];show(decide (0<=o+j)&&decide (o+j<0))=false;simp
      have hr:=run_storeVar_mid (P:=P) w b o t xs.toArray hth (by simpa using hn) (by simpa using hx);rw[show(AG xs)=.agg xs.toArray from rfl,hr];congr 1;rw[show xs.toArray.toList=xs by simp];rw[zfB b xs o w c.toList (e:=e) (fz:=(0,0)) (by simpa using hb) (by simpa using hle),<-hv]
     ·rw[if_neg hle0]at hv;cases hv
  |_=>simp at hv
theorem oStore1{t:TypeId}(hn:(P.info? t).map (·.size)=some 1)(b o:Nat)(x:Value):
  st P (zai t (pt b o) x) w K=optE (zn5 (bk w b) o x) (λob=>K undef (setb w b ob)) (farK P (zai t (pt b o) x) w K):=by
 cases hv:zn5 (bk w b) o x with
 |none=>rfl
 |some v=>exact zkE (zre (by simp only[Instr.storeAt,Instr.sureAddr,Sem.run_bind,Sem.run_pure,Result.andThen_ok];exact zqs w hn hv))
theorem oStoreN{t:TypeId}{n:Nat}(hn:(P.info? t).map (·.size)=some n)(b o:Nat)(xs:List Value):
  st P (zai t (pt b o) (AG xs)) w K=optE (zkW (bk w b) o n xs) (λob=>K undef (setb w b ob)) (farK P (zai t (pt b o) (AG xs)) w K):=by
 cases hv:zkW (bk w b) o n xs with
 |none=>rfl
 |some v=>exact zkE (zre (by simp only[Instr.storeAt,Instr.sureAddr,Sem.run_bind,Sem.run_pure,Result.andThen_ok];exact zqu w hn hv))
theorem zrq{t:TypeId}{l:List Value}{z:Value}(hz:∀w,(zeroValue t).run P w=.ok z w)(hc:z.cells=l.toArray):st P (zbw t) w K=K (pt w.heap.size 0) (w.alloc (CB l t)):=zav (zbd (by simp[Instr.alloc,hz,newVar,newRow,hc]))
@[go_sem]theorem zcJ(t:TypeId)(l:List Value):st P (oBox t (AG l)) w K=K (pt w.heap.size 0) (w.alloc (CB l t)):=zav (zbd (by simp[Instr.box,newVar,newRow,AG,Value.cells]))
@[go_sem]theorem oneC_bool(b:Bool):(Value.bool b).oneCell'=true:=rfl
@[go_sem]theorem oneC_int(k:IntKind)(n:Int):(Value.int k n).oneCell'=true:=rfl
@[go_sem]theorem oneC_string(s:ByteArray):(Value.string s).oneCell'=true:=rfl
@[go_sem]theorem ztY(a:Option Addr):(Value.pointer a).oneCell'=true:=rfl
@[go_sem]theorem oneC_slice(a:Option Addr)(n c:Nat):(Value.slice a n c).oneCell'=true:=rfl
@[go_sem]theorem oneC_map(a:Option Nat):(Value.map a).oneCell'=true:=rfl
@[go_sem]theorem oneC_iface(t:TypeId)(v:Value):(Value.iface t v).oneCell'=true:=rfl
@[go_sem]theorem zsV:Value.nilIface.oneCell'=true:=rfl
@[go_sem]theorem ztZ:Value.nilFunc.oneCell'=true:=rfl
@[go_sem]theorem oneC_func(f:Fn)(a b:Array Value):(Value.func f a b).oneCell'=true:=rfl
@[go_sem]theorem oneC_agg(a:Array Value):(Value.agg a).oneCell'=false:=rfl
@[go_sem]theorem oneCell_S(l:List UInt8):(S l).oneCell'=true:=rfl
def zdk(v:Value):List Value:=v.cells.toList
@[go_sem]theorem cellsL_AG(l:List Value):zdk (AG l)=l:=rfl
@[go_sem]theorem cellsL_int(k:IntKind)(n:Int):zdk (.int k n)=[.int k n]:=rfl
@[go_sem]theorem cellsL_bool(b:Bool):zdk (.bool b)=[.bool b]:=rfl
@[go_sem]theorem cellsL_S(l:List UInt8):zdk (S l)=[S l]:=rfl
@[go_sem]theorem cellsL_ptr(a:Option Addr):zdk (.pointer a)=[.pointer a]:=rfl
@[go_sem]theorem ztU(a:Option Addr)(n m:Nat):zdk (.slice a n m)=[.slice a n m]:=rfl
@[go_sem]theorem cellsL_map(r:Option Nat):zdk (.map r)=[.map r]:=rfl
@[go_sem]theorem ztP(t:TypeId)(v:Value):zdk (.iface t v)=[.iface t v]:=rfl
@[go_sem]theorem zrg:zdk .nilIface=[.nilIface]:=rfl
@[go_sem]theorem zsE:zdk .nilFunc=[.nilFunc]:=rfl
@[go_sem]theorem cellsL_func(f:Fn)(a b:Array Value):zdk (.func f a b)=[.func f a b]:=rfl
def zlb(pl:List (Nat×Nat)):List Value->List (Nat×Value)->Option (List Value)
 |cs,[]=>some cs
 |cs,(i,v)::r=>
  match pl[i]? with
  |none=>none
  |some (off,n)=>if(zdk v).length=n/\off+n<=cs.length then zlb pl (cs.take off++zdk v++cs.drop (off+n)) r else none
@[go_sem]theorem fillL_nil(pl:List (Nat×Nat))(cs:List Value):zlb pl cs []=some cs:=rfl
@[go_sem]theorem fillL_cons(pl:List (Nat×Nat))(cs:List Value)(i:Nat)(v:Value)(r:List (Nat×Value)):
  zlb pl cs ((i,v)::r)=(pl[i]?).bind λq=>(putL cs q.1 q.2 (zdk v)).bind λcs=>zlb pl cs r:=by
 simp only[zlb];cases pl[i]? with
 |none=>rfl
 |some q=>
  obtain⟨off,n⟩:=q;simp only[Option.bind_some,zo6];by_cases h:(zdk v).length=n/\off+n<=cs.length
  ·rw[if_pos h,if_pos ⟨h.2,h.1⟩];rfl
  ·rw[if_neg h,if_neg (by omega)];rfl
theorem zlO(off:Nat):∀(vs:List Value)(j:Nat)(cs:Array Value),off+j+vs.length<=cs.size->
  ((vs.zipIdx j).foldl (λcs(x:Value×Nat)=>cs.setIfInBounds (off+x.2) x.1) cs).toList=cs.toList.take (off+j)++vs++cs.toList.drop (off+j+vs.length)
 |[],j,cs,_=>by simp
 |v::vs,j,cs,h=>by
  simp only[List.length_cons]at h;simp only[List.zipIdx_cons,List.foldl_cons];rw[zlO off vs (j+1) _ (by simp;omega)];have ho:off+j<cs.toList.length:=by simp;omega
  simp only[Array.toList_setIfInBounds];have e1:(cs.toList.set (off+j) v).take (off+(j+1))=cs.toList.take (off+j)++[v]:=by
   apply List.ext_getElem (by simp;omega);intro i h1 h2;simp only[List.getElem_take,List.getElem_set,List.getElem_append,List.length_take,List.getElem_singleton];have hi:i<off+j+1:=by simp at h1;omega
   by_cases e1:off+j=i
   ·subst e1;simp;intro h;omega
   ·have:i<min (off+j) cs.toList.length:=by omega
    simp at this;simp[e1,this]
  have e2:(cs.toList.set (off+j) v).drop (off+(j+1)+vs.length)=cs.toList.drop (off+j+(v::vs).length):=by apply List.ext_getElem?;intro i;simp only[List.getElem?_drop,List.length_cons];rw[List.getElem?_set_ne (by omega)];congr 1;omega
  rw[e1,e2];simp
theorem zq5(pl:List (Nat×Nat)):∀(ps:List (Nat×Value))(cs:List Value)(out:List Value),zlb pl cs ps=some out->Instr.fill (λi=>pl[i]?) cs.toArray ps=some out.toArray
 |[],cs,out,h=>by simp only[zlb,Option.some.injEq]at h;subst h;rfl
 |(i,v)::r,cs,out,h=>by
  simp only[zlb]at h;simp only[Instr.fill];cases hp:pl[i]? with
  |none=>rw[hp]at h;cases h
  |some q=>
   obtain⟨off,n⟩:=q;rw[hp]at h;simp only at h;by_cases hc:(zdk v).length=n/\off+n<=cs.length
   ·rw[if_pos hc]at h;obtain⟨h1,h2⟩:=hc;have h3:v.cells.size=n:=by rw[<-h1];simp[zdk]
    have h4:(decide (v.cells.size≠n)||decide (off+v.cells.size>cs.toArray.size))=false:=by simp[h3];omega
    simp only[h4,Bool.false_eq_true,if_false];have e:(v.cells.zipIdx.foldl (λcs(x:Value×Nat)=>cs.setIfInBounds (off+x.2) x.1) cs.toArray)=(cs.take off++zdk v++cs.drop (off+n)).toArray:=by apply Array.toList_inj.1;have:=zlO off (zdk v) 0 cs.toArray (by simp;omega);rw[<-Array.foldl_toList];simp only[Array.toList_zipIdx];rw[show v.cells.toList.zipIdx 0=(zdk v).zipIdx 0 from rfl,this];simp[h1]
    rw[e];exact zq5 pl r _ out h
   ·rw[if_neg hc]at h;cases h
theorem zq6(K:Value->Prop){t:TypeId}{fields:Array Field}{z:Value}{zs:List Value}{pl:List (Nat×Nat)}{ps:Array (Nat×Value)}(h:P.underlying t=some (.struct fields))(hz:rp P (zeroValue t)=some z)(hc:z.cells=zs.toArray)
  (hp:rp P (fields.mapM λf=>do pure (f.offset,<-sizeOf f.type))=some pl.toArray):
  pu P (zaw t ps) K=optE (zlb pl zs ps.toList) (λl=>K (AG l)) (farP P (zaw t ps) K):=by
 cases hv:zlb pl zs ps.toList with
 |none=>rfl
 |some l=>
  have hf:=zq5 pl ps.toList zs l hv;refine zca ?_;unfold Instr.build;simp only[zau,hz,Option.bind_some,zak h,hp,hc];have e:(λi:Nat=>pl.toArray[i]?)=λi:Nat=>pl[i]?:=by funext i;simp
  simp only[e,hf];rfl
theorem ztX{t:TypeId}{d:Nat}{a b:Bool}(h:P.underlying t=some .bool):rp P (Op.equalIn (d+1) t (.bool a) (.bool b))=some (decide (a=b)):=by simp[Op.equalIn,zau,zak h];cases a<;>cases b<;>rfl
end
end Go.X
end
section
namespace Go.Proofs.YtdljebgllipdjaaGreatDoor.X
open Go Go.X Go.Proofs
section
variable{t:TypeId}{d:TypeDesc}{n:Nat}
abbrev Ld1(t:TypeId):Prop:=∀(K:Value->World->Prop)(w:World)(b o:Nat)(h:(za1 (bk w b) o).isSome=true),st P (zab t (pt b o)) w K=K ((za1 (bk w b) o).getD undef) w
theorem ld1(h:P.underlying t=some d)(hd:d.isRow=false:=by rfl):Ld1 t:=λK w b o q=>(oLoad1 K w h hd b o).trans (zcY undef q)
abbrev Rd1(t:TypeId):Prop:=∀(K:Value->Prop)(w:World)(b o:Nat)(h:(za1 (bk w b) o).isSome=true),rd P (zab t (pt b o)) w K=K ((za1 (bk w b) o).getD undef)
theorem rd1(h:P.underlying t=some d)(hd:d.isRow=false:=by rfl):Rd1 t:=λK w b o q=>(rLoad1 w K h hd b o).trans (zcY undef q)
abbrev Hd1(t:TypeId):Prop:=∀(v':Value)(w:World)(b o:Nat)(h:(za1 (bk w b) o).isSome=true),hold P (zab t (pt b o)) v' w=((za1 (bk w b) o).getD undef=v')
theorem hd1(h:P.underlying t=some d)(hd:d.isRow=false:=by rfl):Hd1 t:=λK w b o q=>(hLoad1 w K h hd b o).trans (zcY undef q)
abbrev LdN(t:TypeId)(n:Nat):Prop:=∀(K:Value->World->Prop)(w:World)(b o:Nat)(h:(zaY (bk w b) o n).isSome=true),st P (zab t (pt b o)) w K=K (AG ((zaY (bk w b) o n).getD [])) w
theorem ldN(h:P.underlying t=some d)(hd:d.isRow=true:=by rfl)(hn:(P.info? t).map (·.size)=some n:=by kernel_rfl):LdN t n:=λK w b o q=>(oLoadN K w h hd hn b o).trans (zcY [] q)
abbrev RdN(t:TypeId)(n:Nat):Prop:=∀(K:Value->Prop)(w:World)(b o:Nat)(h:(zaY (bk w b) o n).isSome=true),rd P (zab t (pt b o)) w K=K (AG ((zaY (bk w b) o n).getD []))
theorem rdN(h:P.underlying t=some d)(hd:d.isRow=true:=by rfl)(hn:(P.info? t).map (·.size)=some n:=by kernel_rfl):RdN t n:=λK w b o q=>(rLoadN w K h hd hn b o).trans (zcY [] q)
abbrev HdN(t:TypeId)(n:Nat):Prop:=∀(v':Value)(w:World)(b o:Nat)(h:(zaY (bk w b) o n).isSome=true),hold P (zab t (pt b o)) v' w=(AG ((zaY (bk w b) o n).getD [])=v')
theorem hdN(h:P.underlying t=some d)(hd:d.isRow=true:=by rfl)(hn:(P.info? t).map (·.size)=some n:=by kernel_rfl):HdN t n:=λK w b o q=>(hLoadN w K h hd hn b o).trans (zcY [] q)
abbrev RsN(t:TypeId)(n:Nat):Prop:=∀(K:Value->Prop)(w:World)(b o:Nat)(h:(zaY (bk w b) o n).isSome=true),rsl P t (pt b o) w K=K (AG ((zaY (bk w b) o n).getD []))
theorem rsN(h:P.underlying t=some d)(hd:d.isRow=true:=by rfl)(hn:(P.info? t).map (·.size)=some n:=by kernel_rfl):RsN t n:=λK w b o q=>(rslN w K h hd hn b o).trans (zcY [] q)
abbrev St1(t:TypeId):Prop:=∀(K:Value->World->Prop)(w:World)(b o:Nat)(x:Value)(h:(zn5 (bk w b) o x).isSome=true),st P (zai t (pt b o) x) w K=K undef (setb w b ((zn5 (bk w b) o x).getD noBk))
theorem st1(hn:(P.info? t).map (·.size)=some 1:=by kernel_rfl):St1 t:=λK w b o x q=>(oStore1 K w hn b o x).trans (zcY noBk q)
abbrev StN(t:TypeId)(n:Nat):Prop:=∀(K:Value->World->Prop)(w:World)(b o:Nat)(xs:List Value)(h:(zkW (bk w b) o n xs).isSome=true),st P (zai t (pt b o) (AG xs)) w K=K undef (setb w b ((zkW (bk w b) o n xs).getD noBk))
theorem stN(hn:(P.info? t).map (·.size)=some n:=by kernel_rfl):StN t n:=λK w b o x q=>(oStoreN K w hn b o x).trans (zcY noBk q)
abbrev Al(t:TypeId)(l:List Value):Prop:=∀(K:Value->World->Prop)(w:World),st P (zbw t) w K=K (pt w.heap.size 0) (w.alloc (CB l t))
theorem alN{l:List Value}(hz:∀w,(zeroValue t).run P w=.ok (AG l) w:=by intro _;kernel_rfl):Al t l:=λK w=>zrq K w hz rfl
abbrev Bd(t:TypeId)(pl:List (Nat×Nat))(zs:List Value):Prop:=∀(K:Value->Prop)(ps:Array (Nat×Value))(h:(zlb pl zs ps.toList).isSome=true),pu P (zaw t ps) K=K (AG ((zlb pl zs ps.toList).getD []))
theorem bdN{fields:Array Field}{pl:List (Nat×Nat)}{zs:List Value}(h:P.underlying t=some (.struct fields))(hz:rp P (zeroValue t)=some (AG zs):=by kernel_rfl)(hp:rp P (fields.mapM λf=>do pure (f.offset,<-sizeOf f.type))=some pl.toArray:=by kernel_rfl):Bd t pl zs:=λK ps q=>(zq6 K h hz rfl hp).trans (zcY [] q)
abbrev Bd0(t:TypeId)(zs:List Value):Prop:=∀K:Value->Prop,pu P (zaw t #[]) K=K (AG zs)
end
namespace M
theorem cE:Ld1 T.aC:=ld1 Tryz.underlying2
theorem cA:Rd1 T.aC:=rd1 Tryz.underlying2
theorem cB:Hd1 T.aC:=hd1 Tryz.underlying2
theorem cf:Ld1 T.int:=ld1 Tryz.underlying3
theorem cM:Rd1 T.int:=rd1 Tryz.underlying3
theorem cK:Hd1 T.int:=hd1 Tryz.underlying3
theorem cH:Ld1 T.bool:=ld1 Tryz.underlying4
theorem cJ:Rd1 T.bool:=rd1 Tryz.underlying4
theorem cI:Hd1 T.bool:=hd1 Tryz.underlying4
theorem ak:Ld1 T.string:=ld1 Tryz.underlying9
theorem cw:Rd1 T.string:=rd1 Tryz.underlying9
theorem cz:Hd1 T.string:=hd1 Tryz.underlying9
theorem co:Ld1 T.aR:=ld1 Tryz.underlying32
theorem ci:Rd1 T.aR:=rd1 Tryz.underlying32
theorem ck:Hd1 T.aR:=hd1 Tryz.underlying32
theorem bY:Ld1 T.ah:=ld1 Tryz.underlying34
theorem bZ:Rd1 T.ah:=rd1 Tryz.underlying34
theorem bV:Hd1 T.ah:=hd1 Tryz.underlying34
theorem bP:LdN T.ae 10:=ldN Tryz.underlying36
theorem bK:RdN T.ae 10:=rdN Tryz.underlying36
theorem bF:HdN T.ae 10:=hdN Tryz.underlying36
theorem bn:LdN T.ar 5:=ldN Tryz.underlying38
theorem bu:RsN T.ar 5:=rsN Tryz.underlying38
theorem bJ:Ld1 T.aj:=ld1 Tryz.underlying42
theorem bG:Rd1 T.aj:=rd1 Tryz.underlying42
theorem bE:Hd1 T.aj:=hd1 Tryz.underlying42
theorem aP:Rd1 T.aM:=rd1 Tryz.underlying47
theorem aI:Hd1 T.aM:=hd1 Tryz.underlying47
theorem aZ:LdN T.ab 6:=ldN Tryz.underlying49
theorem aU:RdN T.ab 6:=rdN Tryz.underlying49
theorem bi:HdN T.ab 6:=hdN Tryz.underlying49
theorem aY:RsN T.ab 6:=rsN Tryz.underlying49
theorem bw:LdN T.ay 5:=ldN Tryz.underlying63
theorem bH:RsN T.ay 5:=rsN Tryz.underlying63
theorem aG:LdN T.ag 5:=ldN Tryz.underlying77
theorem aH:RdN T.ag 5:=rdN Tryz.underlying77
theorem aN:HdN T.ag 5:=hdN Tryz.underlying77
theorem ao:Ld1 T.ap:=ld1 Tryz.underlying78
theorem aq:Rd1 T.ap:=rd1 Tryz.underlying78
theorem ap:Hd1 T.ap:=hd1 Tryz.underlying78
theorem aj:Ld1 T.aH:=ld1 Tryz.underlying79
theorem ai:Rd1 T.aH:=rd1 Tryz.underlying79
theorem aV:Ld1 T.aB:=ld1 Tryz.underlying116
theorem cF:Rd1 T.aB:=rd1 Tryz.underlying116
theorem ae:Ld1 T.aG:=ld1 Tryz.underlying124
theorem aW:Ld1 T.aN:=ld1 Tryz.underlying136
theorem ay:Ld1 T.af:=ld1 Tryz.underlying165
theorem aE:Rd1 T.af:=rd1 Tryz.underlying165
theorem aD:Hd1 T.af:=hd1 Tryz.underlying165
theorem ah:Ld1 T.ai:=ld1 Tryz.underlying213
theorem bo:Ld1 T.aS:=ld1 Tryz.underlying230
theorem bl:Rd1 T.aS:=rd1 Tryz.underlying230
theorem bU:LdN T.ao 5:=ldN Tryz.underlying234
theorem cC:St1 T.aC:=st1
theorem cL:St1 T.int:=st1
theorem cG:St1 T.bool:=st1
theorem cg:St1 T.string:=st1
theorem ct:St1 T.aR:=st1
theorem bX:St1 T.ah:=st1
theorem bM:StN T.ae 10:=stN
theorem bj:StN T.ar 5:=stN
theorem bv:St1 T.aj:=st1
theorem aS:St1 T.aM:=st1
theorem a7:StN T.ab 6:=stN
theorem bz:StN T.ay 5:=stN
theorem aJ:StN T.ag 5:=stN
theorem au:St1 T.ap:=st1
theorem aw:St1 T.aG:=st1
theorem bc:St1 T.aN:=st1
theorem aA:St1 T.af:=st1
theorem ag:St1 T.ai:=st1
theorem bL:Al T.ae [.int .i64 0,S [],S [],.int .i64 0,.int .i64 0,.int .i64 0,.slice none 0 0,.int .i64 0,.int .i64 0,.int .i64 0]:=alN
theorem bt:Al T.ar [S [],.int .i64 0,.bool false,.slice none 0 0,.int .i64 0]:=alN
theorem ab:Al T.ab [.int .i64 0,.int .i64 0,.int .i64 0,.slice none 0 0,.slice none 0 0,.slice none 0 0]:=alN
theorem af:Al T.ay [S [],.int .i64 0,.int .i64 0,.bool false,.int .i64 0]:=alN
theorem aQ:Al T.ag [.bool false,.int .i64 0,.slice none 0 0,.int .i64 0,S []]:=alN
theorem aR:Al T.aF [.pointer none]:=alN
theorem bO:Bd T.ae [(0,1),(1,1),(2,1),(3,1),(4,1),(5,1),(6,1),(7,1),(8,1),(9,1)] [.int .i64 0,S [],S [],.int .i64 0,.int .i64 0,.int .i64 0,.slice none 0 0,.int .i64 0,.int .i64 0,.int .i64 0]:=bdN Tryz.underlying36
theorem br:Bd T.ar [(0,1),(1,1),(2,1),(3,1),(4,1)] [S [],.int .i64 0,.bool false,.slice none 0 0,.int .i64 0]:=bdN Tryz.underlying38
theorem aX:Bd0 T.ar [S [],.int .i64 0,.bool false,.slice none 0 0,.int .i64 0]:=λK=>br K #[] rfl
theorem aT:Bd T.ab [(0,1),(1,1),(2,1),(3,1),(4,1),(5,1)] [.int .i64 0,.int .i64 0,.int .i64 0,.slice none 0 0,.slice none 0 0,.slice none 0 0]:=bdN Tryz.underlying49
theorem aL:Bd0 T.ab [.int .i64 0,.int .i64 0,.int .i64 0,.slice none 0 0,.slice none 0 0,.slice none 0 0]:=λK=>aT K #[] rfl
theorem bC:Bd T.ay [(0,1),(1,1),(2,1),(3,1),(4,1)] [S [],.int .i64 0,.int .i64 0,.bool false,.int .i64 0]:=bdN Tryz.underlying63
theorem aM:Bd T.ag [(0,1),(1,1),(2,1),(3,1),(4,1)] [.bool false,.int .i64 0,.slice none 0 0,.int .i64 0,S []]:=bdN Tryz.underlying77
theorem bQ:Bd T.aA [(0,1),(1,1),(2,1),(3,1)] [.slice none 0 0,.slice none 0 0,.slice none 0 0,.map none]:=bdN Tryz.underlying81
theorem aB:Bd T.am [(0,1),(1,1),(2,1),(3,1),(4,1)] [.int .i64 0,.int .i64 0,.int .i64 0,.bool false,.bool false]:=bdN Tryz.underlying173
theorem aO:Bd T.au [(0,1),(1,1),(2,1)] [S [],S [],.nilIface]:=bdN Tryz.underlying180
theorem aC:Bd T.aL [(0,1)] [.map none]:=bdN Tryz.underlying215
theorem ar:Bd0 T.aL [.map none]:=λK=>aC K #[] rfl
theorem aK:Bd T.aF [(0,1)] [.pointer none]:=bdN Tryz.underlying229
theorem aF:Bd T.ak [(0,1),(1,1),(2,1),(3,1),(4,1),(5,1),(6,1),(7,1)] [S [],.slice none 0 0,.map none,.bool false,.int .u32 0,.int .i64 0,.int .i64 0,.int .i64 0]:=bdN Tryz.underlying232
theorem bR:Bd T.ao [(0,1),(1,1),(2,1),(3,1),(4,1)] [.int .i64 0,.int .i64 0,.bool false,.bool false,.pointer none]:=bdN Tryz.underlying234
theorem am:Bd T.aI [(0,1)] [S []]:=bdN Tryz.underlying251
end M
attribute [go_sem] M.cE M.cA M.cB M.cf M.cM M.cK M.cH M.cJ M.cI M.ak M.cw M.cz M.co M.ci M.ck M.bY M.bZ M.bV M.bP M.bK M.bF M.bn M.bu M.bJ M.bG M.bE M.aP M.aI M.aZ M.aU M.bi M.aY M.bw M.bH M.aG M.aH M.aN M.ao M.aq M.ap M.aj M.ai M.aV M.cF M.ae M.aW M.ay M.aE M.aD M.ah M.bo M.bl M.bU M.cC M.cL M.cG M.cg M.ct M.bX M.bM M.bj M.bv M.aS M.a7 M.bz M.aJ M.au M.aw M.bc M.aA M.ag M.bL M.bt M.ab M.af M.aQ M.aR M.bO M.br M.aX M.aT M.aL M.bC M.aM M.bQ M.aB M.aO M.aC M.ar M.aK M.aF M.bR M.am
end Go.Proofs.YtdljebgllipdjaaGreatDoor.X
end
section
namespace Go.X
open Go
section
variable{P:Program}(K:Value->Prop)
theorem zpS(n:Nat){x:Int}(h0:0<=x)(h1:x<2^n):(BitVec.ofInt n x).toNat=x.toNat:=by
 obtain⟨a,rfl⟩:=Int.eq_ofNat_of_zero_le h0;rw[BitVec.ofInt_natCast,BitVec.toNat_ofNat];have:a<2^n:=by exact_mod_cast h1
 rw[Nat.mod_eq_of_lt this];rfl
theorem ztW(n:Nat)(h:n<2^32):IntKind.u32.wrap (n:Int)=n:=zaJ (by omega) (by omega)
@[go_sem]theorem zls(t:TypeId)(cx cy:Bool)(x y:Int)(h0:0<=x)(h1:x<=4294967295)(h2:0<=y)(h3:y<=4294967295):
  pu P (oBin .and t cx cy (.int .u32 x) (.int .u32 y)) K=K (.int .u32 ((x.toNat&&&y.toNat:Nat):Int)):=
 zcU K (by simp only[binOp,Op.intBits,BitVec.toNat_and];rw[if_neg (by simp),zhx];rw[zpS IntKind.u32.bits h0 (show x<2^32 by omega),zpS IntKind.u32.bits h2 (show y<2^32 by omega),ztW _ (Nat.and_lt_two_pow _ (by omega))])
@[go_sem]theorem zo7(t:TypeId)(cx cy:Bool)(x y:Int)(h0:0<=x)(h1:x<=4294967295)(h2:0<=y)(h3:y<=4294967295):
  pu P (oBin .or t cx cy (.int .u32 x) (.int .u32 y)) K=K (.int .u32 ((x.toNat|||y.toNat:Nat):Int)):=
 zcU K (by simp only[binOp,Op.intBits,BitVec.toNat_or];rw[if_neg (by simp),zhx];rw[zpS IntKind.u32.bits h0 (show x<2^32 by omega),zpS IntKind.u32.bits h2 (show y<2^32 by omega),ztW _ (Nat.or_lt_two_pow (by omega) (by omega))])
end
end Go.X
end
section
namespace Go.X
open Go Go.RowKit
theorem zag{B:Nat}{a w:World}(h:Below B a w){b:Nat}(hb:B<=b)(o:Obj):Below B a (setb w b o):=⟨h.os,h.tape,h.output,by rw[sZb];exact h.size,λk hk=>by have:bk (setb w b o) k=bk w k:=zao w b k o (by omega);exact this.trans (h.block k hk)⟩
theorem zax{B:Nat}{w w':World}(h:Below B w w'){b:Nat}(hb:b<B):bk w' b=bk w b:=h.block b hb
section
variable{P:Program}{p:Prop}[Decidable p](X Y:Prop)(w:World)(G:(Value->World->Prop)->Prop)(K:Value->World->Prop)(L:Value->Prop)(a b:Value)
@[go_sem high]theorem cd_t:cd (.bool true) X Y=X:=by rw[cd_eq];simp
@[go_sem high]theorem cd_f:cd (.bool false) X Y=Y:=by rw[cd_eq];simp
@[go_sem high]theorem gdt_t:gd (.bool true) true w G K=G K:=by rw[zrm];simp
@[go_sem high]theorem gdt_f:gd (.bool false) true w G K=K undef w:=by rw[zrm];simp
@[go_sem high]theorem gdf_t:gd (.bool true) false w G K=K undef w:=by rw[zpH];simp
@[go_sem high]theorem gdf_f:gd (.bool false) false w G K=G K:=by rw[zpH];simp
@[go_sem high]theorem pick_t:pu P (zaD (.bool true) a b) L=L a:=by rw[zpK];simp
@[go_sem high]theorem pick_f:pu P (zaD (.bool false) a b) L=L b:=by rw[zpK];simp
theorem oEqlB{t:TypeId}(h:P.underlying t=some .bool)(cx cy:Bool)(x y:Bool):pu P (oBin .eql t cx cy (.bool x) (.bool y)) L=L (.bool (x==y)):=zca (by rw[zau,zik];simp only[Option.bind_some];have e2:binOp .eql t (.bool x) (.bool y)=(do pure (.bool (<-Op.equal t (.bool x) (.bool y)))):=rfl;have e3:rp P (Op.equal t (.bool x) (.bool y))=some (decide (x=y)):=ztX h;rw[e2,zau,e3];cases x<;>cases y<;>rfl)
theorem zaN(h:p):(Value.bool (decide p))=.bool true:=by simp[h]
theorem zaL(h:¬p):(Value.bool (decide p))=.bool false:=by simp[h]
@[go_sem]theorem toL_nil:(#[]:Array (Nat×Value)).toList=[]:=rfl
@[go_sem]theorem toL_l(l:List (Nat×Value)):l.toArray.toList=l:=rfl
attribute [go_sem] Bool.not_false Bool.not_true Int.toNat_natCast
attribute [go_sem] zaN zaL zaJ zaM zaK w_u8 zaI
end
section
variable{P:Program}(K:Value->World->Prop)(w:World)
@[go_sem]theorem oExtract1_0(L:Value->Prop)(a:Value):pu P (zae (.tuple #[a]) 0) L=L a:=zhy rfl
def byt(b:UInt8):Value:=.int .u8 b.toNat
def rowB(w:World)(b o:Nat)(l:List UInt8):Prop:=zaY (bk w b) o l.length=some (l.map byt)
abbrev sl(b o n m:Nat):Value:=.slice (some ⟨b,o,none⟩) n m
theorem zsW{w w':World}{b o B:Nat}{l:List UInt8}(h:rowB w b o l)(hb:Below B w w')(hB:b<B):rowB w' b o l:=by unfold rowB at h⊢;rw[zax hb hB];exact h
theorem za7{ob:Option Obj}{o n:Nat}{l:List Value}(h:zaY ob o n=some l):∃c t fz,ob=some (.cells c t fz)/\o+n<=c.size/\(c.toList.drop o).take n=l:=by
 unfold zaY at h;split at h
 ·rename_i c t fz;by_cases hle:o+n<=c.size
  ·rw[if_pos hle]at h;exact⟨c,t,fz,rfl,hle,by injection h⟩
  ·rw[if_neg hle]at h;cases h
 ·cases h
theorem zoh{w:World}{b o:Nat}{l:List UInt8}(h:rowB w b o l){i:Nat}(hi:i<l.length):za1 (bk w b) (o+i)=some (byt l[i]):=by
 obtain⟨c,t,fz,h1,h2,h3⟩:=za7 h;rw[h1];show c[o+i]?=_;have e:((c.toList.drop o).take l.length)[i]?=(l.map byt)[i]?:=by rw[h3]
 rw[List.getElem?_take_of_lt hi,List.getElem?_drop]at e;simp only[Array.getElem?_toList]at e;rw[e];simp[hi]
theorem zmT:∀(l:List UInt8)(acc:List UInt8),(l.map λb=>(b.toNat:Int)).foldl (λr n=>ByteArray.push r (UInt8.ofNat n.toNat)) ⟨acc.toArray⟩=⟨(acc++l).toArray⟩
 |[],acc=>by simp
 |b::l,acc=>by
  simp only[List.map_cons,List.foldl_cons];have e:ByteArray.push ⟨acc.toArray⟩ (UInt8.ofNat (b.toNat:Int).toNat)=⟨(acc++[b]).toArray⟩:=by show ByteArray.mk _=_;simp
  rw[e,zmT l (acc++[b])];simp
theorem zq9{b o n m:Nat}{l:List UInt8}(h:rowB w b o l)(hn:n=l.length):(Conv.bytesToString (sl b o n m)).run P w=.ok (S l) w:=by
 subst hn;obtain⟨c,t,fz,h1,h2,h3⟩:=za7 h;have hl:(loadCells ⟨b,o,none⟩ l.length).run P w=.ok ((l.map λb=>(b.toNat:Int)).map (Value.int .u8)).toArray w:=by
  have:=run_firstCells_some (P:=P) w 1 l.length ⟨b,o,none⟩ l.length m (l.map byt) (by simp) (λj u hj=>by
   have hjl:j<l.length:=by have:=(List.getElem?_eq_some_iff.1 hj).1;simpa using this
   have hc:=zoh h hjl;rw[Addr.add_lit,cell?_eq,hc];simp[hjl]at hj;rw[<-hj])
  simp only[Builtin.firstCells,Nat.mul_one]at this;rw[this];simp[byt,Function.comp_def]
 rw[run_bytesToString w ⟨b,o,none⟩ l.length m _ hl];have:=zmT l [];simp only[List.nil_append]at this;rw[show ByteArray.empty=⟨([]:List UInt8).toArray⟩from rfl,this];rfl
theorem zqo{tS tB tE:TypeId}(h1:P.underlying tS=some .string)(h2:P.underlying tB=some (.slice tE))(h3:P.underlying tE=some (.int .u8)){b o n m:Nat}{l:List UInt8}(h:rowB w b o l)(hn:n=l.length):
  (convert tB tS (sl b o n m)).run P w=.ok (S l) w:=by
 have:=zq9 (P:=P) w (m:=m) h hn;simp only[convert,Sem.run_bind,run_underlying h1,run_underlying h2,Result.andThen_ok,run_underlying h3,this]
theorem zeX{e:TypeId}{n:Nat}(h:(P.info? e).map (·.size)=some n):rp P (sizeOf e)=some n:=by
 cases hi:P.info? e with
 |none=>rw[hi]at h;cases h
 |some i=>rw[hi]at h;injection h with h;simp[sizeOf,typeInfo,zau,hi,h]
theorem zlQ(L:Value->Prop){tB tE:TypeId}{size:Nat}(h2:P.underlying tB=some (.slice tE))(hs:(P.info? tE).map (·.size)=some size){b o n m:Nat}{k j:IntKind}{lo hi:Int}(a0:0<=lo)(a1:lo<=hi)(a2:hi<=m):
  pu P (zaE tB (sl b o n m) (some (.int k lo)) (some (.int j hi)) none) L=L (sl b (if m=lo.toNat then o else o+lo.toNat*size) (hi.toNat - lo.toNat) (m - lo.toNat)):=
 zca (by
  have h4:0<=hi:=by omega
  simp only[Instr.sliceAt,Instr.slice,Instr.sliceBounds];simp[zau,zak h2,zaB j hi m _ h4 a2,zaB k lo hi.toNat _ a0 (by omega),zeX hs,zci];split<;>simp[Addr.add_lit,zci,zeX hs])
theorem zgg(L:Value->Prop){tB tE:TypeId}{size:Nat}(h2:P.underlying tB=some (.slice tE))(hs:(P.info? tE).map (·.size)=some size){b o n m:Nat}{k:IntKind}{i:Int}(a0:0<=i)(a1:i<n):
  pu P (zaO tB (sl b o n m) (.int k i)) L=L (pt b (o+i.toNat*size)):=
 zca (by simp only[Instr.indexAt];simp[zau,zak h2,asIntOf,a0,a1,zeX hs,Addr.add_lit,zci])
theorem zbc{tB tE:TypeId}{z:Value}(h2:P.underlying tB=some (.slice tE))(hi:(P.info? tE).map (λi=>(i.zero,i.size))=some (some z,1)){x:Value}(hx:x.oneCell'=true):
  st P (zam tB 1 #[(0,x)]) w K=K (sl w.heap.size 0 1 1) (w.alloc (CB [x] tE)):=by
 cases hie:P.info? tE with
 |none=>rw[hie]at hi;cases hi
 |some ie=>
 rw[hie]at hi;simp only[Option.map_some,Option.some.injEq,Prod.mk.injEq]at hi;obtain⟨hz,hs⟩:=hi;exact zav (zbd (run_buildSlice w tB tE 1 _ #[x] ie z h2 hie hz (by simp[hs]) (by simp[hs]) (by
  have hcells:x.cells=#[x]:=by cases x<;>first|rfl|(simp[Value.oneCell']at hx)
  have hr:Array.range 1=#[0]:=rfl;simp[hs,Instr.fill,hcells,hr])))
def BS(w:World)(v:Value)(l:List UInt8):Prop:=(l=[]/\∃a cap,v=.slice a 0 cap)\/∃b o cap,v=sl b o l.length cap/\l.length<=cap/\rowB w b o l/\b<w.heap.size
theorem zcs{w w':World}{v:Value}{l:List UInt8}{B:Nat}(h:BS w v l)(hb:Below B w w')(hB:w.heap.size<=B):BS w' v l:=by
 rcases h with h|⟨b,o,cap,h1,h2,h3,h4⟩
 ·exact .inl h
 ·exact .inr ⟨b,o,cap,h1,h2,zsW h3 hb (by omega),Nat.lt_of_lt_of_le h4 hb.size⟩
theorem zay{w:World}{v:Value}{l:List UInt8}(h:BS w v l):∃a cap,v=.slice a l.length cap:=by
 rcases h with⟨rfl,a,cap,h⟩|⟨b,o,cap,h1,_⟩
 ·exact⟨a,cap,h⟩
 ·exact⟨_,cap,h1⟩
theorem zbJ{tB tE:TypeId}{n:Nat}(h2:P.underlying tB=some (.slice tE))(hi:(P.info? tE).map (·.size)=some n):
  st P (zam tB 0 #[]) w K=K (sl w.heap.size 0 0 0) (w.alloc (CB [] tE)):=by
 cases hie:P.info? tE with
 |none=>rw[hie]at hi;cases hi
 |some ie=>
 exact zav (zbd (by have hr:Array.range 0=#[]:=rfl;simp[Instr.buildSlice,run_underlying h2,sizeOf,typeInfo,hie,Instr.fill,newRow,hr]))
theorem zj7(L:Value->Prop){tB tE:TypeId}{size:Nat}(h2:P.underlying tB=some (.slice tE))(hs:(P.info? tE).map (·.size)=some size){b o n m:Nat}{k:IntKind}{lo:Int}(a0:0<=lo)(a1:lo<=n)(a2:n<=m):
  pu P (zaE tB (sl b o n m) (some (.int k lo)) none none) L=L (sl b (if m=lo.toNat then o else o+lo.toNat*size) (n - lo.toNat) (m - lo.toNat)):=
 zca (by simp only[Instr.sliceAt,Instr.slice,Instr.sliceBounds];simp[zau,zak h2,zaB k lo n _ a0 a1,zeX hs,zci];split<;>simp[Addr.add_lit,zci,zeX hs])
theorem zeK(L:Value->Prop){tB tE:TypeId}{size:Nat}(h2:P.underlying tB=some (.slice tE))(hs:(P.info? tE).map (·.size)=some size){b o n m:Nat}{j:IntKind}{hi:Int}(a1:0<=hi)(a2:hi<=m):
  pu P (zaE tB (sl b o n m) none (some (.int j hi)) none) L=L (sl b o hi.toNat m):=
 zca (by simp only[Instr.sliceAt,Instr.slice,Instr.sliceBounds];simp[zau,zak h2,zaB j hi m _ a1 a2,zeX hs,zci];intro h;simp[Addr.add_lit])
theorem oCopy{tB tE:TypeId}{cs:Array Bool}{ty:TypeId}(h2:P.underlying tB=some (.slice tE))(hs:(P.info? tE).map (·.size)=some 1){b o m b' o' m' n n':Nat}{l0:List Value}{t:TypeId}{l:List UInt8}(hb:bk w b=some (CB l0 t))(hn:n'=l.length)(hle:l.length<=n)(ho:o+l.length<=l0.length)(r:rowB w b' o' l):
  st P (zac .copy #[tB,tB] ty cs #[sl b o n m,sl b' o' n' m']) w K=K (.int .i64 l.length) (setb w b (CB (l0.take o++l.map byt++l0.drop (o+l.length)) t)):=by
 subst hn;refine zav (zbd ?_);have hmin:Nat.min l.length n=l.length:=Nat.min_eq_left hle;have hf:(Builtin.firstCells 1 l.length (sl b' o' l.length m')).run P w=.ok (l.map byt).toArray w:=
  run_firstCells_some w 1 l.length ⟨b',o',none⟩ l.length m' (l.map byt) (by simp) (λj u hj=>by
   have hjl:j<l.length:=by have:=(List.getElem?_eq_some_iff.1 hj).1;simpa using this
   have hc:=zoh r hjl;rw[Addr.add_lit,cell?_eq,hc];simp[hjl]at hj;rw[<-hj])
 have hst:=run_storeCells_cells (P:=P) b o (l.map byt) 0 w (λj hj=>by
   rw[cell?_eq,hb];show(l0.toArray[o+0+j]?).isSome=true;simp at hj;simp;omega) (λj hj=>by
   rw[frozen?_eq,hb];show(decide (0<=o+0+j)&&decide (o+0+j<0))=false;simp) (λu hu=>by
   obtain⟨b,_,rfl⟩:=List.mem_map.1 hu;rfl)
 cases hie:P.info? tE with
 |none=>rw[hie]at hs;cases hs
 |some ie=>
 rw[hie]at hs;simp only[Option.map_some,Option.some.injEq]at hs;simp only[Nat.add_zero]at hst;have hset:=zfB b (e:=t) (fz:=(0,0)) (l.map byt) o w l0 hb (by simpa using ho);simp only[List.length_map]at hset;simp[Builtin.copy_,run_underlying h2,sizeOf,typeInfo,hie,hs,Builtin.lenOf,hmin,hf,hst,hset,goInt]
end
end Go.X
end
section
namespace Go.X
open Go Go.RowKit Go.WideShapes Go.Deep
end Go.X
end
section
namespace Go.X
open Go Go.RowKit
section
variable{P:Program}(K:Value->World->Prop)(w:World)
theorem zfC(w:World)(B:Nat)(e:TypeId)(size:Nat):w.ownsRow B e size (.slice none 0 0) 0 []:=⟨by simp,.inl ⟨rfl,rfl⟩⟩
theorem zbf{w w':World}{B C:Nat}{e:TypeId}{size:Nat}{v:Value}{n:Nat}{xs:List Value}(h:w.ownsRow B e size v n xs)(hb:Below C w w')(hC:w.heap.size<=C):w'.ownsRow B e size v n xs:=by
 refine⟨h.1,?_⟩;rcases h.2 with h|⟨g,cap,cur,h1,h2,h3,h4⟩
 ·exact .inl h
 ·refine .inr ⟨g,cap,cur,h1,h2,?_,h4⟩;have hg:g<w.heap.size:=(Array.getElem?_eq_some_iff.1 h3).1;rw[hb.block g (by omega)];exact h3
theorem zhz{w w':World}{B:Nat}{e:TypeId}{size:Nat}{v:Value}{n:Nat}{xs:List Value}(h:w.ownsRow B e size v n xs)(hg:w.grownBy w' v.ownBlock)(hB:B<=w.heap.size):Below B w w':=(Below.refl B w).grown hg hB λk hk=>(h.lt k hk).1
theorem zan{w:World}{B:Nat}{e:TypeId}{size:Nat}{v:Value}{n:Nat}{xs:List Value}(h:w.ownsRow B e size v n xs):∃a cap,v=.slice a n cap:=by
 rcases h.2 with⟨rfl,rfl⟩|⟨g,cap,cur,rfl,_⟩
 ·exact⟨_,_,rfl⟩
 ·exact⟨_,_,rfl⟩
theorem zcV{w:World}{B:Nat}{e:TypeId}{size:Nat}{v:Value}{n:Nat}{xs:List Value}(h:w.ownsRow B e size v n xs)(hn:n≠0):∃b cap cur,v=sl b 0 n cap/\n<=cap/\B<=b/\b<w.heap.size/\bk w b=some (CB cur e)/\cur.length=cap*size/\cur.take (n*size)=xs:=by
 rcases h.2 with⟨_,h0⟩|⟨g,cap,cur,rfl,h1,h2,h3,h4,h5,h6⟩
 ·exact absurd h0 hn
 ·exact⟨g,cap,cur.toList,rfl,h3,h1,(Array.getElem?_eq_some_iff.1 h2).1,by unfold bk;rw[h2],by simpa using h5,h6⟩
theorem zo5{t e:TypeId}{z:Value}{size bytes:Nat}{cs:Array Bool}{ty:TypeId}(ht:P.underlying t=some (.slice e))(hi:(P.info? e).map (λi=>(i.zero,i.size,i.bytes))=some (some z,size,bytes))(hzs:z.cells.size=size)(hsz:0<size)
  {B:Nat} {v:Value} {n:Nat} {xs:List Value} (hown:w.ownsRow B e size v n xs) {b o m c:Nat} {news:List Value} (hl:news.length=m*size) (r:zaY (bk w b) o news.length=some news) (h1:∀u∈news,u.oneCell'=true)
  (h63:n+m<=maxLen) (hbytes:(n+m)*bytes<=140737488355328) (hbase:B<=w.heap.size)
  (h:∀v' w',w'.ownsRow B e size v' (n+m) (xs++news)->Below B w w'->K v' w'):st P (zac .append #[t,t] ty cs #[v,sl b o m c]) w K:=by
 cases hie:P.info? e with
 |none=>rw[hie]at hi;cases hi
 |some i=>
 rw[hie]at hi;simp only[Option.map_some,Option.some.injEq,Prod.mk.injEq]at hi;obtain⟨hz,hs,hb⟩:=hi;obtain⟨c',t',fz,e1,e2,e3⟩:=za7 r;have hnews:∀j u,news[j]?=some u->w.cell? ((⟨b,o,none⟩:Addr).add j)=some u:=λj u hj=>by have hjl:=(List.getElem?_eq_some_iff.1 hj).1;rw[Addr.add_lit,cell?_eq,e1];show c'[o+j]?=_;rw[<-e3,List.getElem?_take_of_lt hjl,List.getElem?_drop,Array.getElem?_toList]at hj;exact hj
 obtain⟨v',w',hr,hown',hg,_⟩:=run_append_own (P:=P) w B t ty e i z size bytes ht hie hz hs hb hzs hsz v n xs hown ⟨b,o,none⟩ m c news hl hnews h1 h63 hbytes hbase;have:=zav (K:=K) (zbd hr);rw[show st P (zac .append #[t,t] ty cs #[v,sl b o m c]) w K=K v' w' from this];exact h _ _ hown' (zhz hown hg hbase)
theorem zbg{tB tE:TypeId}{z:Value}{size:Nat}(h2:P.underlying tB=some (.slice tE))(hi:(P.info? tE).map (λi=>(i.zero,i.size))=some (some z,size))(h0:0<size)(h24:size<=16777216){l:List Value}(hl:l.length=size):
  st P (zam tB 1 #[(0,AG l)]) w K=K (sl w.heap.size 0 1 1) (w.alloc (CB l tE)):=by
 cases hie:P.info? tE with
 |none=>rw[hie]at hi;cases hi
 |some ie=>
 rw[hie]at hi;simp only[Option.map_some,Option.some.injEq,Prod.mk.injEq]at hi;obtain⟨hz,hs⟩:=hi;refine zav (zbd (run_buildSlice w tB tE 1 _ l.toArray ie z h2 hie hz (by rw[hs];omega) (by rw[hs];omega) ?_));rw[hs];have hsz:(Array.map (λx=>z.cells[x%z.cells.size]!) (Array.range (1*size))).size=size:=by simp
 generalize Array.map (λx=>z.cells[x%z.cells.size]!) (Array.range (1*size))=zs at hsz⊢;have hc:(AG l).cells=l.toArray:=rfl;have hok:(decide (l.toArray.size≠size)||decide (0*size+l.toArray.size>zs.size))=false:=by simp[hl,hsz]
 simp only[Instr.fill,hc,hok,Bool.false_eq_true,if_false];have e:(l.toArray.zipIdx.foldl (λcs(x:Value×Nat)=>cs.setIfInBounds (0*size+x.2) x.1) zs)=l.toArray:=by
  apply Array.toList_inj.1;have:=zlO (0*size) l 0 zs (by simp[hl,hsz]);rw[<-Array.foldl_toList];simp only[Array.toList_zipIdx];rw[this];have hz0:zs.toList.length=size:=by simpa using hsz
  simp[List.drop_eq_nil_of_le,hl,hz0]
 exact congrArg some e
end
section
variable{P:Program}{K:Value->Prop}{L:Value->World->Prop}
@[go_sem high]theorem gd_undef(want:Bool)(w:World)(X:(Value->World->Prop)->Prop)(K:Value->World->Prop):gd undef want w X K=K undef w:=propext ⟨λx=>x.h,λx=>⟨x⟩⟩
structure ErrT(P:Program)(ti tp te:TypeId):Prop where
 hi:∃ms,P.underlying ti=some (.interface ms)
 hp:P.underlying tp=some (.pointer te)
 hc:(P.info? tp).map (·.comparable)=some true
 hs:(P.info? te).map (λj=>j.size !=0)=some true
theorem zjG{t:TypeId}{ms:Array (String×TypeId)}(h:P.underlying t=some (.interface ms))(cx:Bool):pu P (oBin .eql t cx true .nilIface .nilIface) K=K (.bool true):=
 zca (by
  have e:rp P (eqGuard .eql t (fl cx) (fl true) .nilIface .nilIface)=some ():=by unfold eqGuard;cases cx<;>rfl
  rw[zau,e];show rp P (binOp .eql t .nilIface .nilIface)=_;have h2:∀d:Nat,rp P (Op.equalIn (d+1) t .nilIface .nilIface)=some true:=λd=>by simp[Op.equalIn,zau,zak h]
  simp only[binOp];simp[Op.equal,Op.maxDepth,h2 9999,zau,zci])
theorem zlu{t:TypeId}{ms:Array (String×TypeId)}(h:P.underlying t=some (.interface ms))(cx cy:Bool)(u:TypeId)(v:Value):pu P (oBin .eql t cx cy (.iface u v) .nilIface) K=K (.bool false):=
 zca (by
  have e:rp P (eqGuard .eql t (fl cx) (fl cy) (.iface u v) .nilIface)=some ():=by unfold eqGuard;rfl
  rw[zau,e];show rp P (binOp .eql t (.iface u v) .nilIface)=_;have h2:∀d:Nat,rp P (Op.equalIn (d+1) t (.iface u v) .nilIface)=some false:=λd=>by simp[Op.equalIn,zau,zak h]
  simp only[binOp];simp[Op.equal,Op.maxDepth,h2 9999,zau,zci])
theorem zdc{t:TypeId}{ms:Array (String×TypeId)}(h:P.underlying t=some (.interface ms))(cx:Bool):pu P (oBin .neq t cx true .nilIface .nilIface) K=K (.bool false):=
 zca (by
  have e:rp P (eqGuard .neq t (fl cx) (fl true) .nilIface .nilIface)=some ():=by unfold eqGuard;cases cx<;>rfl
  rw[zau,e];show rp P (binOp .neq t .nilIface .nilIface)=_;have h2:∀d:Nat,rp P (Op.equalIn (d+1) t .nilIface .nilIface)=some true:=λd=>by simp[Op.equalIn,zau,zak h]
  simp only[binOp];simp[Op.equal,Op.maxDepth,h2 9999,zau,zci])
theorem zje{t:TypeId}{ms:Array (String×TypeId)}(h:P.underlying t=some (.interface ms))(cx cy:Bool)(u:TypeId)(v:Value):pu P (oBin .neq t cx cy (.iface u v) .nilIface) K=K (.bool true):=
 zca (by
  have e:rp P (eqGuard .neq t (fl cx) (fl cy) (.iface u v) .nilIface)=some ():=by unfold eqGuard;rfl
  rw[zau,e];show rp P (binOp .neq t (.iface u v) .nilIface)=_;have h2:∀d:Nat,rp P (Op.equalIn (d+1) t (.iface u v) .nilIface)=some false:=λd=>by simp[Op.equalIn,zau,zak h]
  simp only[binOp];simp[Op.equal,Op.maxDepth,h2 9999,zau,zci])
theorem zmW{t ta te:TypeId}(h:P.underlying ta=some (.pointer te))(hz:(P.info? ta).map (·.zero)=some (some (.pointer none))):pu P (zgS .nilIface t ta true) K=K (tup [.pointer none,.bool false]):=
 zca (by
  cases hi:P.info? ta with
  |none=>rw[hi]at hz;cases hz
  |some i=>rw[hi]at hz;simp only[Option.map_some,Option.some.injEq]at hz;simp[Instr.typeAssert,zau,zak h,zeroValue,typeInfo,hi,hz,zci,tup])
theorem zjK{t ta te:TypeId}(h:P.underlying ta=some (.pointer te))(v:Value):pu P (zgS (.iface ta v) t ta true) K=K (tup [v,.bool true]):=zca (by simp[Instr.typeAssert,zau,zak h,tup])
theorem zn8{t ta te tb:TypeId}(h:P.underlying ta=some (.pointer te))(hz:(P.info? ta).map (·.zero)=some (some (.pointer none)))(hne:tb≠ta)(v:Value):pu P (zgS (.iface tb v) t ta true) K=K (tup [.pointer none,.bool false]):=
 zca (by
  cases hi:P.info? ta with
  |none=>rw[hi]at hz;cases hz
  |some i=>rw[hi]at hz;simp only[Option.map_some,Option.some.injEq]at hz;simp[Instr.typeAssert,zau,zak h,zeroValue,typeInfo,hi,hz,zci,tup,hne])
theorem zpP{ti tp te:TypeId}(T:ErrT P ti tp te)(cx cy:Bool){w:World}{b o b' o':Nat}{l l':List Value}{t t':TypeId}(h1:bk w b=some (CB l t))(h2:bk w b'=some (CB l' t')):
  st P (oBin .eql ti cx cy (.iface tp (pt b o)) (.iface tp (pt b' o'))) w L=L (.bool (decide (b=b'/\o=o'))) w:=by
 obtain⟨⟨ms,hi⟩,hp,hc,hs⟩:=T;cases e1:P.info? tp with
 |none=>rw[e1]at hc;cases hc
 |some i=>
 cases e2:P.info? te with
 |none=>rw[e2]at hs;cases hs
 |some j=>
 rw[e1]at hc;rw[e2]at hs;simp only[Option.map_some,Option.some.injEq,bne_iff_ne]at hc hs;refine zav (zbd ?_);have g:(eqGuard .eql ti (fl cx) (fl cy) (.iface tp (pt b o)) (.iface tp (pt b' o'))).run P w=.ok () w:=by unfold eqGuard;rfl
 show(eqGuard .eql ti (fl cx) (fl cy) (.iface tp (pt b o)) (.iface tp (pt b' o'))>>=λ_=>binOp .eql ti (.iface tp (pt b o)) (.iface tp (pt b' o'))).run P w=_;rw[Sem.run_bind,g];show(binOp .eql ti (.iface tp (pt b o)) (.iface tp (pt b' o'))).run P w=_;by_cases q:b=b'/\o=o'
 ·obtain⟨rfl,rfl⟩:=q;rw[decide_eq_true ⟨rfl,rfl⟩];exact run_eql_iface_ptr_same w ⟨b,o,none⟩ hi hp e1 hc e2
 ·rw[decide_eq_false q];refine run_eql_iface_ptr_other w hi hp e1 hc e2 hs ?_ h1 h2;intro e;injection e with e3 e4;exact q ⟨e3,e4⟩
end
section
variable{P:Program}{L:Value->World->Prop}{w:World}
theorem oMkB{tB tE:TypeId}(h2:P.underlying tB=some (.slice tE))(hi:(P.info? tE).map (λi=>(i.zero,i.size,i.bytes))=some (some (.int .u8 0),1,1))(n:Nat)(hn:n<=281474976710656):
  st P (zdx tB (.int .i64 n) (.int .i64 n)) w L=L (sl w.heap.size 0 n n) (w.alloc (CB (List.replicate n (.int .u8 0)) tE)):=by
 have h:=run_make_row' (P:=P) tB tE (.int .u8 0) 1 h2 hi rfl .i64 .i64 n (by omega) (by omega) w;have e:madeCells #[Value.int .u8 0] n=(List.replicate n (Value.int .u8 0)).toArray:=by
  apply Array.toList_inj.1;apply List.ext_getElem
  ·simp[madeCells]
  ·intro i h1 h2;simp[madeCells,Nat.mod_one]
 rw[e]at h;exact zav (zbd h)
theorem zrv{tx te:TypeId}{b o m c:Nat}{news:List Value}(hk:P.underlying tx=some (.slice te))(r:zaY (bk w b) o news.length=some news)(hm:m=news.length)(h1:∀u∈news,u.oneCell'=true):Src P 1 tx (sl b o m c) m news w:=by subst hm;obtain⟨c',t',fz,e1,e2,e3⟩:=za7 r;refine Src.ofSlice w hk ⟨b,o,none⟩ news.length c news (by simp) (λj u hj=>?_) h1;have hjl:=(List.getElem?_eq_some_iff.1 hj).1;rw[Addr.add_lit,cell?_eq,e1];show c'[o+j]?=_;rw[<-e3,List.getElem?_take_of_lt hjl,List.getElem?_drop,Array.getElem?_toList]at hj;exact hj
theorem zkU{tB tx tE ty:TypeId}{cs:Array Bool}(h2:P.underlying tB=some (.slice tE))(hi:(P.info? tE).map (·.size)=some 1){b o n cap m:Nat}{cur news:List Value}{x:Value}(hs:Src P 1 tx x m news w)(hb:bk w b=some (CB cur tE))(hroom:n+m<=cap)(hlen:o+n+m<=cur.length):
  st P (zac .append #[tB,tx] ty cs #[sl b o n cap,x]) w L=L (sl b o (n+m) cap) (setb w b (CB (cur.take (o+n)++news++cur.drop (o+n+m)) tE)):=by
 cases hie:P.info? tE with
 |none=>rw[hie]at hi;cases hi
 |some ie=>
 rw[hie]at hi;simp only[Option.map_some,Option.some.injEq]at hi;have hnl:news.length=m:=by have:=hs.newsLen;omega
 have hr:=run_append_room_src (P:=P) w tB tx ty tE ie h2 hie b o n cap x m news (by rw[hi];exact hs) hroom (λj hj=>by
  rw[cell?_eq,hb];show(cur.toArray[o+n*ie.size+j]?).isSome=true;rw[hi,Nat.mul_one];simp;omega) (λj hj=>by
  unfold World.frozen?;have h3:w.heap[b]?=some (CB cur tE):=hb;simp[h3])
 rw[hi,Nat.mul_one,zfB b news (o+n) w cur hb (by omega),hnl]at hr;exact zav (zbd hr)
theorem zim{tB tx tE ty:TypeId}{cs:Array Bool}(h2:P.underlying tB=some (.slice tE))(hi:(P.info? tE).map (·.size)=some 1){a:Option Addr}{n cap:Nat}{x:Value}(hs:Src P 1 tx x 0 [] w)(hle:n<=cap):
  st P (zac .append #[tB,tx] ty cs #[.slice a n cap,x]) w L=L (.slice a n cap) w:=by
 cases hie:P.info? tE with
 |none=>rw[hie]at hi;cases hi
 |some ie=>
 rw[hie]at hi;simp only[Option.map_some,Option.some.injEq]at hi;exact zav (zbd (run_append_nothing w tB tx ty tE ie h2 hie a n cap hle x (by rw[hi];exact hs)))
theorem zgT{t e:TypeId}{z:Value}{size bytes:Nat}{cs:Array Bool}{ty:TypeId}(ht:P.underlying t=some (.slice e))(hi:(P.info? e).map (λi=>(i.zero,i.size,i.bytes))=some (some z,size,bytes))(hzs:z.cells.size=size)(hsz:0<size)
  {B:Nat} {v:Value} {n:Nat} {xs:List Value} (hown:w.ownsRow B e size v n xs) {b o m c:Nat} {news:List Value} (hl:news.length=m*size) (r:zaY (bk w b) o news.length=some news) (h1:∀u∈news,u.oneCell'=true)
  (h63:n+m<=maxLen) (hbytes:(n+m)*bytes<=140737488355328) (hbase:B<=w.heap.size)
  (h:∀v' w',w'.ownsRow B e size v' (n+m) (xs++news)->w.grownBy w' v.ownBlock->(v'.ownBlock=v.ownBlock\/v'.ownBlock=some w.heap.size)->L v' w'):st P (zac .append #[t,t] ty cs #[v,sl b o m c]) w L:=by
 cases hie:P.info? e with
 |none=>rw[hie]at hi;cases hi
 |some i=>
 rw[hie]at hi;simp only[Option.map_some,Option.some.injEq,Prod.mk.injEq]at hi;obtain⟨hz,hs,hb⟩:=hi;obtain⟨c',t',fz,e1,e2,e3⟩:=za7 r;have hnews:∀j u,news[j]?=some u->w.cell? ((⟨b,o,none⟩:Addr).add j)=some u:=λj u hj=>by have hjl:=(List.getElem?_eq_some_iff.1 hj).1;rw[Addr.add_lit,cell?_eq,e1];show c'[o+j]?=_;rw[<-e3,List.getElem?_take_of_lt hjl,List.getElem?_drop,Array.getElem?_toList]at hj;exact hj
 obtain⟨v',w',hr,hown',hg,_,ha⟩:=run_append_own_at (P:=P) w B t ty e i z size bytes ht hie hz hs hb hzs hsz v n xs hown ⟨b,o,none⟩ m c news hl hnews h1 h63 hbytes hbase;have:=zav (K:=L) (zbd hr);rw[show st P (zac .append #[t,t] ty cs #[v,sl b o m c]) w L=L v' w' from this];exact h _ _ hown' hg ha
structure Kp(w w':World)(S:Nat->Prop):Prop where
 os:w'.os=w.os
 tape:w'.tape=w.tape
 output:w'.output=w.output
 size:w.heap.size<=w'.heap.size
 block:∀k,k<w.heap.size->¬S k->bk w' k=bk w k
theorem Kp.refl(w:World)(S:Nat->Prop):Kp w w S:=⟨rfl,rfl,rfl,Nat.le_refl _,λ_ _ _=>rfl⟩
theorem Kp.trans{a b c:World}{S T:Nat->Prop}(h:Kp a b S)(k:Kp b c T)(hT:∀x,x<a.heap.size->T x->S x):Kp a c S:=⟨k.os.trans h.os,k.tape.trans h.tape,k.output.trans h.output,Nat.le_trans h.size k.size,λx hx hs=>(k.block x (Nat.lt_of_lt_of_le hx h.size) λht=>hs (hT x hx ht)).trans (h.block x hx hs)⟩
theorem Kp.of_below{w w':World}(h:Below w.heap.size w w')(S:Nat->Prop):Kp w w' S:=⟨h.os,h.tape,h.output,h.size,λk hk _=>h.block k hk⟩
theorem Kp.of_grown{w w':World}{row:Option Nat}(h:w.grownBy w' row):Kp w w' λk=>row=some k:=⟨h.os,h.tape,h.output,h.size,λk hk hn=>h.block k hk λe=>hn e.symm⟩
theorem Kp.setb(w:World)(b:Nat)(o:Obj):Kp w (setb w b o) λk=>k=b:=⟨rfl,rfl,rfl,by simp only[go_sem];exact Nat.le_refl _,λk hk hn=>zao _ _ _ _ hn⟩
theorem Kp.drew(w:World)(S:Nat->Prop):Kp w w.drew S:=⟨rfl,rfl,rfl,Nat.le_refl _,λ_ _ _=>rfl⟩
theorem Kp.below{w w':World}{S:Nat->Prop}{B:Nat}(h:Kp w w' S)(hS:∀k,k<B->¬S k)(hB:B<=w.heap.size):Below B w w':=⟨h.os,h.tape,h.output,h.size,λk hk=>h.block k (by omega) (hS k hk)⟩
theorem zbI{w w':World}{S:Nat->Prop}{B:Nat}{e:TypeId}{size:Nat}{v:Value}{n:Nat}{xs:List Value}(h:w.ownsRow B e size v n xs)(hb:Kp w w' S)(hS:∀k,v.ownBlock=some k->¬S k):w'.ownsRow B e size v n xs:=by
 refine⟨h.1,?_⟩;rcases h.2 with h|⟨g,cap,cur,rfl,h1,h2,h3,h4,h5,h6⟩
 ·exact .inl h
 ·have hlt:=(Array.getElem?_eq_some_iff.1 h2).1;have e1:=hb.block g hlt (hS g rfl);exact .inr ⟨g,cap,cur,rfl,h1,by unfold bk at e1;rw[e1,h2],h3,h4,h5,h6⟩
theorem zlc{w w':World}{S:Nat->Prop}{v:Value}{l:List UInt8}(h:BS w v l)(hb:Kp w w' S)(hS:∀k,v.ownBlock=some k->¬S k):BS w' v l:=by
 rcases h with h|⟨b,o,cap,rfl,h2,h3,h4⟩
 ·exact .inl h
 ·refine .inr ⟨b,o,cap,rfl,h2,?_,Nat.lt_of_lt_of_le h4 hb.size⟩;unfold rowB at h3⊢;rw[hb.block b h4 (hS b rfl)];exact h3
theorem zeJ{b:Nat}{o:Obj}(h:bk w b=some o):setb w b o=w:=by
 unfold setb;have e:w.heap.setIfInBounds b o=w.heap:=by
  apply Array.ext_getElem?;intro i;by_cases hi:i=b
  ·subst hi;have:=zaj h;rw[Array.getElem?_setIfInBounds_self_of_lt this];exact h.symm
  ·rw[Array.getElem?_setIfInBounds_ne (Ne.symm hi)]
 rw[e]
theorem zlI{M:Value->Prop}{tB tE:TypeId}{size:Nat}(h2:P.underlying tB=some (.slice tE))(hs:(P.info? tE).map (·.size)=some size){a:Option Addr}{n m:Nat}{k j:IntKind}:
  pu P (zaE tB (.slice a n m) (some (.int k 0)) (some (.int j 0)) none) M=M (.slice a 0 m):=
 zca (by
  have e:a.map (·.add 0)=a:=by
   cases a with
   |none=>rfl
   |some a=>rfl
  simp only[Instr.sliceAt,Instr.slice,Instr.sliceBounds];simp[zau,zak h2,zaB j 0 m _ (by omega) (by omega),zaB k 0 0 _ (by omega) (by omega),zeX hs,zci];exactλ_=>e)
theorem oCopy0{tB tE:TypeId}{cs:Array Bool}{ty:TypeId}(h2:P.underlying tB=some (.slice tE))(hs:(P.info? tE).map (·.size)=some 1){b o n m cap:Nat}{a:Option Addr}:
  st P (zac .copy #[tB,tB] ty cs #[sl b o n m,.slice a 0 cap]) w L=L (.int .i64 0) w:=by
 refine zav (zbd ?_);cases hie:P.info? tE with
 |none=>rw[hie]at hs;cases hs
 |some ie=>
 cases a<;>simp[Builtin.copy_,run_underlying h2,sizeOf,typeInfo,hie,Builtin.lenOf,Builtin.firstCells,loadCells,loadCellsFrom,storeCells,goInt]
theorem part_at{b cap:Nat}{cur:List Value}{e:TypeId}{l:List UInt8}(hb:bk w b=some (CB cur e))(hc:cur.length=cap)(ht:cur.take l.length=l.map byt)(hl:l.length<=cap)(p m:Nat)(hp:p+m<=l.length):
  ∃o,(if cap=p then 0 else 0+p*1)=o/\rowB w b o ((l.drop p).take m):=by
 have key:∀p m,p+m<=l.length->rowB w b p ((l.drop p).take m):=λp m hp=>by
  unfold rowB;rw[hb];simp only[zaY];rw[if_pos (by simp;omega)];congr 1;have hlen:((l.drop p).take m).length=m:=by simp;omega
  rw[hlen,List.map_take,List.map_drop,<-ht,List.drop_take,List.take_take,Nat.min_eq_left (by omega)]
 by_cases h:cap=p
 ·refine⟨0,if_pos h,?_⟩;have hm:m=0:=by omega
  subst hm;have:=key 0 0 (by omega);simpa using this
 ·exact⟨p,by rw[if_neg h];omega,key p m hp⟩
theorem zrl{tB tE:TypeId}{cs:Array Bool}{ty:TypeId}(h2:P.underlying tB=some (.slice tE))(hi:(P.info? tE).map (λi=>(i.zero,i.size,i.bytes))=some (some (.int .u8 0),1,1)){v1:Value}{l:List UInt8}(hv:BS w v1 l)(hl:l.length<=140737488355328)
  (h:∀v' w',w'.ownsRow w.heap.size tE 1 v' l.length (l.map byt)->Below w.heap.size w w'->L v' w'):st P (zac .append #[tB,tB] ty cs #[.slice none 0 0,v1]) w L:=by
 have hi2:(P.info? tE).map (·.size)=some 1:=by
  cases e:P.info? tE with
  |none=>rw[e]at hi;cases hi
  |some i=>rw[e]at hi;simp only[Option.map_some,Option.some.injEq,Prod.mk.injEq]at hi;simp[hi.2.1]
 by_cases he:l=[]
 ·subst he;obtain⟨a,cap,rfl⟩:=zay hv;have hs:Src P 1 tB (.slice a 0 cap) 0 [] w:=by
   cases a with
   |none=>exact Src.ofNil w h2 cap
   |some a=>exact Src.ofSlice w h2 a 0 cap [] (by simp) (λj u hj=>by simp at hj) (λ_ h=>by cases h)
  rw[show(([]:List UInt8).length)=0 from rfl,zim h2 hi2 hs (Nat.le_refl _)];exact h _ _ ⟨rfl,.inl ⟨rfl,rfl⟩⟩ (Below.refl _ _)
 ·rcases hv with⟨e,_⟩|⟨b,o,cap,rfl,h3,h4,h5⟩
  ·exact absurd e he
  ·refine zgT (size:=1) (z:=.int .u8 0) (B:=w.heap.size) (n:=0) (xs:=[]) (news:=l.map byt) h2 hi rfl (by omega) ⟨rfl,.inl ⟨rfl,rfl⟩⟩ (by simp) ?_ (λu hu=>by obtain⟨x,_,rfl⟩:=List.mem_map.1 hu;rfl) (by simp only[maxLen];omega) (by omega) (Nat.le_refl _) λv' w' g1 g2 _=>?_
   ·rw[List.length_map];exact h4
   ·rw[Nat.zero_add,List.nil_append]at g1;exact h v' w' g1 ⟨g2.os,g2.tape,g2.output,g2.size,λk hk=>g2.block k hk (by simp[Value.ownBlock])⟩
theorem zlJ{B:Nat}{e:TypeId}{v:Value}{l:List UInt8}(h:w.ownsRow B e 1 v l.length (l.map byt)):BS w v l:=by
 by_cases he:l.length=0
 ·obtain⟨a,cap,rfl⟩:=zan h;rw[he];exact .inl ⟨List.length_eq_zero_iff.1 he,a,cap,rfl⟩
 ·obtain⟨b,cap,cur,rfl,q1,q2,q3,q4,q5,q6⟩:=zcV h he;refine .inr ⟨b,0,cap,rfl,q1,?_,q3⟩;unfold rowB;rw[q4];simp only[zaY];rw[if_pos (by simp;omega)];rw[Nat.mul_one]at q6;simpa using q6
theorem zo3{tS tB tE:TypeId}(h1:P.underlying tS=some .string)(h2:P.underlying tB=some (.slice tE))(h3:P.underlying tE=some (.int .u8)){v:Value}{l:List UInt8}(h:BS w v l):(convert tB tS v).run P w=.ok (S l) w:=by
 rcases h with⟨rfl,a,cap,rfl⟩|⟨b,o,cap,rfl,_,h4,_⟩
 ·have e:(Conv.bytesToString (.slice a 0 cap)).run P w=.ok (S []) w:=by
   cases a with
   |none=>rfl
   |some a=>
    have hl:(loadCells a 0).run P w=.ok (([]:List Int).map (Value.int .u8)).toArray w:=by simp[loadCells,loadCellsFrom]
    rw[run_bytesToString w a 0 cap _ hl];rfl
  simp only[convert,Sem.run_bind,run_underlying h1,run_underlying h2,Result.andThen_ok,run_underlying h3,e]
 ·exact zqo w h1 h2 h3 h4 rfl
theorem zpM{tS tB tE:TypeId}(h1:P.underlying tS=some .string)(h2:P.underlying tB=some (.slice tE))(h3:P.underlying tE=some (.int .u8)){v:Value}{l:List UInt8}(h:BS w v l):st P (zj8 tB tS v) w L=L (S l) w:=zav (zbd (zo3 h1 h2 h3 h))
theorem zmY(w:World)(r:Option Nat):w.grownBy w r:=⟨rfl,rfl,rfl,Nat.le_refl _,λ_ _ _=>rfl⟩
theorem zrs{tE:TypeId}(hi:(P.info? tE).map (λi=>(i.zero,i.size,i.bytes))=some (some (.int .u8 0),1,1)):(P.info? tE).map (·.size)=some 1:=by
 cases e:P.info? tE with
 |none=>rw[e]at hi;cases hi
 |some i=>rw[e]at hi;simp only[Option.map_some,Option.some.injEq,Prod.mk.injEq]at hi;simp[hi.2.1]
theorem zt1{tB tE:TypeId}(h2:P.underlying tB=some (.slice tE)){x:Value}{l:List UInt8}(hx:BS w x l):Src P 1 tB x l.length (l.map byt) w:=by
 rcases hx with⟨rfl,a,cap,rfl⟩|⟨b,o,cap,rfl,h3,h4,h5⟩
 ·cases a with
  |none=>exact Src.ofNil w h2 cap
  |some a=>exact Src.ofSlice w h2 a 0 cap [] (by simp) (λj u hj=>by simp at hj) (λ_ h=>by cases h)
 ·exact zrv (news:=l.map byt) h2 (by rw[List.length_map];exact h4) (by simp) λu hu=>by obtain⟨y,_,rfl⟩:=List.mem_map.1 hu;rfl
theorem zlE{B:Nat}{e:TypeId}{v:Value}{n:Nat}{xs:List Value}(h:w.ownsRow B e 1 v n xs):∃a cap,v=.slice a n cap/\n<=cap:=by
 rcases h.2 with⟨rfl,rfl⟩|⟨g,cap,cur,rfl,h1,h2,h3,_⟩
 ·exact⟨none,0,rfl,Nat.le_refl _⟩
 ·exact⟨_,cap,rfl,h3⟩
theorem zii{tB tE:TypeId}{cs:Array Bool}{ty:TypeId}(h2:P.underlying tB=some (.slice tE))(hi:(P.info? tE).map (λi=>(i.zero,i.size,i.bytes))=some (some (.int .u8 0),1,1)){B:Nat}{v x:Value}{n:Nat}{xs:List Value}{l:List UInt8}(hown:w.ownsRow B tE 1 v n xs)(hx:BS w x l)(hb:n+l.length<=140737488355328)(hB:B<=w.heap.size)
  (h:∀v' w',w'.ownsRow B tE 1 v' (n+l.length) (xs++l.map byt)->w.grownBy w' v.ownBlock->(v'.ownBlock=v.ownBlock\/v'.ownBlock=some w.heap.size)->L v' w'):st P (zac .append #[tB,tB] ty cs #[v,x]) w L:=by
 have hi2:=zrs hi;by_cases he:l=[]
 ·subst he;obtain⟨a',cap',rfl⟩:=zay hx;obtain⟨a,cap,rfl,hc⟩:=zlE hown;have hs:=zt1 (P:=P) h2 hx;rw[show(([]:List UInt8).length)=0 from rfl]at hs⊢;rw[zim h2 hi2 hs hc];exact h _ _ (by simpa using hown) (zmY _ _) (.inl rfl)
 ·rcases hx with⟨e,_⟩|⟨b,o,cap,rfl,h3,h4,h5⟩
  ·exact absurd e he
  ·exact zgT (size:=1) (z:=.int .u8 0) (news:=l.map byt) h2 hi rfl (by omega) hown (by simp) (by rw[List.length_map];exact h4) (λu hu=>by obtain⟨x,_,rfl⟩:=List.mem_map.1 hu;rfl) (by simp only[maxLen];omega) (by omega) hB h
theorem ztQ{tB tE:TypeId}(h2:P.underlying tB=some (.slice tE))(hs:(P.info? tE).map (·.size)=some 1){B:Nat}{v:Value}{n p:Nat}{xs:List Value}(hown:w.ownsRow B tE 1 v n xs)(hp:p<=n):
  ∃v',w.ownsRow B tE 1 v' p (xs.take p)/\v'.ownBlock=v.ownBlock/\(∀k(M:Value->Prop),pu P (zaE tB v none (some (.int k p)) none) M=M v')/\(∀k j(M:Value->Prop),pu P (zaE tB v (some (.int j 0)) (some (.int k p)) none) M=M v'):=by
 rcases hown.2 with⟨rfl,rfl⟩|⟨g,cap,cur,rfl,h3,h4,h5,h6,h7,h8⟩
 ·have hp0:p=0:=by omega
  subst hp0;have hx:xs=[]:=by have:=hown.1;simpa using this
  subst hx;refine⟨_,hown,rfl,λk M=>?_,λk j M=>zlI h2 hs⟩;exact zca (by simp only[Instr.sliceAt,Instr.slice,Instr.sliceBounds];simp[zau,zak h2,zaB k 0 0 _ (by omega) (by omega),zeX hs,zci])
 ·refine⟨.slice (some ⟨g,0,none⟩) p cap,⟨?_,.inr ⟨g,cap,cur,rfl,h3,h4,by omega,h6,h7,?_⟩⟩,rfl,λk M=>?_,λk j M=>?_⟩
  ·have:=hown.1;simp only[List.length_take];omega
  ·rw[<-h8,List.take_take,Nat.mul_one,Nat.mul_one,Nat.min_eq_left hp]
  ·have:=zeK (P:=P) (b:=g) (o:=0) (n:=n) (m:=cap) (j:=k) (hi:=p) M h2 hs (by omega) (by omega);rw[Int.toNat_natCast]at this;exact this
  ·have:=zlQ (P:=P) (b:=g) (o:=0) (n:=n) (m:=cap) (k:=j) (j:=k) (lo:=0) (hi:=p) M h2 hs (by omega) (by omega) (by omega);rw[this];simp
theorem zio(k:Nat):Builtin.zeroCells (Value.int .u8 0).cells k=(List.replicate k (Value.int .u8 0)).toArray:=by
 apply Array.toList_inj.1;apply List.ext_getElem
 ·simp[Builtin.zeroCells,Value.cells]
 ·intro i h1 h2;simp[Builtin.zeroCells,Value.cells,Nat.mod_one]
theorem zsU{tB tE tn:TypeId}{cs:Array Bool}{ty:TypeId}(h2:P.underlying tB=some (.slice tE))(hi:(P.info? tE).map (λi=>(i.zero,i.size,i.bytes))=some (some (.int .u8 0),1,1))(htn:P.underlying tn=some (.int .i64)){B:Nat}{v:Value}{n m:Nat}{xs:List Value}(hown:w.ownsRow B tE 1 v n xs)(hm:0<m)(hb:n+m<=140737488355328)(hB:B<=w.heap.size)
  (h:∀v' w',w'.ownsRow B tE 1 v' (n+m) (xs++List.replicate m (.int .u8 0))->w.grownBy w' v.ownBlock->(v'.ownBlock=v.ownBlock\/v'.ownBlock=some w.heap.size)->L v' w'):st P (zac .append #[tB,tn] ty cs #[v,.int .i64 m]) w L:=by
 cases hie:P.info? tE with
 |none=>rw[hie]at hi;cases hi
 |some ie=>
 rw[hie]at hi;simp only[Option.map_some,Option.some.injEq,Prod.mk.injEq]at hi;obtain⟨hz,hs,hby⟩:=hi;obtain⟨a,cap,rfl,hc⟩:=zlE hown;by_cases g:n+m<=cap
 ·rcases hown.2 with⟨e,e2⟩|⟨gb,cap',cur,e,h3,h4,h5,h6,h7,h8⟩
  ·injection e with _ _ e3;omega
  ·injection e with ea _ ec;subst ea ec;have hw:IntKind.i64.wrap (m:Int)=m:=by rw[IntKind.wrap_i64];omega
   have h48i:¬(281474976710656<(m:Int)*(ie.bytes:Int)):=by rw[hby];omega
   have hneg:¬((m:Int)<0):=by omega
   have hns:¬m=0:=by omega
   have hst:=run_storeCells_cells (P:=P) gb n (List.replicate m (Value.int .u8 0)) 0 w (λj hj=>by
    rw[List.length_replicate]at hj;rw[cell?_eq];show(za1 (w.heap[gb]?) _).isSome=true;rw[h4];show(cur[n+0+j]?).isSome=true;simp
    omega) (λj hj=>by unfold World.frozen?;simp[h4]) (λu hu=>by rw[(List.mem_replicate.1 hu).2];rfl)
   simp only[Nat.add_zero]at hst;have hr:(Builtin.append_ #[tB,tn] ty #[.slice (some ⟨gb,0,none⟩) n cap,.int .i64 m]).run P w=.ok (.slice (some ⟨gb,0,none⟩) (n+m) cap) (w.setCells gb n (List.replicate m (.int .u8 0))):=by simp[Builtin.append_,run_underlying h2,run_underlying htn,sizeOf,typeInfo,zeroValue,hie,hz,asInt,asIntOf,hw,hneg,hns,hs,hby,h48i,g,zio,Addr.add_lit,hst];exactλq=>absurd q (by omega)
   have hbk:bk w gb=some (CB cur.toList tE):=by unfold bk;rw[h4]
   have hcl:cur.toList.length=cap:=by simpa using h7
   rw[zfB gb _ n w cur.toList hbk (by rw[List.length_replicate];omega),List.length_replicate]at hr;have hlt:=zaj hbk;rw[show st P (zac .append #[tB,tn] ty cs #[.slice (some ⟨gb,0,none⟩) n cap,.int .i64 m]) w L=_ from zav (zbd hr)];refine h _ _ ⟨?_,.inr ⟨gb,cap,_,rfl,h3,zap _ _ _ _ rfl hlt,g,h6,?_,?_⟩⟩ ⟨rfl,rfl,rfl,by simp only[go_sem];exact Nat.le_refl _,λk hk hn=>zao _ _ _ _ (λe=>hn (by rw[e];rfl))⟩ (.inl rfl)
   ·have:=hown.1;simp only[List.length_append,List.length_replicate];omega
   ·simp only[List.size_toArray,List.length_append,List.length_take,List.length_replicate,List.length_drop];omega
   ·have hxl:=hown.1;rw[Nat.mul_one]at h8 hxl;simp only[Nat.mul_one,h8];rw[List.take_append_of_le_length (by simp only[List.length_append,List.length_replicate];omega),List.take_of_length_le (by simp only[List.length_append,List.length_replicate];omega)]
 ·have hold:(Builtin.firstCells ie.size n (.slice a n cap)).run P w.drew=.ok xs.toArray w.drew:=by
   rw[hs];rcases hown.2 with⟨e,rfl⟩|⟨gb,cap',cur,e,h3,h4,h5,h6,h7,h8⟩
   ·injection e with ea;subst ea;have hx:xs=[]:=by have:=hown.1;simpa using this
    subst hx;rfl
   ·injection e with ea _ ec;subst ea ec;refine run_firstCells_some w.drew 1 n _ n cap xs hown.1 λj u hj=>?_;have:=World.ownsRow.cells hown (g:=gb) rfl j u hj;simpa using this
  have hr:=Lib.run_append_grow_zeros (P:=P) w tB tn ty tE ie (.int .u8 0) .i64 .i64 h2 htn hie hz a n cap xs hold m hm (by omega) (by omega) (by omega) (by rw[hby];omega) (by rw[hby];have:=nextslicecap_le (need:=n+m) (old:=cap) (by omega);omega)
  rw[show st P (zac .append #[tB,tn] ty cs #[.slice a n cap,.int .i64 m]) w L=_ from zav (zbd hr)];have hge:=grownCap_ge w (n+m) cap tE;have hcm:grownCap w (n+m) cap tE<=maxLen:=grownCap_le_maxLen w (n+m) cap tE (by simp only[maxLen];omega);have hxl:=hown.1;refine h _ _ ⟨?_,.inr ⟨w.heap.size,_,_,rfl,hB,heap_alloc_new w.drew _,hge,hcm,?_,?_⟩⟩ ⟨rfl,rfl,rfl,by simp,λk hk _=>heap_alloc_old w.drew _ hk⟩ (.inr rfl)
  ·simp only[List.length_append,List.length_replicate];omega
  ·simp only[zio,Array.size_append,List.size_toArray,List.length_replicate];omega
  ·simp only[zio,Array.toList_append,Nat.mul_one];rw[List.take_append_of_le_length (by simp only[List.length_append,List.length_replicate];omega),List.take_of_length_le (by simp only[List.length_append,List.length_replicate];omega)]
end
structure Fp where
 own:Nat->Prop
 use:Nat->Prop
def Fp.step(n:Nat)(F G:Fp):Prop:=∀b,b<n->(G.own b->F.own b)/\(G.use b->F.use b)
theorem Fp.step_refl(n:Nat)(F:Fp):Fp.step n F F:=λ_ _=>⟨id,id⟩
theorem Fp.step_trans{n m:Nat}{F G H:Fp}(h:Fp.step n F G)(k:Fp.step m G H)(hnm:n<=m):Fp.step n F H:=λb hb=>⟨λx=>(h b hb).1 ((k b (by omega)).1 x),λx=>(h b hb).2 ((k b (by omega)).2 x)⟩
def Fp.sep(F G:Fp):Prop:=∀b,(F.own b->¬G.use b)/\(G.own b->¬F.use b)
theorem Fp.sep.symm{F G:Fp}(h:Fp.sep F G):Fp.sep G F:=λb=>⟨(h b).2,(h b).1⟩
def Fp.in_(F:Fp)(n:Nat):Prop:=∀b,F.use b->b<n
structure Tr(w w':World)(F F':Fp):Prop where
 kp:Kp w w' F.own
 st:Fp.step w.heap.size F F'
theorem Tr.refl(w:World)(F:Fp):Tr w w F F:=⟨Kp.refl w _,Fp.step_refl _ _⟩
theorem Tr.trans{a b c:World}{F G H:Fp}(h:Tr a b F G)(k:Tr b c G H):Tr a c F H:=⟨h.kp.trans k.kp λx hx hG=>(h.st x hx).1 hG,Fp.step_trans h.st k.st h.kp.size⟩
theorem Tr.of_below{w w':World}(h:Below w.heap.size w w')(F:Fp):Tr w w' F F:=⟨Kp.of_below h _,Fp.step_refl _ _⟩
theorem Tr.after{a b c:World}{F G:Fp}(h:Tr a b F G)(k:Below b.heap.size b c):Tr a c F G:=h.trans (Tr.of_below k G)
theorem Tr.before{a b c:World}{F G:Fp}(k:Below a.heap.size a b)(h:Tr b c F G):Tr a c F G:=(Tr.of_below k F).trans h
theorem zkV{a b:World}{S T:Nat->Prop}(h:Kp a b S)(hS:∀x,x<a.heap.size->S x->T x):Kp a b T:=⟨h.os,h.tape,h.output,h.size,λk hk hn=>h.block k hk λhs=>hn (hS k hk hs)⟩
section
variable{P:Program}{L:Value->World->Prop}{w:World}
theorem zbQ{w w':World}{S:Nat->Prop}{B:Nat}{e:TypeId}{size:Nat}{v:Value}{n:Nat}{xs:List Value}(h:w.ownsRow B e size v n xs)(hb:Kp w w' S)(hS:∀k,v.ownBlock=some k->¬S k):w'.ownsRow B e size v n xs:=zbI h hb hS
theorem zke{tB tE:TypeId}{size:Nat}(h2:P.underlying tB=some (.slice tE))(hs:(P.info? tE).map (·.size)=some size){B:Nat}{v:Value}{n:Nat}{xs:List Value}(h:w.ownsRow B tE size v n xs){p:Nat}(hp:p<=n):
  ∃v',w.ownsRow B tE size v' p (xs.take (p*size))/\v'.ownBlock=v.ownBlock/\∀(k:IntKind)(M:Value->Prop),pu P (zaE tB v none (some (.int k p)) none) M=M v':=by
 rcases h.2 with⟨rfl,rfl⟩|⟨g,cap,cur,rfl,h3,h4,h5,h6,h7,h8⟩
 ·have hp0:p=0:=by omega
  subst hp0;refine⟨.slice none 0 0,⟨by simp,.inl ⟨rfl,rfl⟩⟩,rfl,λk M=>?_⟩;have hx:rp P (sizeOf tE)=some size:=by
   cases hi:P.info? tE with
   |none=>rw[hi]at hs;cases hs
   |some i=>rw[hi]at hs;simp at hs;simp[sizeOf,typeInfo,zau,hi,hs]
  exact zca (by simp only[Instr.sliceAt,Instr.slice,Instr.sliceBounds];simp[zau,zci,zak h2,zaB k 0 0 _ (by omega) (by omega),hx])
 ·refine⟨sl g 0 p cap,⟨?_,.inr ⟨g,cap,cur,rfl,h3,h4,by omega,h6,h7,?_⟩⟩,rfl,λk M=>?_⟩
  ·have e:=h.1;rw[List.length_take,e];exact Nat.min_eq_left (Nat.mul_le_mul_right _ hp)
  ·rw[<-h8,List.take_take,Nat.min_eq_left (Nat.mul_le_mul_right _ hp)]
  ·rw[zeK (size:=size) M h2 hs (by omega) (by omega),Int.toNat_natCast]
theorem zaW{w:World}{B n size:Nat}{e:TypeId}{v:Value}{xs:List Value}(h:w.ownsRow B e size v n xs):∀k,v.ownBlock=some k->B<=k/\k<w.heap.size:=λk hk=>by
 rcases h.2 with⟨rfl,_⟩|⟨g,cap,cur,rfl,h1,h2,h3⟩
 ·cases hk
 ·injection hk with hk;subst hk;exact⟨h1,(Array.getElem?_eq_some_iff.1 h2).1⟩
def RowS(w:World)(x:Value)(m:Nat)(news:List Value):Prop:=(∃b o c,x=sl b o m c/\zaY (bk w b) o news.length=some news)\/(m=0/\news=[]/\∃a c,x=.slice a 0 c)
theorem RowS.old{w w':World}{x:Value}{m:Nat}{news:List Value}(h:RowS w x m news)(hb:Below w.heap.size w w'):RowS w' x m news:=by
 rcases h with⟨b,o,c,e,r⟩|h
 ·refine .inl ⟨b,o,c,e,?_⟩;have:b<w.heap.size:=by obtain⟨c',t',fz,e1,_,_⟩:=za7 r;exact zaj e1
  rw[zax hb this];exact r
 ·exact .inr h
theorem RowS.kp{w w':World}{x:Value}{m:Nat}{news:List Value}{S:Nat->Prop}(h:RowS w x m news)(k:Kp w w' S)(hS:∀b,x.ownBlock=some b->¬S b):RowS w' x m news:=by
 rcases h with⟨b,o,c,e,r⟩|h
 ·refine .inl ⟨b,o,c,e,?_⟩;have:b<w.heap.size:=by obtain⟨c',t',fz,e1,_,_⟩:=za7 r;exact zaj e1
  rw[k.block b this (hS b (by rw[e];rfl))];exact r
 ·exact .inr h
theorem zkc{tB tE:TypeId}{size:Nat}(h2:P.underlying tB=some (.slice tE))(hs:(P.info? tE).map (·.size)=some size){B:Nat}{v:Value}{n:Nat}{xs:List Value}(h:w.ownsRow B tE size v n xs){p:Nat}(hp:p<=n):
  ∃x,RowS w x (n - p) (xs.drop (p*size))/\x.ownBlock=v.ownBlock/\∀(k:IntKind)(M:Value->Prop),pu P (zaE tB v (some (.int k p)) none none) M=M x:=by
 rcases h.2 with⟨rfl,rfl⟩|⟨g,cap,cur,rfl,h3,h4,h5,h6,h7,h8⟩
 ·have hp0:p=0:=by omega
  subst hp0;have hx:xs=[]:=by have:=h.1;simpa using this
  subst hx;refine⟨.slice none 0 0,.inr ⟨rfl,by simp,_,_,rfl⟩,rfl,λk M=>?_⟩;have hx:rp P (sizeOf tE)=some size:=by
   cases hi:P.info? tE with
   |none=>rw[hi]at hs;cases hs
   |some i=>rw[hi]at hs;simp at hs;simp[sizeOf,typeInfo,zau,hi,hs]
  exact zca (by simp only[Instr.sliceAt,Instr.slice,Instr.sliceBounds];simp[zau,zci,zak h2,zaB k 0 0 _ (by omega) (by omega),hx])
 ·have e:=h.1;have hlen:(xs.drop (p*size)).length=(n - p)*size:=by rw[List.length_drop,e,Nat.sub_mul]
  have hcs:cur.toList.length=cap*size:=by simpa using h7
  refine⟨sl g (if cap=p then 0 else p*size) (n - p) (cap - p),.inl ⟨g,_,_,rfl,?_⟩,rfl,λk M=>?_⟩
  ·have hb:bk w g=some (.cells cur tE (0,0)):=h4;rw[hb];simp only[zaY,hlen];by_cases hc:cap=p
   ·have hn:n - p=0:=by omega
    rw[if_pos hc,hn];simp
    have:n*size<=p*size:=Nat.mul_le_mul_right _ (by omega);omega
   ·rw[if_neg hc];have h9:p*size+(n - p)*size=n*size:=by rw[<-Nat.add_mul];congr 1;omega
    have h10:n*size<=cap*size:=Nat.mul_le_mul_right _ h5;rw[if_pos (by rw[h9];omega)];rw[<-h8];congr 1;rw[List.drop_take];congr 1;omega
  ·rw[zj7 (size:=size) M h2 hs (by omega) (by omega) h5,Int.toNat_natCast,Nat.zero_add]
theorem zbK{t e:TypeId}{z:Value}{size bytes:Nat}{cs:Array Bool}{ty:TypeId}(ht:P.underlying t=some (.slice e))(hi:(P.info? e).map (λi=>(i.zero,i.size,i.bytes))=some (some z,size,bytes))(hzs:z.cells.size=size)(hsz:0<size)
  {B:Nat} {v:Value} {n:Nat} {xs:List Value} (hown:w.ownsRow B e size v n xs) {x:Value} {m:Nat} {news:List Value} (hx:RowS w x m news) (hl:news.length=m*size) (h1:∀u∈news,u.oneCell'=true)
  (h63:n+m<=maxLen) (hbytes:(n+m)*bytes<=140737488355328) (hbase:B<=w.heap.size)
  (h:∀v' w',w'.ownsRow B e size v' (n+m) (xs++news)->w.grownBy w' v.ownBlock->(v'.ownBlock=v.ownBlock\/v'.ownBlock=some w.heap.size)->L v' w'):st P (zac .append #[t,t] ty cs #[v,x]) w L:=by
 rcases hx with⟨b,o,c,rfl,r⟩|⟨rfl,rfl,a,c,rfl⟩
 ·exact zgT ht hi hzs hsz hown hl r h1 h63 hbytes hbase h
 ·obtain⟨a',cap,rfl⟩:=zan hown;cases hie:P.info? e with
  |none=>rw[hie]at hi;cases hi
  |some ie=>
  have hle:n<=cap:=by
   rcases hown.2 with⟨e1,rfl⟩|⟨g,cap',cur,e1,h3,h4,h5,h6,h7,h8⟩
   ·exact Nat.zero_le _
   ·injection e1 with _ _ e3;omega
  have hs:Src P ie.size t (.slice a 0 c) 0 [] w:=by
   cases a with
   |none=>exact Src.ofNil w ht c
   |some ad=>exact Src.ofSlice w ht ad 0 c [] (by simp) (λj u hj=>by simp at hj) (λu hu=>by cases hu)
  have hr:=run_append_nothing w t t ty e ie ht hie a' n cap hle (.slice a 0 c) hs;have:=zav (K:=L) (zbd hr);rw[show st P (zac .append #[t,t] ty cs #[.slice a' n cap,.slice a 0 c]) w L=L (.slice a' n cap) w from this];exact h _ _ (by simpa using hown) (zmY w _) (.inl rfl)
theorem zhw{tB tE:TypeId}{size:Nat}(h2:P.underlying tB=some (.slice tE))(hs:(P.info? tE).map (·.size)=some size){B:Nat}{v:Value}{n:Nat}{xs:List Value}(h:w.ownsRow B tE size v n xs){i:Nat}(hi:i<n):
  ∃g cur,v.ownBlock=some g/\B<=g/\bk w g=some (CB cur tE)/\n*size<=cur.length/\cur.take (n*size)=xs/\∀(k:IntKind)(M:Value->Prop),pu P (zaO tB v (.int k i)) M=M (pt g (i*size)):=by
 obtain⟨b,cap,cur,rfl,h3,h4,h5,h6,h7,h8⟩:=zcV h (by omega);refine⟨b,cur,rfl,h4,h6,by rw[h7];exact Nat.mul_le_mul_right _ h3,h8,λk M=>?_⟩;rw[zgg (size:=size) M h2 hs (by omega) (by omega),Int.toNat_natCast,Nat.zero_add]
theorem zjL{tE:TypeId}{size:Nat}{B:Nat}{v:Value}{n:Nat}{xs:List Value}(h:w.ownsRow B tE size v n xs){g:Nat}{cur cur':List Value}(hg:v.ownBlock=some g)(hb:bk w g=some (CB cur tE))(hl:cur'.length=cur.length)(o:Obj)(ho:o=CB cur' tE):
  (setb w g o).ownsRow B tE size v n (cur'.take (n*size)):=by
 subst ho;rcases h.2 with⟨rfl,rfl⟩|⟨g',cap,c0,rfl,h3,h4,h5,h6,h7,h8⟩
 ·cases hg
 ·have e:g'=g:=Option.some.inj hg;subst e;have hb2:bk w g'=some (.cells c0 tE (0,0)):=h4;rw[hb]at hb2;injection hb2 with hb2;injection hb2 with hb2;subst hb2;have h9:n*size<=cap*size:=Nat.mul_le_mul_right _ h5;simp only[List.size_toArray]at h7;refine⟨by rw[List.length_take,hl,h7];omega,.inr ⟨g',cap,cur'.toArray,rfl,h3,?_,h5,h6,by simp[hl,h7],rfl⟩⟩;exact zap _ _ _ _ rfl (zaj hb)
end
section
variable{α:Type}{emb:α->Value}{P:Program}{w w':World}
def VS(emb:α->Value)(w:World)(v:Value)(l:List α):Prop:=(l=[]/\∃a cap,v=.slice a 0 cap)\/∃b o cap,v=sl b o l.length cap/\l.length<=cap/\zaY (bk w b) o l.length=some (l.map emb)/\b<w.heap.size
theorem VS.kp{v:Value}{l:List α}{S:Nat->Prop}(h:VS emb w v l)(k:Kp w w' S)(hS:∀b,v.ownBlock=some b->¬S b):VS emb w' v l:=by
 rcases h with h|⟨b,o,cap,rfl,h2,h3,h4⟩
 ·exact .inl h
 ·exact .inr ⟨b,o,cap,rfl,h2,by rw[k.block b h4 (hS b rfl)];exact h3,Nat.lt_of_lt_of_le h4 k.size⟩
theorem VS.old{v:Value}{l:List α}(h:VS emb w v l)(k:Below w.heap.size w w'):VS emb w' v l:=by
 rcases h with h|⟨b,o,cap,rfl,h2,h3,h4⟩
 ·exact .inl h
 ·exact .inr ⟨b,o,cap,rfl,h2,by rw[zax k h4];exact h3,Nat.lt_of_lt_of_le h4 k.size⟩
theorem VS.slice{v:Value}{l:List α}(h:VS emb w v l):∃a cap,v=.slice a l.length cap:=by
 rcases h with⟨rfl,a,cap,h⟩|⟨b,o,cap,h1,_⟩
 ·exact⟨a,cap,h⟩
 ·exact⟨_,cap,h1⟩
theorem VS.row{v:Value}{l:List α}(h:VS emb w v l):RowS w v l.length (l.map emb):=by
 rcases h with⟨rfl,a,cap,h⟩|⟨b,o,cap,rfl,h2,h3,h4⟩
 ·exact .inr ⟨rfl,rfl,a,cap,h⟩
 ·exact .inl ⟨b,o,cap,rfl,by rw[List.length_map];exact h3⟩
theorem VS.own{B:Nat}{e:TypeId}{v:Value}{l:List α}(h:w.ownsRow B e 1 v l.length (l.map emb)):VS emb w v l:=by
 by_cases h0:l.length=0
 ·obtain⟨a,cap,rfl⟩:=zan h;exact .inl ⟨List.length_eq_zero_iff.1 h0,a,cap,by rw[h0]⟩
 ·obtain⟨b,cap,cur,rfl,h1,h2,h3,h4,h5,h6⟩:=zcV h h0;refine .inr ⟨b,0,cap,rfl,h1,?_,h3⟩;rw[h4];simp only[zaY];rw[Nat.mul_one]at h5 h6;rw[if_pos (by simp only[List.size_toArray];omega)];simpa using h6
theorem VS.lo{tB tE:TypeId}(h2:P.underlying tB=some (.slice tE))(hs:(P.info? tE).map (·.size)=some 1){v:Value}{l:List α}(h:VS emb w v l){p:Nat}(hp:p<=l.length):
  ∃v',VS emb w v' (l.drop p)/\(∀b,v'.ownBlock=some b->v.ownBlock=some b)/\∀(k:IntKind)(L:Value->Prop),pu P (zaE tB v (some (.int k p)) none none) L=L v':=by
 rcases h with⟨rfl,a,cap,rfl⟩|⟨b,o,cap,rfl,h3,h4,h5⟩
 ·have hp0:p=0:=by simpa using hp
  subst hp0;have hx:rp P (sizeOf tE)=some 1:=zeX hs;cases a with
  |none=>refine⟨.slice none 0 cap,.inl ⟨rfl,_,_,rfl⟩,λb hb=>hb,λk L=>?_⟩;exact zca (by simp only[Instr.sliceAt,Instr.slice,Instr.sliceBounds];simp[zau,zci,zak h2,zaB k 0 0 _ (by omega) (by omega),hx])
  |some ad=>refine⟨.slice (some ad) 0 cap,.inl ⟨rfl,_,_,rfl⟩,λb hb=>hb,λk L=>?_⟩;exact zca (by simp only[Instr.sliceAt,Instr.slice,Instr.sliceBounds];simp[zau,zci,zak h2,zaB k 0 0 _ (by omega) (by omega),hx];intro h;simp[Addr.add])
 ·refine⟨sl b (if cap=p then o else o+p*1) (l.length - p) (cap - p),?_,λb hb=>hb,λk L=>?_⟩
  ·by_cases e:l.length - p=0
   ·exact .inl ⟨List.drop_eq_nil_of_le (by omega),some ⟨b,if cap=p then o else o+p*1,none⟩,cap - p,by rw[e]⟩
   ·refine .inr ⟨b,_,_,by rw[List.length_drop],by rw[List.length_drop];omega,?_,h5⟩;rw[if_neg (by omega),Nat.mul_one];obtain⟨c',t',fz,e1,e2,e3⟩:=za7 h4;rw[e1];simp only[zaY,List.length_drop];rw[if_pos (by omega)];congr 1;rw[List.map_drop,<-e3];apply List.ext_getElem?;intro i;by_cases hi:i<l.length - p
    ·rw[List.getElem?_take_of_lt hi,List.getElem?_drop,List.getElem?_drop,List.getElem?_take_of_lt (by omega),List.getElem?_drop];congr 1;omega
    ·rw[List.getElem?_eq_none (by simp;omega),List.getElem?_eq_none (by simp;omega)]
  ·rw[zj7 (size:=1) L h2 hs (by omega) (by omega) (by omega),Int.toNat_natCast]
theorem VS.hi{tB tE:TypeId}(h2:P.underlying tB=some (.slice tE))(hs:(P.info? tE).map (·.size)=some 1){v:Value}{l:List α}(h:VS emb w v l){q:Nat}(hq:q<=l.length):
  ∃v',VS emb w v' (l.take q)/\(∀b,v'.ownBlock=some b->v.ownBlock=some b)/\∀(j:IntKind)(L:Value->Prop),pu P (zaE tB v none (some (.int j q)) none) L=L v':=by
 rcases h with⟨rfl,a,cap,rfl⟩|⟨b,o,cap,rfl,h3,h4,h5⟩
 ·have hq0:q=0:=by simpa using hq
  subst hq0;have hx:rp P (sizeOf tE)=some 1:=zeX hs;refine⟨.slice a 0 cap,.inl ⟨rfl,_,_,rfl⟩,λb hb=>hb,λj L=>?_⟩;cases a with
  |none=>exact zca (by simp only[Instr.sliceAt,Instr.slice,Instr.sliceBounds];simp[zau,zci,zak h2,zaB j 0 cap _ (by omega) (by omega),hx])
  |some ad=>exact zca (by simp only[Instr.sliceAt,Instr.slice,Instr.sliceBounds];simp[zau,zci,zak h2,zaB j 0 cap _ (by omega) (by omega),hx];intro h;simp[Addr.add])
 ·refine⟨sl b o q cap,?_,λb hb=>hb,λj L=>?_⟩
  ·by_cases e:q=0
   ·subst e;exact .inl ⟨by simp,some ⟨b,o,none⟩,cap,rfl⟩
   ·have el:(l.take q).length=q:=by simp;omega
    refine .inr ⟨b,o,cap,by rw[el],by rw[el];omega,?_,h5⟩;obtain⟨c',t',fz,e1,e2,e3⟩:=za7 h4;rw[e1];simp only[zaY,el];rw[if_pos (by omega)];congr 1;rw[List.map_take,<-e3,List.take_take,Nat.min_eq_left hq]
  ·rw[zeK (size:=1) L h2 hs (by omega) (by omega),Int.toNat_natCast]
theorem VS.idx{tB tE:TypeId}(h2:P.underlying tB=some (.slice tE))(hs:(P.info? tE).map (·.size)=some 1){v:Value}{l:List α}(h:VS emb w v l){i:Nat}(hi:i<l.length):
  ∃b o,v.ownBlock=some b/\b<w.heap.size/\za1 (bk w b) o=some (emb l[i])/\∀(k:IntKind)(L:Value->Prop),pu P (zaO tB v (.int k i)) L=L (pt b o):=by
 rcases h with⟨rfl,_⟩|⟨b,o,cap,rfl,h3,h4,h5⟩
 ·simp at hi
 ·refine⟨b,o+i,rfl,h5,?_,λk L=>?_⟩
  ·obtain⟨c',t',fz,e1,e2,e3⟩:=za7 h4;rw[e1];show c'[o+i]?=_;have:((c'.toList.drop o).take l.length)[i]?=(l.map emb)[i]?:=by rw[e3]
   rw[List.getElem?_take_of_lt hi,List.getElem?_drop]at this;simpa[hi]using this
  ·rw[zgg (size:=1) L h2 hs (by omega) (by omega),Int.toNat_natCast,Nat.mul_one]
end
section
variable{P:Program}{L:Value->World->Prop}{w:World}
theorem zru{tB tE:TypeId}{z:Value}{bytes:Nat}(h2:P.underlying tB=some (.slice tE))(hi:(P.info? tE).map (λi=>(i.zero,i.size,i.bytes))=some (some z,1,bytes))(hz:z.cells=#[z])(n:Nat)(hn:bytes*n<=281474976710656)(hn2:n<=281474976710656):
  st P (zdx tB (.int .i64 n) (.int .i64 n)) w L=L (sl w.heap.size 0 n n) (w.alloc (CB (List.replicate n z) tE)):=by
 have h:=run_make_row' (P:=P) tB tE z bytes h2 hi hz .i64 .i64 n (by omega) (by omega) w;have e:madeCells #[z] n=(List.replicate n z).toArray:=by
  apply Array.toList_inj.1;apply List.ext_getElem
  ·simp[madeCells]
  ·intro i h1 h2;simp[madeCells,Nat.mod_one]
 rw[e]at h;exact zav (zbd h)
end
end Go.X
end
section
namespace Go.Proofs.YtdljebgllipdjaaGreatDoor.X
open Go Go.X Go.Proofs
section
variable{t0 t1 t2 t3 t4:Value}{w:World}{K:Value->World->Prop}
def zdY(a f C g D:Value)(K:Value->World->Prop)(s4:List Value)(u4:Env)(h:World):Prop:=
 gd a true h (λE=>pu P (zad T.ab f 0) λv=>E v h) λF i=>
 gd a true i (λG=>st P (zab T.int F) i G) λH j=>
 gd a true j (λI=>pu P (oBin .eql T.int false true H (.int .i64 0)) λv=>I v j) λJ k=>
 gd a true k (λL=>L C k) λM l=>
 gd a true l (λN=>pu P (oBin .eql T.bool false false J M) λv=>N v l) λO m=>
 pu P (zaD a O (.bool false)) λb=>
 gd b true m (λQ=>pu P (zad T.ab f 0) λv=>Q v m) λR n=>
 gd b true n (λU=>st P (zab T.int R) n U) λV o=>
 gd b true o (λX=>pu P (oBin .eql T.int false true V (.int .i64 0)) λv=>X v o) λY p=>
 gd b true p (λZ=>Z Y p) λc q=>
 gd c false q (λaa=>pu P (zad T.ab f 0) λv=>aa v q) λab r=>
 gd c false r (λac=>st P (zab T.int ab) r ac) λad s=>
 gd c false s (λae=>pu P (oBin .eql T.int false true ad (.int .i64 1)) λv=>ae v s) λaf t=>
 gd b true t (λag=>pu P (zaD c (.bool true) af) λv=>ag v t) λah u=>
 pu P (zaD b ah (.bool false)) λd=>
 gd d true u (λai=>ai g u) λaj x=>
 gd d true x (λak=>ak D x) λal y=>
 gd d true y (λam=>st P (zah Fn.bE #[aj,al]) y am) λan z=>
 pu P (zaD d an (.bool false)) λe=>
 gd e true z (λao=>ao g z) λap A=>
 gd e true A (λaq=>pu P (zac .len #[T.aE] T.int #[false] #[ap]) λv=>aq v A) λar B=>
 gd e true B (λau=>pu P (oBin .gtr T.int false true ar (.int .i64 0)) λv=>au v B) λav aw=>
 pu P (zaD e av (.bool false)) λax=>
 K (tup [ax]) aw
def zas(a:List Value)(b:List Value->World->Prop)(e:List Value)(f:Env)(c:World):Prop:=
 pu P (oBin .add T.int false true (gs a 0) (.int .i64 1)) λd=>
 b [d] c
def zgF(a:Value)(b:World)(c d:Value)(e:List Value)(f:List Value->World->Prop):Prop:=
 pu P (zad T.ar a 1) λg=>
 st P (zab T.int g) b λh i=>
 pu P (oBin .andNot T.int false true h (.int .i64 13631999)) λj=>
 pu P (oBin .and T.int false true c (.int .i64 13631999)) λk=>
 pu P (oBin .or T.int false false j k) λl=>
 pu P (zaO T.aE d (gs e 0)) λm=>
 pu P (zad T.ar m 1) λn=>
 st P (zai T.int n l) i λ_ o=>
 f [] o
def zdE(a:Value)(d:World)(e f g:Value)(h:List Value)(b:List Value->World->Prop):Prop:=
 pu P (zad T.ar a 0) λi=>
 st P (zab T.string i) d λj c=>
 pu P (oBin .eql T.string false false j e) λk=>
 cd k (zgF a c f g h b) (
 b [] c)
def zgu(a:List Value)(i:List Value->World->Prop)(b d j k l:Value)(B:List Value)(C:Env)(m:World):Prop:=
 jn (zas a i) λe=>
 pu P (zaO T.aE b (gs a 0)) λn=>
 st P (zab T.ar n) m λo p=>
 st P (zbw T.ar) p λc q=>
 st P (zai T.ar c o) q λ_ r=>
 pu P (zad T.ar c 0) λs=>
 st P (zab T.string s) r λt f=>
 pu P (oBin .eql T.string false false t d) λg=>
 gd g true f (λu=>u j f) λv h=>
 pu P (zaD g v (.bool false)) λx=>
 cd x (
 pu P (zaO T.aE b (gs a 0)) λy=>
 pu P (zad T.ar y 4) λz=>
 st P (zai T.aC z k) h λ_ A=>
 e [] A) (zdE c h d l b a e)
def zd4(b c g h i:Value)(K:Value->World->Prop)(j k l:Value)(C:List Value)(D:Env)(m:World):Prop:=
 st P (zam T.aE 0 #[]) m λn o=>
 st P (zac .append #[T.aE,T.aE] T.aE #[false,false] #[n,b]) o λa p=>
 st P (zah Fn.dh #[b,c]) p λd q=>
 pu P (zae d 0) λr=>
 pu P (zae d 1) λs=>
 st P (zbw T.ar) q λt u=>
 st P (zai T.ar t r) u λ_ v=>
 jn (zdY g h s i a K) λx=>
 pu P (zac .len #[T.aE] T.int #[false] #[a]) λy=>
 lp [(.int .i64 0)] v λe E f z=>
 pu P (oBin .lss T.int false false (gs e 0) y) λA=>
 jn (zgu e z a c j k l) λB=>
 cd A (
 B [] f) (
 x [] f)
def zdM(c d e l:Value)(K:Value->World->Prop)(m:Value)(n:List Value)(J:Env)(o:World):Prop:=
 pu P (zaw T.ae #[(0,(gs n 0)),(1,c),(4,d),(7,e)]) λp=>
 st P (zah Fn.cH #[l,p]) o λa q=>
 pu P (zae a 0) λr=>
 pu P (zae a 1) λs=>
 pu P (zae a 2) λt=>
 pu P (zae a 3) λu=>
 pu P (zae a 4) λx=>
 st P (zbw T.ab) q λf y=>
 st P (zai T.ab f r) y λ_ g=>
 jn (zd4 s c x f t K m e d) λz=>
 pu P (oUn .not u) λb=>
 gd b false g (λA=>A c g) λB h=>
 gd b false h (λC=>st P (zah Fn.ay #[B]) h C) λD i=>
 gd b false i (λE=>E c i) λF j=>
 gd b false j (λG=>pu P (oBin .neq T.string false false D F) λv=>G v j) λH k=>
 pu P (zaD b (.bool true) H) λI=>
 cd I (
 K (tup [(.bool true)]) k) (
 z [] k)
def zgH(d e f g:Value)(K:Value->World->Prop)(a:Value)(h:List Value)(i:Env)(b:World):Prop:=
 jn (zdM d e f g K a) λc=>
 cd a (
 c [(.int .i64 11)] b) (
 c [(.int .i64 9)] b)
def zh6(b c h i j:Value)(w:World)(K:Value->World->Prop):Prop:=
 jn (zgH c h i b K j) λk=>
 st P (zah Fn.cI #[b]) w λl d=>
 pu P (oUn .not l) λa=>
 gd a false d (λm=>m c d) λn e=>
 gd a false e (λo=>pu P (zac .len #[T.string] T.int #[false] #[n]) λv=>o v e) λp f=>
 gd a false f (λq=>pu P (oBin .gtr T.int false true p (.int .i64 2147483647)) λv=>q v f) λr g=>
 pu P (zaD a (.bool true) r) λs=>
 cd s (
 K (tup [(.bool true)]) g) (
 k [] g)
theorem zlj(h:zh6 t0 t1 t2 t3 t4 w K):Cl P Fn.cK #[t0,t1,t2,t3,t4] w K:=ce (T:=tb [(6,[11])] [(12,[63])]) Tryz.func8 rfl h
def zgZ(a:Value)(w:World)(K:Value->World->Prop):Prop:=
 jn (λD E f=>
 jn (λF G g=>
 K (tup [(.bool true)]) g) λh=>
 pu P (zac .len #[T.aw] T.int #[false] #[a]) λi=>
 lp [(.int .i64 0)] f λb H c j=>
 pu P (oBin .lss T.int false false (gs b 0) i) λk=>
 jn (λI J l=>
 jn (λL M m=>
 pu P (oBin .add T.int false true (gs b 0) (.int .i64 1)) λn=>
 j [n] m) λo=>
 pu P (zaO T.aw a (gs b 0)) λp=>
 st P (zab T.ae p) l λq r=>
 st P (zbw T.ae) r λd s=>
 st P (zai T.ae d q) s λ_ t=>
 st P (zab T.ae d) t λu v=>
 st P (zah Fn.dk #[u]) v λx e=>
 pu P (oUn .not x) λy=>
 cd y (
 K (tup [(.bool false)]) e) (
 o [] e)) λz=>
 cd k (
 z [] c) (
 h [] c)) λA=>
 pu P (zac .len #[T.aw] T.int #[false] #[a]) λB=>
 pu P (oBin .gtr T.int false true B (.int .i64 2147483647)) λC=>
 cd C (
 K (tup [(.bool false)]) w) (
 A [] w)
theorem zjC(h:zgZ t0 w K):Cl P Fn.cI #[t0] w K:=ce (T:=tb [] [(4,[10])]) Tryz.func14 rfl h
def zki(b:Value)(w:World)(K:Value->World->Prop):Prop:=
 pu P (zac .len #[T.aw] T.int #[false] #[b]) λd=>
 pu P (oBin .leq T.int false true d (.int .i64 60)) λa=>
 gd a true w (λe=>e b w) λf c=>
 gd a true c (λg=>st P (zah Fn.dq #[f]) c g) λh i=>
 pu P (zaD a h (.bool false)) λj=>
 K (tup [j]) i
theorem znA(h:zki t0 w K):Cl P Fn.dt #[t0] w K:=ce (T:=tb [] []) Tryz.func15 rfl h
def zgY(b:Value)(w:World)(K:Value->World->Prop):Prop:=
 st P (zah Fn.cS #[b]) w λa c=>
 pu P (zae a 0) λd=>
 pu P (zae a 1) λg=>
 st P (zah Fn.dr #[d]) c λe f=>
 K (tup [e]) f
theorem zjA(h:zgY t0 w K):Cl P Fn.ck #[t0] w K:=ce (T:=tb [] []) Tryz.func17 rfl h
def zaV(K:Value->World->Prop)(b:List Value)(c:Env)(a:World):Prop:=K (tup [(.bool true)]) a
def zfh(g:List Value)(G:List Value->World->Prop)(H I:Value)(K:Value->World->Prop)(s4:List Value)(u4:Env)(J:World):Prop:=
 jn (zas g G) λL=>
 pu P (zaO T.aE H (gs g 0)) λM=>
 st P (zab T.ar M) J λN O=>
 st P (zbw T.ar) O λb Q=>
 st P (zai T.ar b N) Q λ_ R=>
 pu P (zaO T.aE I (gs g 0)) λU=>
 st P (zab T.ar U) R λV X=>
 st P (zbw T.ar) X λc Y=>
 st P (zai T.ar c V) Y λ_ Z=>
 pu P (zad T.ar b 0) λaa=>
 st P (zab T.string aa) Z λab ac=>
 pu P (zad T.ar c 0) λad=>
 st P (zab T.string ad) ac λae h=>
 pu P (oBin .neq T.string false false ab ae) λd=>
 gd d false h (λK1=>pu P (zad T.ar b 1) λv=>K1 v h) λaf i=>
 gd d false i (λK2=>st P (zab T.int af) i K2) λag j=>
 gd d false j (λK3=>pu P (zad T.ar c 1) λv=>K3 v j) λah k=>
 gd d false k (λK4=>st P (zab T.int ah) k K4) λai l=>
 gd d false l (λK5=>pu P (oBin .neq T.int false false ag ai) λv=>K5 v l) λaj m=>
 pu P (zaD d (.bool true) aj) λe=>
 gd e false m (λK6=>pu P (zad T.ar b 2) λv=>K6 v m) λak n=>
 gd e false n (λK7=>st P (zab T.bool ak) n K7) λal o=>
 gd e false o (λK8=>pu P (zad T.ar c 2) λv=>K8 v o) λam p=>
 gd e false p (λK9=>st P (zab T.bool am) p K9) λan q=>
 gd e false q (λao=>pu P (oBin .neq T.bool false false al an) λv=>ao v q) λap r=>
 pu P (zaD e (.bool true) ap) λf=>
 gd f false r (λaq=>pu P (zad T.ar b 4) λv=>aq v r) λar s=>
 gd f false s (λau=>st P (zab T.aC ar) s au) λav t=>
 gd f false t (λaw=>pu P (zad T.ar c 4) λv=>aw v t) λax u=>
 gd f false u (λay=>st P (zab T.aC ax) u ay) λaz x=>
 gd f false x (λa0=>pu P (oBin .neq T.aC false false av az) λv=>a0 v x) λa1 y=>
 pu P (zaD f (.bool true) a1) λa=>
 gd a false y (λa2=>pu P (zad T.ar b 3) λv=>a2 v y) λa3 z=>
 gd a false z (λa4=>st P (zab T.ah a3) z a4) λa5 A=>
 gd a false A (λa6=>st P (zj8 T.ah T.string a5) A a6) λa7 B=>
 gd a false B (λa8=>pu P (zad T.ar c 3) λv=>a8 v B) λa9 C=>
 gd a false C (λba=>st P (zab T.ah a9) C ba) λbb D=>
 gd a false D (λbc=>st P (zj8 T.ah T.string bb) D bc) λbd E=>
 gd a false E (λbe=>pu P (oBin .neq T.string false false a7 bd) λv=>be v E) λbf F=>
 pu P (zaD a (.bool true) bf) λbg=>
 cd bg (
 K (tup [(.bool false)]) F) (
 L [] F)
def zff(K:Value->World->Prop)(a d:Value)(k:List Value)(l:Env)(e:World):Prop:=
 jn (zaV K) λf=>
 pu P (zac .len #[T.aE] T.int #[false] #[a]) λg=>
 lp [(.int .i64 0)] e λb m c h=>
 pu P (oBin .lss T.int false false (gs b 0) g) λi=>
 jn (zfh b h a d K) λj=>
 cd i (
 j [] c) (
 f [] c)
def zgi(a b:Value)(w:World)(K:Value->World->Prop):Prop:=
 jn (zff K a b) λc=>
 pu P (zac .len #[T.aE] T.int #[false] #[a]) λd=>
 pu P (zac .len #[T.aE] T.int #[false] #[b]) λe=>
 pu P (oBin .neq T.int false false d e) λf=>
 cd f (
 K (tup [(.bool false)]) w) (
 c [] w)
theorem zkl(h:zgi t0 t1 w K):Cl P Fn.bE #[t0,t1] w K:=ce (T:=tb [] [(4,[15])]) Tryz.func18 rfl h
def zmd(b h:Value)(w:World)(K:Value->World->Prop):Prop:=
 st P (oBox T.ae h) w λc d=>
 rd P (zab T.ae c) d.drew λa=>
 (st P (zam T.aw 0 #[]) d.drew λf e=>
 hold P (zab T.ae c) a e/\(st P (zac .append #[T.aw,T.aw] T.aw #[false,false] #[f,b]) e λi g=>
 hold P (zab T.ae c) a g/\st P (zam T.aw 1 #[(0,a)]) g λj k=>
 st P (zac .append #[T.aw,T.aw] T.aw #[false,false] #[i,j]) k λl m=>
 K (tup [l]) m)/\(st P (zam T.aw 1 #[(0,a)]) e λn o=>
 st P (zac .append #[T.aw,T.aw] T.aw #[false,false] #[f,b]) o λp q=>
 st P (zac .append #[T.aw,T.aw] T.aw #[false,false] #[p,n]) q λr s=>
 K (tup [r]) s))/\(st P (zam T.aw 1 #[(0,a)]) d.drew λt u=>
 st P (zam T.aw 0 #[]) u λv x=>
 st P (zac .append #[T.aw,T.aw] T.aw #[false,false] #[v,b]) x λy z=>
 st P (zac .append #[T.aw,T.aw] T.aw #[false,false] #[y,t]) z λA B=>
 K (tup [A]) B)
theorem zpg(h:zmd t0 t1 w K):Cl P Fn.dC #[t0,t1] w K:=ce (T:=tb [] []) Tryz.func20 rfl h
def zju(d i:Value)(w:World)(K:Value->World->Prop):Prop:=
 st P (zbw T.ar) w λa j=>
 jn (λG H k=>
 pu P (zaw T.ar #[]) λl=>
 st P (zai T.ar a l) k λ_ e=>
 rsl P T.ar a e λr1=>
 K (tup [r1,(.bool false)]) e) λm=>
 pu P (zac .len #[T.aE] T.int #[false] #[d]) λn=>
 lp [(.int .i64 0)] j λb I f o=>
 pu P (oBin .lss T.int false false (gs b 0) n) λp=>
 jn (λJ L q=>
 jn (λM N r=>
 pu P (oBin .add T.int false true (gs b 0) (.int .i64 1)) λs=>
 o [s] r) λt=>
 pu P (zaO T.aE d (gs b 0)) λu=>
 st P (zab T.ar u) q λv x=>
 st P (zbw T.ar) x λc y=>
 st P (zai T.ar c v) y λ_ z=>
 pu P (zad T.ar c 0) λA=>
 st P (zab T.string A) z λB g=>
 pu P (oBin .eql T.string false false B i) λC=>
 cd C (
 st P (zab T.ar c) g λD E=>
 st P (zai T.ar a D) E λ_ h=>
 rsl P T.ar a h λr2=>
 K (tup [r2,(.bool true)]) h) (
 t [] g)) λF=>
 cd p (
 F [] f) (
 m [] f)
theorem zmG(h:zju t0 t1 w K):Cl P Fn.dh #[t0,t1] w K:=ce (T:=tb [] [(2,[10])]) Tryz.func21 rfl h
def zjB(d:Value)(w:World)(K:Value->World->Prop):Prop:=
 pu P (zac .len #[T.string] T.int #[false] #[d]) λV=>
 pu P (oBin .gtr T.int false true V (.int .i64 0)) λh=>
 gd h true w.drew (λX=>X d w.drew) λY o=>
 gd h true o (λZ=>pu P (oIdx T.string Y (.int .i64 0)) λv=>Z v o) λaa p=>
 gd h true p (λK3=>pu P (oBin .eql T.aJ false true aa (.int .u8 47)) λv=>K3 v p) λab w3=>
 pu P (zaD h ab (.bool false)) λq=>
 st P (zam T.aj 0 #[]) w3 λac w4=>
 jn (λr u1 w5=>
 jn (λk u2 s=>
 jn (λs3 u3 w7=>
 K (tup [(gs k 0)]) w7) λk3=>
 pu P (oBin .eql T.string false true (gs k 0) (S [])) λl=>
 gd l false s (λK4=>K4 (gs k 0) s) λad t=>
 gd l false t (λK5=>pu P (oBin .eql T.string false true ad (S [46,46])) λv=>K5 v t) λae u=>
 pu P (zaD l (.bool true) ae) λaf=>
 cd af (
 K (tup [(S [47])]) u) (
 k3 [] u)) λk2=>
 pu P (zac .len #[T.aj] T.int #[false] #[(gs r 0)]) λag=>
 lp [(S []),(.int .i64 0)] w5 λc u4 x C1=>
 pu P (oBin .lss T.int false false (gs c 1) ag) λah=>
 jn (λs5 u5 ai=>
 jn (λs6 u6 aj=>
 pu P (oBin .add T.int false true (gs c 1) (.int .i64 1)) λak=>
 C1 [(gs s6 0),ak] aj) λk5=>
 pu P (zaO T.aj (gs r 0) (gs c 1)) λal=>
 st P (zab T.string al) ai λam y=>
 jn (λs7 u7 an=>
 pu P (oBin .add T.string false false (gs s7 0) am) λao=>
 k5 [ao] an) λz=>
 pu P (oBin .gtr T.int false true (gs c 1) (.int .i64 0)) λA=>
 gd A false y (λK6=>K6 q y) λap B=>
 pu P (zaD A (.bool true) ap) λaq=>
 cd aq (
 pu P (oBin .add T.string false true (gs c 0) (S [47])) λar=>
 z [ar] B) (
 z [(gs c 0)] B)) λk4=>
 cd ah (
 k4 [] x) (
 k2 [(gs c 0)] x)) λk1=>
 lp [ac,(.int .i64 0)] w4 λa u8 C C2=>
 jn (λs9 u9 au=>
 jn (λD b9 E=>
 jn (λav ca aw=>
 pu P (oBin .add T.int false true (gs D 0) (.int .i64 1)) λax=>
 C2 [(gs av 0),ax] aw) λe=>
 pu P (zaE T.string d (some (gs a 1)) (some (gs D 0)) none) λf=>
 pu P (oBin .eql T.string false true f (S [])) λm=>
 gd m false E (λK7=>K7 f E) λay F=>
 gd m false F (λK8=>pu P (oBin .eql T.string false true ay (S [46])) λv=>K8 v F) λaz i=>
 pu P (zaD m (.bool true) az) λa0=>
 cd a0 (
 e [(gs a 0)] i) (
 pu P (oBin .neq T.string false true f (S [46,46])) λa1=>
 cd a1 (
 st P (zam T.aj 1 #[(0,f)]) i λa2 a3=>
 st P (zac .append #[T.aj,T.aj] T.aj #[false,false] #[(gs a 0),a2]) a3 λa4 a5=>
 e [a4] a5) (
 pu P (zac .len #[T.aj] T.int #[false] #[(gs a 0)]) λa6=>
 pu P (oBin .gtr T.int false true a6 (.int .i64 0)) λb=>
 gd b true i (λK9=>K9 (gs a 0) i) λa7 G=>
 gd b true G (λa8=>a8 (gs a 0) G) λa9 H=>
 gd b true H (λba=>pu P (zac .len #[T.aj] T.int #[false] #[a9]) λv=>ba v H) λbb I=>
 gd b true I (λbc=>pu P (oBin .sub T.int false true bb (.int .i64 1)) λv=>bc v I) λbd J=>
 gd b true J (λbe=>pu P (zaO T.aj a7 bd) λv=>be v J) λbf L=>
 gd b true L (λbg=>st P (zab T.string bf) L bg) λbh M=>
 gd b true M (λbi=>pu P (oBin .neq T.string false true bh (S [46,46])) λv=>bi v M) λbj n=>
 pu P (zaD b bj (.bool false)) λbk=>
 cd bk (
 pu P (zac .len #[T.aj] T.int #[false] #[(gs a 0)]) λbl=>
 pu P (oBin .sub T.int false true bl (.int .i64 1)) λbm=>
 pu P (zaE T.aj (gs a 0) none (some bm) none) λbn=>
 e [bn] n) (
 pu P (oUn .not q) λbo=>
 cd bo (
 st P (zam T.aj 1 #[(0,f)]) n λbp bq=>
 st P (zac .append #[T.aj,T.aj] T.aj #[false,false] #[(gs a 0),bp]) bq λbr bs=>
 e [br] bs) (
 e [(gs a 0)] n))))) λk8=>
 lp [(gs a 1)] au λj cb N C3=>
 jn (λcc ce bt=>
 pu P (oBin .add T.int false true (gs j 0) (.int .i64 1)) λbu=>
 C3 [bu] bt) λbv=>
 pu P (zac .len #[T.string] T.int #[false] #[d]) λbw=>
 pu P (oBin .lss T.int false false (gs j 0) bw) λg=>
 gd g true N (λbx=>bx d N) λbz O=>
 gd g true O (λb0=>b0 (gs j 0) O) λb1 Q=>
 gd g true Q (λb2=>pu P (oIdx T.string bz b1) λv=>b2 v Q) λb3 R=>
 gd g true R (λb4=>pu P (oBin .neq T.aJ false true b3 (.int .u8 47)) λv=>b4 v R) λb5 U=>
 pu P (zaD g b5 (.bool false)) λb6=>
 cd b6 (
 bv [] U) (
 k8 [(gs j 0)] U)) λk7=>
 pu P (zac .len #[T.string] T.int #[false] #[d]) λb7=>
 pu P (oBin .lss T.int false false (gs a 1) b7) λb8=>
 cd b8 (
 k7 [] C) (
 k1 [(gs a 0)] C)
theorem zmB(h:zjB t0 w K):Cl P Fn.ay #[t0] w K:=ce (T:=tb [(7,[6]),(15,[3]),(16,[3]),(22,[8]),(23,[8]),(24,[8])] [(3,[3,5]),(5,[6]),(18,[8,84])]) Tryz.func22 rfl h
def zh0(b:Value)(w:World)(K:Value->World->Prop):Prop:=
 st P (zah Fn.cS #[b]) w λa c=>
 pu P (zae a 0) λe=>
 pu P (zae a 1) λd=>
 K (tup [d]) c
theorem zlf(h:zh0 t0 w K):Cl P Fn.cM #[t0] w K:=ce (T:=tb [] []) Tryz.func24 rfl h
def zhh(c o:Value)(w:World)(K:Value->World->Prop):Prop:=
 st P (oBox T.ae o) w λp q=>
 st P (zbw T.ab) q λa r=>
 st P (zab T.ae p) r λs t=>
 st P (zah Fn.dC #[c,s]) t λb u=>
 jn (λM N v=>
 st P (zah Fn.cM #[b]) v λf g=>
 jn (λO Q h=>
 pu P (zac .len #[T.aw] T.int #[false] #[c]) λx=>
 pu P (zaO T.aK f x) λd=>
 rd P (zab T.ab d) h.drew λe=>
 st P (zah Fn.ck #[c]) h.drew λy i=>
 hold P (zab T.ab d) e i/\st P (zah Fn.ck #[b]) i λz j=>
 hold P (zab T.ab d) e j/\st P (zai T.ab a e) j λ_ k=>
 rsl P T.ab a k λr1=>
 K (tup [r1,y,z,(.bool true),(.bool true)]) k) λA=>
 pu P (zac .len #[T.aK] T.int #[false] #[f]) λB=>
 pu P (zac .len #[T.aw] T.int #[false] #[b]) λC=>
 pu P (oBin .neq T.int false false B C) λD=>
 cd D (
 st P (zab T.ab a) g λE F=>
 st P (zai T.ab a E) F λ_ l=>
 rsl P T.ab a l λr2=>
 K (tup [r2,(.slice none 0 0),(.slice none 0 0),(.bool true),(.bool false)]) l) (
 A [] g)) λG=>
 st P (zah Fn.dt #[b]) u λH m=>
 pu P (oUn .not H) λI=>
 cd I (
 st P (zab T.ab a) m λJ L=>
 st P (zai T.ab a J) L λ_ n=>
 rsl P T.ab a n λr3=>
 K (tup [r3,(.slice none 0 0),(.slice none 0 0),(.bool false),(.bool true)]) n) (
 G [] m)
theorem zkL(h:zhh t0 t1 w K):Cl P Fn.cH #[t0,t1] w K:=ce (T:=tb [] []) Tryz.func34 rfl h
def ziN(d c:Value)(w:World)(K:Value->World->Prop):Prop:=
 jn (λZ u1 e=>
 pu P (zac .len #[T.string] T.int #[false] #[d]) λp=>
 pu P (zac .len #[T.string] T.int #[false] #[c]) λq=>
 pu P (oBin .gtr T.int false false p q) λa=>
 gd a true e (λr=>r d e) λs f=>
 gd a true f (λt=>t c f) λu g=>
 gd a true g (λx=>pu P (zac .len #[T.string] T.int #[false] #[u]) λv=>x v g) λy h=>
 gd a true h (λz=>pu P (zaE T.string s none (some y) none) λv=>z v h) λA i=>
 gd a true i (λB=>B c i) λC j=>
 gd a true j (λD=>pu P (oBin .eql T.string false false A C) λv=>D v j) λE k=>
 pu P (zaD a E (.bool false)) λb=>
 gd b true k (λF=>F d k) λG l=>
 gd b true l (λH=>H c l) λI m=>
 gd b true m (λJ=>pu P (zac .len #[T.string] T.int #[false] #[I]) λv=>J v m) λL n=>
 gd b true n (λM=>pu P (oIdx T.string G L) λv=>M v n) λN o=>
 gd b true o (λO=>pu P (oBin .eql T.aJ false true N (.int .u8 47)) λv=>O v o) λQ R=>
 pu P (zaD b Q (.bool false)) λU=>
 K (tup [U]) R) λV=>
 pu P (oBin .eql T.string false true c (S [47])) λX=>
 cd X (
 pu P (oBin .neq T.string false true d (S [47])) λY=>
 K (tup [Y]) w) (
 V [] w)
theorem zlZ(h:ziN t0 t1 w K):Cl P Fn.bR #[t0,t1] w K:=ce (T:=tb [] []) Tryz.func36 rfl h
end
end Go.Proofs.YtdljebgllipdjaaGreatDoor.X
end
