/- What the claim needs of the texts on it, laid together. No condition. -/
import Derived.Test.YtdljebgllipdjaaGreatDoorZMemSets0
set_option linter.unusedVariables false
set_option linter.unusedSimpArgs false
set_option linter.unusedSectionVars false
set_option maxRecDepth 100000
section
namespace Go.Proofs.YtdljebgllipdjaaGreatDoor.X
open Go Go.X Go.Proofs
section
variable{t0 t1 t2 t3 t4:Value}{w:World}{K:Value->World->Prop}
def zfK(c d:Value)(K:Value->World->Prop)(y:List Value)(z:Env)(a:World):Prop:=
 pu P (oNil c) λi=>
 pu P (zad T.aA i 3) λj=>
 rd P (zab T.aH j) a.drew λk=>
 pu P (zad T.ae d 5) λl=>
 rd P (zab T.int l) a.drew λm=>
 rd P (za3 T.aH k m false) a.drew λe=>
 pu P (oBin .eql T.aT false true e (.pointer none)) λb=>
 gd b false a.drew (λn=>n c a.drew) λo f=>
 gd b false f (λp=>p e f) λq g=>
 gd b false g (λr=>st P (zab T.ae d) g r) λs h=>
 gd b false h (λt=>st P (zah Fn.bL #[o,q,s]) h t) λu v=>
 pu P (zaD b (.bool true) u) λx=>
 K (tup [x]) v
def zce(b:Value)(g:World)(h:Value)(K:Value->World->Prop)(i:List Value->World->Prop):Prop:=
 pu P (zad T.ae b 0) λj=>
 st P (zab T.int j) g λk c=>
 pu P (oBin .geq T.int false true k (.int .i64 3)) λa=>
 gd a true c (λl=>pu P (zad T.ae b 0) λv=>l v c) λm d=>
 gd a true d (λn=>st P (zab T.int m) d n) λo e=>
 gd a true e (λp=>pu P (oBin .leq T.int false true o (.int .i64 11)) λv=>p v e) λq f=>
 pu P (zaD a q (.bool false)) λr=>
 cd r (
 st P (zab T.ae b) f λs t=>
 st P (zah Fn.br #[h,s]) t λu x=>
 K (tup [u]) x) (
 i [] f)
def zf3(c a:Value)(K:Value->World->Prop)(y:List Value)(z:Env)(h:World):Prop:=
 jn (zfK c a K) λi=>
 pu P (zad T.ae a 0) λj=>
 st P (zab T.int j) h λk d=>
 pu P (oBin .geq T.int false true k (.int .i64 0)) λb=>
 gd b true d (λl=>pu P (zad T.ae a 0) λv=>l v d) λm e=>
 gd b true e (λn=>st P (zab T.int m) e n) λo f=>
 gd b true f (λp=>pu P (oBin .leq T.int false true o (.int .i64 2)) λv=>p v f) λq g=>
 pu P (zaD b q (.bool false)) λr=>
 cd r (
 st P (zab T.ae a) g λs t=>
 st P (zah Fn.bK #[c,s]) t λu x=>
 K (tup [u]) x) (zce a g c K i)
def zg5(m n:Value)(w:World)(K:Value->World->Prop):Prop:=
 st P (oBox T.ae n) w λc o=>
 jn (zf3 m c K) λp=>
 pu P (zad T.ae c 1) λq=>
 st P (zab T.string q) o λr d=>
 pu P (zac .len #[T.string] T.int #[false] #[r]) λs=>
 pu P (oBin .gtr T.int false true s (.int .i64 400)) λa=>
 gd a false d (λt=>pu P (zad T.ae c 2) λv=>t v d) λu e=>
 gd a false e (λx=>st P (zab T.string u) e x) λy f=>
 gd a false f (λz=>pu P (zac .len #[T.string] T.int #[false] #[y]) λv=>z v f) λA g=>
 gd a false g (λB=>pu P (oBin .gtr T.int false true A (.int .i64 400)) λv=>B v g) λC h=>
 pu P (zaD a (.bool true) C) λb=>
 gd b false h (λD=>pu P (zad T.ae c 6) λv=>D v h) λE i=>
 gd b false i (λF=>st P (zab T.ah E) i F) λG j=>
 gd b false j (λH=>pu P (zac .len #[T.ah] T.int #[false] #[G]) λv=>H v j) λI k=>
 gd b false k (λJ=>pu P (oBin .gtr T.int false true I (.int .i64 4096)) λv=>J v k) λL l=>
 pu P (zaD b (.bool true) L) λM=>
 cd M (
 K (tup [(.bool false)]) l) (
 p [] l)
theorem zkQ(h:zg5 t0 t1 w K):Cl P Fn.cG #[t0,t1] w K:=ce (T:=tb [] []) Tryz.func38 rfl h
def ziu(a d:Value)(w:World)(K:Value->World->Prop):Prop:=
 st P (zah Fn.bv #[a,d]) w λb c=>
 pu P (zae b 0) λe=>
 pu P (zae b 1) λf=>
 jn (λq r g=>
 pu P (oNil a) λh=>
 pu P (zad T.aA h 1) λi=>
 st P (zab T.aR i) g λj k=>
 pu P (zaO T.aR j e) λl=>
 st P (zab T.int l) k λm n=>
 K (tup [m,(.bool true)]) n) λo=>
 pu P (oUn .not f) λp=>
 cd p (
 K (tup [(.int .i64 0),(.bool false)]) c) (
 o [] c)
theorem zl2(h:ziu t0 t1 w K):Cl P Fn.ai #[t0,t1] w K:=ce (T:=tb [] []) Tryz.func40 rfl h
def zhX(b:Value)(w:World)(K:Value->World->Prop):Prop:=
 jn (λr s e=>
 K (tup [(S [47])]) e) λf=>
 pu P (zac .len #[T.string] T.int #[false] #[b]) λg=>
 pu P (oBin .sub T.int false true g (.int .i64 1)) λh=>
 lp [h] w λa t c i=>
 jn (λu v d=>
 jn (λx y j=>
 pu P (oBin .sub T.int false true (gs a 0) (.int .i64 1)) λk=>
 i [k] j) λl=>
 pu P (oIdx T.string b (gs a 0)) λm=>
 pu P (oBin .eql T.aJ false true m (.int .u8 47)) λn=>
 cd n (
 pu P (zaE T.string b none (some (gs a 0)) none) λo=>
 K (tup [o]) d) (
 l [] d)) λp=>
 pu P (oBin .gtr T.int false true (gs a 0) (.int .i64 0)) λq=>
 cd q (
 p [] c) (
 f [] c)
theorem zlq(h:zhX t0 w K):Cl P Fn.bu #[t0] w K:=ce (T:=tb [] [(2,[3])]) Tryz.func46 rfl h
def ziD(a b:Value)(c:List Value)(d:List Value->World->Prop)(i:List Value)(j:Env)(e:World):Prop:=
 st P (zab T.ae a) e λf g=>
 st P (zah Fn.bX #[b,(gs c 0),f]) g λk h=>
 d [] h
def ziR(a:List Value)(e:List Value->World->Prop)(f c:Value)(K:Value->World->Prop)(s:List Value)(t:Env)(g:World):Prop:=
 jn (zas a e) λh=>
 pu P (zaO T.aw f (gs a 0)) λi=>
 st P (zab T.ae i) g λj k=>
 st P (zbw T.ae) k λb l=>
 st P (zai T.ae b j) l λ_ m=>
 jn (ziD b c a h) λn=>
 st P (zab T.ae b) m λo p=>
 st P (zah Fn.cG #[c,o]) p λq d=>
 pu P (oUn .not q) λr=>
 cd r (
 K (tup [(.bool false)]) d) (
 n [] d)
def zix(K:Value->World->Prop)(a:Value)(l:List Value)(m:Env)(d:World):Prop:=
 st P (zah Fn.dp #[]) d λe f=>
 jn (zaV K) λg=>
 pu P (zac .len #[T.aw] T.int #[false] #[a]) λh=>
 lp [(.int .i64 0)] f λb n c i=>
 pu P (oBin .lss T.int false false (gs b 0) h) λj=>
 jn (ziR b i a e K) λk=>
 cd j (
 k [] c) (
 g [] c)
def ziL(d:List Value)(n:List Value->World->Prop)(o:Value)(K:Value->World->Prop)(X:List Value)(Y:Env)(p:World):Prop:=
 jn (zas d n) λq=>
 pu P (zaO T.aw o (gs d 0)) λr=>
 st P (zab T.ae r) p λs t=>
 st P (zbw T.ae) t λc u=>
 st P (zai T.ae c s) u λ_ x=>
 pu P (zad T.ae c 1) λy=>
 st P (zab T.string y) x λz e=>
 pu P (zac .len #[T.string] T.int #[false] #[z]) λA=>
 pu P (oBin .gtr T.int false true A (.int .i64 400)) λa=>
 gd a false e (λB=>pu P (zad T.ae c 2) λv=>B v e) λC f=>
 gd a false f (λD=>st P (zab T.string C) f D) λE g=>
 gd a false g (λF=>pu P (zac .len #[T.string] T.int #[false] #[E]) λv=>F v g) λG h=>
 gd a false h (λH=>pu P (oBin .gtr T.int false true G (.int .i64 400)) λv=>H v h) λI i=>
 pu P (zaD a (.bool true) I) λb=>
 gd b false i (λJ=>pu P (zad T.ae c 6) λv=>J v i) λL j=>
 gd b false j (λM=>st P (zab T.ah L) j M) λN k=>
 gd b false k (λO=>pu P (zac .len #[T.ah] T.int #[false] #[N]) λv=>O v k) λQ l=>
 gd b false l (λR=>pu P (oBin .gtr T.int false true Q (.int .i64 4096)) λv=>R v l) λU m=>
 pu P (zaD b (.bool true) U) λV=>
 cd V (
 K (tup [(.bool false)]) m) (
 q [] m)
def zkt(a:Value)(w:World)(K:Value->World->Prop):Prop:=
 jn (zix K a) λd=>
 pu P (zac .len #[T.aw] T.int #[false] #[a]) λe=>
 lp [(.int .i64 0)] w λb i c f=>
 pu P (oBin .lss T.int false false (gs b 0) e) λg=>
 jn (ziL b f a K) λh=>
 cd g (
 h [] c) (
 d [] c)
theorem znH(h:zkt t0 w K):Cl P Fn.dq #[t0] w K:=ce (T:=tb [] [(2,[10]),(9,[34])]) Tryz.func49 rfl h
def zjx(e:Value)(w:World)(K:Value->World->Prop):Prop:=
 st P (oBox T.ae e) w λa f=>
 jn (λz A g=>
 jn (λB C h=>
 jn (λD E i=>
 K (tup [(.bool true)]) i) λj=>
 pu P (zad T.ae a 6) λk=>
 st P (zab T.ah k) h λl b=>
 pu P (zac .len #[T.ah] T.int #[false] #[l]) λm=>
 pu P (oBin .gtr T.int false true m (.int .i64 2147483647)) λn=>
 cd n (
 K (tup [(.bool false)]) b) (
 j [] b)) λo=>
 pu P (zad T.ae a 2) λp=>
 st P (zab T.string p) g λq c=>
 pu P (zac .len #[T.string] T.int #[false] #[q]) λr=>
 pu P (oBin .gtr T.int false true r (.int .i64 2147483647)) λs=>
 cd s (
 K (tup [(.bool false)]) c) (
 o [] c)) λt=>
 pu P (zad T.ae a 1) λu=>
 st P (zab T.string u) f λv d=>
 pu P (zac .len #[T.string] T.int #[false] #[v]) λx=>
 pu P (oBin .gtr T.int false true x (.int .i64 2147483647)) λy=>
 cd y (
 K (tup [(.bool false)]) d) (
 t [] d)
theorem zmD(h:zjx t0 w K):Cl P Fn.dk #[t0] w K:=ce (T:=tb [] []) Tryz.func61 rfl h
def zkj(w:World)(K:Value->World->Prop):Prop:=
 st P (zam T.aj 1 #[(0,(S [47]))]) w λa b=>
 st P (zam T.aR 1 #[(0,(.int .i64 0))]) b λc d=>
 pu P (zaw T.ag #[(0,(.bool true)),(1,(.int .i64 2147484141)),(4,(S [47]))]) λe=>
 st P (zam T.ap 1 #[(0,e)]) d λf g=>
 st P (zlF T.aH none) g λh i=>
 pu P (zaw T.aA #[(0,a),(1,c),(2,f),(3,h)]) λj=>
 st P (oBox T.aA j) i λk l=>
 K (tup [k]) l
theorem znK(h:zkj w K):Cl P Fn.dp #[] w K:=ce (T:=tb [] []) Tryz.func62 rfl h
def ziP(c d e a:Value)(K:Value->World->Prop)(k:List Value)(l:Env)(f:World):Prop:=
 st P (zab T.ae c) f λg h=>
 st P (zah Fn.cW #[d,e,g]) h λi j=>
 st P (zai T.ab a i) j λ_ b=>
 rsl P T.ab a b λr1=>
 K (tup [r1]) b
def zi2(f b e:Value)(K:Value->World->Prop)(L:List Value)(M:Env)(a:World):Prop:=
 pu P (oNil f) λo=>
 pu P (zad T.aA o 3) λp=>
 rd P (zab T.aH p) a.drew λq=>
 pu P (zad T.ae b 5) λr=>
 rd P (zab T.int r) a.drew λs=>
 rd P (za3 T.aH q s false) a.drew λg=>
 jn (ziP b f g e K) λt=>
 pu P (oBin .eql T.aT false true g (.pointer none)) λc=>
 gd c false a.drew (λu=>pu P (zad T.ae b 0) λv=>u v a.drew) λx h=>
 gd c false h (λy=>st P (zab T.int x) h y) λz i=>
 gd c false i (λA=>pu P (oBin .lss T.int false true z (.int .i64 12)) λv=>A v i) λB j=>
 pu P (zaD c (.bool true) B) λd=>
 gd d false j (λC=>pu P (zad T.ae b 0) λv=>C v j) λD k=>
 gd d false k (λE=>st P (zab T.int D) k E) λF l=>
 gd d false l (λG=>pu P (oBin .gtr T.int false true F (.int .i64 23)) λv=>G v l) λH m=>
 pu P (zaD d (.bool true) H) λI=>
 cd I (
 pu P (zaw T.ab #[(0,(.int .i64 13))]) λJ=>
 st P (zai T.ab e J) m λ_ n=>
 rsl P T.ab e n λr2=>
 K (tup [r2]) n) (
 t [] m)
def zeb(b:Value)(i:World)(j c:Value)(K:Value->World->Prop)(k:List Value->World->Prop):Prop:=
 pu P (zad T.ae b 0) λl=>
 st P (zab T.int l) i λm d=>
 pu P (oBin .geq T.int false true m (.int .i64 3)) λa=>
 gd a true d (λn=>pu P (zad T.ae b 0) λv=>n v d) λo e=>
 gd a true e (λp=>st P (zab T.int o) e p) λq f=>
 gd a true f (λr=>pu P (oBin .leq T.int false true q (.int .i64 11)) λv=>r v f) λs g=>
 pu P (zaD a s (.bool false)) λt=>
 cd t (
 st P (zab T.ae b) g λu x=>
 st P (zah Fn.cO #[j,u]) x λy z=>
 st P (zai T.ab c y) z λ_ h=>
 rsl P T.ab c h λr4=>
 K (tup [r4]) h) (
 k [] g)
def zfv(d j k:Value)(w:World)(K:Value->World->Prop):Prop:=
 st P (oBox T.ae k) w λa l=>
 st P (zbw T.ab) l λb m=>
 jn (zi2 d a b K) λn=>
 pu P (zad T.ae a 0) λo=>
 st P (zab T.int o) m λp e=>
 pu P (oBin .geq T.int false true p (.int .i64 0)) λc=>
 gd c true e (λq=>pu P (zad T.ae a 0) λv=>q v e) λr f=>
 gd c true f (λs=>st P (zab T.int r) f s) λt g=>
 gd c true g (λu=>pu P (oBin .leq T.int false true t (.int .i64 2)) λv=>u v g) λx h=>
 pu P (zaD c x (.bool false)) λy=>
 cd y (
 st P (zab T.ae a) h λz A=>
 st P (zah Fn.cZ #[d,j,z]) A λB C=>
 st P (zai T.ab b B) C λ_ i=>
 rsl P T.ab b i λr3=>
 K (tup [r3]) i) (zeb a h d b K n)
theorem zhJ(h:zfv t0 t1 t2 w K):Cl P Fn.bX #[t0,t1,t2] w K:=ce (T:=tb [] []) Tryz.func63 rfl h
def ziU(K:Value->World->Prop)(a:Value)(b:List Value)(d:Env)(c:World):Prop:=K (tup [a,(gs b 0)]) c
def zdL(a:List Value)(b:List Value->World->Prop)(c:List Value)(f:Env)(d:World):Prop:=
 pu P (oBin .add T.int false true (gs a 1) (.int .i64 1)) λe=>
 b [(gs c 0),e] d
def zdJ(a:List Value)(b:Value)(c:List Value->World->Prop)(o:List Value)(p:Env)(d:World):Prop:=
 st P (zah Fn.bY #[(gs a 1)]) d λe f=>
 pu P (zad T.ab b 0) λg=>
 st P (zai T.int g e) f λ_ h=>
 st P (zab T.ab b) h λi j=>
 st P (zam T.aK 1 #[(0,i)]) j λk l=>
 st P (zac .append #[T.aK,T.aK] T.aK #[false,false] #[(gs a 0),k]) l λm n=>
 c [m] n
def zbx(a:List Value)(c:Value)(h:List Value->World->Prop)(t:List Value)(u:Env)(d:World):Prop:=
 jn (zdJ a c h) λe=>
 pu P (oBin .eql T.aB false true (gs a 1) .nilIface) λb=>
 gd b true d (λi=>i (gs a 3) d) λj f=>
 gd b true f (λk=>pu P (oBin .neq T.aG false true j (.pointer none)) λv=>k v f) λl g=>
 pu P (zaD b l (.bool false)) λm=>
 cd m (
 st P (zam T.aP 1 #[(0,(gs a 3))]) g λn o=>
 st P (zah Fn.bn #[n]) o λp q=>
 pu P (zad T.ab c 5) λr=>
 st P (zai T.aM r p) q λ_ s=>
 e [] s) (
 e [] g)
def za9(g:Value)(h:List Value->World->Prop)(i:Value)(j a:List Value)(q:Env)(c:World):Prop:=
 jn (zbx a g h) λd=>
 pu P (oBin .eql T.aB false true (gs a 1) .nilIface) λb=>
 gd b true c (λk=>k (gs a 2) c) λl e=>
 gd b true e (λm=>pu P (oBin .neq T.aX false true l (.pointer none)) λv=>m v e) λn f=>
 pu P (zaD b n (.bool false)) λo=>
 cd o (
 st P (zee T.aQ i (gs j 1) (gs a 2)) f λ_ p=>
 d [] p) (
 d [] f)
def zd3(b:Value)(c:World)(d:Value)(e:List Value->World->Prop)(f:List Value):Prop:=
 pu P (zad T.ae b 1) λg=>
 st P (zab T.string g) c λh i=>
 st P (zah Fn.aG #[d,h]) i λa j=>
 pu P (zae a 0) λk=>
 pu P (zae a 1) λl=>
 e [(gs f 0),l,k,(.pointer none)] j
def zfE(b:Value)(c:World)(d:Value)(e:List Value->World->Prop)(f:List Value):Prop:=
 pu P (zad T.ae b 1) λg=>
 st P (zab T.string g) c λh i=>
 st P (zah Fn.aM #[d,h]) i λa j=>
 pu P (zae a 0) λk=>
 pu P (zae a 1) λl=>
 e [(gs f 0),l,k,(.pointer none)] j
def zfP(a:Value)(c:World)(d:Value)(e:List Value->World->Prop)(f:List Value):Prop:=
 pu P (zad T.ae a 1) λg=>
 st P (zab T.string g) c λh i=>
 pu P (zad T.ae a 3) λj=>
 st P (zab T.int j) i λk l=>
 pu P (zad T.ae a 4) λm=>
 st P (zab T.int m) l λn o=>
 pu P (zj8 T.int T.aW n) λp=>
 st P (zah Fn.aT #[d,h,k,p]) o λb q=>
 pu P (zae b 0) λr=>
 pu P (zae b 1) λs=>
 e [(gs f 0),s,r,(.pointer none)] q
def zfJ(a:Value)(b:World)(c:Value)(d:List Value->World->Prop)(e:List Value):Prop:=
 pu P (zad T.ae a 1) λf=>
 st P (zab T.string f) b λg h=>
 pu P (zad T.ae a 4) λi=>
 st P (zab T.int i) h λj k=>
 pu P (zj8 T.int T.aW j) λl=>
 st P (zah Fn.aJ #[c,g,l]) k λm n=>
 d [(gs e 0),m,(.pointer none),(.pointer none)] n
def ze9(a:Value)(b:World)(c:Value)(d:List Value->World->Prop)(e:List Value):Prop:=
 pu P (zad T.ae a 1) λf=>
 st P (zab T.string f) b λg h=>
 pu P (zad T.ae a 4) λi=>
 st P (zab T.int i) h λj k=>
 pu P (zj8 T.int T.aW j) λl=>
 st P (zah Fn.aQ #[c,g,l]) k λm n=>
 d [(gs e 0),m,(.pointer none),(.pointer none)] n
def zeZ(a:Value)(b:World)(c:Value)(d:List Value->World->Prop)(e:List Value):Prop:=
 pu P (zad T.ae a 1) λf=>
 st P (zab T.string f) b λg h=>
 pu P (zad T.ae a 2) λi=>
 st P (zab T.string i) h λj k=>
 st P (zah Fn.a7 #[c,g,j]) k λl m=>
 d [(gs e 0),l,(.pointer none),(.pointer none)] m
def zfa(b:Value)(c:World)(d:Value)(e:List Value->World->Prop)(f:List Value):Prop:=
 pu P (zad T.ae b 1) λg=>
 st P (zab T.string g) c λh i=>
 st P (zah Fn.bJ #[d,h]) i λa j=>
 pu P (zae a 0) λk=>
 pu P (zae a 1) λl=>
 e [(gs f 0),l,(.pointer none),k] j
def ze8(a:Value)(b:World)(c:Value)(d:List Value->World->Prop)(e:List Value):Prop:=
 pu P (zad T.ae a 1) λf=>
 st P (zab T.string f) b λg h=>
 pu P (zad T.ae a 4) λi=>
 st P (zab T.int i) h λj k=>
 pu P (zj8 T.int T.aW j) λl=>
 st P (zah Fn.bo #[c,g,l]) k λm n=>
 d [(gs e 0),m,(.pointer none),(.pointer none)] n
def ze1(a:Value)(b:World)(c:Value)(d:List Value->World->Prop)(e:List Value):Prop:=
 pu P (zad T.ae a 1) λf=>
 st P (zab T.string f) b λg h=>
 pu P (zad T.ae a 9) λi=>
 st P (zab T.int i) h λj k=>
 pu P (zad T.ae a 8) λl=>
 st P (zab T.int l) k λm n=>
 st P (zah Fn.bw #[c,g,j,m]) n λo p=>
 d [(gs e 0),o,(.pointer none),(.pointer none)] p
def ze5(a:Value)(b:World)(c:Value)(d:List Value->World->Prop)(e:List Value):Prop:=
 pu P (zad T.ae a 1) λf=>
 st P (zab T.string f) b λg h=>
 pu P (zad T.ae a 7) λi=>
 st P (zab T.aC i) h λj k=>
 pu P (zad T.ae a 7) λl=>
 st P (zab T.aC l) k λm n=>
 st P (zah Fn.aW #[c,g,j,m]) n λo p=>
 d [(gs e 0),o,(.pointer none),(.pointer none)] p
def zc9(a:Value)(b:List Value)(c:List Value->World->Prop)(k:List Value)(l:Env)(d:World):Prop:=
 st P (zab T.ab a) d λe f=>
 st P (zam T.aK 1 #[(0,e)]) f λg h=>
 st P (zac .append #[T.aK,T.aK] T.aK #[false,false] #[(gs b 0),g]) h λi j=>
 c [i] j
def zeY(b:Value)(f:World)(g a:Value)(h:List Value)(i:List Value->World->Prop):Prop:=
 pu P (zad T.ae b 5) λj=>
 st P (zab T.int j) f λk l=>
 st P (za3 T.aQ g k true) l λc d=>
 pu P (zae c 0) λm=>
 pu P (zae c 1) λn=>
 jn (zc9 a h i) λe=>
 cd n (
 st P (zab T.ae b) d λo p=>
 st P (zah Fn.dw #[m,o]) p λq r=>
 st P (zai T.ab a q) r λ_ s=>
 e [] s) (
 pu P (zad T.ab a 0) λt=>
 st P (zai T.int t (.int .i64 13)) d λ_ u=>
 e [] u)
def zhZ(d a:Value)(b:World)(e:Value)(f:List Value->World->Prop)(c:List Value)(g h:Value)(i:List Value->World->Prop):Prop:=
 pu P (oBin .eql T.int false true d (.int .i64 11)) λj=>
 cd j (ze5 a b e f c) (zeY a b g h c i)
def zh4(a b:Value)(c:World)(d:Value)(e:List Value->World->Prop)(f:List Value)(g h:Value)(i:List Value->World->Prop):Prop:=
 pu P (oBin .eql T.int false true a (.int .i64 10)) λj=>
 cd j (ze1 b c d e f) (zhZ a b c d e f g h i)
def zhT(a b:Value)(c:World)(d:Value)(e:List Value->World->Prop)(f:List Value)(g h:Value)(i:List Value->World->Prop):Prop:=
 pu P (oBin .eql T.int false true a (.int .i64 9)) λj=>
 cd j (ze8 b c d e f) (zh4 a b c d e f g h i)
def zhW(a b:Value)(c:World)(d:Value)(e:List Value->World->Prop)(f:List Value)(g h:Value)(i:List Value->World->Prop):Prop:=
 pu P (oBin .eql T.int false true a (.int .i64 8)) λj=>
 cd j (zfa b c d e f) (zhT a b c d e f g h i)
def zh5(a b:Value)(c:World)(d:Value)(e:List Value->World->Prop)(f:List Value)(g h:Value)(i:List Value->World->Prop):Prop:=
 pu P (oBin .eql T.int false true a (.int .i64 7)) λj=>
 cd j (zeZ b c d e f) (zhW a b c d e f g h i)
def zhU(a b:Value)(c:World)(d:Value)(e:List Value->World->Prop)(f:List Value)(g h:Value)(i:List Value->World->Prop):Prop:=
 pu P (oBin .eql T.int false true a (.int .i64 6)) λj=>
 cd j (
 pu P (zad T.ae b 1) λk=>
 st P (zab T.string k) c λl m=>
 st P (zah Fn.aA #[d,l]) m λn o=>
 e [(gs f 0),n,(.pointer none),(.pointer none)] o) (zh5 a b c d e f g h i)
def zh1(a b:Value)(c:World)(d:Value)(e:List Value->World->Prop)(f:List Value)(g h:Value)(i:List Value->World->Prop):Prop:=
 pu P (oBin .eql T.int false true a (.int .i64 5)) λj=>
 cd j (
 pu P (zad T.ae b 1) λk=>
 st P (zab T.string k) c λl m=>
 st P (zah Fn.aE #[d,l]) m λn o=>
 e [(gs f 0),n,(.pointer none),(.pointer none)] o) (zhU a b c d e f g h i)
def zhO(a b:Value)(c:World)(d:Value)(e:List Value->World->Prop)(f:List Value)(g h:Value)(i:List Value->World->Prop):Prop:=
 pu P (oBin .eql T.int false true a (.int .i64 4)) λj=>
 cd j (ze9 b c d e f) (zh1 a b c d e f g h i)
def zh8(a b:Value)(c:World)(d:Value)(e:List Value->World->Prop)(f:List Value)(g h:Value)(i:List Value->World->Prop):Prop:=
 pu P (oBin .eql T.int false true a (.int .i64 3)) λj=>
 cd j (zfJ b c d e f) (zhO a b c d e f g h i)
def zhV(a b:Value)(c:World)(d:Value)(e:List Value->World->Prop)(f:List Value)(g h:Value)(i:List Value->World->Prop):Prop:=
 pu P (oBin .eql T.int false true a (.int .i64 2)) λj=>
 cd j (zfP b c d e f) (zh8 a b c d e f g h i)
def ze2(a b:Value)(c:World)(d:Value)(e:List Value->World->Prop)(f:List Value)(g h:Value)(i:List Value->World->Prop):Prop:=
 pu P (oBin .eql T.int false true a (.int .i64 1)) λj=>
 cd j (zfE b c d e f) (zhV a b c d e f g h i)
def zia(a:List Value)(j:List Value->World->Prop)(k d e:Value)(x:List Value)(y:Env)(l:World):Prop:=
 jn (zdL a j) λf=>
 pu P (zaO T.aw k (gs a 1)) λm=>
 st P (zab T.ae m) l λn o=>
 st P (zbw T.ae) o λb p=>
 st P (zai T.ae b n) p λ_ q=>
 pu P (zaw T.ab #[]) λr=>
 st P (zbw T.ab) q λc s=>
 st P (zai T.ab c r) s λ_ t=>
 jn (za9 c f d a) λg=>
 pu P (zad T.ae b 0) λu=>
 st P (zab T.int u) t λh i=>
 pu P (oBin .eql T.int false true h (.int .i64 0)) λv=>
 cd v (zd3 b i e g a) (ze2 h b i e g a d c f)
def zko(b:Value)(w:World)(K:Value->World->Prop):Prop:=
 st P (zah Fn.ci #[]) w λc e=>
 st P (zlF T.aQ none) e λf g=>
 jn (ziU K c) λh=>
 pu P (zac .len #[T.aw] T.int #[false] #[b]) λi=>
 lp [(.slice none 0 0),(.int .i64 0)] g λa m d j=>
 pu P (oBin .lss T.int false false (gs a 1) i) λk=>
 jn (zia a j b f c) λl=>
 cd k (
 l [] d) (
 h [(gs a 0)] d)
theorem znM(h:zko t0 w K):Cl P Fn.cS #[t0] w K:=ce (T:=tb [(41,[6,10,11,12]),(47,[6]),(48,[6])] [(5,[6,19])]) Tryz.func64 rfl h
def zkn(c:Value)(w:World)(K:Value->World->Prop):Prop:=
 jn (λh N i=>
 K (tup [(gs h 0)]) i) λj=>
 st P (zah Fn.aL #[c]) w λd k=>
 pu P (zac .len #[T.aj] T.int #[false] #[d]) λl=>
 lp [(.slice none 0 0),(.int .i64 0)] k λa O e m=>
 pu P (oBin .lss T.int false false (gs a 1) l) λn=>
 jn (λQ R o=>
 pu P (zaO T.aj d (gs a 1)) λp=>
 st P (zab T.string p) o λf q=>
 st P (zah Fn.aR #[c,f]) q λg r=>
 st P (zah Fn.aY #[g]) r λb s=>
 st P (zah Fn.aq #[b]) s λt u=>
 pu P (zj8 T.aN T.int t) λv=>
 st P (zah Fn.ao #[b]) u λx y=>
 st P (zah Fn.aU #[g]) y λz A=>
 st P (zac .append #[T.ah,T.ah] T.ah #[true,false] #[(.slice none 0 0),z]) A λB C=>
 st P (zah Fn.aB #[b]) C λD E=>
 pu P (zaw T.ar #[(0,f),(1,v),(2,x),(3,B),(4,D)]) λF=>
 st P (zam T.aE 1 #[(0,F)]) E λG H=>
 st P (zac .append #[T.aE,T.aE] T.aE #[false,false] #[(gs a 0),G]) H λI J=>
 pu P (oBin .add T.int false true (gs a 1) (.int .i64 1)) λL=>
 m [I,L] J) λM=>
 cd n (
 M [] e) (
 j [(gs a 0)] e)
theorem znF(h:zkn t0 w K):Cl P Fn.dr #[t0] w K:=ce (T:=tb [(9,[3])] [(3,[3,11])]) Tryz.func65 rfl h
def zdz(f G g h:Value)(K:Value->World->Prop)(s1:List Value)(u1:Env)(H:World):Prop:=
 pu P (zad T.ae f 3) λI=>
 st P (zab T.int I) H λJ i=>
 pu P (oBin .andNot T.int false true J (.int .i64 1731)) λL=>
 pu P (oBin .eql T.int false true L (.int .i64 0)) λb=>
 gd b true i (λM=>M G i) λN j=>
 gd b true j (λO=>O N j) λc k=>
 gd c false k (λQ=>pu P (zad T.ae f 3) λv=>Q v k) λR l=>
 gd c false l (λU=>st P (zab T.int R) l U) λV m=>
 gd c false m (λX=>pu P (oBin .and T.int false true V (.int .i64 64)) λv=>X v m) λY n=>
 gd c false n (λZ=>pu P (oBin .eql T.int false true Y (.int .i64 0)) λv=>Z v n) λaa o=>
 gd b true o (λK7=>pu P (zaD c (.bool true) aa) λv=>K7 v o) λab p=>
 gd b true p (λK8=>K8 ab p) λe q=>
 gd e false q (λK9=>K9 g q) λac r=>
 gd e false r (λad=>ad h r) λae s=>
 gd e false s (λaf=>st P (zah Fn.aP #[ac,ae]) s af) λag t=>
 gd b true t (λah=>pu P (zaD e (.bool true) ag) λv=>ah v t) λai u=>
 pu P (zaD b ai (.bool false)) λa=>
 gd a true u (λaj=>aj g u) λak x=>
 gd a true x (λal=>al h x) λam y=>
 gd a true y (λan=>st P (zah Fn.aO #[ak,am]) y an) λao z=>
 gd a true z (λap=>ap ao z) λd A=>
 gd d true A (λaq=>pu P (zad T.ae f 3) λv=>aq v A) λar B=>
 gd d true B (λau=>st P (zab T.int ar) B au) λav C=>
 gd d true C (λaw=>pu P (oBin .and T.int false true av (.int .i64 512)) λv=>aw v C) λax D=>
 gd d true D (λay=>pu P (oBin .neq T.int false true ax (.int .i64 0)) λv=>ay v D) λaz E=>
 gd a true E (λa0=>pu P (zaD d az (.bool false)) λv=>a0 v E) λa1 F=>
 gd a true F (λa2=>pu P (oUn .not a1) λv=>a2 v F) λa3 a4=>
 pu P (zaD a a3 (.bool false)) λa5=>
 K (tup [a5]) a4
def zd8(b c:Value)(g:World)(K:Value->World->Prop):Prop:=
 st P (zah Fn.aO #[b,c]) g λh d=>
 pu P (oUn .not h) λa=>
 gd a true d (λi=>i b d) λj e=>
 gd a true e (λk=>k c e) λl f=>
 gd a true f (λm=>st P (zah Fn.aP #[j,l]) f m) λn o=>
 pu P (zaD a n (.bool false)) λp=>
 K (tup [p]) o
def zbv(a:Value)(d:World)(e f:Value)(K:Value->World->Prop)(g:List Value->World->Prop):Prop:=
 pu P (zad T.ae a 0) λh=>
 st P (zab T.int h) d λi b=>
 pu P (oBin .eql T.int false true i (.int .i64 0)) λj=>
 cd j (zd8 e f b K) (
 pu P (zad T.ae a 0) λk=>
 st P (zab T.int k) b λl c=>
 pu P (oBin .eql T.int false true l (.int .i64 1)) λm=>
 cd m (
 K (tup [(.bool true)]) c) (
 g [] c))
def zeQ(b f:Value)(w:World)(K:Value->World->Prop):Prop:=
 st P (oBox T.ae f) w λa g=>
 pu P (zad T.ae a 1) λh=>
 st P (zab T.string h) g λi j=>
 st P (zah Fn.ay #[i]) j λc k=>
 st P (zah Fn.ai #[b,c]) k λd l=>
 pu P (zae d 0) λt=>
 pu P (zae d 1) λm=>
 jn (zdz a m b c K) λn=>
 pu P (zad T.ae a 1) λo=>
 st P (zab T.string o) l λp q=>
 st P (zah Fn.cN #[p]) q λr e=>
 pu P (oUn .not r) λs=>
 cd s (
 K (tup [(.bool false)]) e) (zbv a e b c K n)
theorem ziv(h:zeQ t0 t1 w K):Cl P Fn.bK #[t0,t1] w K:=ce (T:=tb [] []) Tryz.func68 rfl h
def zb3(a:Value)(b:World)(e f:Value)(K:Value->World->Prop):Prop:=
 gd a false b (λg=>g e b) λh c=>
 gd a false c (λi=>i f c) λj d=>
 gd a false d (λk=>st P (zah Fn.aP #[h,j]) d k) λl m=>
 pu P (zaD a (.bool true) l) λn=>
 K (tup [n]) m
def zb2(b:Value)(c:World)(h:Value)(K:Value->World->Prop):Prop:=
 pu P (oBin .neq T.string false true b (S [47])) λa=>
 gd a true c (λi=>i h c) λj d=>
 gd a true d (λk=>k b d) λl e=>
 gd a true e (λm=>st P (zah Fn.aH #[j,l]) e m) λn f=>
 gd a true f (λo=>pu P (zac .len #[T.aj] T.int #[false] #[n]) λv=>o v f) λp g=>
 gd a true g (λq=>pu P (oBin .eql T.int false true p (.int .i64 0)) λv=>q v g) λr s=>
 pu P (zaD a r (.bool false)) λt=>
 K (tup [t]) s
def zb4(i:Value)(Q:World)(g j:Value)(K:Value->World->Prop):Prop:=
 pu P (zad T.ae i 2) λR=>
 st P (zab T.string R) Q λU V=>
 st P (zah Fn.ay #[U]) V λc X=>
 pu P (zad T.ae i 2) λY=>
 st P (zab T.string Y) X λZ aa=>
 st P (zah Fn.cN #[Z]) aa λb k=>
 gd b true k (λab=>ab g k) λac l=>
 gd b true l (λad=>ad c l) λae m=>
 gd b true m (λaf=>pu P (oBin .eql T.string false false ac ae) λv=>af v m) λag n=>
 gd b true n (λah=>ah ag n) λa o=>
 gd a false o (λai=>ai g o) λaj p=>
 gd a false p (λak=>pu P (oBin .neq T.string false true aj (S [47])) λv=>ak v p) λal q=>
 gd a false q (λam=>am al q) λh r=>
 gd h true r (λan=>an c r) λao s=>
 gd h true s (λap=>pu P (oBin .neq T.string false true ao (S [47])) λv=>ap v s) λaq t=>
 gd a false t (λar=>pu P (zaD h aq (.bool false)) λv=>ar v t) λau u=>
 gd a false u (λav=>av au u) λd x=>
 gd d true x (λaw=>aw c x) λax y=>
 gd d true y (λay=>ay g y) λaz z=>
 gd d true z (λa0=>st P (zah Fn.bR #[ax,az]) z a0) λa1 A=>
 gd d true A (λa2=>pu P (oUn .not a1) λv=>a2 v A) λa3 B=>
 gd a false B (λa4=>pu P (zaD d a3 (.bool false)) λv=>a4 v B) λa5 C=>
 gd a false C (λa6=>a6 a5 C) λe D=>
 gd e true D (λa7=>a7 j D) λa8 E=>
 gd e true E (λa9=>a9 c E) λba F=>
 gd e true F (λbb=>st P (zah Fn.aO #[a8,ba]) F bb) λbc G=>
 gd e true G (λbd=>pu P (oUn .not bc) λv=>bd v G) λbe H=>
 gd a false H (λbf=>pu P (zaD e be (.bool false)) λv=>bf v H) λbg I=>
 gd a false I (λbh=>bh bg I) λf J=>
 gd f true J (λbi=>bi j J) λbj L=>
 gd f true L (λbk=>bk c L) λbl M=>
 gd f true M (λbm=>st P (zah Fn.aP #[bj,bl]) M bm) λbn N=>
 gd a false N (λbo=>pu P (zaD f bn (.bool false)) λv=>bo v N) λbp O=>
 gd b true O (λbq=>pu P (zaD a (.bool true) bp) λv=>bq v O) λbr bs=>
 pu P (zaD b br (.bool false)) λbt=>
 K (tup [bt]) bs
def zbU(a:Value)(b:World)(f g:Value)(K:Value->World->Prop):Prop:=
 gd a true b (λh=>pu P (zad T.ae f 1) λv=>h v b) λi c=>
 gd a true c (λj=>st P (zab T.string i) c j) λk d=>
 gd a true d (λl=>l g d) λm e=>
 gd a true e (λn=>pu P (oBin .eql T.string false false k m) λv=>n v e) λo p=>
 pu P (zaD a o (.bool false)) λq=>
 K (tup [q]) p
def zbX(b:Value)(f:World)(K:Value->World->Prop):Prop:=
 pu P (zad T.ae b 7) λg=>
 st P (zab T.aC g) f λh c=>
 pu P (oBin .geq T.aC false true h (.int .i64 (-1099511627776))) λa=>
 gd a true c (λi=>pu P (zad T.ae b 7) λv=>i v c) λj d=>
 gd a true d (λk=>st P (zab T.aC j) d k) λl e=>
 gd a true e (λm=>pu P (oBin .leq T.aC false true l (.int .i64 1099511627776)) λv=>m v e) λn o=>
 pu P (zaD a n (.bool false)) λp=>
 K (tup [p]) o
def zdq(a:Value)(c:World)(K:Value->World->Prop)(d:List Value->World->Prop):Prop:=
 pu P (zad T.ae a 0) λe=>
 st P (zab T.int e) c λf b=>
 pu P (oBin .eql T.int false true f (.int .i64 11)) λg=>
 cd g (zbX a b K) (
 d [] b)
def zdo(a:Value)(c:World)(d e:Value)(K:Value->World->Prop)(f:List Value->World->Prop):Prop:=
 pu P (zad T.ae a 0) λg=>
 st P (zab T.int g) c λh b=>
 pu P (oBin .eql T.int false true h (.int .i64 10)) λi=>
 cd i (zbU d b a e K) (zdq a b K f)
def zdr(a:Value)(d:World)(b e:Value)(K:Value->World->Prop)(f:Value)(g:List Value->World->Prop):Prop:=
 pu P (zad T.ae a 0) λh=>
 st P (zab T.int h) d λi c=>
 pu P (oBin .eql T.int false true i (.int .i64 7)) λj=>
 cd j (zb4 a c b e K) (zdo a c f b K g)
def zc1(a:Value)(d:World)(b:Value)(K:Value->World->Prop)(e f:Value)(g:List Value->World->Prop):Prop:=
 pu P (zad T.ae a 0) λh=>
 st P (zab T.int h) d λi c=>
 pu P (oBin .eql T.int false true i (.int .i64 6)) λj=>
 cd j (
 pu P (oBin .neq T.string false true b (S [47])) λk=>
 K (tup [k]) c) (zdr a c b e K f g)
def zc6(a:Value)(e:World)(b c:Value)(K:Value->World->Prop)(f:Value)(g:List Value->World->Prop):Prop:=
 pu P (zad T.ae a 0) λh=>
 st P (zab T.int h) e λi d=>
 pu P (oBin .eql T.int false true i (.int .i64 5)) λj=>
 cd j (zb2 b d c K) (zc1 a d b K c f g)
def zc4(b:Value)(j:World)(c d e:Value)(K:Value->World->Prop)(k:List Value->World->Prop):Prop:=
 pu P (zad T.ae b 0) λl=>
 st P (zab T.int l) j λm f=>
 pu P (oBin .eql T.int false true m (.int .i64 3)) λa=>
 gd a false f (λn=>pu P (zad T.ae b 0) λv=>n v f) λo g=>
 gd a false g (λp=>st P (zab T.int o) g p) λq h=>
 gd a false h (λr=>pu P (oBin .eql T.int false true q (.int .i64 4)) λv=>r v h) λs i=>
 pu P (zaD a (.bool true) s) λt=>
 cd t (zb3 c i d e K) (zc6 b i e d K c k)
def zej(b f:Value)(w:World)(K:Value->World->Prop):Prop:=
 st P (oBox T.ae f) w λa g=>
 pu P (zad T.ae a 1) λh=>
 st P (zab T.string h) g λi j=>
 st P (zah Fn.ay #[i]) j λc k=>
 st P (zah Fn.ai #[b,c]) k λd l=>
 pu P (zae d 0) λt=>
 pu P (zae d 1) λm=>
 jn (zaV K) λn=>
 pu P (zad T.ae a 1) λo=>
 st P (zab T.string o) l λp q=>
 st P (zah Fn.cN #[p]) q λr e=>
 pu P (oUn .not r) λs=>
 cd s (
 K (tup [(.bool false)]) e) (zc4 a e m b c K n)
theorem zid(h:zej t0 t1 w K):Cl P Fn.br #[t0,t1] w K:=ce (T:=tb [] []) Tryz.func69 rfl h
def zdZ(b:Value)(h:World)(K:Value->World->Prop):Prop:=
 pu P (oNil b) λi=>
 pu P (zad T.am i 3) λj=>
 st P (zab T.bool j) h λa c=>
 gd a false c (λk=>k b c) λl d=>
 gd a false d (λm=>pu P (oNil l) λv=>m v d) λn e=>
 gd a false e (λo=>pu P (zad T.am n 1) λv=>o v e) λp f=>
 gd a false f (λq=>st P (zab T.aC p) f q) λr g=>
 gd a false g (λs=>pu P (oBin .geq T.aC false true r (.int .i64 0)) λv=>s v g) λt u=>
 pu P (zaD a (.bool true) t) λx=>
 K (tup [x]) u
def zea(b:Value)(h:World)(K:Value->World->Prop):Prop:=
 pu P (oNil b) λi=>
 pu P (zad T.am i 1) λj=>
 st P (zab T.aC j) h λk c=>
 pu P (oBin .geq T.aC false true k (.int .i64 0)) λa=>
 gd a true c (λl=>l b c) λm d=>
 gd a true d (λn=>pu P (oNil m) λv=>n v d) λo e=>
 gd a true e (λp=>pu P (zad T.am o 1) λv=>p v e) λq f=>
 gd a true f (λr=>st P (zab T.aC q) f r) λs g=>
 gd a true g (λt=>pu P (oBin .leq T.aC false true s (.int .i64 4096)) λv=>t v g) λu x=>
 pu P (zaD a u (.bool false)) λy=>
 K (tup [y]) x
def zdB(b:Value)(f:World)(K:Value->World->Prop):Prop:=
 pu P (zad T.ae b 7) λg=>
 st P (zab T.aC g) f λh c=>
 pu P (oBin .geq T.aC false true h (.int .i64 0)) λa=>
 gd a true c (λi=>pu P (zad T.ae b 7) λv=>i v c) λj d=>
 gd a true d (λk=>st P (zab T.aC j) d k) λl e=>
 gd a true e (λm=>pu P (oBin .leq T.aC false true l (.int .i64 4096)) λv=>m v e) λn o=>
 pu P (zaD a n (.bool false)) λp=>
 K (tup [p]) o
def zd9(b:Value)(h:World)(K:Value->World->Prop):Prop:=
 pu P (oNil b) λi=>
 pu P (zad T.am i 1) λj=>
 st P (zab T.aC j) h λk c=>
 pu P (oBin .lss T.aC false true k (.int .i64 2199023255552)) λa=>
 gd a true c (λl=>l b c) λm d=>
 gd a true d (λn=>pu P (oNil m) λv=>n v d) λo e=>
 gd a true e (λp=>pu P (zad T.am o 1) λv=>p v e) λq f=>
 gd a true f (λr=>st P (zab T.aC q) f r) λs g=>
 gd a true g (λt=>pu P (oBin .gtr T.aC false true s (.int .i64 (-2199023255552))) λv=>t v g) λu x=>
 pu P (zaD a u (.bool false)) λy=>
 K (tup [y]) x
def zcg(b c:Value)(a:World)(K:Value->World->Prop)(d:List Value->World->Prop):Prop:=
 pu P (oBin .eql T.int false true b (.int .i64 16)) λe=>
 cd e (zd9 c a K) (
 d [] a)
def zbt(a c:Value)(b:World)(K:Value->World->Prop)(d:Value)(e:List Value->World->Prop):Prop:=
 pu P (oBin .eql T.int false true a (.int .i64 17)) λf=>
 cd f (
 pu P (zad T.ae c 7) λg=>
 st P (zab T.aC g) b λh i=>
 pu P (oBin .leq T.aC false true h (.int .i64 4096)) λj=>
 K (tup [j]) i) (zcg a d b K e)
def zba(a b:Value)(c:World)(K:Value->World->Prop)(d:Value)(e:List Value->World->Prop):Prop:=
 pu P (oBin .eql T.int false true a (.int .i64 15)) λf=>
 cd f (zdB b c K) (zbt a b c K d e)
def za0(a b:Value)(c:World)(K:Value->World->Prop)(d:Value)(e:List Value->World->Prop):Prop:=
 pu P (oBin .eql T.int false true a (.int .i64 14)) λf=>
 cd f (zea b c K) (zba a d c K b e)
def zaQ(a b:Value)(c:World)(K:Value->World->Prop)(d:Value)(e:List Value->World->Prop):Prop:=
 pu P (oBin .eql T.int false true a (.int .i64 13)) λf=>
 cd f (
 pu P (zad T.ae b 7) λg=>
 st P (zab T.aC g) c λh i=>
 pu P (oBin .geq T.aC false true h (.int .i64 0)) λj=>
 K (tup [j]) i) (za0 a d c K b e)
def zdu(K:Value->World->Prop)(a b:Value)(i:List Value)(j:Env)(e:World):Prop:=
 jn (zaV K) λf=>
 pu P (zad T.ae a 0) λg=>
 st P (zab T.int g) e λc d=>
 pu P (oBin .eql T.int false true c (.int .i64 12)) λh=>
 cd h (zdZ b d K) (zaQ c a d K b f)
def zdn(K:Value->World->Prop)(a z A:Value)(s1:List Value)(u1:Env)(B:World):Prop:=
 jn (zdu K a z) λC=>
 pu P (zad T.ag A 0) λD=>
 st P (zab T.bool D) B λb g=>
 gd b false g (λE=>pu P (zad T.ae a 6) λv=>E v g) λF h=>
 gd b false h (λG=>st P (zab T.ah F) h G) λH i=>
 gd b false i (λI=>pu P (zac .len #[T.ah] T.int #[false] #[H]) λv=>I v i) λJ j=>
 gd b false j (λL=>pu P (oBin .gtr T.int false true J (.int .i64 4096)) λv=>L v j) λM k=>
 pu P (zaD b (.bool true) M) λc=>
 gd c false k (λN=>pu P (zad T.ae a 9) λv=>N v k) λO l=>
 gd c false l (λQ=>st P (zab T.int O) l Q) λR m=>
 gd c false m (λU=>pu P (oBin .lss T.int false true R (.int .i64 0)) λv=>U v m) λV n=>
 pu P (zaD c (.bool true) V) λd=>
 gd d false n (λX=>pu P (zad T.ae a 9) λv=>X v n) λY o=>
 gd d false o (λZ=>st P (zab T.int Y) o Z) λaa p=>
 gd d false p (λab=>pu P (oBin .gtr T.int false true aa (.int .i64 4096)) λv=>ab v p) λac q=>
 pu P (zaD d (.bool true) ac) λe=>
 gd e false q (λad=>pu P (zad T.ae a 7) λv=>ad v q) λae r=>
 gd e false r (λaf=>st P (zab T.aC ae) r af) λag s=>
 gd e false s (λah=>pu P (oBin .gtr T.aC false true ag (.int .i64 1099511627776)) λv=>ah v s) λai t=>
 pu P (zaD e (.bool true) ai) λf=>
 gd f false t (λaj=>pu P (zad T.ae a 7) λv=>aj v t) λak u=>
 gd f false u (λal=>st P (zab T.aC ak) u al) λam x=>
 gd f false x (λan=>pu P (oBin .lss T.aC false true am (.int .i64 (-1099511627776))) λv=>an v x) λao y=>
 pu P (zaD f (.bool true) ao) λap=>
 cd ap (
 K (tup [(.bool false)]) y) (
 C [] y)
def zdm(d:Value)(G:World)(j k:Value)(K:Value->World->Prop):Prop:=
 pu P (zad T.ag d 4) λH=>
 st P (zab T.string H) G λI J=>
 st P (zah Fn.ai #[j,I]) J λl e=>
 pu P (zae l 0) λL=>
 pu P (zae l 1) λM=>
 pu P (zad T.ag d 0) λN=>
 rd P (zab T.bool N) e.drew λO=>
 pu P (oUn .not O) λc=>
 gd c false e.drew (λQ=>Q M e.drew) λR m=>
 gd c false m (λU=>U R m) λb n=>
 gd b true n (λV=>V L n) λX o=>
 gd b true o (λY=>Y k o) λZ p=>
 gd b true p (λaa=>pu P (oNil Z) λv=>aa v p) λab q=>
 gd b true q (λac=>pu P (zad T.am ab 0) λv=>ac v q) λad f=>
 gd b true f (λae=>rd P (zab T.int ad) f λv=>ae v f) λaf r=>
 gd b true r (λag=>pu P (oBin .eql T.int false false X af) λv=>ag v r) λah s=>
 gd c false s (λai=>pu P (zaD b ah (.bool false)) λv=>ai v s) λaj t=>
 gd c false t (λak=>ak aj t) λa u=>
 gd a true u (λal=>al k u) λam x=>
 gd a true x (λan=>pu P (oNil am) λv=>an v x) λao y=>
 gd a true y (λap=>pu P (zad T.am ao 2) λv=>ap v y) λz g=>
 gd a true g (λaq=>rd P (zab T.int z) g λv=>aq v g) λA B=>
 gd a true B (λar=>ar j B) λau C=>
 gd a true C (λav=>pu P (zad T.ag d 4) λv=>av v C) λaw h=>
 gd a true h (λax=>rd P (zab T.string aw) h λv=>ax v h) λay D=>
 gd a true D (λaz=>st P (zah Fn.aH #[au,ay]) D az) λa0 i=>
 (isb a true=true->hold P (zab T.int z) A i)/\gd a true i (λa1=>pu P (zac .len #[T.aj] T.int #[false] #[a0]) λv=>a1 v i) λa2 E=>
 gd a true E (λa3=>pu P (oBin .leq T.int false false A a2) λv=>a3 v E) λa4 F=>
 gd c false F (λa5=>pu P (zaD a a4 (.bool false)) λv=>a5 v F) λa6 a7=>
 pu P (zaD c (.bool true) a6) λa8=>
 K (tup [a8]) a7
def zbZ(K:Value->World->Prop)(b:List Value->World->Prop)(c:List Value)(d:Env)(a:World):Prop:=
 cd (gs c 0) (
 K (tup [(.bool true)]) a) (
 b [] a)
def zb1(a:Value)(b:List Value->World->Prop)(c:World):Prop:=
 pu P (oBin .eql T.int false true a (.int .i64 21)) λd=>
 cd d (
 b [d] c) (
 pu P (oBin .eql T.int false true a (.int .i64 22)) λe=>
 cd e (
 b [e] c) (
 pu P (oBin .eql T.int false true a (.int .i64 23)) λf=>
 b [f] c))
def zbY(K:Value->World->Prop)(e:List Value->World->Prop)(a:Value)(b:World):Prop:=
 jn (zbZ K e) λc=>
 pu P (oBin .eql T.int false true a (.int .i64 18)) λd=>
 cd d (
 c [d] b) (zb1 a c b)
def zbn(b c d:Value)(K:Value->World->Prop)(e:List Value->World->Prop)(f:Value)(g:List Value)(h:Env)(a:World):Prop:=cd (gs g 0) (zdm b a c d K) (zbY K e f a)
def zeT(f c q:Value)(w:World)(K:Value->World->Prop):Prop:=
 st P (oBox T.ae q) w λg a=>
 pu P (oNil f) λr=>
 pu P (zad T.aA r 2) λh=>
 rd P (zab T.ap h) a.drew λi=>
 pu P (oNil c) λs=>
 pu P (zad T.am s 0) λj=>
 rd P (zab T.int j) a.drew λk=>
 pu P (zaO T.ap i k) λl=>
 rd P (zab T.ag l) a.drew λm=>
 st P (zbw T.ag) a.drew λd b=>
 hold P (zab T.ag l) m b/\hold P (zab T.int j) k b/\hold P (zab T.ap h) i b/\st P (zai T.ag d m) b λ_ t=>
 jn (zdn K g c d) λu=>
 pu P (zad T.ae g 0) λv=>
 st P (zab T.int v) t λe n=>
 jn (zbn d f c K u e) λo=>
 pu P (oBin .eql T.int false true e (.int .i64 19)) λp=>
 cd p (
 o [p] n) (
 pu P (oBin .eql T.int false true e (.int .i64 20)) λx=>
 o [x] n)
theorem zi1(h:zeT t0 t1 t2 w K):Cl P Fn.bL #[t0,t1,t2] w K:=ce (T:=tb [(5,[22]),(11,[58])] []) Tryz.func70 rfl h
def zhR(b:Value)(w:World)(K:Value->World->Prop):Prop:=
 jn (λd v e=>
 K (tup [(gs d 0)]) e) λf=>
 pu P (zac .len #[T.aP] T.int #[false] #[b]) λg=>
 lp [(.slice none 0 0),(.int .i64 0)] w λa x c h=>
 pu P (oBin .lss T.int false false (gs a 1) g) λi=>
 jn (λy z j=>
 pu P (zaO T.aP b (gs a 1)) λk=>
 st P (zab T.aG k) j λl m=>
 st P (zah Fn.cX #[l]) m λn o=>
 st P (zam T.aM 1 #[(0,n)]) o λp q=>
 st P (zac .append #[T.aM,T.aM] T.aM #[false,false] #[(gs a 0),p]) q λr s=>
 pu P (oBin .add T.int false true (gs a 1) (.int .i64 1)) λt=>
 h [r,t] s) λu=>
 cd i (
 u [] c) (
 f [(gs a 0)] c)
theorem zlg(h:zhR t0 w K):Cl P Fn.bn #[t0] w K:=ce (T:=tb [(7,[3])] [(3,[3,8])]) Tryz.func72 rfl h
def zf0(g:Value)(w:World)(K:Value->World->Prop):Prop:=
 jn (λa u1 h=>
 jn (λs2 u2 J=>
 K (tup [(.int .i64 13)]) J) λL=>
 pu P (oBin .eql T.aB false true (gs a 0) .nilIface) λM=>
 cd M (
 K (tup [(.int .i64 0)]) h) (
 jn (λN u3 i=>
 cd (gs N 0) (
 K (tup [(.int .i64 1)]) i) (
 st P (zab T.aB (.pointer (some ⟨G.ah,0,none⟩))) i λO Q=>
 st P (oBin .eql T.aB false false (gs a 0) O) Q λR j=>
 cd R (
 K (tup [(.int .i64 2)]) j) (
 st P (zab T.aB (.pointer (some ⟨G.ae,0,none⟩))) j λU V=>
 st P (oBin .eql T.aB false false (gs a 0) U) V λX k=>
 cd X (
 K (tup [(.int .i64 3)]) k) (
 st P (zab T.aB (.pointer (some ⟨G.ao,0,none⟩))) k λY Z=>
 st P (oBin .eql T.aB false false (gs a 0) Y) Z λaa l=>
 cd aa (
 K (tup [(.int .i64 4)]) l) (
 st P (zab T.aB (.pointer (some ⟨G.af,0,none⟩))) l λab ac=>
 st P (oBin .eql T.aB false false (gs a 0) ab) ac λad m=>
 cd ad (
 K (tup [(.int .i64 5)]) m) (
 st P (zab T.aB (.pointer (some ⟨G.ag,0,none⟩))) m λae af=>
 st P (oBin .eql T.aB false false (gs a 0) ae) af λag n=>
 cd ag (
 K (tup [(.int .i64 7)]) n) (
 st P (zab T.aB (.pointer (some ⟨G.aj,0,none⟩))) n λah ai=>
 st P (oBin .eql T.aB false false (gs a 0) ah) ai λaj o=>
 cd aj (
 K (tup [(.int .i64 8)]) o) (
 st P (zab T.aB (.pointer (some ⟨G.am,0,none⟩))) o λak al=>
 st P (oBin .eql T.aB false false (gs a 0) ak) al λam p=>
 cd am (
 K (tup [(.int .i64 9)]) p) (
 st P (zab T.aB (.pointer (some ⟨G.ak,0,none⟩))) p λan ao=>
 st P (oBin .eql T.aB false false (gs a 0) an) ao λap q=>
 cd ap (
 K (tup [(.int .i64 10)]) q) (
 st P (zab T.aB (.pointer (some ⟨G.ap,0,none⟩))) q λaq ar=>
 st P (oBin .eql T.aB false false (gs a 0) aq) ar λau r=>
 cd au (
 K (tup [(.int .i64 11)]) r) (
 L [] r))))))))))) λs=>
 st P (zab T.aB (.pointer (some ⟨G.ab,0,none⟩))) h λav aw=>
 st P (oBin .eql T.aB false false (gs a 0) av) aw λt u=>
 cd t (
 s [t] u) (
 st P (zab T.aB (.pointer (some ⟨G.ai,0,none⟩))) u λax ay=>
 st P (oBin .eql T.aB false false (gs a 0) ax) ay λaz a0=>
 s [az] a0))) λv=>
 pu P (zgS g T.aB T.aD true) λx=>
 pu P (zae x 0) λd=>
 pu P (zae x 1) λt9=>
 cd t9 (
 pu P (oNil d) λa1=>
 pu P (zad T.au a1 2) λa2=>
 st P (zab T.aB a2) w λb a3=>
 jn (λs4 u4 y=>
 cd (gs s4 0) (
 pu P (oNil d) λa4=>
 pu P (zad T.au a4 2) λa5=>
 st P (zab T.aB a5) y λa6 a7=>
 v [a6] a7) (
 jn (λs5 u5 a8=>
 K (tup [(.int .i64 13)]) a8) λk5=>
 pu P (oNil d) λa9=>
 pu P (zad T.au a9 0) λba=>
 st P (zab T.string ba) y λe f=>
 pu P (oBin .eql T.string false true e (S [114,101,97,100,100,105,114])) λbb=>
 cd bb (
 K (tup [(.int .i64 8)]) f) (
 jn (λs6 u6 z=>
 cd (gs s6 0) (
 K (tup [(.int .i64 6)]) z) (
 k5 [] z)) λA=>
 pu P (oBin .eql T.string false true e (S [116,114,117,110,99,97,116,101])) λB=>
 cd B (
 A [B] f) (
 pu P (oBin .eql T.string false true e (S [119,114,105,116,101])) λbc=>
 A [bc] f)))) λc=>
 st P (zab T.aB (.pointer (some ⟨G.ab,0,none⟩))) a3 λbd be=>
 st P (oBin .eql T.aB false false b bd) be λC D=>
 cd C (
 c [C] D) (
 st P (zab T.aB (.pointer (some ⟨G.ah,0,none⟩))) D λbf bg=>
 st P (oBin .eql T.aB false false b bf) bg λE F=>
 cd E (
 c [E] F) (
 st P (zab T.aB (.pointer (some ⟨G.aj,0,none⟩))) F λbh bi=>
 st P (oBin .eql T.aB false false b bh) bi λH I=>
 cd H (
 c [H] I) (
 st P (zab T.aB (.pointer (some ⟨G.ai,0,none⟩))) I λbj bk=>
 st P (oBin .eql T.aB false false b bj) bk λbl bm=>
 c [bl] bm)))) (
 v [g] w)
theorem zhI(h:zf0 t0 w K):Cl P Fn.bY #[t0] w K:=ce (T:=tb [(9,[21]),(15,[24]),(16,[0]),(21,[40])] []) Tryz.func73 rfl h
def zh9(b c:Value)(w:World)(K:Value->World->Prop):Prop:=
 jn (λD E h=>
 pu P (oNil b) λi=>
 pu P (zad T.aA i 0) λj=>
 st P (zab T.aj j) h λk l=>
 pu P (zac .len #[T.aj] T.int #[false] #[k]) λm=>
 K (tup [m,(.bool false)]) l) λn=>
 pu P (oNil b) λo=>
 pu P (zad T.aA o 0) λp=>
 st P (zab T.aj p) w λd q=>
 pu P (zac .len #[T.aj] T.int #[false] #[d]) λr=>
 lp [(.int .i64 0)] q λa F e s=>
 pu P (oBin .lss T.int false false (gs a 0) r) λt=>
 jn (λG H u=>
 jn (λI J v=>
 pu P (oBin .add T.int false true (gs a 0) (.int .i64 1)) λx=>
 s [x] v) λy=>
 pu P (zaO T.aj d (gs a 0)) λz=>
 st P (zab T.string z) u λf g=>
 pu P (oBin .geq T.string false false f c) λA=>
 cd A (
 pu P (oBin .eql T.string false false f c) λB=>
 K (tup [(gs a 0),B]) g) (
 y [] g)) λC=>
 cd t (
 C [] e) (
 n [] e)
theorem zll(h:zh9 t0 t1 w K):Cl P Fn.bv #[t0,t1] w K:=ce (T:=tb [] [(2,[13])]) Tryz.func74 rfl h
def zjw(a:Value)(w:World)(K:Value->World->Prop):Prop:=
 jn (λs t e=>
 K (tup [a]) e) λf=>
 pu P (zac .len #[T.string] T.int #[false] #[a]) λg=>
 pu P (oBin .sub T.int false true g (.int .i64 1)) λh=>
 lp [h] w λb u c i=>
 jn (λv x d=>
 jn (λy z j=>
 pu P (oBin .sub T.int false true (gs b 0) (.int .i64 1)) λk=>
 i [k] j) λl=>
 pu P (oIdx T.string a (gs b 0)) λm=>
 pu P (oBin .eql T.aJ false true m (.int .u8 47)) λn=>
 cd n (
 pu P (oBin .add T.int false true (gs b 0) (.int .i64 1)) λo=>
 pu P (zaE T.string a (some o) none none) λp=>
 K (tup [p]) d) (
 l [] d)) λq=>
 pu P (oBin .geq T.int false true (gs b 0) (.int .i64 0)) λr=>
 cd r (
 q [] c) (
 f [] c)
theorem zmF(h:zjw t0 w K):Cl P Fn.cg #[t0] w K:=ce (T:=tb [] [(2,[3])]) Tryz.func75 rfl h
def ziB(a:Value)(w:World)(K:Value->World->Prop):Prop:=
 st P (zbw T.ay) w λb d=>
 st P (zah Fn.bi #[a]) d λe f=>
 st P (zah Fn.cQ #[a]) f λg h=>
 st P (zah Fn.aq #[a]) h λi j=>
 pu P (zj8 T.aN T.int i) λk=>
 st P (zah Fn.ao #[a]) j λl m=>
 st P (zah Fn.aB #[a]) m λn o=>
 pu P (zaw T.ay #[(0,e),(1,g),(2,k),(3,l),(4,n)]) λp=>
 st P (zai T.ay b p) o λ_ c=>
 rsl P T.ay b c λr1=>
 K (tup [r1]) c
theorem zmf(h:ziB t0 w K):Cl P Fn.cX #[t0] w K:=ce (T:=tb [] []) Tryz.func79 rfl h
def zjX(a b:Value)(K:Value->World->Prop)(d:List Value)(l:Env)(e:World):Prop:=
 st P (zah Fn.bY #[(gs d 0)]) e λf g=>
 pu P (zad T.ab a 0) λh=>
 st P (zai T.int h f) g λ_ i=>
 st P (zab T.ab a) i λj k=>
 st P (zai T.ab b j) k λ_ c=>
 rsl P T.ab b c λr1=>
 K (tup [r1]) c
def zj0(d:Value)(e:World)(f g:Value)(h:List Value->World->Prop):Prop:=
 pu P (zad T.ae d 9) λi=>
 st P (zab T.int i) e λj k=>
 pu P (zac .min #[T.int,T.int] T.int #[false,true] #[j,(.int .i64 1048576)]) λl=>
 pu P (zac .max #[T.int,T.int] T.int #[true,false] #[(.int .i64 0),l]) λa=>
 st P (zdx T.ah a a) k λb m=>
 st P (zah Fn.bU #[f,b]) m λc n=>
 pu P (zae c 0) λo=>
 pu P (zae c 1) λp=>
 pu P (zaE T.ah b none (some o) none) λq=>
 pu P (zad T.ab g 3) λr=>
 st P (zai T.ah r q) n λ_ s=>
 h [p] s
def zjU(a:Value)(e:World)(f g:Value)(h:List Value->World->Prop):Prop:=
 pu P (zad T.ae a 9) λi=>
 st P (zab T.int i) e λj k=>
 pu P (zac .min #[T.int,T.int] T.int #[false,true] #[j,(.int .i64 1048576)]) λl=>
 pu P (zac .max #[T.int,T.int] T.int #[true,false] #[(.int .i64 0),l]) λb=>
 st P (zdx T.ah b b) k λc m=>
 pu P (zad T.ae a 7) λn=>
 st P (zab T.aC n) m λo p=>
 st P (zah Fn.bV #[f,c,o]) p λd q=>
 pu P (zae d 0) λr=>
 pu P (zae d 1) λs=>
 pu P (zaE T.ah c none (some r) none) λt=>
 pu P (zad T.ab g 3) λu=>
 st P (zai T.ah u t) q λ_ v=>
 h [s] v
def zjV(b:Value)(c:World)(d e:Value)(f:List Value->World->Prop):Prop:=
 pu P (zad T.ae b 6) λg=>
 st P (zab T.ah g) c λh i=>
 st P (zac .append #[T.ah,T.ah] T.ah #[true,false] #[(.slice none 0 0),h]) i λj k=>
 st P (zah Fn.bC #[d,j]) k λa l=>
 pu P (zae a 0) λm=>
 pu P (zae a 1) λn=>
 pu P (zad T.ab e 1) λo=>
 st P (zai T.int o m) l λ_ p=>
 f [n] p
def zjO(b:Value)(a:World)(g h:Value)(i:List Value->World->Prop):Prop:=
 pu P (zad T.ae b 6) λj=>
 rd P (zab T.ah j) a.drew λk=>
 pu P (zad T.ae b 7) λc=>
 rd P (zab T.aC c) a.drew λd=>
 st P (zac .append #[T.ah,T.ah] T.ah #[true,false] #[(.slice none 0 0),k]) a.drew λl e=>
 hold P (zab T.aC c) d e/\st P (zah Fn.cw #[g,l,d]) e λf m=>
 pu P (zae f 0) λn=>
 pu P (zae f 1) λo=>
 pu P (zad T.ab h 1) λp=>
 st P (zai T.int p n) m λ_ q=>
 i [o] q
def zjP(a:Value)(c:World)(d e:Value)(f:List Value->World->Prop):Prop:=
 pu P (zad T.ae a 7) λg=>
 st P (zab T.aC g) c λh i=>
 pu P (zad T.ae a 8) λj=>
 st P (zab T.int j) i λk l=>
 st P (zah Fn.bM #[d,h,k]) l λb m=>
 pu P (zae b 0) λn=>
 pu P (zae b 1) λo=>
 pu P (zad T.ab e 2) λp=>
 st P (zai T.aC p n) m λ_ q=>
 f [o] q
def zhK(b:Value)(c:World)(d e:Value)(f:List Value->World->Prop):Prop:=
 pu P (zad T.ae b 9) λg=>
 st P (zab T.int g) c λh i=>
 st P (zah Fn.aS #[d,h]) i λa j=>
 pu P (zae a 0) λk=>
 pu P (zae a 1) λl=>
 st P (zah Fn.bn #[k]) j λm n=>
 pu P (zad T.ab e 5) λo=>
 st P (zai T.aM o m) n λ_ p=>
 f [l] p
def zhL(b:Value)(c:World)(d e:Value)(f:List Value->World->Prop):Prop:=
 pu P (zad T.ae b 9) λg=>
 st P (zab T.int g) c λh i=>
 st P (zah Fn.aF #[d,h]) i λa j=>
 pu P (zae a 0) λk=>
 pu P (zae a 1) λl=>
 pu P (zad T.ab e 4) λm=>
 st P (zai T.aj m k) j λ_ n=>
 f [l] n
def zjZ(b:Value)(c:World)(d:Value)(e:List Value->World->Prop):Prop:=
 st P (zah Fn.cV #[b]) c λa f=>
 pu P (zae a 0) λg=>
 pu P (zae a 1) λh=>
 st P (zam T.aP 1 #[(0,g)]) f λi j=>
 st P (zah Fn.bn #[i]) j λk l=>
 pu P (zad T.ab d 5) λm=>
 st P (zai T.aM m k) l λ_ n=>
 e [h] n
def ziS(d e:Value)(a:World)(f:List Value->World->Prop)(b:Value)(K:Value->World->Prop):Prop:=
 pu P (oBin .eql T.int false true d (.int .i64 23)) λg=>
 cd g (
 st P (zah Fn.df #[e]) a λh i=>
 f [h] i) (
 pu P (zaw T.ab #[(0,(.int .i64 13))]) λj=>
 st P (zai T.ab b j) a λ_ c=>
 rsl P T.ab b c λr2=>
 K (tup [r2]) c)
def zeO(a b:Value)(c:World)(e:Value)(d:List Value->World->Prop)(f:Value)(K:Value->World->Prop):Prop:=
 pu P (oBin .eql T.int false true a (.int .i64 22)) λg=>
 cd g (
 st P (zah Fn.de #[b]) c λh i=>
 st P (zam T.aj 1 #[(0,h)]) i λj k=>
 pu P (zad T.ab e 4) λl=>
 st P (zai T.aj l j) k λ_ m=>
 d [.nilIface] m) (ziS a b c d f K)
def ziE(a b:Value)(c:World)(d:Value)(e:List Value->World->Prop)(f:Value)(K:Value->World->Prop):Prop:=
 pu P (oBin .eql T.int false true a (.int .i64 21)) λg=>
 cd g (zjZ b c d e) (zeO a b c d e f K)
def zgM(a f:Value)(b:World)(c d:Value)(e:List Value->World->Prop)(g:Value)(K:Value->World->Prop):Prop:=
 pu P (oBin .eql T.int false true a (.int .i64 20)) λh=>
 cd h (zhL f b c d e) (ziE a c b d e g K)
def zgp(a b:Value)(c:World)(d e:Value)(f:List Value->World->Prop)(g:Value)(K:Value->World->Prop):Prop:=
 pu P (oBin .eql T.int false true a (.int .i64 19)) λh=>
 cd h (zhK b c d e f) (zgM a b c d e f g K)
def zgw(a b:Value)(c:World)(d:List Value->World->Prop)(e f g:Value)(K:Value->World->Prop):Prop:=
 pu P (oBin .eql T.int false true a (.int .i64 18)) λh=>
 cd h (
 st P (zah Fn.bz #[b]) c λi j=>
 d [i] j) (zgp a e c b f d g K)
def zgk(a b:Value)(c:World)(d:Value)(e:List Value->World->Prop)(f g:Value)(K:Value->World->Prop):Prop:=
 pu P (oBin .eql T.int false true a (.int .i64 17)) λh=>
 cd h (
 pu P (zad T.ae b 7) λi=>
 st P (zab T.aC i) c λj k=>
 st P (zah Fn.bc #[d,j]) k λl m=>
 e [l] m) (zgw a d c e b f g K)
def zgL(a b:Value)(c:World)(d e:Value)(f:List Value->World->Prop)(g:Value)(K:Value->World->Prop):Prop:=
 pu P (oBin .eql T.int false true a (.int .i64 16)) λh=>
 cd h (zjP b c d e f) (zgk a b c d f e g K)
def zgB(a b:Value)(c:World)(d e:Value)(f:List Value->World->Prop)(g:Value)(K:Value->World->Prop):Prop:=
 pu P (oBin .eql T.int false true a (.int .i64 15)) λh=>
 cd h (zjO b c d e f) (zgL a b c d e f g K)
def zgE(a b:Value)(c:World)(d e:Value)(f:List Value->World->Prop)(g:Value)(K:Value->World->Prop):Prop:=
 pu P (oBin .eql T.int false true a (.int .i64 14)) λh=>
 cd h (zjV b c d e f) (zgB a b c d e f g K)
def zgt(a b:Value)(c:World)(d e:Value)(f:List Value->World->Prop)(g:Value)(K:Value->World->Prop):Prop:=
 pu P (oBin .eql T.int false true a (.int .i64 13)) λh=>
 cd h (zjU b c d e f) (zgE a b c d e f g K)
def zkm(c h:Value)(w:World)(K:Value->World->Prop):Prop:=
 st P (oBox T.ae h) w λb i=>
 st P (zbw T.ab) i λd j=>
 pu P (zaw T.ab #[]) λk=>
 st P (zbw T.ab) j λa l=>
 st P (zai T.ab a k) l λ_ m=>
 jn (zjX a d K) λe=>
 pu P (zad T.ae b 0) λn=>
 st P (zab T.int n) m λf g=>
 pu P (oBin .eql T.int false true f (.int .i64 12)) λo=>
 cd o (zj0 b g c a e) (zgt f b g c a e d K)
theorem zl9(h:zkm t0 t1 w K):Cl P Fn.dw #[t0,t1] w K:=ce (T:=tb [(39,[6])] []) Tryz.func95 rfl h
def zeu(c d e a:Value)(K:Value->World->Prop)(m:List Value)(n:Env)(f:World):Prop:=
 pu P (oNil c) λg=>
 pu P (zad T.aA g 3) λh=>
 st P (zab T.aH h) f λi j=>
 st P (zee T.aH i d e) j λ_ k=>
 pu P (zaw T.ab #[]) λl=>
 st P (zai T.ab a l) k λ_ b=>
 rsl P T.ab a b λr1=>
 K (tup [r1]) b
def zev(a b:Value)(c:World)(d:Value)(e:List Value->World->Prop):Prop:=
 st P (zah Fn.ap #[a,b,(.int .i64 0)]) c λm f=>
 pu P (zaw T.ag #[(1,(.int .i64 268435456))]) λg=>
 st P (zah Fn.bF #[a,b,g]) f λh i=>
 pu P (oNil d) λj=>
 pu P (zad T.am j 0) λk=>
 st P (zai T.int k h) i λ_ l=>
 e [] l
def zhc(a:Value)(b:List Value->World->Prop)(g:List Value)(h:Env)(c:World):Prop:=
 pu P (oNil a) λd=>
 pu P (zad T.am d 4) λe=>
 st P (zai T.bool e (.bool true)) c λ_ f=>
 b [] f
def zeD(d:Value)(e:List Value->World->Prop)(f a:Value)(b:World)(K:Value->World->Prop):Prop:=
 jn (zhc d e) λg=>
 pu P (oUn .not f) λh=>
 cd h (
 pu P (zaw T.ab #[(0,(.int .i64 1))]) λi=>
 st P (zai T.ab a i) b λ_ c=>
 rsl P T.ab a c λr2=>
 K (tup [r2]) c) (
 g [] b)
def zen(b:Value)(a:World)(c:Value)(d:List Value->World->Prop):Prop:=
 pu P (oNil b) λe=>
 pu P (zad T.aA e 2) λf=>
 rd P (zab T.ap f) a.drew λg=>
 pu P (oNil c) λh=>
 pu P (zad T.am h 0) λi=>
 rd P (zab T.int i) a.drew λj=>
 pu P (oNil b) λk=>
 pu P (zad T.aA k 2) λl=>
 rd P (zab T.ap l) a.drew λm=>
 pu P (oNil c) λn=>
 pu P (zad T.am n 0) λo=>
 rd P (zab T.int o) a.drew λp=>
 pu P (zaO T.ap g j) λq=>
 pu P (zad T.ag q 2) λr=>
 st P (zai T.ah r (.slice none 0 0)) a.drew λ_ s=>
 pu P (zaO T.ap m p) λt=>
 pu P (zad T.ag t 3) λu=>
 st P (zai T.aC u (.int .i64 0)) s λ_ v=>
 d [] v
def zeq(b i j:Value)(c:List Value->World->Prop)(z:List Value)(A:Env)(k:World):Prop:=
 pu P (zad T.ae b 3) λl=>
 st P (zab T.int l) k λm d=>
 pu P (oBin .and T.int false true m (.int .i64 512)) λn=>
 pu P (oBin .neq T.int false true n (.int .i64 0)) λa=>
 gd a true d (λo=>pu P (zad T.ae b 3) λv=>o v d) λp e=>
 gd a true e (λq=>st P (zab T.int p) e q) λr f=>
 gd a true f (λs=>pu P (oBin .and T.int false true r (.int .i64 3)) λv=>s v f) λt g=>
 gd a true g (λu=>pu P (oBin .neq T.int false true t (.int .i64 0)) λv=>u v g) λx h=>
 pu P (zaD a x (.bool false)) λy=>
 cd y (zen i h j c) (
 c [] h)
def zeE(c:Value)(a:World)(b:Value)(d:List Value->World->Prop):Prop:=
 pu P (oNil c) λe=>
 pu P (zad T.aA e 2) λf=>
 rd P (zab T.ap f) a.drew λg=>
 pu P (oNil b) λh=>
 pu P (zad T.am h 0) λi=>
 rd P (zab T.int i) a.drew λj=>
 pu P (zaO T.ap g j) λk=>
 pu P (zad T.ag k 2) λl=>
 rd P (zab T.ah l) a.drew λm=>
 pu P (zac .len #[T.ah] T.int #[false] #[m]) λn=>
 pu P (oNil b) λo=>
 pu P (zad T.am o 1) λp=>
 st P (zai T.aC p n) a.drew λ_ q=>
 d [] q
def zez(a b c:Value)(f:List Value->World->Prop)(s:List Value)(t:Env)(g:World):Prop:=
 pu P (zad T.ae a 3) λh=>
 st P (zab T.int h) g λi j=>
 pu P (oBin .eql T.int false true i (.int .i64 0)) λk=>
 pu P (oNil b) λl=>
 pu P (zad T.am l 4) λm=>
 st P (zai T.bool m k) j λ_ n=>
 jn (zeq a c b f) λd=>
 pu P (zad T.ae a 3) λo=>
 st P (zab T.int o) n λp e=>
 pu P (oBin .and T.int false true p (.int .i64 1024)) λq=>
 pu P (oBin .neq T.int false true q (.int .i64 0)) λr=>
 cd r (zeE c e b d) (
 d [] e)
def zep(a b:Value)(c:World)(d e:Value)(f:List Value->World->Prop):Prop:=
 st P (zah Fn.ap #[a,b,(.int .i64 0)]) c λr g=>
 pu P (zad T.ae d 4) λh=>
 st P (zab T.int h) g λi j=>
 pu P (oBin .and T.int false true i (.int .i64 13631999)) λk=>
 pu P (zaw T.ag #[(1,k)]) λl=>
 st P (zah Fn.bF #[a,b,l]) j λm n=>
 pu P (oNil e) λo=>
 pu P (zad T.am o 0) λp=>
 st P (zai T.int p m) n λ_ q=>
 f [] q
def zdQ(a b c:Value)(f:List Value->World->Prop)(g h:Value)(j:List Value)(k:Env)(d:World):Prop:=
 jn (zez a b c f) λe=>
 pu P (oUn .not g) λi=>
 cd i (zep c h d a b e) (
 e [] d)
def zd0(b k l:Value)(m:List Value->World->Prop)(c n d:Value)(K:Value->World->Prop)(B:List Value)(C:Env)(e:World):Prop:=
 jn (zdQ b k l m c n) λo=>
 pu P (oUn .not c) λa=>
 gd a true e (λp=>pu P (zad T.ae b 3) λv=>p v e) λq f=>
 gd a true f (λr=>st P (zab T.int q) f r) λs g=>
 gd a true g (λt=>pu P (oBin .and T.int false true s (.int .i64 64)) λv=>t v g) λu h=>
 gd a true h (λx=>pu P (oBin .eql T.int false true u (.int .i64 0)) λv=>x v h) λy i=>
 pu P (zaD a y (.bool false)) λz=>
 cd z (
 pu P (zaw T.ab #[(0,(.int .i64 1))]) λA=>
 st P (zai T.ab d A) i λ_ j=>
 rsl P T.ab d j λr3=>
 K (tup [r3]) j) (
 o [] i)
def zgy(c j k:Value)(l:List Value->World->Prop)(a m b:Value)(K:Value->World->Prop)(d:World):Prop:=
 jn (zd0 c j k l a m b K) λn=>
 gd a true d (λo=>pu P (zad T.ae c 3) λv=>o v d) λp e=>
 gd a true e (λq=>st P (zab T.int p) e q) λr f=>
 gd a true f (λs=>pu P (oBin .and T.int false true r (.int .i64 128)) λv=>s v f) λt g=>
 gd a true g (λu=>pu P (oBin .neq T.int false true t (.int .i64 0)) λv=>u v g) λx h=>
 pu P (zaD a x (.bool false)) λy=>
 cd y (
 pu P (zaw T.ab #[(0,(.int .i64 2))]) λz=>
 st P (zai T.ab b z) h λ_ i=>
 rsl P T.ab b i λr4=>
 K (tup [r4]) i) (
 n [] h)
def zgj(f a:Value)(b:List Value->World->Prop)(c d:Value)(e:World)(K:Value->World->Prop)(g h i:Value):Prop:=
 pu P (oBin .eql T.int false true f (.int .i64 1)) λj=>
 cd j (zeD a b c d e K) (zgy g a h b c i d K e)
def ziY(a j k:Value)(w:World)(K:Value->World->Prop):Prop:=
 st P (oBox T.ae k) w λb l=>
 st P (zbw T.ab) l λe m=>
 pu P (zad T.ae b 1) λn=>
 st P (zab T.string n) m λo p=>
 st P (zah Fn.ay #[o]) p λc q=>
 st P (zah Fn.ai #[a,c]) q λf r=>
 pu P (zae f 0) λs=>
 pu P (zae f 1) λt=>
 pu P (zaw T.am #[(0,s)]) λu=>
 st P (oBox T.am u) r λd v=>
 jn (zeu a j d e K) λg=>
 pu P (zad T.ae b 0) λx=>
 st P (zab T.int x) v λh i=>
 pu P (oBin .eql T.int false true h (.int .i64 0)) λy=>
 cd y (zev a c i d g) (zgj h d g t e i K b a c)
theorem zmp(h:ziY t0 t1 t2 w K):Cl P Fn.cZ #[t0,t1,t2] w K:=ce (T:=tb [] []) Tryz.func118 rfl h
def zaH(a:Value)(K:Value->World->Prop)(e:List Value)(f:Env)(c:World):Prop:=
 pu P (zaw T.ab #[]) λd=>
 st P (zai T.ab a d) c λ_ b=>
 rsl P T.ab a b λr1=>
 K (tup [r1]) b
def zd6(c d:Value)(e:World)(a:Value)(K:Value->World->Prop):Prop:=
 st P (zah Fn.bQ #[c,d]) e λf g=>
 st P (zam T.aM 1 #[(0,f)]) g λh i=>
 pu P (zaw T.ab #[(5,h)]) λj=>
 st P (zai T.ab a j) i λ_ b=>
 rsl P T.ab a b λr2=>
 K (tup [r2]) b
def zdK(b:Value)(a:World)(c d:Value)(e:List Value->World->Prop):Prop:=
 pu P (oNil b) λf=>
 pu P (zad T.aA f 2) λg=>
 rd P (zab T.ap g) a.drew λh=>
 pu P (oNil b) λi=>
 pu P (zad T.aA i 2) λj=>
 rd P (zab T.ap j) a.drew λk=>
 pu P (zaO T.ap k c) λl=>
 pu P (zad T.ag l 1) λm=>
 rd P (zab T.int m) a.drew λn=>
 pu P (oBin .andNot T.int false true n (.int .i64 13631999)) λo=>
 pu P (zad T.ae d 4) λp=>
 rd P (zab T.int p) a.drew λq=>
 pu P (oBin .and T.int false true q (.int .i64 13631999)) λr=>
 pu P (oBin .or T.int false false o r) λs=>
 pu P (zaO T.ap h c) λt=>
 pu P (zad T.ag t 1) λu=>
 st P (zai T.int u s) a.drew λ_ v=>
 e [] v
def zdy(b:Value)(a:World)(c d:Value)(e:List Value->World->Prop):Prop:=
 pu P (oNil b) λf=>
 pu P (zad T.aA f 2) λg=>
 rd P (zab T.ap g) a.drew λh=>
 pu P (zad T.ae c 7) λi=>
 rd P (zab T.aC i) a.drew λj=>
 pu P (zaO T.ap h d) λk=>
 pu P (zad T.ag k 3) λl=>
 st P (zai T.aC l j) a.drew λ_ m=>
 e [] m
def zgq(c d:Value)(a:World)(e f:Value)(b:List Value->World->Prop):Prop:=
 pu P (oBin .eql T.int false true c (.int .i64 11)) λg=>
 cd g (zdy d a e f b) (
 b [] a)
def zgl(a b:Value)(c:World)(d e:Value)(f:List Value->World->Prop):Prop:=
 pu P (oBin .eql T.int false true a (.int .i64 9)) λg=>
 cd g (zdK b c d e f) (zgq a b c e d f)
def zgs(a b c:Value)(d:World)(e:Value)(K:Value->World->Prop)(f:Value)(g:List Value->World->Prop):Prop:=
 pu P (oBin .eql T.int false true a (.int .i64 8)) λh=>
 cd h (zd6 b c d e K) (zgl a b d c f g)
def zgx(a:Value)(K:Value->World->Prop)(b c g h:Value)(m:List Value)(n:Env)(i:World):Prop:=
 jn (zaH a K) λd=>
 pu P (zad T.ae b 0) λj=>
 st P (zab T.int j) i λe f=>
 pu P (oBin .eql T.int false true e (.int .i64 5)) λk=>
 cd k (
 st P (zah Fn.aZ #[c,g]) f λo l=>
 d [] l) (zgs e c h f a K b d)
def zgC(a:Value)(K:Value->World->Prop)(d e f g h:Value)(l:List Value)(m:Env)(b:World):Prop:=
 jn (zgx a K d e f g) λi=>
 pu P (oUn .not h) λj=>
 cd j (
 pu P (zaw T.ab #[(0,(.int .i64 1))]) λk=>
 st P (zai T.ab a k) b λ_ c=>
 rsl P T.ab a c λr3=>
 K (tup [r3]) c) (
 i [] b)
def zdh(a:Value)(d:World)(b c:Value)(e:List Value->World->Prop):Prop:=
 pu P (zad T.ae a 4) λf=>
 st P (zab T.int f) d λg h=>
 pu P (oBin .and T.int false true g (.int .i64 13631999)) λi=>
 st P (zah Fn.ap #[b,c,i]) h λr j=>
 pu P (zad T.ae a 4) λk=>
 st P (zab T.int k) j λl m=>
 pu P (oBin .and T.int false true l (.int .i64 13631999)) λn=>
 pu P (oBin .or T.int true false (.int .i64 2147483648) n) λo=>
 pu P (zaw T.ag #[(0,(.bool true)),(1,o)]) λp=>
 st P (zah Fn.bF #[b,c,p]) m λs q=>
 e [] q
def zdf(c:Value)(K:Value->World->Prop)(d e f g:Value)(i:List Value)(j:Env)(a:World):Prop:=
 jn (zaH c K) λb=>
 pu P (oUn .not d) λh=>
 cd h (zdh e a f g b) (
 b [] a)
def zcc(b:Value)(K:Value->World->Prop)(a c i j:Value)(d:World):Prop:=
 jn (zdf b K a c i j) λk=>
 gd a true d (λl=>pu P (zad T.ae c 0) λv=>l v d) λm e=>
 gd a true e (λn=>st P (zab T.int m) e n) λo f=>
 gd a true f (λp=>pu P (oBin .eql T.int false true o (.int .i64 3)) λv=>p v f) λq g=>
 pu P (zaD a q (.bool false)) λr=>
 cd r (
 pu P (zaw T.ab #[(0,(.int .i64 2))]) λs=>
 st P (zai T.ab b s) g λ_ h=>
 rsl P T.ab b h λr5=>
 K (tup [r5]) h) (
 k [] g)
def zfR(c:List Value)(j:List Value->World->Prop)(k d l:Value)(x:List Value)(y:Env)(m:World):Prop:=
 jn (zas c j) λe=>
 pu P (zaO T.aj k (gs c 0)) λn=>
 st P (zab T.string n) m λb f=>
 pu P (oBin .eql T.string false false b d) λa=>
 gd a false f (λo=>o b f) λp g=>
 gd a false g (λq=>q d g) λr h=>
 gd a false h (λs=>st P (zah Fn.bR #[p,r]) h s) λt i=>
 pu P (zaD a (.bool true) t) λu=>
 cd u (
 st P (zah Fn.aZ #[l,b]) i λz v=>
 e [] v) (
 e [] i)
def zdd(e:Value)(K:Value->World->Prop)(f:World)(a g:Value):Prop:=
 jn (zaH e K) λh=>
 st P (zam T.aj 0 #[]) f λi j=>
 pu P (oNil a) λk=>
 pu P (zad T.aA k 0) λl=>
 st P (zab T.aj l) j λm n=>
 st P (zac .append #[T.aj,T.aj] T.aj #[false,false] #[i,m]) n λb o=>
 pu P (zac .len #[T.aj] T.int #[false] #[b]) λp=>
 lp [(.int .i64 0)] o λc t d q=>
 pu P (oBin .lss T.int false false (gs c 0) p) λr=>
 jn (zfR c q b g a) λs=>
 cd r (
 s [] d) (
 h [] d)
def zfH(c:Value)(d:World)(e f a:Value)(K:Value->World->Prop):Prop:=
 pu P (zad T.ae c 2) λg=>
 st P (zab T.string g) d λh i=>
 st P (zah Fn.ay #[h]) i λj k=>
 st P (zah Fn.cF #[e,f,j]) k λl m=>
 st P (zai T.ab a l) m λ_ b=>
 rsl P T.ab a b λr7=>
 K (tup [r7]) b
def zfY(b c:Value)(a:World)(d e f:Value)(K:Value->World->Prop)(g:List Value->World->Prop):Prop:=
 pu P (oBin .eql T.int false true b (.int .i64 7)) λh=>
 cd h (zfH c a d e f K) (
 g [] a)
def zf6(a b:Value)(K:Value->World->Prop)(c:World)(d e f:Value)(g:List Value->World->Prop):Prop:=
 pu P (oBin .eql T.int false true a (.int .i64 6)) λh=>
 cd h (zdd b K c d e) (zfY a f c d e b K g)
def zcb(a:Value)(K:Value->World->Prop)(f b c d g:Value)(h:List Value->World->Prop)(i:List Value)(j:Env)(e:World):Prop:=cd (gs i 0) (zcc a K f b c d e) (zf6 g a K e c d b h)
def zf7(a b e:Value)(K:Value->World->Prop)(c:Value)(q:List Value)(r:Env)(k:World):Prop:=
 st P (zah Fn.ai #[a,b]) k λf l=>
 pu P (zae f 0) λm=>
 pu P (zae f 1) λg=>
 jn (zgC e K c a b m g) λn=>
 pu P (zad T.ae c 0) λo=>
 st P (zab T.int o) l λd h=>
 jn (zcb e K g c a b d n) λi=>
 pu P (oBin .eql T.int false true d (.int .i64 3)) λj=>
 cd j (
 i [j] h) (
 pu P (oBin .eql T.int false true d (.int .i64 4)) λp=>
 i [p] h)
def zhS(k l:Value)(w:World)(K:Value->World->Prop):Prop:=
 st P (oBox T.ae l) w λb m=>
 st P (zbw T.ab) m λc n=>
 pu P (zad T.ae b 1) λo=>
 st P (zab T.string o) n λp q=>
 st P (zah Fn.ay #[p]) q λd r=>
 jn (zf7 k d c K b) λs=>
 pu P (zad T.ae b 0) λt=>
 st P (zab T.int t) r λu e=>
 pu P (oBin .eql T.int false true u (.int .i64 9)) λa=>
 gd a true e (λx=>x d e) λy f=>
 gd a true f (λz=>pu P (zad T.ae b 1) λv=>z v f) λA g=>
 gd a true g (λB=>st P (zab T.string A) g B) λC h=>
 gd a true h (λD=>pu P (oBin .neq T.string false false y C) λv=>D v h) λE i=>
 pu P (zaD a E (.bool false)) λF=>
 cd F (
 pu P (zaw T.ab #[(0,(.int .i64 1))]) λG=>
 st P (zai T.ab c G) i λ_ j=>
 rsl P T.ab c j λr8=>
 K (tup [r8]) j) (
 s [] i)
theorem zli(h:zhS t0 t1 w K):Cl P Fn.cO #[t0,t1] w K:=ce (T:=tb [(8,[31])] [(16,[67])]) Tryz.func119 rfl h
def zew(c a:Value)(K:Value->World->Prop)(j:List Value)(k:Env)(d:World):Prop:=
 pu P (zad T.ae c 6) λe=>
 st P (zab T.ah e) d λf g=>
 pu P (zac .len #[T.ah] T.int #[false] #[f]) λh=>
 pu P (zaw T.ab #[(1,h)]) λi=>
 st P (zai T.ab a i) g λ_ b=>
 rsl P T.ab a b λr1=>
 K (tup [r1]) b
def zes(b:Value)(a:World)(c d:Value)(K:Value->World->Prop):Prop:=
 pu P (oNil b) λf=>
 pu P (zad T.ag f 2) λg=>
 rd P (zab T.ah g) a.drew λh=>
 pu P (oNil b) λi=>
 pu P (zad T.ag i 2) λj=>
 rd P (zab T.ah j) a.drew λk=>
 pu P (zac .len #[T.ah] T.int #[false] #[k]) λl=>
 pu P (zad T.ae c 7) λm=>
 rd P (zab T.aC m) a.drew λn=>
 pu P (zac .min #[T.aC,T.aC] T.aC #[false,false] #[l,n]) λo=>
 pu P (zaE T.ah h none (some o) none) λp=>
 pu P (zad T.ae c 7) λq=>
 rd P (zab T.aC q) a.drew λr=>
 st P (zah Fn.di #[p,r]) a.drew λs t=>
 pu P (oNil b) λu=>
 pu P (zad T.ag u 2) λv=>
 st P (zai T.ah v s) t λ_ x=>
 pu P (oNil b) λy=>
 pu P (zad T.ag y 3) λz=>
 st P (zai T.aC z (.int .i64 0)) x λ_ A=>
 pu P (zaw T.ab #[]) λB=>
 st P (zai T.ab d B) A λ_ e=>
 rsl P T.ab d e λr2=>
 K (tup [r2]) e
def zey(b:Value)(a:World)(c e:Value)(f:List Value->World->Prop):Prop:=
 pu P (oNil b) λg=>
 pu P (zad T.ag g 2) λh=>
 rd P (zab T.ah h) a.drew λi=>
 pu P (oNil c) λj=>
 pu P (zad T.am j 1) λk=>
 rd P (zab T.aC k) a.drew λl=>
 pu P (zad T.ae e 6) λm=>
 rd P (zab T.ah m) a.drew λn=>
 st P (zah Fn.bH #[i,l,n]) a.drew λo p=>
 pu P (oNil b) λq=>
 pu P (zad T.ag q 2) λr=>
 st P (zai T.ah r o) p λ_ s=>
 pu P (oNil b) λt=>
 pu P (zad T.ag t 3) λu=>
 st P (zai T.aC u (.int .i64 0)) s λ_ d=>
 pu P (oNil c) λv=>
 pu P (zad T.am v 1) λx=>
 rd P (zab T.aC x) d.drew λy=>
 pu P (zad T.ae e 6) λz=>
 rd P (zab T.ah z) d.drew λA=>
 pu P (zac .len #[T.ah] T.int #[false] #[A]) λB=>
 pu P (oBin .add T.aC false false y B) λC=>
 pu P (oNil c) λD=>
 pu P (zad T.am D 1) λE=>
 st P (zai T.aC E C) d.drew λ_ F=>
 f [] F
def zer(c:Value)(a:World)(b d:Value)(e:List Value->World->Prop):Prop:=
 pu P (oNil c) λf=>
 pu P (zad T.ag f 2) λg=>
 rd P (zab T.ah g) a.drew λh=>
 pu P (zad T.ae b 7) λi=>
 rd P (zab T.aC i) a.drew λj=>
 pu P (zad T.ae b 6) λk=>
 rd P (zab T.ah k) a.drew λl=>
 st P (zah Fn.bH #[h,j,l]) a.drew λm n=>
 pu P (oNil c) λo=>
 pu P (zad T.ag o 2) λp=>
 st P (zai T.ah p m) n λ_ q=>
 pu P (oNil c) λr=>
 pu P (zad T.ag r 3) λs=>
 st P (zai T.aC s (.int .i64 0)) q λ_ t=>
 pu P (zad T.ae b 7) λu=>
 st P (zab T.aC u) t λv x=>
 pu P (zad T.ae b 6) λy=>
 st P (zab T.ah y) x λz A=>
 pu P (zac .len #[T.ah] T.int #[false] #[z]) λB=>
 pu P (oBin .add T.aC false false v B) λC=>
 pu P (oNil d) λD=>
 pu P (zad T.am D 1) λE=>
 st P (zai T.aC E C) A λ_ F=>
 e [] F
def zg6(c d:Value)(a:World)(e f:Value)(b:List Value->World->Prop):Prop:=
 pu P (oBin .eql T.int false true c (.int .i64 15)) λg=>
 cd g (zer d a e f b) (
 b [] a)
def zeA(a b:Value)(c:World)(d e:Value)(f:List Value->World->Prop):Prop:=
 pu P (oBin .eql T.int false true a (.int .i64 14)) λg=>
 cd g (zey b c d e f) (zg6 a b c e d f)
def zhg(a b:Value)(K:Value->World->Prop)(c f:Value)(k:List Value)(l:Env)(g:World):Prop:=
 jn (zew a b K) λh=>
 pu P (zad T.ae a 0) λi=>
 st P (zab T.int i) g λd e=>
 pu P (oBin .eql T.int false true d (.int .i64 17)) λj=>
 cd j (zes c e a b K) (zeA d c e f a h)
def zhp(e g:Value)(K:Value->World->Prop)(M h:Value)(s5:List Value)(u5:Env)(N:World):Prop:=
 jn (zhg e g K M h) λO=>
 pu P (zad T.ae e 0) λQ=>
 st P (zab T.int Q) N λR i=>
 pu P (oBin .eql T.int false true R (.int .i64 14)) λa=>
 gd a true i (λU=>U h i) λV j=>
 gd a true j (λX=>pu P (oNil V) λv=>X v j) λY k=>
 gd a true k (λZ=>pu P (zad T.am Y 1) λv=>Z v k) λaa l=>
 gd a true l (λK4=>st P (zab T.aC aa) l K4) λab m=>
 gd a true m (λK5=>pu P (oBin .lss T.aC false true ab (.int .i64 0)) λv=>K5 v m) λac n=>
 gd a true n (λK6=>K6 ac n) λb o=>
 gd b false o (λK7=>K7 h o) λad p=>
 gd b false p (λK8=>pu P (oNil ad) λv=>K8 v p) λae q=>
 gd b false q (λK9=>pu P (zad T.am ae 1) λv=>K9 v q) λaf r=>
 gd b false r (λag=>st P (zab T.aC af) r ag) λah s=>
 gd b false s (λai=>pu P (oBin .gtr T.aC false true ah (.int .i64 1048576)) λv=>ai v s) λaj t=>
 gd a true t (λak=>pu P (zaD b (.bool true) aj) λv=>ak v t) λal u=>
 pu P (zaD a al (.bool false)) λc=>
 gd c false u (λam=>pu P (zad T.ae e 0) λv=>am v u) λan x=>
 gd c false x (λao=>st P (zab T.int an) x ao) λap y=>
 gd c false y (λaq=>pu P (oBin .neq T.int false true ap (.int .i64 14)) λv=>aq v y) λar z=>
 gd c false z (λau=>au ar z) λd A=>
 gd d true A (λav=>pu P (zad T.ae e 7) λv=>av v A) λaw B=>
 gd d true B (λax=>st P (zab T.aC aw) B ax) λay C=>
 gd d true C (λaz=>pu P (oBin .lss T.aC false true ay (.int .i64 0)) λv=>az v C) λa0 D=>
 gd d true D (λa1=>a1 a0 D) λf E=>
 gd f false E (λa2=>pu P (zad T.ae e 7) λv=>a2 v E) λa3 F=>
 gd f false F (λa4=>st P (zab T.aC a3) F a4) λa5 G=>
 gd f false G (λa6=>pu P (oBin .gtr T.aC false true a5 (.int .i64 1048576)) λv=>a6 v G) λa7 H=>
 gd d true H (λa8=>pu P (zaD f (.bool true) a7) λv=>a8 v H) λa9 I=>
 gd c false I (λba=>pu P (zaD d a9 (.bool false)) λv=>ba v I) λbb J=>
 pu P (zaD c (.bool true) bb) λbc=>
 cd bc (
 pu P (zaw T.ab #[(0,(.int .i64 13))]) λbd=>
 st P (zai T.ab g bd) J λ_ L=>
 rsl P T.ab g L λr3=>
 K (tup [r3]) L) (
 O [] J)
def zet(b c:Value)(K:Value->World->Prop)(i j:Value)(y:List Value)(z:Env)(k:World):Prop:=
 jn (zhp b c K i j) λl=>
 pu P (zad T.ae b 0) λm=>
 st P (zab T.int m) k λn d=>
 pu P (oBin .eql T.int false true n (.int .i64 17)) λa=>
 gd a true d (λo=>pu P (zad T.ae b 7) λv=>o v d) λp e=>
 gd a true e (λq=>st P (zab T.aC p) e q) λr f=>
 gd a true f (λs=>pu P (oBin .lss T.aC false true r (.int .i64 0)) λv=>s v f) λt g=>
 pu P (zaD a t (.bool false)) λu=>
 cd u (
 pu P (zaw T.ab #[(0,(.int .i64 7))]) λx=>
 st P (zai T.ab c x) g λ_ h=>
 rsl P T.ab c h λr4=>
 K (tup [r4]) h) (
 l [] g)
def zgJ(a:Value)(K:Value->World->Prop)(e:List Value)(f:Env)(c:World):Prop:=
 pu P (zaw T.ab #[(0,(.int .i64 6))]) λd=>
 st P (zai T.ab a d) c λ_ b=>
 rsl P T.ab a b λr5=>
 K (tup [r5]) b
def zdS(d:Value)(K:Value->World->Prop)(a:Value)(e:World)(f:Value):Prop:=
 jn (zgJ d K) λb=>
 pu P (zad T.ae a 0) λg=>
 st P (zab T.int g) e λh c=>
 pu P (oBin .eql T.int false true h (.int .i64 15)) λi=>
 cd i (
 pu P (zad T.ae a 7) λj=>
 st P (zab T.aC j) c λk l=>
 pu P (oNil f) λm=>
 pu P (zad T.am m 1) λn=>
 st P (zai T.aC n k) l λ_ o=>
 b [] o) (
 b [] c)
def zgo(b c:Value)(K:Value->World->Prop)(e a:Value)(k:List Value)(l:Env)(f:World):Prop:=
 jn (zet b c K e a) λg=>
 pu P (oNil a) λh=>
 pu P (zad T.am h 4) λi=>
 st P (zab T.bool i) f λj d=>
 cd j (zdS c K b d a) (
 g [] d)
def zd5(g:Value)(a:World)(b h c:Value)(K:Value->World->Prop):Prop:=
 pu P (oNil g) λi=>
 pu P (zad T.ag i 2) λj=>
 rd P (zab T.ah j) a.drew λk=>
 pu P (oNil b) λl=>
 pu P (zad T.am l 1) λm=>
 rd P (zab T.aC m) a.drew λn=>
 pu P (zad T.ae h 9) λo=>
 rd P (zab T.int o) a.drew λp=>
 st P (zah Fn.cA #[k,n,p]) a.drew λd q=>
 pu P (zae d 0) λe=>
 pu P (zae d 1) λr=>
 pu P (oNil b) λs=>
 pu P (zad T.am s 1) λt=>
 st P (zab T.aC t) q λu v=>
 pu P (zac .len #[T.ah] T.int #[false] #[e]) λx=>
 pu P (oBin .add T.aC false false u x) λy=>
 pu P (oNil b) λz=>
 pu P (zad T.am z 1) λA=>
 st P (zai T.aC A y) v λ_ B=>
 pu P (zaw T.ab #[(0,r),(3,e)]) λC=>
 st P (zai T.ab c C) B λ_ f=>
 rsl P T.ab c f λr6=>
 K (tup [r6]) f
def zdV(f:Value)(a:World)(b c:Value)(K:Value->World->Prop):Prop:=
 pu P (oNil f) λg=>
 pu P (zad T.ag g 2) λh=>
 rd P (zab T.ah h) a.drew λi=>
 pu P (zad T.ae b 7) λj=>
 rd P (zab T.aC j) a.drew λk=>
 pu P (zad T.ae b 9) λl=>
 rd P (zab T.int l) a.drew λm=>
 st P (zah Fn.cA #[i,k,m]) a.drew λd n=>
 pu P (zae d 0) λo=>
 pu P (zae d 1) λp=>
 pu P (zaw T.ab #[(0,p),(3,o)]) λq=>
 st P (zai T.ab c q) n λ_ e=>
 rsl P T.ab c e λr7=>
 K (tup [r7]) e
def zgI(c a:Value)(K:Value->World->Prop)(j:List Value)(k:Env)(d:World):Prop:=
 pu P (oNil c) λe=>
 pu P (zad T.am e 1) λf=>
 st P (zab T.aC f) d λg h=>
 pu P (zaw T.ab #[(2,g)]) λi=>
 st P (zai T.ab a i) h λ_ b=>
 rsl P T.ab a b λr8=>
 K (tup [r8]) b
def zgK(b:Value)(a:World)(c:Value)(d:List Value->World->Prop):Prop:=
 pu P (oNil b) λe=>
 pu P (zad T.am e 1) λf=>
 rd P (zab T.aC f) a.drew λg=>
 pu P (zad T.ae c 7) λh=>
 rd P (zab T.aC h) a.drew λi=>
 pu P (oBin .add T.aC false false g i) λj=>
 pu P (oNil b) λk=>
 pu P (zad T.am k 1) λl=>
 st P (zai T.aC l j) a.drew λ_ m=>
 d [] m
def zgD(b:Value)(a:World)(c d:Value)(e:List Value->World->Prop):Prop:=
 pu P (oNil b) λf=>
 pu P (zad T.ag f 2) λg=>
 rd P (zab T.ah g) a.drew λh=>
 pu P (zac .len #[T.ah] T.int #[false] #[h]) λi=>
 pu P (zad T.ae c 7) λj=>
 rd P (zab T.aC j) a.drew λk=>
 pu P (oBin .add T.aC false false i k) λl=>
 pu P (oNil d) λm=>
 pu P (zad T.am m 1) λn=>
 st P (zai T.aC n l) a.drew λ_ o=>
 e [] o
def zgA(c d:Value)(a:World)(e f:Value)(b:List Value->World->Prop):Prop:=
 pu P (oBin .eql T.int false true c (.int .i64 2)) λg=>
 cd g (zgD d a e f b) (
 b [] a)
def zdX(a b:Value)(c:World)(d:Value)(e:List Value->World->Prop)(f:Value):Prop:=
 pu P (oBin .eql T.int false true a (.int .i64 1)) λg=>
 cd g (zgK b c d e) (zgA a f c d b e)
def zd7(a f:Value)(K:Value->World->Prop)(b:Value)(g:World)(h:Value):Prop:=
 jn (zgI a f K) λc=>
 pu P (zad T.ae b 8) λi=>
 st P (zab T.int i) g λd e=>
 pu P (oBin .eql T.int false true d (.int .i64 0)) λj=>
 cd j (
 pu P (zad T.ae b 7) λk=>
 st P (zab T.aC k) e λl m=>
 pu P (oNil a) λn=>
 pu P (zad T.am n 1) λo=>
 st P (zai T.aC o l) m λ_ p=>
 c [] p) (zdX d a e b c h)
def zd1(b c d:Value)(K:Value->World->Prop)(e:Value)(a:World)(f:Value)(g:List Value->World->Prop):Prop:=
 pu P (oBin .eql T.int false true b (.int .i64 16)) λh=>
 cd h (zd7 c d K e a f) (
 g [] a)
def zcv(a b:Value)(c:World)(d e:Value)(K:Value->World->Prop)(f:Value)(g:List Value->World->Prop):Prop:=
 pu P (oBin .eql T.int false true a (.int .i64 13)) λh=>
 cd h (zdV b c d e K) (zd1 a f e K d c b g)
def zgn(a b:Value)(K:Value->World->Prop)(c d:Value)(k:List Value)(l:Env)(g:World):Prop:=
 jn (zgo a b K c d) λh=>
 pu P (zad T.ae a 0) λi=>
 st P (zab T.int i) g λe f=>
 pu P (oBin .eql T.int false true e (.int .i64 12)) λj=>
 cd j (zd5 c f d a b K) (zcv e c f a b K d h)
def zdH(e a:Value)(K:Value->World->Prop)(f b:Value)(m:List Value)(n:Env)(g:World):Prop:=
 jn (zgn e a K f b) λh=>
 pu P (oNil b) λi=>
 pu P (zad T.am i 3) λj=>
 st P (zab T.bool j) g λk c=>
 cd k (
 pu P (zaw T.ab #[(0,(.int .i64 3))]) λl=>
 st P (zai T.ab a l) c λ_ d=>
 rsl P T.ab a d λr9=>
 K (tup [r9]) d) (
 h [] c)
def zdO(a:Value)(d:World)(e:Value)(K:Value->World->Prop)(f:Value):Prop:=
 pu P (oNil a) λg=>
 pu P (zad T.am g 3) λh=>
 st P (zai T.bool h (.bool true)) d λ_ i=>
 jn (zaH e K) λb=>
 pu P (oNil a) λj=>
 pu P (zad T.am j 4) λk=>
 st P (zab T.bool k) i λl c=>
 pu P (oUn .not l) λm=>
 cd m (
 pu P (oNil f) λn=>
 pu P (zad T.ag n 3) λo=>
 st P (zai T.aC o (.int .i64 0)) c λ_ p=>
 b [] p) (
 b [] c)
def zec(c:Value)(d:World)(e a:Value)(K:Value->World->Prop):Prop:=
 pu P (oNil c) λf=>
 pu P (zad T.am f 0) λg=>
 st P (zab T.int g) d λh i=>
 st P (zah Fn.bQ #[e,h]) i λj k=>
 st P (zam T.aM 1 #[(0,j)]) k λl m=>
 pu P (zaw T.ab #[(5,l)]) λn=>
 st P (zai T.ab a n) m λ_ b=>
 rsl P T.ab a b λr11=>
 K (tup [r11]) b
def zdP(c:Value)(d:World)(a:Value)(K:Value->World->Prop):Prop:=
 pu P (oNil c) λe=>
 pu P (zad T.ag e 4) λf=>
 st P (zab T.string f) d λg h=>
 st P (zam T.aj 1 #[(0,g)]) h λi j=>
 pu P (zaw T.ab #[(4,i)]) λk=>
 st P (zai T.ab a k) j λ_ b=>
 rsl P T.ab a b λr12=>
 K (tup [r12]) b
def zdU(d e f a:Value)(K:Value->World->Prop)(g:List Value->World->Prop)(h:List Value)(m:Env)(b:World):Prop:=
 cd (gs h 0) (
 st P (zab T.ae d) b λi j=>
 st P (zah Fn.cU #[e,f,i]) j λk l=>
 st P (zai T.ab a k) l λ_ c=>
 rsl P T.ab a c λr14=>
 K (tup [r14]) c) (
 g [] b)
def zdW(e f g h:Value)(K:Value->World->Prop)(i:List Value->World->Prop)(a:Value)(b:World):Prop:=
 jn (zdU e f g h K i) λc=>
 pu P (oBin .eql T.int false true a (.int .i64 19)) λd=>
 cd d (
 c [d] b) (
 pu P (oBin .eql T.int false true a (.int .i64 20)) λj=>
 c [j] b)
def zcu(b a:Value)(c:World)(K:Value->World->Prop)(e f g:Value)(h:List Value->World->Prop):Prop:=
 pu P (oBin .eql T.int false true b (.int .i64 23)) λi=>
 cd i (
 pu P (zaw T.ab #[]) λj=>
 st P (zai T.ab a j) c λ_ d=>
 rsl P T.ab a d λr13=>
 K (tup [r13]) d) (zdW e f g a K h b c)
def zbL(a d:Value)(b:World)(c:Value)(K:Value->World->Prop)(e f g:Value)(h:List Value->World->Prop):Prop:=
 pu P (oBin .eql T.int false true a (.int .i64 22)) λi=>
 cd i (zdP d b c K) (zcu a c b K e f g h)
def zbm(a b:Value)(c:World)(d e:Value)(K:Value->World->Prop)(f g:Value)(h:List Value->World->Prop):Prop:=
 pu P (oBin .eql T.int false true a (.int .i64 21)) λi=>
 cd i (zec b c d e K) (zbL a f c e K g d b h)
def ziz(f a i:Value)(w:World)(K:Value->World->Prop):Prop:=
 st P (oBox T.ae i) w λb j=>
 st P (zbw T.ab) j λc d=>
 pu P (oNil f) λk=>
 pu P (zad T.aA k 2) λl=>
 rd P (zab T.ap l) d.drew λm=>
 pu P (oNil a) λn=>
 pu P (zad T.am n 0) λo=>
 rd P (zab T.int o) d.drew λp=>
 pu P (zaO T.ap m p) λe=>
 jn (zdH b c K e a) λq=>
 pu P (zad T.ae b 0) λr=>
 st P (zab T.int r) d.drew λg h=>
 pu P (oBin .eql T.int false true g (.int .i64 18)) λs=>
 cd s (zdO a h c K e) (zbm g a h f c K e b q)
theorem zms(h:ziz t0 t1 t2 w K):Cl P Fn.cW #[t0,t1,t2] w K:=ce (T:=tb [(16,[58])] []) Tryz.func120 rfl h
def zf8(w:World)(K:Value->World->Prop):Prop:=
 pu P (zaw T.aL #[]) λa=>
 st P (oBox T.aL a) w λb c=>
 K (tup [b]) c
theorem zjQ(h:zf8 w K):Cl P Fn.ci #[] w K:=ce (T:=tb [] []) Tryz.func121 rfl h
def zdD(b d:Value)(w:World)(K:Value->World->Prop):Prop:=
 st P (zah Fn.ag #[d]) w λc e=>
 st P (zah Fn.cP #[c]) e λa f=>
 st P (zah Fn.ab #[b]) f λg h=>
 st P (zee T.ai g c a) h λ_ i=>
 st P (zah Fn.ae #[b,a,(.int .u32 0)]) i λm j=>
 st P (zah Fn.aI #[a]) j λk l=>
 K (tup [k,.nilIface]) l
theorem zhD(h:zdD t0 t1 w K):Cl P Fn.aG #[t0,t1] w K:=ce (T:=tb [] []) Tryz.func122 rfl h
def zeM(e f:Value)(w:World)(K:Value->World->Prop):Prop:=
 st P (zah Fn.aN #[e,f]) w λa b=>
 pu P (zae a 0) λc=>
 pu P (zae a 1) λd=>
 jn (λl m g=>
 K (tup [(.pointer none),d]) g) λh=>
 pu P (oBin .neq T.af false true c (.pointer none)) λi=>
 cd i (
 st P (zah Fn.au #[c]) b λj k=>
 K (tup [j,d]) k) (
 h [] b)
theorem zi5(h:zeM t0 t1 w K):Cl P Fn.aM #[t0,t1] w K:=ce (T:=tb [] []) Tryz.func123 rfl h
def zcA(K:Value->World->Prop)(a c:List Value)(d:Env)(b:World):Prop:=K (tup [(gs a 0),.nilIface]) b
def zcy(K:Value->World->Prop)(a c:List Value)(d e f:Value)(j:List Value)(k:Env)(b:World):Prop:=
 jn (zcA K a) λg=>
 cd (gs c 0) (
 st P (zah Fn.am #[d,e,f]) b λh i=>
 K (tup [(gs a 0),h]) i) (
 g [] b)
def zcI(a:List Value)(d:World)(K:Value->World->Prop)(e:List Value->World->Prop):Prop:=
 st P (zah Fn.bc #[(gs a 0),(.int .i64 0)]) d λb c=>
 pu P (oBin .neq T.aB false true b .nilIface) λf=>
 cd f (
 st P (zah Fn.bz #[(gs a 0)]) c λh g=>
 K (tup [(.pointer none),b]) g) (
 e [] c)
def zcH(K:Value->World->Prop)(b i:List Value)(j k l c:Value)(u:List Value)(x:Env)(d:World):Prop:=
 jn (zcy K b i j k l) λe=>
 pu P (oBin .and T.int false true c (.int .i64 512)) λm=>
 pu P (oBin .gtr T.int false true m (.int .i64 0)) λa=>
 gd a true d (λn=>n c d) λo f=>
 gd a true f (λp=>pu P (oBin .and T.int false true o (.int .i64 3)) λv=>p v f) λq g=>
 gd a true g (λr=>pu P (oBin .gtr T.int false true q (.int .i64 0)) λv=>r v g) λs h=>
 pu P (zaD a s (.bool false)) λt=>
 cd t (zcI b h K e) (
 e [] h)
def zcG(a:List Value)(e:World)(K:Value->World->Prop)(f:List Value->World->Prop):Prop:=
 st P (zah Fn.bM #[(gs a 0),(.int .i64 0),(.int .i64 2)]) e λb c=>
 pu P (zae b 0) λi=>
 pu P (zae b 1) λd=>
 pu P (oBin .neq T.aB false true d .nilIface) λg=>
 cd g (
 st P (zah Fn.bz #[(gs a 0)]) c λj h=>
 K (tup [(.pointer none),d]) h) (
 f [] c)
def zcE(K:Value->World->Prop)(e:List Value)(f g h a:Value)(b:List Value)(k:Env)(c:World):Prop:=
 jn (zcH K b e f g h a) λd=>
 pu P (oBin .and T.int false true a (.int .i64 1024)) λi=>
 pu P (oBin .gtr T.int false true i (.int .i64 0)) λj=>
 cd j (zcG b c K d) (
 d [] c)
def zcF(K:Value->World->Prop)(a:List Value)(e f g b:Value)(p:List Value)(q:Env)(c:World):Prop:=
 jn (zcE K a e f g b) λd=>
 pu P (oBin .eql T.int false true b (.int .i64 0)) λh=>
 cd h (
 pu P (oNil (gs a 1)) λi=>
 st P (zab T.ao i) c λj k=>
 st P (zah Fn.cY #[j]) k λl m=>
 st P (zah Fn.au #[l]) m λn o=>
 d [n] o) (
 d [(gs a 1)] c)
def za8(K:Value->World->Prop)(c d e f:Value)(a:List Value)(i:Env)(b:World):Prop:=
 jn (zcF K a c d e f) λg=>
 pu P (oBin .neq T.aB false true (gs a 2) .nilIface) λh=>
 cd h (
 K (tup [(.pointer none),(gs a 2)]) b) (
 g [] b)
def zby(K:Value->World->Prop)(b c l d e m:Value)(A:List Value)(B:Env)(n:World):Prop:=
 jn (za8 K b c l d) λf=>
 st P (zah Fn.cC #[e]) n λa g=>
 gd a true g (λo=>o d g) λp h=>
 gd a true h (λq=>pu P (oBin .and T.int false true p (.int .i64 64)) λv=>q v h) λr i=>
 gd a true i (λs=>pu P (oBin .gtr T.int false true r (.int .i64 0)) λv=>s v i) λt j=>
 pu P (zaD a t (.bool false)) λu=>
 cd u (
 st P (zah Fn.aG #[b,c]) j λk x=>
 pu P (zae k 0) λy=>
 pu P (zae k 1) λz=>
 f [(.bool true),y,z] x) (
 f [(.bool false),m,e] j)
def zcw(a:World)(b:Value)(K:Value->World->Prop):Prop:=
 rd P (zab T.aB (.pointer (some ⟨G.ah,0,none⟩))) a.drew λc=>
 pu P (zaw T.au #[(0,(S [111,112,101,110])),(1,b),(2,c)]) λd=>
 st P (oBox T.au d) a.drew λe f=>
 pu P (zbl T.aD e) λg=>
 K (tup [(.pointer none),g]) f
def zc2(c b d k:Value)(w:World)(K:Value->World->Prop):Prop:=
 pu P (oBin .and T.aN false true k (.int .u32 13631999)) λl=>
 st P (zah Fn.aK #[c,b]) w λe f=>
 pu P (zae e 0) λm=>
 pu P (zae e 1) λg=>
 jn (zby K c b l d g m) λn=>
 pu P (oBin .eql T.aB false true g .nilIface) λa=>
 gd a true f (λo=>o d f) λp h=>
 gd a true h (λq=>pu P (oBin .and T.int false true p (.int .i64 128)) λv=>q v h) λr i=>
 gd a true i (λs=>pu P (oBin .gtr T.int false true r (.int .i64 0)) λv=>s v i) λt j=>
 pu P (zaD a t (.bool false)) λu=>
 cd u (zcw j b K) (
 n [] j)
theorem zgV(h:zc2 t0 t1 t2 t3 w K):Cl P Fn.aT #[t0,t1,t2,t3] w K:=ce (T:=tb [(9,[10,11,12]),(13,[11])] []) Tryz.func124 rfl h
def zek(b i j:Value)(w:World)(K:Value->World->Prop):Prop:=
 pu P (oBin .and T.aN false true j (.int .u32 13631999)) λc=>
 st P (zah Fn.ag #[i]) w λa k=>
 st P (zah Fn.ab #[b]) k λl m=>
 st P (za3 T.ai l a true) m λe f=>
 pu P (zae e 0) λY=>
 pu P (zae e 1) λn=>
 jn (λZ u1 o=>
 jn (λs2 u2 p=>
 st P (zah Fn.bP #[a]) p λd q=>
 pu P (oBin .or T.aN true false (.int .u32 2147483648) c) λr=>
 st P (zah Fn.bZ #[d,r]) q λaa s=>
 st P (zah Fn.ab #[b]) s λt u=>
 st P (zee T.ai t a d) u λ_ v=>
 st P (zah Fn.ae #[b,d,c]) v λab x=>
 pu P (oBin .or T.aN false true c (.int .u32 2147483648)) λy=>
 st P (zah Fn.am #[b,a,y]) x λz A=>
 K (tup [z]) A) λB=>
 st P (zah Fn.ab #[b]) o λC D=>
 st P (za3 T.ai C a true) D λg h=>
 pu P (zae g 0) λac=>
 pu P (zae g 1) λE=>
 cd E (
 st P (zab T.aB (.pointer (some ⟨G.ah,0,none⟩))) h λF H=>
 pu P (zaw T.au #[(0,(S [109,107,100,105,114])),(1,a),(2,F)]) λI=>
 st P (oBox T.au I) H λJ L=>
 pu P (zbl T.aD J) λM=>
 K (tup [M]) L) (
 B [] h)) λN=>
 cd n (
 st P (zab T.aB (.pointer (some ⟨G.ah,0,none⟩))) f λO Q=>
 pu P (zaw T.au #[(0,(S [109,107,100,105,114])),(1,a),(2,O)]) λR=>
 st P (oBox T.au R) Q λU V=>
 pu P (zbl T.aD U) λX=>
 K (tup [X]) V) (
 N [] f)
theorem zie(h:zek t0 t1 t2 w K):Cl P Fn.aJ #[t0,t1,t2] w K:=ce (T:=tb [] []) Tryz.func125 rfl h
def zc7(c d e:Value)(w:World)(K:Value->World->Prop):Prop:=
 st P (zah Fn.aJ #[c,d,e]) w λb a=>
 jn (λq r f=>
 K (tup [.nilIface]) f) λg=>
 pu P (oBin .neq T.aB false true b .nilIface) λh=>
 cd h (
 jn (λs t i=>
 K (tup [b]) i) λj=>
 pu P (zgS b T.aB T.aD false) λk=>
 pu P (oNil k) λl=>
 pu P (zad T.au l 2) λm=>
 rd P (zab T.aB m) a.drew λn=>
 rd P (zab T.aB (.pointer (some ⟨G.ah,0,none⟩))) a.drew λo=>
 rd P (oBin .eql T.aB false false n o) a.drew λp=>
 cd p (
 K (tup [.nilIface]) a.drew) (
 j [] a.drew)) (
 g [] a)
theorem zgX(h:zc7 t0 t1 t2 w K):Cl P Fn.aQ #[t0,t1,t2] w K:=ce (T:=tb [] []) Tryz.func126 rfl h
def zdF(b g:Value)(w:World)(K:Value->World->Prop):Prop:=
 st P (zah Fn.ag #[g]) w λa h=>
 jn (λE F i=>
 K (tup [.nilIface]) i) λj=>
 st P (zah Fn.ab #[b]) h λk l=>
 st P (za3 T.ai k a true) l λc d=>
 pu P (zae c 0) λH=>
 pu P (zae c 1) λm=>
 cd m (
 st P (zah Fn.af #[b,a]) d λe f=>
 jn (λI J n=>
 st P (zah Fn.ab #[b]) n λo p=>
 st P (zac .delete #[T.ai,T.string] T.aU #[false,false] #[o,a]) p λ_ q=>
 j [] q) λr=>
 pu P (oBin .neq T.aB false true e .nilIface) λs=>
 cd s (
 pu P (zaw T.au #[(0,(S [114,101,109,111,118,101])),(1,a),(2,e)]) λt=>
 st P (oBox T.au t) f λu v=>
 pu P (zbl T.aD u) λx=>
 K (tup [x]) v) (
 r [] f)) (
 st P (zab T.aB (.pointer (some ⟨G.ab,0,none⟩))) d λy z=>
 pu P (zaw T.au #[(0,(S [114,101,109,111,118,101])),(1,a),(2,y)]) λA=>
 st P (oBox T.au A) z λB C=>
 pu P (zbl T.aD B) λD=>
 K (tup [D]) C)
theorem zhH(h:zdF t0 t1 w K):Cl P Fn.aE #[t0,t1] w K:=ce (T:=tb [] []) Tryz.func127 rfl h
def zcT(b n:Value)(w:World)(K:Value->World->Prop):Prop:=
 st P (zah Fn.ag #[n]) w λc o=>
 st P (zah Fn.af #[b,c]) o λV p=>
 jn (λX Y q=>
 K (tup [.nilIface]) q) λr=>
 st P (zah Fn.ab #[b]) p λs t=>
 st P (zah Fn.bO #[s]) t λf u=>
 pu P (zac .len #[T.aj] T.int #[false] #[f]) λx=>
 lp [(.int .i64 0)] u λd Z g y=>
 pu P (oBin .lss T.int false false (gs d 0) x) λz=>
 jn (λs3 u3 A=>
 jn (λs4 u4 B=>
 pu P (oBin .add T.int false true (gs d 0) (.int .i64 1)) λC=>
 y [C] B) λh=>
 pu P (zaO T.aj f (gs d 0)) λD=>
 st P (zab T.string D) A λe i=>
 pu P (oBin .eql T.string false false e c) λa=>
 gd a false i (λE=>E e i) λF j=>
 gd a false j (λG=>G c j) λH k=>
 gd a false k (λI=>pu P (oBin .add T.string false true H (S [47])) λv=>I v k) λJ l=>
 gd a false l (λL=>st P (zah Fn.bj #[F,J]) l L) λM m=>
 pu P (zaD a (.bool true) M) λN=>
 cd N (
 st P (zah Fn.ab #[b]) m λO Q=>
 st P (zac .delete #[T.ai,T.string] T.aU #[false,false] #[O,e]) Q λ_ R=>
 h [] R) (
 h [] m)) λU=>
 cd z (
 U [] g) (
 r [] g)
theorem zgd(h:zcT t0 t1 w K):Cl P Fn.aA #[t0,t1] w K:=ce (T:=tb [] [(4,[16])]) Tryz.func128 rfl h
def zdR(a l m:Value)(w:World)(K:Value->World->Prop):Prop:=
 st P (zah Fn.ag #[l]) w λb n=>
 st P (zah Fn.ag #[m]) n λc e=>
 jn (λs1 u1 o=>
 jn (λs2 u2 p=>
 K (tup [.nilIface]) p) λq=>
 st P (zah Fn.ab #[a]) o λr s=>
 st P (za3 T.ai r b true) s λf g=>
 pu P (zae f 0) λaa=>
 pu P (zae f 1) λt=>
 cd t (
 st P (zah Fn.af #[a,b]) g λh i=>
 jn (λs3 u3 u=>
 st P (zah Fn.ab #[a]) u λv x=>
 st P (za3 T.ai v b false) x λd y=>
 st P (zah Fn.aD #[d,c]) y λab z=>
 st P (zah Fn.ab #[a]) z λA B=>
 st P (zee T.ai A c d) B λ_ C=>
 st P (zah Fn.ak #[a,b,c]) C λj k=>
 jn (λs4 u4 D=>
 st P (zah Fn.ab #[a]) D λE F=>
 st P (zac .delete #[T.ai,T.string] T.aU #[false,false] #[E,b]) F λ_ H=>
 st P (zah Fn.ae #[a,d,(.int .u32 0)]) H λac I=>
 q [] I) λJ=>
 pu P (oBin .neq T.aB false true j .nilIface) λL=>
 cd L (
 K (tup [j]) k) (
 J [] k)) λM=>
 pu P (oBin .neq T.aB false true h .nilIface) λN=>
 cd N (
 K (tup [h]) i) (
 M [] i)) (
 st P (zab T.aB (.pointer (some ⟨G.ab,0,none⟩))) g λO Q=>
 pu P (zaw T.au #[(0,(S [114,101,110,97,109,101])),(1,b),(2,O)]) λR=>
 st P (oBox T.au R) Q λU V=>
 pu P (zbl T.aD U) λX=>
 K (tup [X]) V)) λY=>
 pu P (oBin .eql T.string false false b c) λZ=>
 cd Z (
 K (tup [.nilIface]) e) (
 Y [] e)
theorem zhE(h:zdR t0 t1 t2 w K):Cl P Fn.a7 #[t0,t1,t2] w K:=ce (T:=tb [] []) Tryz.func129 rfl h
def zeN(d e:Value)(w:World)(K:Value->World->Prop):Prop:=
 st P (zah Fn.aM #[d,e]) w λa b=>
 pu P (zae a 0) λf=>
 pu P (zae a 1) λc=>
 jn (λq r g=>
 pu P (oNil f) λh=>
 st P (zab T.ao h) g λi j=>
 st P (zah Fn.cY #[i]) j λk l=>
 st P (zah Fn.aY #[k]) l λm n=>
 K (tup [m,.nilIface]) n) λo=>
 pu P (oBin .neq T.aB false true c .nilIface) λp=>
 cd p (
 K (tup [(.pointer none),c]) b) (
 o [] b)
theorem ziA(h:zeN t0 t1 w K):Cl P Fn.bJ #[t0,t1] w K:=ce (T:=tb [] []) Tryz.func130 rfl h
def zef(b a e:Value)(w:World)(K:Value->World->Prop):Prop:=
 pu P (oBin .and T.aN false true e (.int .u32 13631999)) λf=>
 st P (zah Fn.ab #[b]) w λg h=>
 st P (za3 T.ai g a true) h λc d=>
 pu P (zae c 0) λi=>
 pu P (zae c 1) λj=>
 jn (λC D k=>
 st P (zah Fn.aY #[i]) k λl m=>
 st P (zah Fn.aq #[l]) m λn o=>
 pu P (oBin .and T.aN false true n (.int .u32 4281335296)) λp=>
 pu P (oBin .or T.aN false false p f) λq=>
 st P (zah Fn.am #[b,a,q]) o λr s=>
 K (tup [r]) s) λt=>
 pu P (oUn .not j) λu=>
 cd u (
 st P (zab T.aB (.pointer (some ⟨G.ab,0,none⟩))) d λv x=>
 pu P (zaw T.au #[(0,(S [99,104,109,111,100])),(1,a),(2,v)]) λy=>
 st P (oBox T.au y) x λz A=>
 pu P (zbl T.aD z) λB=>
 K (tup [B]) A) (
 t [] d)
theorem zig(h:zef t0 t1 t2 w K):Cl P Fn.bo #[t0,t1,t2] w K:=ce (T:=tb [] []) Tryz.func131 rfl h
def zeg(e f g h:Value)(w:World)(K:Value->World->Prop):Prop:=
 st P (zah Fn.ag #[f]) w λa i=>
 st P (zah Fn.ab #[e]) i λj k=>
 st P (za3 T.ai j a true) k λb c=>
 pu P (zae b 0) λd=>
 pu P (zae b 1) λl=>
 jn (λy z m=>
 st P (zah Fn.dE #[d,g]) m λA n=>
 st P (zah Fn.dF #[d,h]) n λB o=>
 K (tup [.nilIface]) o) λp=>
 pu P (oUn .not l) λq=>
 cd q (
 st P (zab T.aB (.pointer (some ⟨G.ab,0,none⟩))) c λr s=>
 pu P (zaw T.au #[(0,(S [99,104,111,119,110])),(1,a),(2,r)]) λt=>
 st P (oBox T.au t) s λu v=>
 pu P (zbl T.aD u) λx=>
 K (tup [x]) v) (
 p [] c)
theorem zif(h:zeg t0 t1 t2 t3 w K):Cl P Fn.bw #[t0,t1,t2,t3] w K:=ce (T:=tb [] []) Tryz.func132 rfl h
def zdl(d e v f:Value)(w:World)(K:Value->World->Prop):Prop:=
 st P (zah Fn.ag #[e]) w λa g=>
 st P (zah Fn.ab #[d]) g λh i=>
 st P (za3 T.ai h a true) i λb c=>
 pu P (zae b 0) λj=>
 pu P (zae b 1) λk=>
 jn (λx y l=>
 st P (zah Fn.du #[j,f]) l λz m=>
 K (tup [.nilIface]) m) λn=>
 pu P (oUn .not k) λo=>
 cd o (
 st P (zab T.aB (.pointer (some ⟨G.ab,0,none⟩))) c λp q=>
 pu P (zaw T.au #[(0,(S [99,104,116,105,109,101,115])),(1,a),(2,p)]) λr=>
 st P (oBox T.au r) q λs t=>
 pu P (zbl T.aD s) λu=>
 K (tup [u]) t) (
 n [] c)
theorem zhe(h:zdl t0 t1 t2 t3 w K):Cl P Fn.aW #[t0,t1,t2,t3] w K:=ce (T:=tb [] []) Tryz.func133 rfl h
def zcR(a:Value)(w:World)(K:Value->World->Prop):Prop:=
 st P (zah Fn.ab #[a]) w λb c=>
 st P (zah Fn.bO #[b]) c λd e=>
 K (tup [d]) e
theorem zge(h:zcR t0 w K):Cl P Fn.aL #[t0] w K:=ce (T:=tb [] []) Tryz.func134 rfl h
def zc3(a b:Value)(w:World)(K:Value->World->Prop):Prop:=
 st P (zah Fn.ab #[a]) w λc d=>
 st P (za3 T.ai c b false) d λe f=>
 K (tup [e]) f
theorem zgW(h:zc3 t0 t1 w K):Cl P Fn.aR #[t0,t1] w K:=ce (T:=tb [] []) Tryz.func135 rfl h
def zho(a:Value)(w:World)(K:Value->World->Prop):Prop:=
 pu P (zaw T.aF #[(0,a)]) λb=>
 st P (oBox T.aF b) w λc d=>
 K (tup [c]) d
theorem zkO(h:zho t0 w K):Cl P Fn.aY #[t0] w K:=ce (T:=tb [] []) Tryz.func136 rfl h
def zdi(a:Value)(w:World)(K:Value->World->Prop):Prop:=
 pu P (oNil a) λb=>
 pu P (zad T.aF b 0) λc=>
 st P (zab T.af c) w λd e=>
 pu P (oNil d) λf=>
 pu P (zad T.ak f 4) λg=>
 st P (zab T.aN g) e λh i=>
 K (tup [h]) i
theorem zfG(h:zdi t0 w K):Cl P Fn.aq #[t0] w K:=ce (T:=tb [] []) Tryz.func137 rfl h
def zcX(a:Value)(w:World)(K:Value->World->Prop):Prop:=
 pu P (oNil a) λb=>
 pu P (zad T.aF b 0) λc=>
 st P (zab T.af c) w λd e=>
 pu P (oNil d) λf=>
 pu P (zad T.ak f 3) λg=>
 st P (zab T.bool g) e λh i=>
 K (tup [h]) i
theorem zfp(h:zcX t0 w K):Cl P Fn.ao #[t0] w K:=ce (T:=tb [] []) Tryz.func138 rfl h
def zdp(a:Value)(w:World)(K:Value->World->Prop):Prop:=
 pu P (oNil a) λb=>
 pu P (zad T.ak b 1) λc=>
 st P (zab T.ah c) w λd e=>
 K (tup [d]) e
theorem zhk(h:zdp t0 w K):Cl P Fn.aU #[t0] w K:=ce (T:=tb [] []) Tryz.func139 rfl h
def zcr(a:Value)(w:World)(K:Value->World->Prop):Prop:=
 pu P (oNil a) λb=>
 pu P (zad T.aF b 0) λc=>
 st P (zab T.af c) w λd e=>
 pu P (oNil d) λf=>
 pu P (zad T.ak f 5) λg=>
 st P (zab T.aC g) e λh i=>
 K (tup [h]) i
theorem zei(h:zcr t0 w K):Cl P Fn.aB #[t0] w K:=ce (T:=tb [] []) Tryz.func140 rfl h
def zkZ(b:Value)(w:World)(K:Value->World->Prop):Prop:=
 jn (λu x g=>
 st P (zah Fn.ay #[b]) g λc d=>
 pu P (zac .len #[T.string] T.int #[false] #[c]) λh=>
 pu P (oBin .gtr T.int false true h (.int .i64 2)) λa=>
 gd a true d (λi=>i c d) λj e=>
 gd a true e (λk=>pu P (zaE T.string j none (some (.int .i64 3)) none) λv=>k v e) λl f=>
 gd a true f (λm=>pu P (oBin .eql T.string false true l (S [46,46,47])) λv=>m v f) λn o=>
 pu P (zaD a n (.bool false)) λp=>
 pu P (oUn .not p) λq=>
 K (tup [q]) o) λr=>
 pu P (zac .len #[T.string] T.int #[false] #[b]) λs=>
 pu P (oBin .gtr T.int false true s (.int .i64 400)) λt=>
 cd t (
 K (tup [(.bool false)]) w) (
 r [] w)
theorem zoO(h:zkZ t0 w K):Cl P Fn.cN #[t0] w K:=ce (T:=tb [] []) Tryz.func141 rfl h
def zh3(b l:Value)(w:World)(K:Value->World->Prop):Prop:=
 st P (zah Fn.ai #[b,l]) w λc d=>
 pu P (zae c 0) λm=>
 pu P (zae c 1) λa=>
 gd a true d (λn=>n b d) λo e=>
 gd a true e (λp=>pu P (oNil o) λv=>p v e) λq f=>
 gd a true f (λr=>pu P (zad T.aA q 2) λv=>r v f) λs g=>
 gd a true g (λt=>st P (zab T.ap s) g t) λu h=>
 gd a true h (λx=>x m h) λy i=>
 gd a true i (λz=>pu P (zaO T.ap u y) λv=>z v i) λA j=>
 gd a true j (λB=>pu P (zad T.ag A 0) λv=>B v j) λC k=>
 gd a true k (λD=>st P (zab T.bool C) k D) λE F=>
 pu P (zaD a E (.bool false)) λG=>
 K (tup [G]) F
theorem zln(h:zh3 t0 t1 w K):Cl P Fn.aO #[t0,t1] w K:=ce (T:=tb [] []) Tryz.func142 rfl h
def zh7(b q:Value)(w:World)(K:Value->World->Prop):Prop:=
 jn (λZ u1 r=>
 K (tup [(.bool true)]) r) λs=>
 lp [q] w λc u2 d t=>
 jn (λs3 u3 u=>
 st P (zah Fn.bu #[(gs c 0)]) u λe x=>
 st P (zah Fn.ai #[b,e]) x λf g=>
 pu P (zae f 0) λy=>
 pu P (zae f 1) λa=>
 gd a true g (λz=>z b g) λA h=>
 gd a true h (λB=>pu P (oNil A) λv=>B v h) λC i=>
 gd a true i (λD=>pu P (zad T.aA C 2) λv=>D v i) λE j=>
 gd a true j (λF=>st P (zab T.ap E) j F) λG k=>
 gd a true k (λH=>H y k) λI l=>
 gd a true l (λJ=>pu P (zaO T.ap G I) λv=>J v l) λL m=>
 gd a true m (λM=>pu P (zad T.ag L 0) λv=>M v m) λN n=>
 gd a true n (λO=>st P (zab T.bool N) n O) λQ o=>
 gd a true o (λR=>pu P (oUn .not Q) λv=>R v o) λU p=>
 pu P (zaD a U (.bool false)) λV=>
 cd V (
 K (tup [(.bool false)]) p) (
 t [e] p)) λX=>
 pu P (oBin .neq T.string false true (gs c 0) (S [47])) λY=>
 cd Y (
 X [] d) (
 s [] d)
theorem zld(h:zh7 t0 t1 w K):Cl P Fn.aP #[t0,t1] w K:=ce (T:=tb [] [(1,[1])]) Tryz.func143 rfl h
def zfX(l m:Value)(w:World)(K:Value->World->Prop):Prop:=
 st P (zam T.aj 0 #[]) w λn o=>
 jn (λp Y q=>
 K (tup [(gs p 0)]) q) λr=>
 pu P (oNil l) λs=>
 pu P (zad T.aA s 0) λt=>
 st P (zab T.aj t) o λd u=>
 pu P (zac .len #[T.aj] T.int #[false] #[d]) λx=>
 lp [n,(.int .i64 0)] u λa Z e y=>
 pu P (oBin .lss T.int false false (gs a 1) x) λz=>
 jn (λs3 u3 A=>
 jn (λB u4 C=>
 pu P (oBin .add T.int false true (gs a 1) (.int .i64 1)) λD=>
 y [(gs B 0),D] C) λf=>
 pu P (zaO T.aj d (gs a 1)) λE=>
 st P (zab T.string E) A λc g=>
 pu P (oBin .neq T.string false true c (S [47])) λb=>
 gd b true g (λF=>F c g) λG h=>
 gd b true h (λH=>st P (zah Fn.bu #[G]) h H) λI i=>
 gd b true i (λJ=>J m i) λL j=>
 gd b true j (λM=>pu P (oBin .eql T.string false false I L) λv=>M v j) λN k=>
 pu P (zaD b N (.bool false)) λO=>
 cd O (
 st P (zam T.aj 1 #[(0,c)]) k λQ R=>
 st P (zac .append #[T.aj,T.aj] T.aj #[false,false] #[(gs a 0),Q]) R λU V=>
 f [U] V) (
 f [(gs a 0)] k)) λX=>
 cd z (
 X [] e) (
 r [(gs a 0)] e)
theorem zjR(h:zfX t0 t1 w K):Cl P Fn.aH #[t0,t1] w K:=ce (T:=tb [(7,[5]),(8,[5])] [(3,[5,14])]) Tryz.func144 rfl h
def zfi(K:Value->World->Prop)(a:Value)(b d:List Value)(e:Env)(c:World):Prop:=K (tup [a,(gs b 0)]) c
def zfj(b:Value)(a:List Value)(c:Value)(d:List Value->World->Prop)(o:List Value)(p:Env)(e:World):Prop:=
 pu P (zaO T.aq b (gs a 0)) λf=>
 st P (zab T.af f) e λg h=>
 pu P (zaw T.aF #[(0,g)]) λi=>
 st P (oBox T.aF i) h λj k=>
 pu P (zaO T.aP c (gs a 0)) λl=>
 st P (zai T.aG l j) k λ_ m=>
 pu P (oBin .add T.int false true (gs a 0) (.int .i64 1)) λn=>
 d [n] m
def zfl(c:Value)(K:Value->World->Prop)(f:Value)(a:List Value)(v:Env)(g:World):Prop:=
 pu P (oNil c) λh=>
 pu P (zad T.ao h 1) λi=>
 st P (zab T.aC i) g λj k=>
 pu P (oBin .add T.aC false false j (gs a 1)) λl=>
 pu P (oNil c) λm=>
 pu P (zad T.ao m 1) λn=>
 st P (zai T.aC n l) k λ_ o=>
 st P (zdx T.aP (gs a 1) (gs a 1)) o λb p=>
 jn (zfi K b a) λq=>
 pu P (zac .len #[T.aP] T.int #[false] #[b]) λr=>
 lp [(.int .i64 0)] p λd x e s=>
 pu P (oBin .lss T.int false false (gs d 0) r) λt=>
 jn (zfj f d b s) λu=>
 cd t (
 u [] e) (
 q [] e)
def zfd(d:Value)(a:List Value->World->Prop)(e b:List Value)(j:Env)(c:World):Prop:=
 pu P (zac .len #[T.aq] T.int #[false] #[d]) λf=>
 pu P (oBin .eql T.int false true f (.int .i64 0)) λg=>
 cd g (
 st P (zab T.aB (.pointer (some ⟨G.ao,0,none⟩))) c λh i=>
 a [h,(gs b 0)] i) (
 a [(gs e 0),(gs b 0)] c)
def zfc(a:Value)(e:List Value->World->Prop)(f:List Value)(b:Value)(c:World):Prop:=
 jn (zfd a e f) λd=>
 pu P (zac .len #[T.aq] T.int #[false] #[a]) λg=>
 pu P (oBin .lss T.int false false g b) λh=>
 cd h (
 pu P (zac .len #[T.aq] T.int #[false] #[a]) λi=>
 d [i] c) (
 d [b] c)
def zfk(b:Value)(K:Value->World->Prop)(e:Value)(f:List Value)(t:Env)(a:World):Prop:=
 pu P (oNil b) λj=>
 pu P (zad T.ao j 4) λk=>
 rd P (zab T.af k) a.drew λl=>
 pu P (oNil l) λm=>
 pu P (zad T.ak m 2) λn=>
 rd P (zab T.aS n) a.drew λo=>
 pu P (oNil b) λp=>
 pu P (zad T.ao p 1) λg=>
 rd P (zab T.aC g) a.drew λh=>
 st P (zah Fn.bG #[o]) a.drew λq c=>
 hold P (zab T.aC g) h c/\pu P (zaE T.aq q (some h) none none) λd=>
 jn (zfl b K d) λi=>
 pu P (oBin .gtr T.int false true e (.int .i64 0)) λr=>
 cd r (zfc d i f e c) (
 pu P (zac .len #[T.aq] T.int #[false] #[d]) λs=>
 i [(gs f 0),s] c)
def zfq(g:Value)(a:World)(K:Value->World->Prop):Prop:=
 pu P (oNil g) λh=>
 pu P (zad T.ao h 4) λc=>
 rd P (zab T.af c) a.drew λd=>
 pu P (oNil d) λi=>
 pu P (zad T.ak i 0) λe=>
 rd P (zab T.string e) a.drew λf=>
 st P (zah Fn.cL #[(S [110,111,116,32,97,32,100,105,114])]) a.drew λj b=>
 hold P (zab T.string e) f b/\hold P (zab T.af c) d b/\pu P (zaw T.au #[(0,(S [114,101,97,100,100,105,114])),(1,f),(2,j)]) λk=>
 st P (oBox T.au k) b λl m=>
 pu P (zbl T.aD l) λn=>
 K (tup [(.slice none 0 0),n]) m
def zdN(a c:Value)(w:World)(K:Value->World->Prop):Prop:=
 jn (zfk a K c) λd=>
 pu P (oNil a) λe=>
 pu P (zad T.ao e 4) λf=>
 st P (zab T.af f) w λg h=>
 pu P (oNil g) λi=>
 pu P (zad T.ak i 3) λj=>
 st P (zab T.bool j) h λk b=>
 pu P (oUn .not k) λl=>
 cd l (zfq a b K) (
 d [.nilIface] b)
theorem zgG(h:zdN t0 t1 w K):Cl P Fn.aS #[t0,t1] w K:=ce (T:=tb [(3,[5]),(9,[6]),(12,[5,6])] [(15,[68])]) Tryz.func145 rfl h
def zhQ(a:Value)(w:World)(K:Value->World->Prop):Prop:=
 pu P (oNil a) λd=>
 pu P (zad T.ao d 2) λe=>
 st P (zai T.bool e (.bool true)) w λ_ f=>
 jn (λq r g=>
 K (tup [.nilIface]) g) λb=>
 pu P (oNil a) λh=>
 pu P (zad T.ao h 3) λi=>
 st P (zab T.bool i) f λj c=>
 pu P (oUn .not j) λk=>
 cd k (
 pu P (oNil a) λl=>
 pu P (zad T.ao l 4) λm=>
 st P (zab T.af m) c λn o=>
 st P (zah Fn.bl #[n,(.int .i64 0)]) o λs p=>
 b [] p) (
 b [] c)
theorem zlm(h:zhQ t0 w K):Cl P Fn.bz #[t0] w K:=ce (T:=tb [] []) Tryz.func146 rfl h
def zde(b:Value)(w:World)(K:Value->World->Prop):Prop:=
 pu P (oNil b) λc=>
 pu P (zad T.aF c 0) λd=>
 st P (zab T.af d) w λe f=>
 pu P (oNil e) λg=>
 pu P (zad T.ak g 0) λh=>
 st P (zab T.string h) f λi j=>
 st P (zah Fn.ct #[i]) j λa k=>
 pu P (zae a 0) λm=>
 pu P (zae a 1) λl=>
 K (tup [l]) k
theorem zfW(h:zde t0 w K):Cl P Fn.bi #[t0] w K:=ce (T:=tb [] []) Tryz.func147 rfl h
def ziZ(a:Value)(w:World)(K:Value->World->Prop):Prop:=
 pu P (oNil a) λb=>
 pu P (zad T.ao b 4) λc=>
 st P (zab T.af c) w λd e=>
 pu P (zaw T.aF #[(0,d)]) λf=>
 st P (oBox T.aF f) e λg h=>
 K (tup [g,.nilIface]) h
theorem zlU(h:ziZ t0 w K):Cl P Fn.cV #[t0] w K:=ce (T:=tb [] []) Tryz.func148 rfl h
def zfF(a:Value)(w:World)(K:Value->World->Prop):Prop:=
 jn (λo p c=>
 pu P (oNil a) λd=>
 pu P (zad T.aF d 0) λe=>
 st P (zab T.af e) c λf g=>
 pu P (oNil f) λh=>
 pu P (zad T.ak h 1) λi=>
 st P (zab T.ah i) g λj k=>
 pu P (zac .len #[T.ah] T.int #[false] #[j]) λl=>
 K (tup [l]) k) λm=>
 st P (zah Fn.ao #[a]) w λn b=>
 cd n (
 K (tup [(.int .i64 42)]) b) (
 m [] b)
theorem zjN(h:zfF t0 w K):Cl P Fn.cQ #[t0] w K:=ce (T:=tb [] []) Tryz.func149 rfl h
def zfM(a f:Value)(w:World)(K:Value->World->Prop):Prop:=
 jn (λz u1 m=>
 jn (λA u2 d=>
 jn (λB u3 c=>
 jn (λg u4 e=>
 pu P (oNil a) λC=>
 pu P (zad T.ao C 4) λD=>
 rd P (zab T.af D) e.drew λE=>
 pu P (oNil E) λF=>
 pu P (zad T.ak F 1) λH=>
 rd P (zab T.ah H) e.drew λI=>
 pu P (oNil a) λJ=>
 pu P (zad T.ao J 0) λL=>
 rd P (zab T.aC L) e.drew λM=>
 pu P (oNil a) λN=>
 pu P (zad T.ao N 0) λO=>
 rd P (zab T.aC O) e.drew λQ=>
 pu P (oBin .add T.aC false false Q (gs g 0)) λR=>
 pu P (zaE T.ah I (some M) (some R) none) λU=>
 st P (zac .copy #[T.ah,T.ah] T.int #[false,false] #[f,U]) e.drew λb2 V=>
 pu P (oNil a) λX=>
 pu P (zad T.ao X 0) λY=>
 st P (zab T.aC Y) V λZ w6=>
 pu P (oBin .add T.aC false false Z (gs g 0)) λaa=>
 pu P (oNil a) λab=>
 pu P (zad T.ao ab 0) λac=>
 st P (zai T.aC ac aa) w6 λ_ w7=>
 K (tup [(gs g 0),(gs B 0)]) w7) λn=>
 pu P (oNil a) λad=>
 pu P (zad T.ao ad 4) λae=>
 rd P (zab T.af ae) c.drew λaf=>
 pu P (oNil af) λag=>
 pu P (zad T.ak ag 1) λah=>
 rd P (zab T.ah ah) c.drew λai=>
 pu P (zac .len #[T.ah] T.int #[false] #[ai]) λaj=>
 pu P (oNil a) λak=>
 pu P (zad T.ao ak 0) λal=>
 rd P (zab T.aC al) c.drew λam=>
 pu P (oBin .sub T.int false false aj am) λan=>
 pu P (zac .len #[T.ah] T.int #[false] #[f]) λao=>
 pu P (oBin .geq T.int false false an ao) λap=>
 cd ap (
 pu P (zac .len #[T.ah] T.int #[false] #[f]) λaq=>
 n [aq] c.drew) (
 pu P (oNil a) λar=>
 pu P (zad T.ao ar 4) λau=>
 rd P (zab T.af au) c.drew.drew λav=>
 pu P (oNil av) λaw=>
 pu P (zad T.ak aw 1) λax=>
 rd P (zab T.ah ax) c.drew.drew λay=>
 pu P (zac .len #[T.ah] T.int #[false] #[ay]) λaz=>
 pu P (oNil a) λa0=>
 pu P (zad T.ao a0 0) λa1=>
 rd P (zab T.aC a1) c.drew.drew λa2=>
 pu P (oBin .sub T.int false false az a2) λa3=>
 n [a3] c.drew.drew)) λk3=>
 pu P (oNil a) λa4=>
 pu P (zad T.ao a4 0) λa5=>
 rd P (zab T.aC a5) d.drew λa6=>
 pu P (oNil a) λa7=>
 pu P (zad T.ao a7 4) λa8=>
 rd P (zab T.af a8) d.drew λa9=>
 pu P (oNil a9) λba=>
 pu P (zad T.ak ba 1) λbb=>
 rd P (zab T.ah bb) d.drew λbc=>
 pu P (zac .len #[T.ah] T.int #[false] #[bc]) λbd=>
 pu P (oBin .gtr T.int false false a6 bd) λbe=>
 cd be (
 rd P (zab T.aB (.pointer (some ⟨G.af,0,none⟩))) d.drew.drew λbf=>
 K (tup [(.int .i64 0),bf]) d.drew.drew) (
 k3 [(gs A 0)] d.drew)) λk2=>
 pu P (zac .len #[T.ah] T.int #[false] #[f]) λbg=>
 pu P (oBin .gtr T.int false true bg (.int .i64 0)) λb=>
 gd b true m.drew (λK1=>K1 a m.drew) λbh o=>
 gd b true o (λK2=>pu P (oNil bh) λv=>K2 v o) λbi p=>
 gd b true p (λK3=>pu P (zad T.ao bi 0) λv=>K3 v p) λbj h=>
 gd b true h (λK4=>rd P (zab T.aC bj) h λv=>K4 v h) λbk q=>
 gd b true q (λK5=>K5 a q) λbl r=>
 gd b true r (λK6=>pu P (oNil bl) λv=>K6 v r) λbm s=>
 gd b true s (λK7=>pu P (zad T.ao bm 4) λv=>K7 v s) λbn i=>
 gd b true i (λK8=>rd P (zab T.af bn) i λv=>K8 v i) λbo t=>
 gd b true t (λK9=>pu P (oNil bo) λv=>K9 v t) λbp u=>
 gd b true u (λbq=>pu P (zad T.ak bp 1) λv=>bq v u) λbr j=>
 gd b true j (λbs=>rd P (zab T.ah br) j λv=>bs v j) λbt x=>
 gd b true x (λbu=>pu P (zac .len #[T.ah] T.int #[false] #[bt]) λv=>bu v x) λbv y=>
 gd b true y (λbw=>pu P (oBin .eql T.int false false bk bv) λv=>bw v y) λbx k=>
 pu P (zaD b bx (.bool false)) λbz=>
 cd bz (
 rd P (zab T.aB (.pointer (some ⟨G.ao,0,none⟩))) k.drew λb0=>
 K (tup [(.int .i64 0),b0]) k.drew) (
 k2 [(gs z 0)] k)) λk1=>
 pu P (oNil a) λt7=>
 pu P (zad T.ao t7 2) λt8=>
 st P (zab T.bool t8) w λt9 l=>
 cd t9 (
 rd P (zab T.aB (.pointer (some ⟨G.ae,0,none⟩))) l.drew λb1=>
 K (tup [(.int .i64 0),b1]) l.drew) (
 k1 [.nilIface] l)
theorem ziF(h:zfM t0 t1 w K):Cl P Fn.bU #[t0,t1] w K:=ce (T:=tb [(3,[5]),(5,[5]),(7,[5]),(10,[4])] []) Tryz.func153 rfl h
def zeB(a c d:Value)(w:World)(K:Value->World->Prop):Prop:=
 pu P (oNil a) λe=>
 pu P (zad T.ao e 0) λf=>
 st P (zab T.aC f) w λg h=>
 pu P (oNil a) λi=>
 pu P (zad T.ao i 0) λj=>
 st P (zai T.aC j d) h λ_ k=>
 st P (zah Fn.bU #[a,c]) k λb l=>
 pu P (zae b 0) λm=>
 pu P (zae b 1) λn=>
 pu P (oNil a) λo=>
 pu P (zad T.ao o 0) λp=>
 st P (zai T.aC p g) l λ_ q=>
 K (tup [m,n]) q
theorem zg7(h:zeB t0 t1 t2 w K):Cl P Fn.bV #[t0,t1,t2] w K:=ce (T:=tb [] []) Tryz.func154 rfl h
def zda(a l:Value)(w:World)(K:Value->World->Prop):Prop:=
 jn (λO u1 Q=>
 jn (λR u2 U=>
 pu P (zac .len #[T.ah] T.int #[false] #[l]) λc=>
 pu P (oNil a) λV=>
 pu P (zad T.ao V 0) λX=>
 st P (zab T.aC X) U λd Y=>
 pu P (oNil a) λZ=>
 pu P (zad T.ao Z 4) λaa=>
 st P (zab T.af aa) Y λab w4=>
 pu P (oNil ab) λac=>
 pu P (zad T.ak ac 1) λad=>
 st P (zab T.ah ad) w4 λae w5=>
 pu P (zac .len #[T.ah] T.int #[false] #[ae]) λaf=>
 pu P (oBin .sub T.aC false false d af) λm=>
 jn (λt u3 b=>
 jn (λs4 u4 w7=>
 pu P (oNil a) λag=>
 pu P (zad T.ao ag 4) λah=>
 st P (zab T.af ah) w7 λai w8=>
 st P (zah Fn.bl #[ai,(.int .i64 0)]) w8 λcz w9=>
 pu P (oNil a) λaj=>
 pu P (zad T.ao aj 0) λak=>
 st P (zab T.aC ak) w9 λal am=>
 pu P (oBin .add T.aC false false al c) λan=>
 pu P (oNil a) λao=>
 pu P (zad T.ao ao 0) λap=>
 st P (zai T.aC ap an) am λ_ aq=>
 K (tup [c,(gs R 0)]) aq) λu=>
 pu P (oBin .gtr T.aC false true m (.int .i64 0)) λar=>
 cd ar (
 pu P (oNil a) λau=>
 pu P (zad T.ao au 4) λe=>
 rd P (zab T.af e) b.drew λf=>
 pu P (oNil a) λav=>
 pu P (zad T.ao av 4) λn=>
 rd P (zab T.af n) b.drew λo=>
 pu P (oNil o) λaw=>
 pu P (zad T.ak aw 1) λp=>
 rd P (zab T.ah p) b.drew λq=>
 st P (zdx T.ah m m) b.drew λax g=>
 hold P (zab T.ah p) q g/\hold P (zab T.af n) o g/\hold P (zab T.af e) f g/\st P (zac .append #[T.ah,T.ah] T.ah #[false,false] #[ax,l]) g λay h=>
 hold P (zab T.ah p) q h/\hold P (zab T.af n) o h/\hold P (zab T.af e) f h/\st P (zac .append #[T.ah,T.ah] T.ah #[false,false] #[q,ay]) h λaz v=>
 hold P (zab T.af e) f v/\pu P (oNil f) λa0=>
 pu P (zad T.ak a0 1) λa1=>
 st P (zai T.ah a1 az) v λ_ i=>
 pu P (oNil a) λa2=>
 pu P (zad T.ao a2 4) λx=>
 rd P (zab T.af x) i.drew λy=>
 pu P (oNil a) λa3=>
 pu P (zad T.ao a3 4) λa4=>
 rd P (zab T.af a4) i.drew λa5=>
 pu P (oNil a5) λa6=>
 pu P (zad T.ak a6 1) λa7=>
 rd P (zab T.ah a7) i.drew λa8=>
 st P (zac .append #[T.ah,T.ah] T.ah #[false,false] #[a8,(gs t 0)]) i.drew λa9 z=>
 hold P (zab T.af x) y z/\pu P (oNil y) λba=>
 pu P (zad T.ak ba 1) λbb=>
 st P (zai T.ah bb a9) z λ_ bc=>
 u [] bc) (
 pu P (oNil a) λbd=>
 pu P (zad T.ao bd 4) λA=>
 rd P (zab T.af A) b.drew λB=>
 pu P (oNil a) λbe=>
 pu P (zad T.ao be 4) λbf=>
 rd P (zab T.af bf) b.drew λbg=>
 pu P (oNil bg) λbh=>
 pu P (zad T.ak bh 1) λbi=>
 rd P (zab T.ah bi) b.drew λbj=>
 pu P (zaE T.ah bj none (some d) none) λbk=>
 st P (zac .append #[T.ah,T.ah] T.ah #[false,false] #[bk,l]) b.drew λbl C=>
 hold P (zab T.af A) B C/\pu P (oNil B) λbm=>
 pu P (zad T.ak bm 1) λbn=>
 st P (zai T.ah bn bl) C λ_ j=>
 pu P (oNil a) λbo=>
 pu P (zad T.ao bo 4) λD=>
 rd P (zab T.af D) j.drew λE=>
 pu P (oNil a) λbp=>
 pu P (zad T.ao bp 4) λbq=>
 rd P (zab T.af bq) j.drew λbr=>
 pu P (oNil br) λbs=>
 pu P (zad T.ak bs 1) λbt=>
 rd P (zab T.ah bt) j.drew λbu=>
 st P (zac .append #[T.ah,T.ah] T.ah #[false,false] #[bu,(gs t 0)]) j.drew λbv F=>
 hold P (zab T.af D) E F/\pu P (oNil E) λbw=>
 pu P (zad T.ak bw 1) λbx=>
 st P (zai T.ah bx bv) F λ_ bz=>
 u [] bz)) λH=>
 pu P (oBin .add T.int false false c d) λb0=>
 pu P (oNil a) λb1=>
 pu P (zad T.ao b1 4) λb2=>
 st P (zab T.af b2) w5 λb3 b4=>
 pu P (oNil b3) λb5=>
 pu P (zad T.ak b5 1) λb6=>
 st P (zab T.ah b6) b4 λb7 I=>
 pu P (zac .len #[T.ah] T.int #[false] #[b7]) λb8=>
 pu P (oBin .lss T.int false false b0 b8) λb9=>
 cd b9 (
 pu P (oNil a) λca=>
 pu P (zad T.ao ca 4) λcb=>
 st P (zab T.af cb) I λcc ce=>
 pu P (oNil cc) λcf=>
 pu P (zad T.ak cf 1) λcg=>
 st P (zab T.ah cg) ce λch ci=>
 pu P (oBin .add T.int false false c d) λcj=>
 pu P (zaE T.ah ch (some cj) none none) λck=>
 H [ck] ci) (
 H [(.slice none 0 0)] I)) λk2=>
 pu P (oNil a) λcl=>
 pu P (zad T.ao cl 3) λcm=>
 st P (zab T.bool cm) Q λcn k=>
 cd cn (
 pu P (oNil a) λco=>
 pu P (zad T.ao co 4) λJ=>
 rd P (zab T.af J) k.drew λL=>
 pu P (oNil L) λcp=>
 pu P (zad T.ak cp 0) λM=>
 rd P (zab T.string M) k.drew λN=>
 st P (zah Fn.cL #[(S [102,105,108,101,32,104,97,110,100,108,101,32,105,115,32,114,101,97,100,32,111,110,108,121])]) k.drew λcq r=>
 hold P (zab T.string M) N r/\hold P (zab T.af J) L r/\pu P (zaw T.au #[(0,(S [119,114,105,116,101])),(1,N),(2,cq)]) λcr=>
 st P (oBox T.au cr) r λcs ct=>
 pu P (zbl T.aD cs) λcu=>
 K (tup [(.int .i64 0),cu]) ct) (
 k2 [(gs O 0)] k)) λk1=>
 pu P (oNil a) λcv=>
 pu P (zad T.ao cv 2) λcw=>
 st P (zab T.bool cw) w λcx s=>
 cd cx (
 rd P (zab T.aB (.pointer (some ⟨G.ae,0,none⟩))) s.drew λcy=>
 K (tup [(.int .i64 0),cy]) s.drew) (
 k1 [.nilIface] s)
theorem ze6(h:zda t0 t1 w K):Cl P Fn.bC #[t0,t1] w K:=ce (T:=tb [(3,[5]),(5,[5]),(11,[8])] []) Tryz.func155 rfl h
def zgP(a c d:Value)(w:World)(K:Value->World->Prop):Prop:=
 pu P (oNil a) λe=>
 pu P (zad T.ao e 0) λf=>
 st P (zai T.aC f d) w λ_ g=>
 st P (zah Fn.bC #[a,c]) g λb h=>
 pu P (zae b 0) λi=>
 pu P (zae b 1) λj=>
 K (tup [i,j]) h
theorem zkk(h:zgP t0 t1 t2 w K):Cl P Fn.cw #[t0,t1,t2] w K:=ce (T:=tb [] []) Tryz.func156 rfl h
def zfQ(a d e:Value)(w:World)(K:Value->World->Prop):Prop:=
 jn (λY Z b=>
 jn (λs2 u2 g=>
 pu P (oNil a) λh=>
 pu P (zad T.ao h 0) λi=>
 st P (zab T.aC i) g λj k=>
 K (tup [j,.nilIface]) k) λc=>
 pu P (oBin .eql T.int false true e (.int .i64 0)) λl=>
 cd l (
 pu P (oNil a) λm=>
 pu P (zad T.ao m 0) λn=>
 st P (zai T.aC n d) b λ_ o=>
 c [] o) (
 pu P (oBin .eql T.int false true e (.int .i64 1)) λp=>
 cd p (
 pu P (oNil a) λq=>
 pu P (zad T.ao q 0) λr=>
 st P (zab T.aC r) b λs t=>
 pu P (oBin .add T.aC false false s d) λu=>
 pu P (oNil a) λv=>
 pu P (zad T.ao v 0) λx=>
 st P (zai T.aC x u) t λ_ y=>
 c [] y) (
 pu P (oBin .eql T.int false true e (.int .i64 2)) λz=>
 cd z (
 pu P (oNil a) λA=>
 pu P (zad T.ao A 4) λB=>
 st P (zab T.af B) b λC D=>
 pu P (oNil C) λE=>
 pu P (zad T.ak E 1) λF=>
 st P (zab T.ah F) D λH I=>
 pu P (zac .len #[T.ah] T.int #[false] #[H]) λJ=>
 pu P (oBin .add T.aC false false J d) λL=>
 pu P (oNil a) λM=>
 pu P (zad T.ao M 0) λN=>
 st P (zai T.aC N L) I λ_ O=>
 c [] O) (
 c [] b)))) λQ=>
 pu P (oNil a) λR=>
 pu P (zad T.ao R 2) λU=>
 st P (zab T.bool U) w λV f=>
 cd V (
 rd P (zab T.aB (.pointer (some ⟨G.ae,0,none⟩))) f.drew λX=>
 K (tup [(.int .i64 0),X]) f.drew) (
 Q [] f)
theorem ziG(h:zfQ t0 t1 t2 w K):Cl P Fn.bM #[t0,t1,t2] w K:=ce (T:=tb [] []) Tryz.func157 rfl h
def zfU(a c:Value)(w:World)(K:Value->World->Prop):Prop:=
 jn (λs1 u1 q=>
 jn (λs2 u2 g=>
 jn (λs3 u3 r=>
 jn (λs4 u4 s=>
 pu P (oNil a) λt=>
 pu P (zad T.ao t 4) λu=>
 st P (zab T.af u) s λv x=>
 st P (zah Fn.bl #[v,(.int .i64 0)]) x λbc y=>
 K (tup [.nilIface]) y) λh=>
 pu P (oNil a) λz=>
 pu P (zad T.ao z 4) λA=>
 st P (zab T.af A) r λB C=>
 pu P (oNil B) λD=>
 pu P (zad T.ak D 1) λE=>
 st P (zab T.ah E) C λF b=>
 pu P (zac .len #[T.ah] T.int #[false] #[F]) λH=>
 pu P (oBin .gtr T.aC false false c H) λI=>
 cd I (
 pu P (oNil a) λJ=>
 pu P (zad T.ao J 4) λL=>
 st P (zab T.af L) b λM N=>
 pu P (oNil M) λO=>
 pu P (zad T.ak O 1) λQ=>
 st P (zab T.ah Q) N λR d=>
 pu P (zac .len #[T.ah] T.int #[false] #[R]) λU=>
 pu P (oBin .sub T.aC false false c U) λV=>
 pu P (oNil a) λX=>
 pu P (zad T.ao X 4) λi=>
 rd P (zab T.af i) d.drew λj=>
 pu P (oNil a) λY=>
 pu P (zad T.ao Y 4) λZ=>
 rd P (zab T.af Z) d.drew λaa=>
 pu P (oNil aa) λab=>
 pu P (zad T.ak ab 1) λac=>
 rd P (zab T.ah ac) d.drew λad=>
 st P (zac .append #[T.ah,T.int] T.ah #[false,false] #[ad,V]) d.drew λae k=>
 hold P (zab T.af i) j k/\pu P (oNil j) λaf=>
 pu P (zad T.ak af 1) λag=>
 st P (zai T.ah ag ae) k λ_ ah=>
 h [] ah) (
 pu P (oNil a) λai=>
 pu P (zad T.ao ai 4) λaj=>
 rd P (zab T.af aj) b.drew λak=>
 pu P (oNil a) λal=>
 pu P (zad T.ao al 4) λam=>
 rd P (zab T.af am) b.drew λan=>
 pu P (oNil an) λao=>
 pu P (zad T.ak ao 1) λap=>
 rd P (zab T.ah ap) b.drew λaq=>
 pu P (zaE T.ah aq (some (.int .i64 0)) (some c) none) λar=>
 pu P (oNil ak) λau=>
 pu P (zad T.ak au 1) λav=>
 st P (zai T.ah av ar) b.drew λ_ aw=>
 h [] aw)) λk3=>
 pu P (oBin .lss T.aC false true c (.int .i64 0)) λax=>
 cd ax (
 st P (zab T.aB (.pointer (some ⟨G.ag,0,none⟩))) g λay az=>
 K (tup [ay]) az) (
 k3 [] g)) λk2=>
 pu P (oNil a) λa0=>
 pu P (zad T.ao a0 3) λa1=>
 st P (zab T.bool a1) q λa2 e=>
 cd a2 (
 pu P (oNil a) λa3=>
 pu P (zad T.ao a3 4) λl=>
 rd P (zab T.af l) e.drew λm=>
 pu P (oNil m) λa4=>
 pu P (zad T.ak a4 0) λn=>
 rd P (zab T.string n) e.drew λo=>
 st P (zah Fn.cL #[(S [102,105,108,101,32,104,97,110,100,108,101,32,105,115,32,114,101,97,100,32,111,110,108,121])]) e.drew λa5 f=>
 hold P (zab T.string n) o f/\hold P (zab T.af l) m f/\pu P (zaw T.au #[(0,(S [116,114,117,110,99,97,116,101])),(1,o),(2,a5)]) λa6=>
 st P (oBox T.au a6) f λa7 a8=>
 pu P (zbl T.aD a7) λa9=>
 K (tup [a9]) a8) (
 k2 [] e)) λk1=>
 pu P (oNil a) λt7=>
 pu P (zad T.ao t7 2) λt8=>
 st P (zab T.bool t8) w λt9 p=>
 cd t9 (
 st P (zab T.aB (.pointer (some ⟨G.ae,0,none⟩))) p λba bb=>
 K (tup [ba]) bb) (
 k1 [] p)
theorem zjY(h:zfU t0 t1 w K):Cl P Fn.bc #[t0,t1] w K:=ce (T:=tb [] []) Tryz.func158 rfl h
def zch(h i:Value)(w:World)(K:Value->World->Prop):Prop:=
 st P (zah Fn.aS #[h,i]) w λc j=>
 pu P (zae c 0) λb=>
 pu P (zae c 1) λk=>
 pu P (zac .len #[T.aP] T.int #[false] #[b]) λd=>
 st P (zdx T.aj d d) j λe l=>
 jn (λE F m=>
 K (tup [e,k]) m) λn=>
 pu P (zac .len #[T.aP] T.int #[false] #[b]) λo=>
 lp [(.int .i64 0)] l λa G f p=>
 pu P (oBin .lss T.int false false (gs a 0) o) λq=>
 jn (λH I r=>
 pu P (zaO T.aP b (gs a 0)) λs=>
 st P (zab T.aG s) r λt u=>
 st P (zah Fn.bi #[t]) u λv x=>
 st P (zah Fn.ct #[v]) x λg y=>
 pu P (zae g 0) λJ=>
 pu P (zae g 1) λz=>
 pu P (zaO T.aj e (gs a 0)) λA=>
 st P (zai T.string A z) y λ_ B=>
 pu P (oBin .add T.int false true (gs a 0) (.int .i64 1)) λC=>
 p [C] B) λD=>
 cd q (
 D [] f) (
 n [] f)
theorem zdI(h:zch t0 t1 w K):Cl P Fn.aF #[t0,t1] w K:=ce (T:=tb [] [(4,[20])]) Tryz.func159 rfl h
def zis(a:Value)(w:World)(K:Value->World->Prop):Prop:=
 pu P (oNil a) λb=>
 pu P (zad T.ao b 4) λc=>
 st P (zab T.af c) w λd e=>
 st P (zah Fn.ah #[d]) e λf g=>
 K (tup [f]) g
theorem zmn(h:zis t0 w K):Cl P Fn.de #[t0] w K:=ce (T:=tb [] []) Tryz.func160 rfl h
def zi3(a:Value)(w:World)(K:Value->World->Prop):Prop:=K (tup [.nilIface]) w
theorem zmv(h:zi3 t0 w K):Cl P Fn.df #[t0] w K:=ce (T:=tb [] []) Tryz.func161 rfl h
def zgN(a f c:Value)(w:World)(K:Value->World->Prop):Prop:=
 st P (zah Fn.bu #[f]) w λb g=>
 st P (zah Fn.ai #[a,b]) g λd e=>
 pu P (zae d 0) λn=>
 pu P (zae d 1) λh=>
 pu P (oUn .not h) λi=>
 cd i (
 st P (zah Fn.ap #[a,b,c]) e λo j=>
 pu P (oBin .or T.int true false (.int .i64 2147483648) c) λk=>
 pu P (zaw T.ag #[(0,(.bool true)),(1,k)]) λl=>
 st P (zah Fn.bF #[a,b,l]) j λp m=>
 K (tup []) m) (
 K (tup []) e)
theorem zkh(h:zgN t0 t1 t2 w K):Cl P Fn.ap #[t0,t1,t2] w K:=ce (T:=tb [] []) Tryz.func165 rfl h
def zjy(a c h:Value)(w:World)(K:Value->World->Prop):Prop:=
 st P (oBox T.ag h) w λd i=>
 pu P (zad T.ag d 4) λj=>
 st P (zai T.string j c) i λ_ b=>
 pu P (oNil a) λk=>
 pu P (zad T.aA k 2) λe=>
 rd P (zab T.ap e) b.drew λf=>
 rd P (zab T.ag d) b.drew λl=>
 st P (zam T.ap 1 #[(0,l)]) b.drew λm g=>
 hold P (zab T.ap e) f g/\st P (zac .append #[T.ap,T.ap] T.ap #[false,false] #[f,m]) g λn o=>
 pu P (oNil a) λp=>
 pu P (zad T.aA p 2) λq=>
 st P (zai T.ap q n) o λ_ r=>
 pu P (oNil a) λs=>
 pu P (zad T.aA s 2) λt=>
 st P (zab T.ap t) r λu v=>
 pu P (zac .len #[T.ap] T.int #[false] #[u]) λx=>
 pu P (oBin .sub T.int false true x (.int .i64 1)) λy=>
 st P (zah Fn.cJ #[a,c,y]) v λG z=>
 pu P (oNil a) λA=>
 pu P (zad T.aA A 2) λB=>
 st P (zab T.ap B) z λC D=>
 pu P (zac .len #[T.ap] T.int #[false] #[C]) λE=>
 pu P (oBin .sub T.int false true E (.int .i64 1)) λF=>
 K (tup [F]) D
theorem zmC(h:zjy t0 t1 t2 w K):Cl P Fn.bF #[t0,t1,t2] w K:=ce (T:=tb [] []) Tryz.func166 rfl h
def ziw(a f:Value)(w:World)(K:Value->World->Prop):Prop:=
 st P (zah Fn.bv #[a,f]) w λe b=>
 pu P (zae e 0) λc=>
 pu P (zae e 1) λg=>
 cd g (
 pu P (oNil a) λh=>
 pu P (zad T.aA h 0) λi=>
 rd P (zab T.aj i) b.drew λj=>
 pu P (zaE T.aj j none (some c) none) λk=>
 pu P (oNil a) λl=>
 pu P (zad T.aA l 0) λm=>
 rd P (zab T.aj m) b.drew λn=>
 pu P (oBin .add T.int false true c (.int .i64 1)) λo=>
 pu P (zaE T.aj n (some o) none none) λp=>
 st P (zac .append #[T.aj,T.aj] T.aj #[false,false] #[k,p]) b.drew λq r=>
 pu P (oNil a) λs=>
 pu P (zad T.aA s 0) λt=>
 st P (zai T.aj t q) r λ_ d=>
 pu P (oNil a) λu=>
 pu P (zad T.aA u 1) λv=>
 rd P (zab T.aR v) d.drew λx=>
 pu P (zaE T.aR x none (some c) none) λy=>
 pu P (oNil a) λz=>
 pu P (zad T.aA z 1) λA=>
 rd P (zab T.aR A) d.drew λB=>
 pu P (oBin .add T.int false true c (.int .i64 1)) λC=>
 pu P (zaE T.aR B (some C) none none) λD=>
 st P (zac .append #[T.aR,T.aR] T.aR #[false,false] #[y,D]) d.drew λE F=>
 pu P (oNil a) λG=>
 pu P (zad T.aA G 1) λH=>
 st P (zai T.aR H E) F λ_ I=>
 K (tup []) I) (
 K (tup []) b)
theorem zmj(h:ziw t0 t1 w K):Cl P Fn.aZ #[t0,t1] w K:=ce (T:=tb [] []) Tryz.func167 rfl h
def zcf(a b:Value)(h:World)(c d:Value)(i:List Value->World->Prop):Prop:=
 st P (zah Fn.ai #[a,b]) h λe j=>
 pu P (zae e 0) λf=>
 pu P (zae e 1) λy=>
 st P (zah Fn.aZ #[a,b]) j λz k=>
 pu P (zac .len #[T.string] T.int #[false] #[c]) λl=>
 pu P (zaE T.string b (some l) none none) λm=>
 pu P (oBin .add T.string false false d m) λn=>
 st P (zah Fn.cJ #[a,n,f]) k λA g=>
 pu P (oNil a) λo=>
 pu P (zad T.aA o 2) λp=>
 rd P (zab T.ap p) g.drew λq=>
 pu P (zac .len #[T.string] T.int #[false] #[c]) λr=>
 pu P (zaE T.string b (some r) none none) λs=>
 pu P (oBin .add T.string false false d s) λt=>
 pu P (zaO T.ap q f) λu=>
 pu P (zad T.ag u 4) λv=>
 st P (zai T.string v t) g.drew λ_ x=>
 i [] x
def zfT(d:List Value)(j:List Value->World->Prop)(k b l m:Value)(x:List Value)(y:Env)(n:World):Prop:=
 jn (zas d j) λe=>
 pu P (zaO T.aj k (gs d 0)) λo=>
 st P (zab T.string o) n λc f=>
 pu P (oBin .eql T.string false false c b) λa=>
 gd a false f (λp=>p c f) λq g=>
 gd a false g (λr=>r b g) λs h=>
 gd a false h (λt=>st P (zah Fn.bR #[q,s]) h t) λu i=>
 pu P (zaD a (.bool true) u) λv=>
 cd v (zcf l c i b m e) (
 e [] i)
def zfZ(a b f:Value)(K:Value->World->Prop)(g:Value)(v:List Value)(x:Env)(h:World):Prop:=
 st P (zah Fn.ap #[a,b,(.int .i64 0)]) h λy i=>
 jn (zaH f K) λj=>
 st P (zam T.aj 0 #[]) i λk l=>
 pu P (oNil a) λm=>
 pu P (zad T.aA m 0) λn=>
 st P (zab T.aj n) l λo p=>
 st P (zac .append #[T.aj,T.aj] T.aj #[false,false] #[k,o]) p λc q=>
 pu P (zac .len #[T.aj] T.int #[false] #[c]) λr=>
 lp [(.int .i64 0)] q λd z e s=>
 pu P (oBin .lss T.int false false (gs d 0) r) λt=>
 jn (zfT d s c g a b) λu=>
 cd t (
 u [] e) (
 j [] e)
def zf1(b g a:Value)(K:Value->World->Prop)(c:Value)(m:List Value)(n:Env)(h:World):Prop:=
 jn (zfZ b g a K c) λi=>
 st P (zah Fn.ai #[b,c]) h λd e=>
 pu P (zae d 0) λo=>
 pu P (zae d 1) λj=>
 pu P (oUn .not j) λk=>
 cd k (
 pu P (zaw T.ab #[(0,(.int .i64 1))]) λl=>
 st P (zai T.ab a l) e λ_ f=>
 rsl P T.ab a f λr2=>
 K (tup [r2]) f) (
 i [] e)
def zg8(f b c:Value)(w:World)(K:Value->World->Prop):Prop:=
 st P (zbw T.ab) w λa d=>
 jn (zf1 f c a K b) λg=>
 pu P (oBin .eql T.string false false b c) λh=>
 cd h (
 pu P (zaw T.ab #[]) λi=>
 st P (zai T.ab a i) d λ_ e=>
 rsl P T.ab a e λr3=>
 K (tup [r3]) e) (
 g [] d)
theorem zkK(h:zg8 t0 t1 t2 w K):Cl P Fn.cF #[t0,t1,t2] w K:=ce (T:=tb [] [(8,[36])]) Tryz.func168 rfl h
def zcK(c a:Value)(K:Value->World->Prop)(g:List Value)(h:Env)(d:World):Prop:=
 st P (zab T.ay c) d λe f=>
 st P (zai T.ay a e) f λ_ b=>
 rsl P T.ay a b λr1=>
 K (tup [r1]) b
def zir(z A:Value)(w:World)(K:Value->World->Prop):Prop:=
 st P (zbw T.ay) w λr B=>
 pu P (oNil z) λC=>
 pu P (zad T.aA C 2) λD=>
 st P (zab T.ap D) B λE F=>
 pu P (zaO T.ap E A) λG=>
 st P (zab T.ag G) F λH I=>
 st P (zbw T.ag) I λa J=>
 st P (zai T.ag a H) J λ_ b=>
 pu P (zad T.ag a 4) λs=>
 rd P (zab T.string s) b.drew λo=>
 pu P (zad T.ag a 1) λg=>
 rd P (zab T.int g) b.drew λc=>
 pu P (zad T.ag a 0) λh=>
 rd P (zab T.bool h) b.drew λd=>
 pu P (zad T.ag a 2) λi=>
 rd P (zab T.ah i) b.drew λj=>
 pu P (zac .len #[T.ah] T.int #[false] #[j]) λt=>
 pu P (zad T.ag a 3) λk=>
 rd P (zab T.aC k) b.drew λe=>
 (st P (zah Fn.cg #[o]) b.drew λL l=>
 hold P (zab T.aC k) e l/\hold P (zab T.ah i) j l/\hold P (zab T.bool h) d l/\hold P (zab T.int g) c l/\pu P (zaw T.ay #[(0,L),(2,c),(3,d),(1,t),(4,e)]) λM=>
 st P (zbw T.ay) l λp m=>
 hold P (zab T.aC k) e m/\hold P (zab T.ah i) j m/\hold P (zab T.bool h) d m/\hold P (zab T.int g) c m/\st P (zai T.ay p M) m λ_ N=>
 jn (zcK p r K) λu=>
 pu P (zad T.ag a 0) λO=>
 st P (zab T.bool O) N λQ v=>
 cd Q (
 pu P (zad T.ay p 1) λR=>
 st P (zai T.aC R (.int .i64 42)) v λ_ U=>
 u [] U) (
 u [] v))/\(st P (zbw T.ay) b.drew λq f=>
 hold P (zab T.aC k) e f/\hold P (zab T.ah i) j f/\hold P (zab T.bool h) d f/\hold P (zab T.int g) c f/\hold P (zab T.string s) o f/\st P (zah Fn.cg #[o]) f λV n=>
 hold P (zab T.aC k) e n/\hold P (zab T.ah i) j n/\hold P (zab T.bool h) d n/\hold P (zab T.int g) c n/\pu P (zaw T.ay #[(0,V),(2,c),(3,d),(1,t),(4,e)]) λX=>
 st P (zai T.ay q X) n λ_ Y=>
 jn (zcK q r K) λx=>
 pu P (zad T.ag a 0) λZ=>
 st P (zab T.bool Z) Y λaa y=>
 cd aa (
 pu P (zad T.ay q 1) λab=>
 st P (zai T.aC ab (.int .i64 42)) y λ_ ac=>
 x [] ac) (
 x [] y))
theorem zlV(h:zir t0 t1 w K):Cl P Fn.bQ #[t0,t1] w K:=ce (T:=tb [] []) Tryz.func169 rfl h
def zhj(c a:Value)(K:Value->World->Prop)(g:List Value)(h:Env)(d:World):Prop:=
 st P (zab T.ab c) d λe f=>
 st P (zai T.ab a e) f λ_ b=>
 rsl P T.ab a b λr1=>
 K (tup [r1]) b
def zhi(c:Value)(d:World)(g:Value)(h:List Value->World->Prop):Prop:=
 pu P (zad T.ab c 4) λa=>
 rd P (zab T.aj a) d.drew λb=>
 st P (zah Fn.cg #[g]) d.drew λi e=>
 hold P (zab T.aj a) b e/\st P (zam T.aj 1 #[(0,i)]) e λj f=>
 hold P (zab T.aj a) b f/\st P (zac .append #[T.aj,T.aj] T.aj #[false,false] #[b,j]) f λk l=>
 pu P (zad T.ab c 4) λm=>
 st P (zai T.aj m k) l λ_ n=>
 h [] n
def zha(c:Value)(d:World)(g h:Value)(i:List Value->World->Prop):Prop:=
 pu P (zad T.ab c 5) λa=>
 rd P (zab T.aM a) d.drew λb=>
 st P (zah Fn.bQ #[g,h]) d.drew λj e=>
 hold P (zab T.aM a) b e/\st P (zam T.aM 1 #[(0,j)]) e λk f=>
 hold P (zab T.aM a) b f/\st P (zac .append #[T.aM,T.aM] T.aM #[false,false] #[b,k]) f λl m=>
 pu P (zad T.ab c 5) λn=>
 st P (zai T.aM n l) m λ_ o=>
 i [] o
def zhd(a:List Value)(h:List Value->World->Prop)(i:List Value)(b j c:Value)(s:List Value)(t:Env)(k:World):Prop:=
 jn (zas a h) λd=>
 pu P (zaO T.aj (gs i 0) (gs a 0)) λl=>
 st P (zab T.string l) k λe m=>
 st P (zah Fn.ai #[b,e]) m λf n=>
 pu P (zae f 0) λo=>
 pu P (zae f 1) λu=>
 pu P (zad T.ae j 0) λp=>
 st P (zab T.int p) n λq g=>
 pu P (oBin .eql T.int false true q (.int .i64 20)) λr=>
 cd r (zhi c g e d) (zha c g b o d)
def zem(c f:Value)(K:Value->World->Prop)(g h:Value)(a:List Value)(B:Env)(i:World):Prop:=
 pu P (oNil c) λj=>
 pu P (zad T.am j 2) λk=>
 st P (zab T.int k) i λl m=>
 pu P (zac .len #[T.aj] T.int #[false] #[(gs a 0)]) λn=>
 pu P (oBin .add T.int false false l n) λo=>
 pu P (oNil c) λp=>
 pu P (zad T.am p 2) λq=>
 st P (zai T.int q o) m λ_ r=>
 pu P (zaw T.ab #[(0,(gs a 1))]) λs=>
 st P (zbw T.ab) r λb t=>
 st P (zai T.ab b s) t λ_ u=>
 jn (zhj b f K) λv=>
 pu P (zac .len #[T.aj] T.int #[false] #[(gs a 0)]) λx=>
 lp [(.int .i64 0)] u λd C e y=>
 pu P (oBin .lss T.int false false (gs d 0) x) λz=>
 jn (zhd d y a g h b) λA=>
 cd z (
 A [] e) (
 v [] e)
def zhf(b a:Value)(c:List Value->World->Prop)(d:List Value)(l:Env)(e:World):Prop:=
 pu P (zad T.ae b 9) λf=>
 st P (zab T.int f) e λg h=>
 pu P (zac .len #[T.aj] T.int #[false] #[a]) λi=>
 pu P (zac .min #[T.int,T.int] T.int #[false,false] #[g,i]) λj=>
 pu P (zaE T.aj a none (some j) none) λk=>
 c [k,(gs d 0)] h
def zhn(d a:Value)(e:List Value->World->Prop)(b:World):Prop:=
 jn (zhf d a e) λc=>
 pu P (zac .len #[T.aj] T.int #[false] #[a]) λf=>
 pu P (oBin .eql T.int false true f (.int .i64 0)) λg=>
 cd g (
 c [(.int .i64 4)] b) (
 c [(.int .i64 0)] b)
def zhm(h b c i:Value)(K:Value->World->Prop)(a:Value)(y:List Value)(z:Env)(j:World):Prop:=
 pu P (zad T.ag h 4) λk=>
 st P (zab T.string k) j λl m=>
 st P (zah Fn.aH #[b,l]) m λd n=>
 pu P (oNil c) λo=>
 pu P (zad T.am o 2) λp=>
 st P (zab T.int p) n λq r=>
 pu P (zac .len #[T.aj] T.int #[false] #[d]) λs=>
 pu P (zac .min #[T.int,T.int] T.int #[false,false] #[q,s]) λt=>
 pu P (zaE T.aj d (some t) none none) λe=>
 jn (zem c i K b a) λf=>
 pu P (zad T.ae a 9) λu=>
 st P (zab T.int u) r λv g=>
 pu P (oBin .gtr T.int false true v (.int .i64 0)) λx=>
 cd x (zhn a e f g) (
 f [e,(.int .i64 0)] g)
def ziH(e f o:Value)(w:World)(K:Value->World->Prop):Prop:=
 st P (oBox T.ae o) w λp q=>
 st P (zbw T.ab) q λc a=>
 pu P (oNil e) λr=>
 pu P (zad T.aA r 2) λg=>
 rd P (zab T.ap g) a.drew λh=>
 pu P (oNil f) λs=>
 pu P (zad T.am s 0) λi=>
 rd P (zab T.int i) a.drew λj=>
 pu P (zaO T.ap h j) λk=>
 rd P (zab T.ag k) a.drew λl=>
 st P (zbw T.ag) a.drew λd b=>
 hold P (zab T.ag k) l b/\hold P (zab T.int i) j b/\hold P (zab T.ap g) h b/\st P (zai T.ag d l) b λ_ t=>
 jn (zhm d e f c K p) λu=>
 pu P (zad T.ag d 0) λv=>
 st P (zab T.bool v) t λx m=>
 pu P (oUn .not x) λy=>
 cd y (
 pu P (zaw T.ab #[(0,(.int .i64 8))]) λz=>
 st P (zai T.ab c z) m λ_ n=>
 rsl P T.ab c n λr2=>
 K (tup [r2]) n) (
 u [] m)
theorem zmm(h:ziH t0 t1 t2 w K):Cl P Fn.cU #[t0,t1,t2] w K:=ce (T:=tb [(9,[9]),(10,[8,9])] [(13,[68])]) Tryz.func170 rfl h
def zit(c a i:Value)(w:World)(K:Value->World->Prop):Prop:=
 pu P (zac .max #[T.int,T.int] T.int #[false,true] #[i,(.int .i64 0)]) λe=>
 jn (λH I j=>
 st P (zam T.ah 0 #[]) j λk l=>
 pu P (zac .len #[T.ah] T.int #[false] #[c]) λm=>
 pu P (oBin .add T.aC false false a e) λn=>
 pu P (zac .min #[T.aC,T.aC] T.aC #[false,false] #[m,n]) λo=>
 pu P (zaE T.ah c (some a) (some o) none) λp=>
 st P (zac .append #[T.ah,T.ah] T.ah #[false,false] #[k,p]) l λq r=>
 K (tup [q,(.int .i64 0)]) r) λs=>
 pu P (oBin .lss T.aC false true a (.int .i64 0)) λt=>
 cd t (
 K (tup [(.slice none 0 0),(.int .i64 13)]) w) (
 pu P (oBin .gtr T.int false true e (.int .i64 0)) λb=>
 gd b true w (λu=>u a w) λx f=>
 gd b true f (λy=>y c f) λz g=>
 gd b true g (λA=>pu P (zac .len #[T.ah] T.int #[false] #[z]) λv=>A v g) λB h=>
 gd b true h (λC=>pu P (oBin .eql T.aC false false x B) λv=>C v h) λD d=>
 pu P (zaD b D (.bool false)) λE=>
 cd E (
 K (tup [(.slice none 0 0),(.int .i64 4)]) d) (
 pu P (zac .len #[T.ah] T.int #[false] #[c]) λF=>
 pu P (oBin .gtr T.aC false false a F) λG=>
 cd G (
 K (tup [(.slice none 0 0),(.int .i64 5)]) d) (
 s [] d)))
theorem zmh(h:zit t0 t1 t2 w K):Cl P Fn.cA #[t0,t1,t2] w K:=ce (T:=tb [] []) Tryz.func171 rfl h
def zk6(c d:Value)(w:World)(K:Value->World->Prop):Prop:=
 st P (zam T.ah 0 #[]) w λe f=>
 st P (zac .append #[T.ah,T.ah] T.ah #[false,false] #[e,c]) f λg h=>
 jn (λi u j=>
 K (tup [(gs i 0)]) j) λk=>
 lp [g] h λa v b l=>
 jn (λx y m=>
 st P (zam T.ah 1 #[(0,(.int .u8 0))]) m λn o=>
 st P (zac .append #[T.ah,T.ah] T.ah #[false,false] #[(gs a 0),n]) o λp q=>
 l [p] q) λr=>
 pu P (zac .len #[T.ah] T.int #[false] #[(gs a 0)]) λs=>
 pu P (oBin .lss T.aC false false s d) λt=>
 cd t (
 r [] b) (
 k [(gs a 0)] b)
theorem zoK(h:zk6 t0 t1 w K):Cl P Fn.di #[t0,t1] w K:=ce (T:=tb [(4,[5])] [(2,[5])]) Tryz.func172 rfl h
def zgm(d a b:Value)(w:World)(K:Value->World->Prop):Prop:=
 pu P (zac .len #[T.ah] T.int #[false] #[b]) λe=>
 pu P (oBin .add T.aC false false a e) λf=>
 st P (zah Fn.di #[d,f]) w λc g=>
 pu P (zaE T.ah c (some a) none none) λh=>
 st P (zac .copy #[T.ah,T.ah] T.int #[false,false] #[h,b]) g λj i=>
 K (tup [c]) i
theorem zkg(h:zgm t0 t1 t2 w K):Cl P Fn.bH #[t0,t1,t2] w K:=ce (T:=tb [] []) Tryz.func173 rfl h
def zeP(c:Value)(w:World)(K:Value->World->Prop):Prop:=
 st P (zah Fn.cz #[c]) w λa b=>
 pu P (oBin .eql T.string false true a (S [46])) λd=>
 cd d (
 K (tup [(S [47])]) b) (
 pu P (oBin .eql T.string false true a (S [46,46])) λe=>
 cd e (
 K (tup [(S [47])]) b) (
 K (tup [a]) b))
theorem ziX(h:zeP t0 w K):Cl P Fn.ag #[t0] w K:=ce (T:=tb [] []) Tryz.func174 rfl h
def ze7(a:Value)(w:World)(K:Value->World->Prop):Prop:=
 pu P (zaw T.ak #[(0,a),(4,(.int .u32 268435456))]) λb=>
 st P (oBox T.ak b) w λc d=>
 K (tup [c]) d
theorem zhP(h:ze7 t0 w K):Cl P Fn.cP #[t0] w K:=ce (T:=tb [] []) Tryz.func175 rfl h
def zbW(a:Value)(w:World)(K:Value->World->Prop):Prop:=
 jn (λA B e=>
 pu P (oNil a) λf=>
 pu P (zad T.aL f 0) λg=>
 st P (zab T.ai g) e λh i=>
 K (tup [h]) i) λb=>
 pu P (oNil a) λj=>
 pu P (zad T.aL j 0) λk=>
 st P (zab T.ai k) w λl c=>
 pu P (oBin .eql T.ai false true l (.map none)) λm=>
 cd m (
 st P (zlF T.ai none) c λn o=>
 pu P (oNil a) λp=>
 pu P (zad T.aL p 0) λq=>
 st P (zai T.ai q n) o λ_ r=>
 st P (zah Fn.bP #[(S [47])]) r λd s=>
 st P (zah Fn.bZ #[d,(.int .u32 2147484141)]) s λC t=>
 pu P (oNil a) λu=>
 pu P (zad T.aL u 0) λv=>
 st P (zab T.ai v) t λx y=>
 st P (zee T.ai x (S [47]) d) y λ_ z=>
 b [] z) (
 b [] c)
theorem zds(h:zbW t0 w K):Cl P Fn.ab #[t0] w K:=ce (T:=tb [] []) Tryz.func176 rfl h
def zaS(b a k:Value)(w:World)(K:Value->World->Prop):Prop:=
 jn (λF G l=>
 st P (zah Fn.ar #[b,a]) l λc d=>
 jn (λe H m=>
 st P (zah Fn.cf #[(gs e 0)]) m λI n=>
 st P (zah Fn.cE #[(gs e 0),a]) n λJ o=>
 K (tup []) o) λf=>
 pu P (oBin .eql T.af false true c (.pointer none)) λp=>
 cd p (
 st P (zah Fn.ah #[a]) d λq r=>
 st P (zah Fn.cz #[q]) r λs t=>
 st P (zah Fn.dG #[s]) t λg u=>
 st P (zah Fn.aX #[b,g,k]) u λv h=>
 jn (λL M x=>
 st P (zah Fn.aj #[b,g]) x λi j=>
 pu P (zae i 0) λy=>
 pu P (zae i 1) λz=>
 pu P (oBin .neq T.aB false true z .nilIface) λA=>
 cd A (
 K (tup []) j) (
 f [y] j)) λB=>
 pu P (oBin .neq T.aB false true v .nilIface) λC=>
 cd C (
 K (tup []) h) (
 B [] h)) (
 f [c] d)) λD=>
 pu P (oBin .eql T.af false true a (.pointer none)) λE=>
 cd E (
 K (tup []) w) (
 D [] w)
theorem za4(h:zaS t0 t1 t2 w K):Cl P Fn.ae #[t0,t1,t2] w K:=ce (T:=tb [(8,[6])] []) Tryz.func177 rfl h
def zga(a:Value)(w:World)(K:Value->World->Prop):Prop:=
 pu P (zaw T.ao #[(4,a)]) λb=>
 st P (oBox T.ao b) w λc d=>
 K (tup [c]) d
theorem zj1(h:zga t0 w K):Cl P Fn.aI #[t0] w K:=ce (T:=tb [] []) Tryz.func178 rfl h
def zeL(d e:Value)(w:World)(K:Value->World->Prop):Prop:=
 st P (zah Fn.ag #[e]) w λb f=>
 st P (zah Fn.ab #[d]) f λg h=>
 st P (za3 T.ai g b true) h λc a=>
 pu P (zae c 0) λi=>
 pu P (zae c 1) λj=>
 jn (λs t k=>
 K (tup [i,.nilIface]) k) λl=>
 pu P (oUn .not j) λm=>
 cd m (
 rd P (zab T.aB (.pointer (some ⟨G.ab,0,none⟩))) a.drew λn=>
 pu P (zaw T.au #[(0,(S [111,112,101,110])),(1,b),(2,n)]) λo=>
 st P (oBox T.au o) a.drew λp q=>
 pu P (zbl T.aD p) λr=>
 K (tup [(.pointer none),r]) q) (
 l [] a)
theorem ziI(h:zeL t0 t1 w K):Cl P Fn.aN #[t0,t1] w K:=ce (T:=tb [] []) Tryz.func179 rfl h
def zcD(a:Value)(w:World)(K:Value->World->Prop):Prop:=
 pu P (zaw T.ao #[(4,a),(3,(.bool true))]) λb=>
 st P (oBox T.ao b) w λc d=>
 K (tup [c]) d
theorem zf4(h:zcD t0 w K):Cl P Fn.au #[t0] w K:=ce (T:=tb [] []) Tryz.func180 rfl h
def zcQ(e f:Value)(w:World)(K:Value->World->Prop):Prop:=
 st P (zah Fn.aN #[e,f]) w λa b=>
 pu P (zae a 0) λc=>
 pu P (zae a 1) λd=>
 jn (λl m g=>
 K (tup [(.pointer none),d]) g) λh=>
 pu P (oBin .neq T.af false true c (.pointer none)) λi=>
 cd i (
 st P (zah Fn.aI #[c]) b λj k=>
 K (tup [j,d]) k) (
 h [] b)
theorem zgc(h:zcQ t0 t1 w K):Cl P Fn.aK #[t0,t1] w K:=ce (T:=tb [] []) Tryz.func181 rfl h
def zgb(b:Value)(w:World)(K:Value->World->Prop):Prop:=
 jn (λc A i=>
 st P (zab T.aB (.pointer (some ⟨G.ab,0,none⟩))) i λj k=>
 st P (oBin .eql T.aB false false (gs c 0) j) k λa d=>
 gd a false d (λl=>l (gs c 0) d) λm e=>
 gd a false e (λn=>st P (zab T.aB (.pointer (some ⟨G.ai,0,none⟩))) e n) λo f=>
 gd a false f (λp=>st P (oBin .eql T.aB false false m o) f p) λq r=>
 pu P (zaD a (.bool true) q) λs=>
 K (tup [s]) r) λg=>
 pu P (zgS b T.aB T.aD true) λh=>
 pu P (zae h 0) λt=>
 pu P (zae h 1) λu=>
 cd u (
 pu P (oNil t) λv=>
 pu P (zad T.au v 2) λx=>
 st P (zab T.aB x) w λy z=>
 g [y] z) (
 g [b] w)
theorem ziK(h:zgb t0 w K):Cl P Fn.cC #[t0] w K:=ce (T:=tb [(4,[0])] []) Tryz.func182 rfl h
def zfN(a:Value)(w:World)(K:Value->World->Prop):Prop:=
 st P (oBox T.ao a) w λb c=>
 pu P (zad T.ao b 4) λd=>
 st P (zab T.af d) c λe f=>
 K (tup [e]) f
theorem ziq(h:zfN t0 w K):Cl P Fn.cY #[t0] w K:=ce (T:=tb [] []) Tryz.func183 rfl h
def zct(d e f:Value)(w:World)(K:Value->World->Prop):Prop:=
 st P (zah Fn.ag #[e]) w λa g=>
 st P (zah Fn.ab #[d]) g λh i=>
 st P (za3 T.ai h a true) i λb c=>
 pu P (zae b 0) λj=>
 pu P (zae b 1) λk=>
 jn (λv x l=>
 st P (zah Fn.bZ #[j,f]) l λy m=>
 K (tup [.nilIface]) m) λn=>
 pu P (oUn .not k) λo=>
 cd o (
 st P (zab T.aB (.pointer (some ⟨G.ab,0,none⟩))) c λp q=>
 pu P (zaw T.au #[(0,(S [99,104,109,111,100])),(1,a),(2,p)]) λr=>
 st P (oBox T.au r) q λs t=>
 pu P (zbl T.aD s) λu=>
 K (tup [u]) t) (
 n [] c)
theorem zft(h:zct t0 t1 t2 w K):Cl P Fn.am #[t0,t1,t2] w K:=ce (T:=tb [] []) Tryz.func184 rfl h
def ziO(a:Value)(w:World)(K:Value->World->Prop):Prop:=
 st P (zlF T.aS none) w λb c=>
 pu P (zaw T.ak #[(0,a),(2,b),(3,(.bool true))]) λd=>
 st P (oBox T.ak d) c λe f=>
 K (tup [e]) f
theorem zmu(h:ziO t0 w K):Cl P Fn.bP #[t0] w K:=ce (T:=tb [] []) Tryz.func185 rfl h
def zkp(a b:Value)(w:World)(K:Value->World->Prop):Prop:=
 pu P (oNil a) λc=>
 pu P (zad T.ak c 4) λd=>
 st P (zai T.aN d b) w λ_ e=>
 K (tup []) e
theorem znq(h:zkp t0 t1 w K):Cl P Fn.bZ #[t0,t1] w K:=ce (T:=tb [] []) Tryz.func186 rfl h
def zaP(a i:Value)(w:World)(K:Value->World->Prop):Prop:=
 st P (zah Fn.aj #[a,i]) w λb c=>
 pu P (zae b 0) λd=>
 pu P (zae b 1) λe=>
 jn (λr s j=>
 st P (zah Fn.ar #[a,d]) j λf g=>
 jn (λt u k=>
 st P (zah Fn.bt #[f,d]) k λv l=>
 K (tup [.nilIface]) l) λh=>
 pu P (oBin .eql T.af false true f (.pointer none)) λm=>
 cd m (
 pu P (zbl T.string (S [112,97,114,101,110,116,32,105,115,32,110,105,108])) λn=>
 st P (oPanic n) g λ_ o=>
 h [] o) (
 h [] g)) λp=>
 pu P (oBin .neq T.aB false true e .nilIface) λq=>
 cd q (
 K (tup [e]) c) (
 p [] c)
theorem za2(h:zaP t0 t1 w K):Cl P Fn.af #[t0,t1] w K:=ce (T:=tb [] []) Tryz.func187 rfl h
def ziy(e:Value)(w:World)(K:Value->World->Prop):Prop:=
 jn (λa x f=>
 st P (zah Fn.dg #[(gs a 0)]) f λy g=>
 K (tup [(gs a 0)]) g) λh=>
 st P (zrt T.ai e) w λb i=>
 lp [(.slice none 0 0)] i λc z j k=>
 st P (zqp b false T.aU) j λl d=>
 pu P (zae l 0) λm=>
 jn (λA B n=>
 st P (zpB b) n λo p=>
 pu P (zae o 0) λq=>
 st P (zam T.aj 1 #[(0,q)]) p λr s=>
 st P (zac .append #[T.aj,T.aj] T.aj #[false,false] #[(gs c 0),r]) s λt u=>
 k [t] u) λv=>
 cd m (
 v [] d) (
 h [(gs c 0)] d)
theorem zmi(h:ziy t0 w K):Cl P Fn.bO #[t0] w K:=ce (T:=tb [(6,[3])] [(3,[3])]) Tryz.func188 rfl h
def zf9(a b:Value)(w:World)(K:Value->World->Prop):Prop:=
 st P (zah Fn.co #[a,b]) w λc d=>
 K (tup [c]) d
theorem zjS(h:zf9 t0 t1 w K):Cl P Fn.bj #[t0,t1] w K:=ce (T:=tb [] []) Tryz.func189 rfl h
def zfn(a b:Value)(w:World)(K:Value->World->Prop):Prop:=
 pu P (oNil a) λc=>
 pu P (zad T.ak c 0) λd=>
 st P (zai T.string d b) w λ_ e=>
 K (tup []) e
theorem zjq(h:zfn t0 t1 w K):Cl P Fn.aD #[t0,t1] w K:=ce (T:=tb [] []) Tryz.func190 rfl h
def zbB(b f m:Value)(w:World)(K:Value->World->Prop):Prop:=
 st P (zah Fn.aw #[b,f]) w λd n=>
 pu P (zac .len #[T.aq] T.int #[false] #[d]) λo=>
 st P (zdx T.aj (.int .i64 0) o) n λp q=>
 jn (λg u1 r=>
 jn (λs2 u2 s=>
 K (tup [.nilIface]) s) λt=>
 pu P (zac .len #[T.aj] T.int #[false] #[(gs g 0)]) λu=>
 lp [(.int .i64 0)] r λe u3 h v=>
 pu P (oBin .lss T.int false false (gs e 0) u) λx=>
 jn (λs4 u4 y=>
 pu P (zaO T.aj (gs g 0) (gs e 0)) λz=>
 st P (zab T.string z) y λA B=>
 st P (zah Fn.ab #[b]) B λC D=>
 st P (zac .delete #[T.ai,T.string] T.aU #[false,false] #[C,A]) D λ_ E=>
 pu P (oBin .add T.int false true (gs e 0) (.int .i64 1)) λF=>
 v [F] E) λG=>
 cd x (
 G [] h) (
 t [] h)) λH=>
 pu P (zac .len #[T.aq] T.int #[false] #[d]) λI=>
 lp [p,(.int .i64 0)] q λc u5 i J=>
 pu P (oBin .lss T.int false false (gs c 1) I) λL=>
 jn (λs6 u6 M=>
 jn (λN u7 O=>
 pu P (oBin .add T.int false true (gs c 1) (.int .i64 1)) λQ=>
 J [(gs N 0),Q] O) λR=>
 pu P (zaO T.aq d (gs c 1)) λU=>
 st P (zab T.af U) M λa V=>
 st P (zah Fn.ah #[a]) V λX Y=>
 st P (zah Fn.aV #[X,f,m]) Y λj Z=>
 st P (zah Fn.ah #[a]) Z λaa ab=>
 st P (zah Fn.af #[b,aa]) ab λk l=>
 jn (λs8 u8 ac=>
 st P (zah Fn.ah #[a]) ac λad ae=>
 st P (zam T.aj 1 #[(0,ad)]) ae λaf ag=>
 st P (zac .append #[T.aj,T.aj] T.aj #[false,false] #[(gs c 0),af]) ag λah ai=>
 st P (zah Fn.aD #[a,j]) ai λap aj=>
 st P (zah Fn.ab #[b]) aj λak al=>
 st P (zee T.ai ak j a) al λ_ am=>
 st P (zah Fn.ae #[b,a,(.int .u32 0)]) am λaq an=>
 R [ah] an) λk6=>
 pu P (oBin .neq T.aB false true k .nilIface) λao=>
 cd ao (
 K (tup [k]) l) (
 k6 [] l)) λk4=>
 cd L (
 k4 [] i) (
 H [(gs c 0)] i)
theorem zdv(h:zbB t0 t1 t2 w K):Cl P Fn.ak #[t0,t1,t2] w K:=ce (T:=tb [(14,[8]),(15,[8])] [(4,[8,23]),(16,[57])]) Tryz.func191 rfl h
def zkY(a b:Value)(w:World)(K:Value->World->Prop):Prop:=
 pu P (oNil a) λc=>
 pu P (zad T.ak c 6) λd=>
 st P (zai T.int d b) w λ_ e=>
 K (tup []) e
theorem zoL(h:zkY t0 t1 w K):Cl P Fn.dE #[t0,t1] w K:=ce (T:=tb [] []) Tryz.func192 rfl h
def zk5(a b:Value)(w:World)(K:Value->World->Prop):Prop:=
 pu P (oNil a) λc=>
 pu P (zad T.ak c 7) λd=>
 st P (zai T.int d b) w λ_ e=>
 K (tup []) e
theorem zoE(h:zk5 t0 t1 w K):Cl P Fn.dF #[t0,t1] w K:=ce (T:=tb [] []) Tryz.func193 rfl h
def zhY(a b:Value)(w:World)(K:Value->World->Prop):Prop:=
 st P (zah Fn.bl #[a,b]) w λd c=>
 K (tup []) c
theorem zlh(h:zhY t0 t1 w K):Cl P Fn.du #[t0,t1] w K:=ce (T:=tb [] []) Tryz.func194 rfl h
def zk3(a:Value)(w:World)(K:Value->World->Prop):Prop:=
 pu P (zaw T.aI #[(0,a)]) λb=>
 st P (oBox T.aI b) w λc d=>
 pu P (zbl T.aO c) λe=>
 K (tup [e]) d
theorem zop(h:zk3 t0 w K):Cl P Fn.cL #[t0] w K:=ce (T:=tb [] []) Tryz.func195 rfl h
def zbS(K:Value->World->Prop)(a c:List Value)(d:Env)(b:World):Prop:=K (tup [(gs a 0)]) b
def zfg(a b:List Value)(d:List Value->World->Prop)(p:List Value)(q:Env)(c:World):Prop:=
 pu P (oBin .sub T.int false true (gs a 0) (.int .i64 1)) λe=>
 pu P (oBin .sub T.int false true (gs a 0) (.int .i64 1)) λf=>
 pu P (zaO T.aq (gs b 0) f) λg=>
 rd P (zab T.af g) c.drew λh=>
 pu P (zaO T.aq (gs b 0) (gs a 0)) λi=>
 rd P (zab T.af i) c.drew λj=>
 pu P (zaO T.aq (gs b 0) (gs a 0)) λk=>
 st P (zai T.af k h) c.drew λ_ l=>
 pu P (zaO T.aq (gs b 0) e) λm=>
 st P (zai T.af m j) l λ_ n=>
 pu P (oBin .sub T.int false true (gs a 0) (.int .i64 1)) λo=>
 d [o] n
def zfo(h:List Value)(x:List Value->World->Prop)(c s4:List Value)(u4:Env)(y:World):Prop:=
 jn (zas h x) λz=>
 lp [(gs h 0)] y λb u6 i A=>
 jn (zfg b c A) λB=>
 pu P (oBin .gtr T.int false true (gs b 0) (.int .i64 0)) λa=>
 gd a true i.drew (λC=>C (gs c 0) i.drew) λD j=>
 gd a true j (λE=>E (gs b 0) j) λF k=>
 gd a true k (λG=>pu P (zaO T.aq D F) λv=>G v k) λH d=>
 gd a true d (λI=>rd P (zab T.af H) d λv=>I v d) λJ l=>
 gd a true l (λL=>pu P (oNil J) λv=>L v l) λM m=>
 gd a true m (λN=>pu P (zad T.ak M 0) λv=>N v m) λO e=>
 gd a true e (λQ=>rd P (zab T.string O) e λv=>Q v e) λR n=>
 gd a true n (λU=>U (gs c 0) n) λV o=>
 gd a true o (λX=>X (gs b 0) o) λY p=>
 gd a true p (λZ=>pu P (oBin .sub T.int false true Y (.int .i64 1)) λv=>Z v p) λaa q=>
 gd a true q (λab=>pu P (zaO T.aq V aa) λv=>ab v q) λac f=>
 gd a true f (λad=>rd P (zab T.af ac) f λv=>ad v f) λae r=>
 gd a true r (λaf=>pu P (oNil ae) λv=>af v r) λag s=>
 gd a true s (λah=>pu P (zad T.ak ag 0) λv=>ah v s) λai g=>
 gd a true g (λaj=>rd P (zab T.string ai) g λv=>aj v g) λak t=>
 gd a true t (λal=>pu P (oBin .lss T.string false false R ak) λv=>al v t) λam u=>
 pu P (zaD a am (.bool false)) λan=>
 cd an (
 B [] u) (
 z [] u)
def zfb(K:Value->World->Prop)(a:List Value)(j:Env)(d:World):Prop:=
 jn (zbS K a) λe=>
 lp [(.int .i64 1)] d λb k c f=>
 jn (zfo b f a) λg=>
 pu P (zac .len #[T.aq] T.int #[false] #[(gs a 0)]) λh=>
 pu P (oBin .lss T.int false false (gs b 0) h) λi=>
 cd i (
 g [] c) (
 e [] c)
def zfe(a:Value)(b:List Value)(c:List Value->World->Prop)(l:List Value)(m:Env)(d:World):Prop:=
 st P (zpB a) d λe f=>
 pu P (zae e 1) λg=>
 st P (zam T.aq 1 #[(0,g)]) f λh i=>
 st P (zac .append #[T.aq,T.aq] T.aq #[false,false] #[(gs b 0),h]) i λj k=>
 c [j] k
def zgr(d:Value)(w:World)(K:Value->World->Prop):Prop:=
 jn (zfb K) λe=>
 st P (zrt T.aS d) w λa f=>
 lp [(.slice none 0 0)] f λb l g h=>
 st P (zqp a false T.aU) g λi c=>
 pu P (zae i 0) λj=>
 jn (zfe a b h) λk=>
 cd j (
 k [] c) (
 e [(gs b 0)] c)
theorem zkf(h:zgr t0 w K):Cl P Fn.bG #[t0] w K:=ce (T:=tb [(5,[2])] [(2,[2]),(6,[5]),(9,[6])]) Tryz.func196 rfl h
def zcm(a b:Value)(w:World)(K:Value->World->Prop):Prop:=
 pu P (oNil a) λc=>
 pu P (zad T.ak c 5) λd=>
 st P (zai T.aC d b) w λ_ e=>
 K (tup []) e
theorem zdb(h:zcm t0 t1 w K):Cl P Fn.bl #[t0,t1] w K:=ce (T:=tb [] []) Tryz.func197 rfl h
def zk0(a:Value)(w:World)(K:Value->World->Prop):Prop:=
 st P (zah Fn.aC #[a,(.int .u8 47)]) w λb c=>
 pu P (oBin .add T.int false true b (.int .i64 1)) λd=>
 pu P (zaE T.string a none (some d) none) λe=>
 pu P (oBin .add T.int false true b (.int .i64 1)) λf=>
 pu P (zaE T.string a (some f) none none) λg=>
 K (tup [e,g]) c.drew
theorem zoH(h:zk0 t0 w K):Cl P Fn.ct #[t0] w K:=ce (T:=tb [] []) Tryz.func198 rfl h
def zdg(a:Value)(w:World)(K:Value->World->Prop):Prop:=
 pu P (oNil a) λb=>
 pu P (zad T.ak b 0) λc=>
 st P (zab T.string c) w λd e=>
 K (tup [d]) e
theorem zfO(h:zdg t0 w K):Cl P Fn.ah #[t0] w K:=ce (T:=tb [] []) Tryz.func202 rfl h
def zjz(a k l:Value)(w:World)(K:Value->World->Prop):Prop:=
 st P (zah Fn.bv #[a,k]) w λm n=>
 pu P (zae m 0) λb=>
 pu P (zae m 1) λu=>
 jn (λs1 u1 c=>
 pu P (oNil a) λv=>
 pu P (zad T.aA v 0) λd=>
 rd P (zab T.aj d) c.drew λe=>
 pu P (zaE T.aj e none (some b) none) λx=>
 pu P (oNil a) λy=>
 pu P (zad T.aA y 0) λo=>
 rd P (zab T.aj o) c.drew λp=>
 pu P (zaE T.aj p (some b) none none) λz=>
 st P (zam T.aj 1 #[(0,k)]) c.drew λA f=>
 hold P (zab T.aj o) p f/\hold P (zab T.aj d) e f/\st P (zac .append #[T.aj,T.aj] T.aj #[false,false] #[A,z]) f λB q=>
 hold P (zab T.aj d) e q/\st P (zac .append #[T.aj,T.aj] T.aj #[false,false] #[x,B]) q λC D=>
 pu P (oNil a) λE=>
 pu P (zad T.aA E 0) λF=>
 st P (zai T.aj F C) D λ_ g=>
 pu P (oNil a) λG=>
 pu P (zad T.aA G 1) λh=>
 rd P (zab T.aR h) g.drew λi=>
 pu P (zaE T.aR i none (some b) none) λH=>
 pu P (oNil a) λI=>
 pu P (zad T.aA I 1) λr=>
 rd P (zab T.aR r) g.drew λs=>
 pu P (zaE T.aR s (some b) none none) λJ=>
 st P (zam T.aR 1 #[(0,l)]) g.drew λL j=>
 hold P (zab T.aR r) s j/\hold P (zab T.aR h) i j/\st P (zac .append #[T.aR,T.aR] T.aR #[false,false] #[L,J]) j λM t=>
 hold P (zab T.aR h) i t/\st P (zac .append #[T.aR,T.aR] T.aR #[false,false] #[H,M]) t λN O=>
 pu P (oNil a) λQ=>
 pu P (zad T.aA Q 1) λR=>
 st P (zai T.aR R N) O λ_ U=>
 K (tup []) U) λV=>
 cd u (
 pu P (oNil a) λX=>
 pu P (zad T.aA X 1) λY=>
 st P (zab T.aR Y) n λZ aa=>
 pu P (zaO T.aR Z b) λab=>
 st P (zai T.int ab l) aa λ_ ac=>
 K (tup []) ac) (
 V [] n)
theorem zmL(h:zjz t0 t1 t2 w K):Cl P Fn.cJ #[t0,t1,t2] w K:=ce (T:=tb [] []) Tryz.func206 rfl h
def zcB(d e:Value)(w:World)(K:Value->World->Prop):Prop:=
 st P (zah Fn.ah #[e]) w λf g=>
 st P (zah Fn.ct #[f]) g λa h=>
 pu P (zae a 0) λi=>
 pu P (zae a 1) λq=>
 st P (zah Fn.cz #[i]) h λj k=>
 st P (zah Fn.aj #[d,j]) k λb c=>
 pu P (zae b 0) λl=>
 pu P (zae b 1) λm=>
 jn (λr s n=>
 K (tup [l]) n) λo=>
 pu P (oBin .neq T.aB false true m .nilIface) λp=>
 cd p (
 K (tup [(.pointer none)]) c) (
 o [] c)
theorem zf5(h:zcB t0 t1 w K):Cl P Fn.ar #[t0,t1] w K:=ce (T:=tb [] []) Tryz.func207 rfl h
def zm0(b:Value)(w:World)(K:Value->World->Prop):Prop:=
 st P (zah Fn.ct #[b]) w λa c=>
 pu P (zae a 0) λd=>
 pu P (zae a 1) λg=>
 st P (zah Fn.cz #[d]) c λe f=>
 K (tup [e]) f
theorem zqy(h:zm0 t0 w K):Cl P Fn.dG #[t0] w K:=ce (T:=tb [] []) Tryz.func208 rfl h
def zbi(a j d:Value)(w:World)(K:Value->World->Prop):Prop:=
 st P (zah Fn.ag #[j]) w λb k=>
 st P (zah Fn.ab #[a]) k λl m=>
 st P (za3 T.ai l b true) m λe f=>
 pu P (zae e 0) λn=>
 pu P (zae e 1) λo=>
 jn (λF H p=>
 K (tup [.nilIface]) p) λg=>
 cd o (
 pu P (zaw T.aF #[(0,n)]) λq=>
 st P (zbw T.aF) f λh r=>
 st P (zai T.aF h q) r λ_ s=>
 st P (zah Fn.ao #[h]) s λt i=>
 pu P (oUn .not t) λu=>
 cd u (
 st P (zab T.aB (.pointer (some ⟨G.ah,0,none⟩))) i λv x=>
 K (tup [v]) x) (
 g [] i)) (
 st P (zah Fn.bP #[b]) f λc y=>
 pu P (oBin .or T.aN true false (.int .u32 2147483648) d) λz=>
 st P (zah Fn.bZ #[c,z]) y λI A=>
 st P (zah Fn.ab #[a]) A λB C=>
 st P (zee T.ai B b c) C λ_ D=>
 st P (zah Fn.ae #[a,c,d]) D λJ E=>
 g [] E)
theorem zb7(h:zbi t0 t1 t2 w K):Cl P Fn.aX #[t0,t1,t2] w K:=ce (T:=tb [] []) Tryz.func209 rfl h
def zbo(c d:Value)(w:World)(K:Value->World->Prop):Prop:=
 st P (zah Fn.ag #[d]) w λe f=>
 st P (zah Fn.ab #[c]) f λg h=>
 st P (za3 T.ai g e true) h λb a=>
 pu P (zae b 0) λi=>
 pu P (zae b 1) λj=>
 cd j (
 K (tup [i,.nilIface]) a) (
 rd P (zab T.aB (.pointer (some ⟨G.ab,0,none⟩))) a.drew λk=>
 K (tup [(.pointer none),k]) a.drew)
theorem zcl(h:zbo t0 t1 w K):Cl P Fn.aj #[t0,t1] w K:=ce (T:=tb [] []) Tryz.func210 rfl h
def zfI(a:Value)(w:World)(K:Value->World->Prop):Prop:=
 pu P (oNil a) λc=>
 pu P (zad T.ak c 2) λd=>
 st P (zab T.aS d) w λe b=>
 pu P (oBin .eql T.aS false true e (.map none)) λf=>
 cd f (
 pu P (oNil a) λg=>
 pu P (zad T.ak g 3) λh=>
 st P (zai T.bool h (.bool true)) b λ_ i=>
 st P (zlF T.aS none) i λj k=>
 pu P (oNil a) λl=>
 pu P (zad T.ak l 2) λm=>
 st P (zai T.aS m j) k λ_ n=>
 K (tup []) n) (
 K (tup []) b)
theorem zj4(h:zfI t0 w K):Cl P Fn.cf #[t0] w K:=ce (T:=tb [] []) Tryz.func211 rfl h
def zhb(a b:Value)(w:World)(K:Value->World->Prop):Prop:=
 pu P (oNil a) λc=>
 pu P (zad T.ak c 2) λd=>
 st P (zab T.aS d) w λe f=>
 st P (zah Fn.dm #[e,b]) f λh g=>
 K (tup []) g
theorem zkI(h:zhb t0 t1 w K):Cl P Fn.cE #[t0,t1] w K:=ce (T:=tb [] []) Tryz.func212 rfl h
def zeh(a b:Value)(w:World)(K:Value->World->Prop):Prop:=
 pu P (oNil a) λc=>
 pu P (zad T.ak c 2) λd=>
 st P (zab T.aS d) w λe f=>
 st P (zah Fn.cT #[e,b]) f λh g=>
 K (tup []) g
theorem zih(h:zeh t0 t1 w K):Cl P Fn.bt #[t0,t1] w K:=ce (T:=tb [] []) Tryz.func213 rfl h
def zjv(c:Value)(w:World)(K:Value->World->Prop):Prop:=
 lp [(.int .i64 1)] w λd u1 h r=>
 jn (λs2 u2 s=>
 jn (λs3 u3 t=>
 pu P (oBin .add T.int false true (gs d 0) (.int .i64 1)) λu=>
 r [u] t) λx=>
 lp [(gs d 0)] s λb u4 i y=>
 jn (λs5 u5 e=>
 pu P (oBin .sub T.int false true (gs b 0) (.int .i64 1)) λz=>
 pu P (oBin .sub T.int false true (gs b 0) (.int .i64 1)) λA=>
 pu P (zaO T.aj c A) λB=>
 rd P (zab T.string B) e.drew λC=>
 pu P (zaO T.aj c (gs b 0)) λD=>
 rd P (zab T.string D) e.drew λE=>
 pu P (zaO T.aj c (gs b 0)) λF=>
 st P (zai T.string F C) e.drew λ_ G=>
 pu P (zaO T.aj c z) λH=>
 st P (zai T.string H E) G λ_ I=>
 pu P (oBin .sub T.int false true (gs b 0) (.int .i64 1)) λJ=>
 y [J] I) λL=>
 pu P (oBin .gtr T.int false true (gs b 0) (.int .i64 0)) λa=>
 gd a true i.drew (λM=>M c i.drew) λN j=>
 gd a true j (λO=>O (gs b 0) j) λQ k=>
 gd a true k (λR=>pu P (zaO T.aj N Q) λv=>R v k) λU f=>
 gd a true f (λV=>rd P (zab T.string U) f λv=>V v f) λX l=>
 gd a true l (λY=>Y c l) λZ m=>
 gd a true m (λK6=>K6 (gs b 0) m) λaa n=>
 gd a true n (λK7=>pu P (oBin .sub T.int false true aa (.int .i64 1)) λv=>K7 v n) λab o=>
 gd a true o (λK8=>pu P (zaO T.aj Z ab) λv=>K8 v o) λac g=>
 gd a true g (λK9=>rd P (zab T.string ac) g λv=>K9 v g) λad p=>
 gd a true p (λae=>pu P (oBin .lss T.string false false X ad) λv=>ae v p) λaf q=>
 pu P (zaD a af (.bool false)) λag=>
 cd ag (
 L [] q) (
 x [] q)) λk1=>
 pu P (zac .len #[T.aj] T.int #[false] #[c]) λt6=>
 pu P (oBin .lss T.int false false (gs d 0) t6) λt7=>
 cd t7 (
 k1 [] h) (
 K (tup []) h)
theorem zmO(h:zjv t0 w K):Cl P Fn.dg #[t0] w K:=ce (T:=tb [] [(1,[2]),(4,[3])]) Tryz.func214 rfl h
def zdG(c b:Value)(w:World)(K:Value->World->Prop):Prop:=
 pu P (zac .len #[T.string] T.int #[false] #[c]) λi=>
 pu P (zac .len #[T.string] T.int #[false] #[b]) λj=>
 pu P (oBin .geq T.int false false i j) λa=>
 gd a true w (λk=>k c w) λl d=>
 gd a true d (λm=>m b d) λn e=>
 gd a true e (λo=>pu P (zac .len #[T.string] T.int #[false] #[n]) λv=>o v e) λp f=>
 gd a true f (λq=>pu P (zaE T.string l none (some p) none) λv=>q v f) λr g=>
 gd a true g (λs=>s b g) λt h=>
 gd a true h (λu=>pu P (oBin .eql T.string false false r t) λv=>u v h) λx y=>
 pu P (zaD a x (.bool false)) λz=>
 K (tup [z]) y
theorem zhG(h:zdG t0 t1 w K):Cl P Fn.co #[t0,t1] w K:=ce (T:=tb [] []) Tryz.func215 rfl h
def zbC(a b:List Value)(d:List Value->World->Prop)(p:List Value)(q:Env)(c:World):Prop:=
 pu P (oBin .sub T.int false true (gs a 0) (.int .i64 1)) λe=>
 pu P (oBin .sub T.int false true (gs a 0) (.int .i64 1)) λf=>
 pu P (zaO T.aq (gs b 0) f) λg=>
 rd P (zab T.af g) c.drew λh=>
 pu P (zaO T.aq (gs b 0) (gs a 0)) λi=>
 rd P (zab T.af i) c.drew λj=>
 pu P (zaO T.aq (gs b 0) (gs a 0)) λk=>
 st P (zai T.af k h) c.drew λ_ l=>
 pu P (zaO T.aq (gs b 0) e) λm=>
 st P (zai T.af m j) l λ_ n=>
 pu P (oBin .sub T.int false true (gs a 0) (.int .i64 1)) λo=>
 d [o] n
def zbD(j:List Value)(x:List Value->World->Prop)(c s4:List Value)(u4:Env)(y:World):Prop:=
 jn (zas j x) λz=>
 lp [(gs j 0)] y λb u6 k A=>
 jn (zbC b c A) λB=>
 pu P (oBin .gtr T.int false true (gs b 0) (.int .i64 0)) λa=>
 gd a true k.drew (λC=>C (gs c 0) k.drew) λD l=>
 gd a true l (λE=>E (gs b 0) l) λF m=>
 gd a true m (λG=>pu P (zaO T.aq D F) λv=>G v m) λH d=>
 gd a true d (λI=>rd P (zab T.af H) d λv=>I v d) λJ n=>
 gd a true n (λL=>L (gs c 0) n) λM o=>
 gd a true o (λN=>N (gs b 0) o) λO p=>
 gd a true p (λQ=>pu P (oBin .sub T.int false true O (.int .i64 1)) λv=>Q v p) λR q=>
 gd a true q (λU=>pu P (zaO T.aq M R) λv=>U v q) λe f=>
 gd a true f (λV=>rd P (zab T.af e) f λv=>V v f) λg r=>
 gd a true r (λX=>st P (zah Fn.ah #[J]) r X) λY h=>
 (isb a true=true->hold P (zab T.af e) g h)/\gd a true h (λZ=>st P (zah Fn.cB #[Y]) h Z) λaa i=>
 (isb a true=true->hold P (zab T.af e) g i)/\gd a true i (λab=>st P (zah Fn.ah #[g]) i ab) λac s=>
 gd a true s (λad=>st P (zah Fn.cB #[ac]) s ad) λae t=>
 gd a true t (λaf=>pu P (oBin .lss T.int false false aa ae) λv=>af v t) λag u=>
 pu P (zaD a ag (.bool false)) λah=>
 cd ah (
 B [] u) (
 z [] u)
def zbz(K:Value->World->Prop)(a:List Value)(j:Env)(d:World):Prop:=
 jn (zbS K a) λe=>
 lp [(.int .i64 1)] d λb k c f=>
 jn (zbD b f a) λg=>
 pu P (zac .len #[T.aq] T.int #[false] #[(gs a 0)]) λh=>
 pu P (oBin .lss T.int false false (gs b 0) h) λi=>
 cd i (
 g [] c) (
 e [] c)
def zbE(a b:Value)(c:World)(d:List Value)(e:List Value->World->Prop):Prop:=
 st P (za3 T.ai a b false) c λf g=>
 st P (zam T.aq 1 #[(0,f)]) g λh i=>
 st P (zac .append #[T.aq,T.aq] T.aq #[false,false] #[(gs d 0),h]) i λj k=>
 e [j] k
def zbA(a:List Value)(e:List Value->World->Prop)(f g h:Value)(n:List Value)(o:Env)(i:World):Prop:=
 jn (zdL a e) λb=>
 pu P (zaO T.aj f (gs a 1)) λj=>
 st P (zab T.string j) i λc k=>
 pu P (oBin .add T.string false true g (S [47])) λl=>
 st P (zah Fn.bj #[c,l]) k λm d=>
 cd m (zbE h c d a b) (
 b [(gs a 0)] d)
def zbR(e f:Value)(w:World)(K:Value->World->Prop):Prop:=
 st P (zah Fn.ab #[e]) w λa g=>
 st P (zac .len #[T.ai] T.int #[false] #[a]) g λh i=>
 st P (zdx T.aq (.int .i64 0) h) i λj k=>
 jn (zbz K) λl=>
 st P (zah Fn.bO #[a]) k λc m=>
 pu P (zac .len #[T.aj] T.int #[false] #[c]) λn=>
 lp [j,(.int .i64 0)] m λb r d o=>
 pu P (oBin .lss T.int false false (gs b 1) n) λp=>
 jn (zbA b o c f a) λq=>
 cd p (
 q [] d) (
 l [(gs b 0)] d)
theorem zed(h:zbR t0 t1 w K):Cl P Fn.aw #[t0,t1] w K:=ce (T:=tb [(8,[6]),(9,[6])] [(4,[6,19]),(10,[9]),(13,[10])]) Tryz.func216 rfl h
def zfm(a c e:Value)(w:World)(K:Value->World->Prop):Prop:=
 st P (zah Fn.dA #[a,c]) w λb d=>
 jn (λo p f=>
 pu P (zaE T.string a none (some b) none) λg=>
 pu P (oBin .add T.string false false g e) λh=>
 pu P (zac .len #[T.string] T.int #[false] #[c]) λi=>
 pu P (oBin .add T.int false false b i) λj=>
 pu P (zaE T.string a (some j) none none) λk=>
 pu P (oBin .add T.string false false h k) λl=>
 K (tup [l]) f.drew) λm=>
 pu P (oBin .lss T.int false true b (.int .i64 0)) λn=>
 cd n (
 K (tup [a]) d) (
 m [] d)
theorem zjp(h:zfm t0 t1 t2 w K):Cl P Fn.aV #[t0,t1,t2] w K:=ce (T:=tb [] []) Tryz.func217 rfl h
def zcj(b e:Value)(w:World)(K:Value->World->Prop):Prop:=
 jn (λr s f=>
 K (tup [(.int .i64 (-1))]) f) λg=>
 pu P (zac .len #[T.string] T.int #[false] #[b]) λh=>
 pu P (oBin .sub T.int false true h (.int .i64 1)) λi=>
 lp [i] w λa t c j=>
 jn (λu v d=>
 jn (λx y k=>
 pu P (oBin .sub T.int false true (gs a 0) (.int .i64 1)) λl=>
 j [l] k) λm=>
 pu P (oIdx T.string b (gs a 0)) λn=>
 pu P (oBin .eql T.aJ false false n e) λo=>
 cd o (
 K (tup [(gs a 0)]) d) (
 m [] d)) λp=>
 pu P (oBin .geq T.int false true (gs a 0) (.int .i64 0)) λq=>
 cd q (
 p [] c) (
 g [] c)
theorem ze4(h:zcj t0 t1 w K):Cl P Fn.aC #[t0,t1] w K:=ce (T:=tb [] [(2,[5])]) Tryz.func218 rfl h
def zh2(b a:Value)(w:World)(K:Value->World->Prop):Prop:=
 pu P (oNil a) λc=>
 pu P (zad T.ak c 0) λd=>
 st P (zab T.string d) w λe f=>
 st P (zee T.aS b e a) f λ_ g=>
 K (tup []) g
theorem zlp(h:zh2 t0 t1 w K):Cl P Fn.dm #[t0,t1] w K:=ce (T:=tb [] []) Tryz.func223 rfl h
def zfL(a b:Value)(w:World)(K:Value->World->Prop):Prop:=
 pu P (oNil b) λc=>
 pu P (zad T.ak c 0) λd=>
 st P (zab T.string d) w λe f=>
 st P (zac .delete #[T.aS,T.string] T.aU #[false,false] #[a,e]) f λ_ g=>
 K (tup []) g
theorem zjW(h:zfL t0 t1 w K):Cl P Fn.cT #[t0,t1] w K:=ce (T:=tb [] []) Tryz.func224 rfl h
def ziV(b:Value)(w:World)(K:Value->World->Prop):Prop:=
 jn (λf s g=>
 K (tup [(gs f 0)]) g) λh=>
 lp [(.int .i64 0),(.int .i64 0)] w λa t c i=>
 jn (λu v d=>
 jn (λj x k=>
 pu P (oBin .add T.int false true (gs a 1) (.int .i64 1)) λl=>
 i [(gs j 0),l] k) λe=>
 pu P (oIdx T.string b (gs a 1)) λm=>
 pu P (oBin .eql T.aJ false true m (.int .u8 47)) λn=>
 cd n (
 pu P (oBin .add T.int false true (gs a 0) (.int .i64 1)) λo=>
 e [o] d) (
 e [(gs a 0)] d)) λp=>
 pu P (zac .len #[T.string] T.int #[false] #[b]) λq=>
 pu P (oBin .lss T.int false false (gs a 1) q) λr=>
 cd r (
 p [] c) (
 h [(gs a 0)] c)
theorem zlX(h:ziV t0 w K):Cl P Fn.cB #[t0] w K:=ce (T:=tb [(4,[3]),(7,[3])] [(3,[3,4])]) Tryz.func225 rfl h
def ziT(c b:Value)(w:World)(K:Value->World->Prop):Prop:=
 jn (λu v f=>
 K (tup [(.int .i64 (-1))]) f) λg=>
 lp [(.int .i64 0)] w λa x d h=>
 jn (λy z e=>
 jn (λA B i=>
 pu P (oBin .add T.int false true (gs a 0) (.int .i64 1)) λj=>
 h [j] i) λk=>
 pu P (zac .len #[T.string] T.int #[false] #[b]) λl=>
 pu P (oBin .add T.int false false (gs a 0) l) λm=>
 pu P (zaE T.string c (some (gs a 0)) (some m) none) λn=>
 pu P (oBin .eql T.string false false n b) λo=>
 cd o (
 K (tup [(gs a 0)]) e) (
 k [] e)) λp=>
 pu P (zac .len #[T.string] T.int #[false] #[b]) λq=>
 pu P (oBin .add T.int false false (gs a 0) q) λr=>
 pu P (zac .len #[T.string] T.int #[false] #[c]) λs=>
 pu P (oBin .leq T.int false false r s) λt=>
 cd t (
 p [] d) (
 g [] d)
theorem zl8(h:ziT t0 t1 w K):Cl P Fn.dA #[t0,t1] w K:=ce (T:=tb [] [(2,[5])]) Tryz.func226 rfl h
end
end Go.Proofs.YtdljebgllipdjaaGreatDoor.X
end
