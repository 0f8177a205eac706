/- What the claim needs of the texts on it, laid together. No condition. -/
import Derived.Test.YtdljebgllipdjaaGreatDoorZMemSets2
set_option linter.unusedVariables false
set_option linter.unusedSimpArgs false
set_option linter.unusedSectionVars false
set_option maxRecDepth 100000
section
namespace Go.Proofs.YtdljebgllipdjaaGreatDoor.X
open Go Go.X Go.Proofs Go.RowKit
structure zcP(w:World)(vd:Value)(m:SM.Mem)(i:Nat)(d:Value)(g:Nat)(cur:List Value):Prop where
 ob:vd.ownBlock=some g
 bg:bk w g=some (CB cur T.ag)
 len:i*5+5<=cur.length
 ix:∀(k:IntKind)(M:Value->Prop),pu P (zaO T.ap vd (.int k i)) M=M (pt g (i*5))
 row:(cur.drop (i*5)).take 5=zbM (m.node i) d
 c0:cur[i*5]?=some (.bool (m.node i).dir)
 c1:cur[i*5+1]?=some (.int .i64 (m.node i).mode)
 c2:cur[i*5+2]?=some d
 c3:cur[i*5+3]?=some (.int .i64 (m.node i).time)
 c4:cur[i*5+4]?=some (S (m.node i).name)
theorem zdA{m:SM.Mem}{i:Nat}(h:i<m.nodes.length):m.node i=m.nodes[i]:=by unfold SM.Mem.node;simp[h]
section
variable{w w':World}{B p:Nat}{m:SM.Mem}{F:Fp}{vn va vd:Value}{q:Nat}{ds:List Value}{hl:ML Int}{c:Nat}{hb:Int->Nat}{ρ:Nat->Rl}
theorem MemX.node(h:MemX w B p m F vn va vd q ds hl c hb ρ){i:Nat}(hi:i<m.nodes.length):∃g cur,zcP w vd m i (ds[i]'(by rw[h.dl];exact hi)) g cur/\m.nodes.length*5<=cur.length/\cur.take (m.nodes.length*5)=zcS m.nodes ds:=by
 obtain⟨g,cur,h1,h2,h3,h4,h5,h6⟩:=zhw U.ao (by kernel_rfl) h.od hi;have hl5:i*5+5<=m.nodes.length*5:=by omega
 have row:(cur.drop (i*5)).take 5=zbM (m.node i) (ds[i]'(by rw[h.dl];exact hi)):=by rw[zdA hi,<-zoz m.nodes ds h.dl hi,<-h5,List.drop_take,List.take_take,Nat.min_eq_left (by omega)]
 have gt:∀j,j<5->cur[i*5+j]?=(zbM (m.node i) (ds[i]'(by rw[h.dl];exact hi)))[j]?:=λj hj=>by rw[<-row,List.getElem?_take_of_lt hj,List.getElem?_drop]
 exact⟨g,cur,⟨h1,h3,by omega,h6,row,gt 0 (by omega),gt 1 (by omega),gt 2 (by omega),gt 3 (by omega),gt 4 (by omega)⟩,h4,h5⟩
theorem MemX.data(h:MemX w B p m F vn va vd q ds hl c hb ρ){i:Nat}(hi:i<m.nodes.length):BS w (ds[i]'(by rw[h.dl];exact hi)) (m.node i).data/\∀b,(ds[i]'(by rw[h.dl];exact hi)).ownBlock=some b->F.use b/\ρ b=.no:=by have:=h.db i (by rw[h.dl];exact hi) hi;rw[zdA hi];exact this
end
theorem find_lt{m:SM.Mem}(hA:m.ats.length=m.names.length)(hL:∀a∈m.ats,a<m.nodes.length){l:Str}{x:Nat}(h:m.find l=some x):x<m.nodes.length:=by
 unfold SM.Mem.find at h;by_cases e:(SM.zbj m.names l).2=true
 ·rw[if_pos e]at h;injection h with h;have:=(zlB m.names l).2 e;rw[<-h];have hlt:(SM.zbj m.names l).1<m.ats.length:=by omega
  simp only[List.getD_eq_getElem?_getD,List.getElem?_eq_getElem hlt,Option.getD_some];exact hL _ (List.getElem_mem hlt)
 ·rw[if_neg e]at h;cases h
theorem zkJ{w:World}{K:Value->World->Prop}{B p:Nat}{m:SM.Mem}{F:Fp}{l:Str}(h:MemS w B p m F)(hN:m.names.length<=999999999)(hA:m.ats.length=m.names.length)(hL:∀a∈m.ats,a<m.nodes.length)
  (hk:K (.bool (m.isDir l)) w):Cl P Fn.aO #[pt p 0,S l] w K:=by
 apply zln;unfold zh3;rw[C.aj];refine zcC h (by omega) hA ?_;obtain⟨vn,va,vd,q,ds,hl,c,hb,ρ,h⟩:=h;have bm:=h.bm;unfold SM.Mem.isDir at hk;rw[zar,zaq];cases hf:m.find l with
 |none=>rw[hf]at hk;simp(disch:=first|omega|(simp(disch:=first|omega|fail)only[go_sem,Option.isSome_none]<;>omega)|fail)only[go_sem,Option.isSome_none];exact hk
 |some x=>rw[hf]at hk;simp only at hk;obtain⟨g,cur,na,_,_⟩:=h.node (find_lt hA hL hf);have ix:=na.ix .i64;have bg:=na.bg;have c0:=na.c0;simp(disch:=first|omega|(simp(disch:=first|omega|fail)only[go_sem,Option.isSome_some,Option.getD_some,bm,ix,bg,c0]<;>omega)|fail)only[go_sem,Option.isSome_some,Option.getD_some,bm,ix,bg,c0];exact hk
theorem zex(m:SM.Mem):∀(f g:Nat)(l:Str),l.length+1<f->l.length+1<g->m.clearF l f=m.clearF l g
 |0,_,_,h,_=>by omega
 |_,0,_,_,h=>by omega
 |f+1,g+1,l,h1,h2=>by
  simp only[SM.Mem.clearF];by_cases hl:l=[47]
  ·rw[if_pos hl,if_pos hl]
  ·rw[if_neg hl,if_neg hl];have rec_:m.clearF (SM.parent l) f=m.clearF (SM.parent l) g:=by
    rcases SM.zaZ l with h|h
    ·exact zex m f g _ (by omega) (by omega)
    ·rw[h];cases f with
     |zero=>omega
     |succ f=>cases g with
      |zero=>omega
      |succ g=>simp[SM.Mem.clearF]
   rw[rec_]
theorem zdt(m:SM.Mem)(l:Str)(hl:l≠[47]):m.clear l=(match m.find (SM.parent l)with|some x=>if(m.node x).dir=false then false else m.clear (SM.parent l)|none=>m.clear (SM.parent l)):=by
 have e:m.clearF (SM.parent l) (l.length+1)=m.clear (SM.parent l):=by
  unfold SM.Mem.clear;rcases SM.zaZ l with h|h
  ·exact zex m _ _ _ (by omega) (by omega)
  ·rw[h];simp[SM.Mem.clearF]
 rw[<-e];unfold SM.Mem.clear;simp only[SM.Mem.clearF,if_neg hl];rfl
theorem zkP(m:SM.Mem):m.clear [47]=true:=rfl
theorem zjk{w:World}{K:Value->World->Prop}{B p:Nat}{m:SM.Mem}{F:Fp}{l:Str}(h:MemS w B p m F)(hN:m.names.length<=999999999)(hA:m.ats.length=m.names.length)(hL:∀a∈m.ats,a<m.nodes.length)(hl:l.length<=1000000000)
  (hk:K (.bool (m.clear l)) w):Cl P Fn.aP #[pt p 0,S l] w K:=by
 apply zld;unfold zh7;have h0:=h;obtain⟨vn,va,vd,q,ds,hl,c,hb,ρ,h⟩:=h;have bm:=h.bm;refine zaa (λt w'=>w'=w/\m.clear l=true) ?_ ?_
 ·rintro t e w1 ⟨rfl,e1⟩;rw[e1]at hk;exact hk
 ·refine zaA (λs w'=>w'=w/\∃x:Str,s=[S x]/\x.length<=1000000000/\m.clear x=m.clear l) (λs w'=>match gs s 0 with| .string b=>if b.data.toList=[47]then 0 else b.data.toList.length+2|_=>0) ⟨rfl,l,rfl,by assumption,rfl⟩ ?_;rintro s u w1 ⟨rfl,x,rfl,hx,he⟩;refine zaa (λt w'=>w'=w1/\x≠[47]) ?_ ?_
  ·rintro t e w2 ⟨rfl,hne⟩;rw[gs0,C.aO];refine zj2 (by omega) ?_;rw[C.aj];refine zcC h0 (by omega) hA ?_;rw[zar,zaq];have hs:=zdt m x hne;have meas:∀y:Str,(y.length<x.length\/y=[47])->(match gs [S y] 0 with| .string b=>if b.data.toList=[47]then 0 else b.data.toList.length+2|_=>0)<(match S x with| .string b=>if b.data.toList=[47]then 0 else b.data.toList.length+2|_=>0):=λy hy=>by
    simp only[gs0,S];rw[if_neg hne];split
    ·omega
    ·rename_i h2;have:=hy.resolve_right h2;simp;omega
   have pl:=SM.zaZ x;have pl2:=SM.zjm x;have pl3:(SM.parent x).length<=1000000000:=by
    rcases pl with h|h
    ·omega
    ·rw[h];simp
   cases hf:m.find (SM.parent x)with
   |none=>rw[hf]at hs;simp(disch:=first|omega|(simp(disch:=first|omega|fail)only[go_sem,Option.isSome_none]<;>omega)|fail)only[go_sem,Option.isSome_none];exact⟨⟨trivial,_,rfl,pl3,by rw[<-he,hs]⟩,meas _ pl⟩
   |some n=>
    rw[hf]at hs;simp only at hs;obtain⟨g,cur,na,_,_⟩:=h.node (find_lt hA hL hf);have ix:=na.ix .i64;have bg:=na.bg;have c0:=na.c0;cases hd:(m.node n).dir with
    |false=>rw[hd]at c0 hs;simp(disch:=first|omega|(simp(disch:=first|omega|fail)only[go_sem,Option.isSome_some,Option.getD_some,bm,ix,bg,c0]<;>omega)|fail)only[go_sem,Option.isSome_some,Option.getD_some,bm,ix,bg,c0];rw[<-he,hs]at hk;exact hk
    |true=>rw[hd]at c0 hs;simp(disch:=first|omega|(simp(disch:=first|omega|fail)only[go_sem,Option.isSome_some,Option.getD_some,bm,ix,bg,c0]<;>omega)|fail)only[go_sem,Option.isSome_some,Option.getD_some,bm,ix,bg,c0];exact⟨⟨trivial,_,rfl,pl3,by rw[<-he,hs];rfl⟩,meas _ pl⟩
  ·by_cases hc:x=[47]
   ·simp(disch:=first|omega|(simp(disch:=first|omega|fail)only[go_sem,hc,ne_eq,not_true_eq_false,decide_false]<;>omega)|fail)only[go_sem,hc,ne_eq,not_true_eq_false,decide_false];refine⟨trivial,?_⟩;rw[<-he,hc];rfl
   ·simp(disch:=first|omega|(simp(disch:=first|omega|fail)only[go_sem,hc,ne_eq,not_false_eq_true,decide_true]<;>omega)|fail)only[go_sem,hc,ne_eq,not_false_eq_true,decide_true];exact⟨trivial,trivial⟩
theorem zeo{w:World}{K:Value->World->Prop}{l:Str}(hl:l.length<=140737488355328)(hk:∀w',Below w.heap.size w w'->K (.bool (SM.zbF l)) w'):Cl P Fn.cN #[S l] w K:=by
 apply zoO;unfold zkZ;unfold SM.zbF at hk;refine zaa (λt w'=>w'=w/\l.length<=400) ?_ ?_
 ·rintro t e w1 ⟨rfl,h4⟩;rw[C.bC];refine zb8 h4 λw2 B2=>?_;have q:=hk w2 B2;simp only[h4,decide_true,Bool.true_and]at q;have hn:=zbH l;by_cases c1:2<(norm l).length
  ·have c1':(2:Int)<(norm l).length:=by omega
   simp(disch:=first|omega|(simp(disch:=first|omega|fail)only[go_sem,c1',decide_true]<;>omega)|fail)only[go_sem,c1',decide_true];rw[zel _ _ _ _ _ U.string (by omega) (by omega)];simp(disch:=first|omega|(simp(disch:=first|omega|fail)only[go_sem]<;>omega)|fail)only[go_sem];simpa[c1]using q
  ·have c1':¬(2:Int)<(norm l).length:=by omega
   simp(disch:=first|omega|(simp(disch:=first|omega|fail)only[go_sem,c1',decide_false]<;>omega)|fail)only[go_sem,c1',decide_false];simpa[c1]using q
 ·by_cases h4:l.length<=400
  ·simp(disch:=first|omega|(simp(disch:=first|omega|fail)only[go_sem]<;>omega)|fail)only[go_sem];exact⟨trivial,h4⟩
  ·have q:=hk w (Below.refl _ _);simp(disch:=first|omega|(simp(disch:=first|omega|fail)only[go_sem]<;>omega)|fail)only[go_sem];simpa[h4]using q
theorem infoB:(P.info? T.aJ).map (λi=>(i.zero,i.size,i.bytes))=some (some (.int .u8 0),1,1):=by kernel_rfl
theorem BS_part{w:World}{v:Value}{l:List UInt8}(h:BS w v l){p q:Nat}(hp:p<=q)(hq:q<=l.length):
  ∃v',BS w v' ((l.drop p).take (q - p))/\(∀b,v'.ownBlock=some b->v.ownBlock=some b)/\∀(k j:IntKind)(L:Value->Prop),pu P (zaE T.ah v (some (.int k p)) (some (.int j q)) none) L=L v':=by
 rcases h with⟨rfl,a,cap,rfl⟩|⟨b,o,cap,rfl,h3,h4,h5⟩
 ·have hq0:q=0:=by simpa using hq
  have hp0:p=0:=by omega
  subst hq0 hp0;refine⟨.slice a 0 cap,.inl ⟨rfl,_,_,rfl⟩,λb hb=>hb,λk j L=>?_⟩;exact zlI (size:=1) U.ab (by kernel_rfl)
 ·refine⟨sl b (if cap=p then o else o+p*1) (q - p) (cap - p),?_,λb hb=>hb,λk j L=>?_⟩
  ·have el:((l.drop p).take (q - p)).length=q - p:=by simp;omega
   by_cases e:q - p=0
   ·refine .inl ⟨by rw[List.eq_nil_iff_length_eq_zero,el,e],some ⟨b,if cap=p then o else o+p*1,none⟩,cap - p,by rw[e]⟩
   ·refine .inr ⟨b,_,_,by rw[el],by rw[el];omega,?_,h5⟩;rw[if_neg (by omega),Nat.mul_one];unfold rowB at h4⊢;obtain⟨c',t',fz,e1,e2,e3⟩:=za7 h4;rw[e1];have e5:((l.drop p).take (q - p)).length=q - p:=el;simp only[zaY,e5];rw[if_pos (by omega)];congr 1;rw[List.map_take,List.map_drop,<-e3];apply List.ext_getElem?;intro i;by_cases hi:i<q - p
    ·rw[List.getElem?_take_of_lt hi,List.getElem?_take_of_lt hi,List.getElem?_drop,List.getElem?_drop,List.getElem?_take_of_lt (by omega),List.getElem?_drop];congr 1;omega
    ·rw[List.getElem?_eq_none (by simp;omega),List.getElem?_eq_none (by simp;omega)]
  ·rw[zlQ (size:=1) L U.ab (by kernel_rfl) (by omega) (by omega) (by omega)];simp
theorem oCopyNo{P:Program}{w:World}{L:Value->World->Prop}{tB tE:TypeId}{cs:Array Bool}{ty:TypeId}(h2:P.underlying tB=some (.slice tE))(hs:(P.info? tE).map (·.size)=some 1){n m cap:Nat}{a a':Option Addr}:
  st P (zac .copy #[tB,tB] ty cs #[.slice a' n m,.slice a 0 cap]) w L=L (.int .i64 0) w:=by
 refine zav (zbd ?_);cases hie:P.info? tE with
 |none=>rw[hie]at hs;cases hs
 |some ie=>
 cases a<;>cases a'<;>simp[Builtin.copy_,run_underlying h2,sizeOf,typeInfo,hie,Builtin.lenOf,Builtin.firstCells,loadCells,loadCellsFrom,storeCells,goInt]
theorem zqf{w:World}{K:Value->World->Prop}{v:Value}{l:List UInt8}{cs:Array Bool}{ty:TypeId}(hv:BS w v l)(hl:l.length<=140737488355328)
  (h:∀v' w',w'.ownsRow w.heap.size T.aJ 1 v' l.length (l.map byt)->Below w.heap.size w w'->K v' w'):
  st P (zac .append #[T.ah,T.ah] ty cs #[sl w.heap.size 0 0 0,v]) (w.alloc (CB [] T.aJ)) K:=by
 have B1:Below w.heap.size w (w.alloc (CB [] T.aJ)):=by repeat (first|exact Below.refl _ _|assumption|refine zag ?_ (by first|omega|(simp only[go_sem]<;>omega)) _|refine Below.alloc ?_ (by first|omega|(simp only[go_sem]<;>omega)) _|refine Below.drew ?_)
 have o1:(w.alloc (CB [] T.aJ)).ownsRow w.heap.size T.aJ 1 (sl w.heap.size 0 0 0) 0 []:=⟨rfl,.inr ⟨w.heap.size,0,#[],rfl,Nat.le_refl _,heap_alloc_new w _,Nat.le_refl _,by simp[maxLen],rfl,rfl⟩⟩;refine zii U.ab infoB o1 (zcs hv B1 (Nat.le_refl _)) (by omega) (by simp only[go_sem];omega) λv' w' o g a=>?_;exact h _ _ (by simpa using o) (B1.trans (zhz o1 g (by simp only[go_sem];omega)))
theorem zkr{w:World}{K:Value->World->Prop}{v:Value}{l:Str}{pos n:Int}(hv:BS w v l)(hl:l.length<=140737488355328)(h1:-4611686018427387904<=pos/\pos<=4611686018427387904)(h2:n<=281474976710656)
  (hk:∀w' v',BS w' v' (SM.zaU l pos n).1->(∀b,v'.ownBlock=some b->w.heap.size<=b/\b<w'.heap.size)->Below w.heap.size w w'->K (tup [v',.int .i64 (SM.zaU l pos n).2]) w'):Cl P Fn.cA #[v,.int .i64 pos,.int .i64 n] w K:=by
 apply zmh;unfold zit;unfold SM.zaU at hk;obtain⟨a,cap,ev⟩:=zay hv;have nil:∀e,(∀w' v',BS w' v' []->(∀b,v'.ownBlock=some b->w.heap.size<=b/\b<w'.heap.size)->Below w.heap.size w w'->K (tup [v',.int .i64 e]) w')->K (tup [.slice none 0 0,.int .i64 e]) w:=λe h=>h w _ (zb0 w) (λb hb=>by cases hb) (Below.refl _ _);rw[oMaxI];refine zaa (λt w'=>w'=w/\0<=pos/\¬(0<max n 0/\pos=l.length)/\pos<=l.length) ?_ ?_
 ·rintro t e w1 ⟨rfl,g0,g1,g2⟩;rw[if_neg (by omega),if_neg g1,if_neg (by omega)]at hk;rw[zbJ (n:=1) _ _ U.ab (by kernel_rfl)];obtain⟨p,rfl⟩:=Int.eq_ofNat_of_zero_le g0;obtain⟨k,hkk⟩:=Int.eq_ofNat_of_zero_le (show 0<=max n 0 by omega);rw[hkk]at hk⊢;obtain⟨v2,b2,u2,s2⟩:=BS_part hv (p:=p) (q:=min l.length (p+k)) (by omega) (by omega);have em:(min (l.length:Int) ((p:Int)+k))=((min l.length (p+k):Nat):Int):=by omega
  subst ev;simp(disch:=first|omega|(simp(disch:=first|omega|fail)only[go_sem,em,s2]<;>omega)|fail)only[go_sem,em,s2];have e3:(l.drop p).take (min l.length (p+k) - p)=(l.drop p).take k:=by
   by_cases hc:p+k<=l.length
   ·rw[Nat.min_eq_right hc];congr 1;omega
   ·rw[Nat.min_eq_left (by omega),List.take_of_length_le (by simp),List.take_of_length_le (by simp;omega)]
  rw[e3]at b2;refine zqf b2 (by simp;omega) λv3 w3 o3 B3=>?_;simp only[Int.toNat_natCast]at hk;exact hk w3 v3 (zlJ o3) (zaW o3) B3
 ·subst ev;by_cases c1:pos<0
  ·rw[if_pos c1]at hk;simp(disch:=first|omega|(simp(disch:=first|omega|fail)only[go_sem]<;>omega)|fail)only[go_sem];exact nil _ hk
  ·rw[if_neg c1]at hk;by_cases c2:0<max n 0
   ·by_cases c3:pos=l.length
    ·rw[if_pos ⟨c2,c3⟩]at hk;have c3':pos=(l.length:Int):=c3;simp(disch:=first|omega|(simp(disch:=first|omega|fail)only[go_sem]<;>omega)|fail)only[go_sem];exact nil _ hk
    ·rw[if_neg (λx=>c3 x.2)]at hk;by_cases c4:(l.length:Int)<pos
     ·rw[if_pos c4]at hk;simp(disch:=first|omega|(simp(disch:=first|omega|fail)only[go_sem]<;>omega)|fail)only[go_sem];exact nil _ hk
     ·simp(disch:=first|omega|(simp(disch:=first|omega|fail)only[go_sem]<;>omega)|fail)only[go_sem];exact⟨trivial,by omega,λx=>c3 x.2,by omega⟩
   ·rw[if_neg (λx=>c2 x.1)]at hk;by_cases c4:(l.length:Int)<pos
    ·rw[if_pos c4]at hk;simp(disch:=first|omega|(simp(disch:=first|omega|fail)only[go_sem]<;>omega)|fail)only[go_sem];exact nil _ hk
    ·simp(disch:=first|omega|(simp(disch:=first|omega|fail)only[go_sem]<;>omega)|fail)only[go_sem];exact⟨trivial,by omega,λx=>c2 x.1,by omega⟩
theorem zol(l:Str)(n:Int):(SM.grown l n).length=max l.length n.toNat:=by unfold SM.grown;simp;omega
theorem zm8{w:World}{K:Value->World->Prop}{v:Value}{l:Str}{n:Int}(hv:BS w v l)(hl:l.length<=1099511627776)(hn:n<=1099511627776)
  (hk:∀w' v',w'.ownsRow w.heap.size T.aJ 1 v' (SM.grown l n).length ((SM.grown l n).map byt)->Below w.heap.size w w'->K v' w'):Cl P Fn.di #[v,.int .i64 n] w K:=by
 apply zoK;unfold zk6;rw[zbJ (n:=1) _ _ U.ab (by kernel_rfl)];refine zqf hv (by omega) λv1 w1 o1 B1=>?_;have hg:SM.grown l l.length=l:=by simp[SM.grown]
 refine zaa (λt w'=>∃v,t=[v]/\w'.ownsRow w.heap.size T.aJ 1 v (SM.grown l n).length ((SM.grown l n).map byt)/\Below w.heap.size w w') ?_ ?_
 ·rintro t e w2 ⟨v2,rfl,o2,B2⟩;exact hk w2 v2 o2 B2
 ·refine zaA (λs w'=>∃v,∃k:Nat,s=[v]/\l.length<=k/\(k=l.length\/(k:Int)<=n)/\w'.ownsRow w.heap.size T.aJ 1 v k ((SM.grown l k).map byt)/\Below w.heap.size w w') (λs w'=>match gs s 0 with| .slice _ k _=>(n - k).toNat|_=>0) ?_ ?_
  ·exact⟨v1,l.length,rfl,Nat.le_refl _,.inl rfl,by rw[hg];exact o1,B1⟩
  ·rintro s u w2 ⟨v2,k,rfl,k1,k2,o2,B2⟩;obtain⟨a,cap,rfl⟩:=zan o2;refine zaa (λt w'=>w'=w2/\(k:Int)<n) ?_ ?_
   ·rintro t e w3 ⟨rfl,hlt⟩;rw[zbc (z:=.int .u8 0) _ _ U.ab (by kernel_rfl) rfl];have B3:Below w3.heap.size w3 (w3.alloc (CB [.int .u8 0] T.aJ)):=by repeat (first|exact Below.refl _ _|assumption|refine zag ?_ (by first|omega|(simp only[go_sem]<;>omega)) _|refine Below.alloc ?_ (by first|omega|(simp only[go_sem]<;>omega)) _|refine Below.drew ?_)
    have r3:zaY (bk (w3.alloc (CB [.int .u8 0] T.aJ)) w3.heap.size) 0 1=some [.int .u8 0]:=by rw[zaf _ _ _ rfl];rfl
    rw[gs0];refine zbK (z:=.int .u8 0) (size:=1) (bytes:=1) (news:=[.int .u8 0]) U.ab infoB rfl (by omega) (zbf o2 B3 (Nat.le_refl _)) (.inl ⟨_,_,_,rfl,r3⟩) rfl (λu hu=>by simp at hu;subst hu;rfl) (by simp only[maxLen];omega) (by omega) (by have:=B2.size;simp only[go_sem];omega) λv4 w4 o4 g4 a4=>?_;have e4:(SM.grown l k).map byt++[.int .u8 0]=(SM.grown l ((k+1:Nat):Int)).map byt:=by unfold SM.grown;simp only[Int.toNat_natCast,List.map_append,List.append_assoc];rw[show k+1 - l.length=(k - l.length)+1 by omega,List.replicate_succ'];simp[byt]
    rw[e4]at o4;refine⟨⟨v4,k+1,rfl,by omega,.inr (by omega),o4,B2.trans ((B3.mono B2.size).trans (zhz (zbf o2 B3 (Nat.le_refl _)) g4 (by have:=B2.size;simp only[go_sem];omega)))⟩,?_⟩;obtain⟨a4,cap4,rfl⟩:=zan o4;simp only[gs0];omega
   ·by_cases hlt:(k:Int)<n
    ·simp(disch:=first|omega|(simp(disch:=first|omega|fail)only[go_sem]<;>omega)|fail)only[go_sem];exact⟨trivial,hlt⟩
    ·simp(disch:=first|omega|(simp(disch:=first|omega|fail)only[go_sem]<;>omega)|fail)only[go_sem];refine⟨_,rfl,?_,B2⟩;have e:SM.grown l n=SM.grown l k:=by unfold SM.grown;congr 2;omega
     rw[e,zol];have:max l.length (k:Int).toNat=k:=by omega
     rw[this];exact o2
theorem zoN{w:World}{K:Value->World->Prop}{v x:Value}{l b:Str}{pos:Int}(hv:BS w v l)(hx:BS w x b)(hl:l.length<=1099511627776)(h0:0<=pos)(hn:pos+b.length<=1099511627776)
  (hk:∀w' v',w'.ownsRow w.heap.size T.aJ 1 v' (SM.over l pos b).length ((SM.over l pos b).map byt)->Below w.heap.size w w'->K v' w'):Cl P Fn.bH #[v,.int .i64 pos,x] w K:=by
 apply zkg;unfold zgm;obtain⟨a,cap,rfl⟩:=zay hx;simp(disch:=first|omega|(simp(disch:=first|omega|fail)only[go_sem]<;>omega)|fail)only[go_sem];refine zm8 hv hl (by omega) λw1 v1 o1 B1=>?_;obtain⟨p,rfl⟩:=Int.eq_ofNat_of_zero_le h0;have gl:=zol l ((p:Int)+b.length);obtain⟨xb,rb,ob,sb⟩:=zkc U.ab (by kernel_rfl) o1 (p:=p) (by omega);simp(disch:=first|omega|(simp(disch:=first|omega|fail)only[go_sem,sb]<;>omega)|fail)only[go_sem,sb];have hx1:=zcs hx B1 (Nat.le_refl _);have eo:SM.over l p b=(SM.grown l ((p:Int)+b.length)).take p++b++(SM.grown l ((p:Int)+b.length)).drop (p+b.length):=by simp[SM.over]
 have el:(SM.over l p b).length=(SM.grown l ((p:Int)+b.length)).length:=by rw[eo];simp;omega
 generalize hgg:SM.grown l ((p:Int)+b.length)=G at*;by_cases hb:b.length=0
 ·have hb':b=[]:=List.length_eq_zero_iff.1 hb;subst hb';have eo2:SM.over l p []=G:=by rw[eo];simp
  obtain⟨ax,capx,ex⟩:∃a c,xb=.slice a (G.length - p) c:=by
   rcases rb with⟨b,o,c,rfl,_⟩|⟨h1,_,a,c,rfl⟩
   ·exact⟨_,_,rfl⟩
   ·exact⟨_,_,by rw[h1]⟩
  have cp:∀(L:Value->World->Prop),st P (zac .copy #[T.ah,T.ah] T.int #[false,false] #[xb,.slice a ([]:Str).length cap]) w1 L=L (.int .i64 0) w1:=λL=>by rw[ex];exact oCopyNo U.ab (by kernel_rfl)
  simp(disch:=first|omega|(simp(disch:=first|omega|fail)only[go_sem,cp]<;>omega)|fail)only[go_sem,cp];rw[eo2]at hk;exact hk w1 v1 o1 B1
 ·rcases hx1 with⟨e,_⟩|⟨bx,ox,cx,ex,e1,e2,e3⟩
  ·exact absurd (by rw[e];rfl) hb
  obtain⟨g,cap1,cur,rfl,q1,q2,q3,q4,q5,q6⟩:=zcV o1 (by omega);rw[Nat.mul_one]at q5 q6;have ex':∃cc,xb=sl g p (G.length - p) cc:=by have:=sb .i64 (λy=>y=xb);rw[zj7 (size:=1) _ U.ab (by kernel_rfl) (by omega) (by omega) q1,Int.toNat_natCast]at this;have h2:=this.symm.mp rfl;refine⟨cap1 - p,?_⟩;rw[<-h2,if_neg (by omega)];simp
  obtain⟨cc,rfl⟩:=ex';rw[ex,oCopy _ _ U.ab (by kernel_rfl) q4 rfl (by omega) (by omega) e2];have lg:g<w1.heap.size:=q3;have B2:Below w.heap.size w1 (setb w1 g (CB (cur.take p++b.map byt++cur.drop (p+b.length)) T.aJ)):=zag (Below.refl _ _) q2 _;refine hk _ (sl g 0 G.length cap1) ?_ (B1.trans B2);have hcap:cap1<=maxLen:=by
   rcases o1.2 with⟨h,_⟩|⟨g',c',u',h,_,_,_,h6,_⟩
   ·cases h
   ·injection h with _ _ h;omega
  refine⟨by simp,.inr ⟨g,cap1,_,by rw[el],q2,zap _ _ _ _ rfl lg,by omega,hcap,?_,?_⟩⟩
  ·simp;omega
  ·rw[Nat.mul_one,el,eo];have hpl:p+b.length<=G.length:=by omega
   apply List.ext_getElem?;intro i;by_cases hi:i<G.length
   ·rw[List.getElem?_take_of_lt hi];have hcg:∀j,j<G.length->cur[j]?=(G.map byt)[j]?:=λj hj=>znt q6 hj;simp only[List.map_append,List.map_take,List.map_drop];rw[List.getElem?_append,List.getElem?_append];rw[List.getElem?_append,List.getElem?_append];simp only[List.length_take,List.length_map,List.length_append];by_cases h1:i<p
    ·rw[if_pos (by omega),if_pos (by omega),if_pos (by omega),if_pos (by omega),List.getElem?_take_of_lt h1,List.getElem?_take_of_lt h1,hcg i hi]
    ·by_cases h2:i<p+b.length
     ·rw[if_pos (by omega),if_neg (by omega),if_pos (by omega),if_neg (by omega)];congr 1;omega
     ·rw[if_neg (by omega),if_neg (by omega),List.getElem?_drop,List.getElem?_drop];rw[show p+b.length+(i - (min p cur.length+b.length))=i by omega,show p+b.length+(i - (min p G.length+b.length))=i by omega,hcg i hi]
   ·rw[List.getElem?_eq_none (by simp;omega),List.getElem?_eq_none (by simp;omega)]
abbrev zbs(i:SM.Info):List Value:=[S i.name,.int .i64 i.size,.int .i64 i.mode,.bool i.dir,.int .i64 i.time]
abbrev zaC(s:SM.Stp)(v:Value):List Value:=[.int .i64 s.op,S s.name,S s.other,.int .i64 s.flag,.int .i64 s.perm,.int .i64 s.h,v,.int .i64 s.off,.int .i64 s.wh,.int .i64 s.n]
abbrev zbq(a:SM.Ans)(x y z:Value):List Value:=[.int .i64 a.e,.int .i64 a.n,.int .i64 a.off,x,y,z]
abbrev ansZ:List Value:=zbq SM.Ans.z (.slice none 0 0) (.slice none 0 0) (.slice none 0 0)
def zf2(l:List SM.Info):List Value:=(l.map zbs).flatten
def AnsV(w:World)(lo:Nat)(a:SM.Ans)(c:List Value):Prop:=∃x y z,c=zbq a x y z/\BS w x a.data/\RowS w y a.names.length (a.names.map S)/\RowS w z a.infos.length (zf2 a.infos)/\∀b,(x.ownBlock=some b\/y.ownBlock=some b\/z.ownBlock=some b)->lo<=b/\b<w.heap.size
theorem zaT(w:World):RowS w (.slice none 0 0) 0 []:=.inr ⟨rfl,rfl,_,_,rfl⟩
theorem AnsV.plain(w:World)(lo:Nat){a:SM.Ans}(h1:a.data=[])(h2:a.names=[])(h3:a.infos=[]):AnsV w lo a (zbq a (.slice none 0 0) (.slice none 0 0) (.slice none 0 0)):=⟨_,_,_,rfl,by rw[h1];exact zb0 w,by rw[h2];exact zaT w,by rw[h3];exact zaT w,λb hb=>by rcases hb with h|h|h<;>cases h⟩
theorem AnsV.data{w:World}{lo:Nat}{a:SM.Ans}{x:Value}(hx:BS w x a.data)(hl:∀b,x.ownBlock=some b->lo<=b/\b<w.heap.size)(h2:a.names=[])(h3:a.infos=[]):AnsV w lo a (zbq a x (.slice none 0 0) (.slice none 0 0)):=⟨_,_,_,rfl,hx,by rw[h2];exact zaT w,by rw[h3];exact zaT w,λb hb=>by rcases hb with h|h|h;exact hl b h;cases h;cases h⟩
theorem AnsV.less{w:World}{lo lo':Nat}{a:SM.Ans}{c:List Value}(h:AnsV w lo a c)(hl:lo'<=lo):AnsV w lo' a c:=by obtain⟨x,y,z,e,h1,h2,h3,h4⟩:=h;exact⟨x,y,z,e,h1,h2,h3,λb hb=>⟨by have:=(h4 b hb).1;omega,(h4 b hb).2⟩⟩
def AnsN(w:World)(lo:Nat)(U:Nat->Prop)(a:SM.Ans)(c:List Value):Prop:=∃x y z,c=zbq a x y z/\BS w x a.data/\RowS w y a.names.length (a.names.map S)/\RowS w z a.infos.length (zf2 a.infos)/\∀b,(x.ownBlock=some b\/y.ownBlock=some b\/z.ownBlock=some b)->lo<=b/\b<w.heap.size/\¬U b
theorem AnsV.n{w:World}{lo:Nat}{U:Nat->Prop}{a:SM.Ans}{c:List Value}(h:AnsV w lo a c)(hU:∀b,U b->b<lo):AnsN w lo U a c:=by obtain⟨x,y,z,e,h1,h2,h3,h4⟩:=h;exact⟨x,y,z,e,h1,h2,h3,λb hb=>⟨(h4 b hb).1,(h4 b hb).2,λu=>by have:=hU b u;have:=(h4 b hb).1;omega⟩⟩
theorem AnsN.v{w:World}{lo:Nat}{U:Nat->Prop}{a:SM.Ans}{c:List Value}(h:AnsN w lo U a c):AnsV w lo a c:=by obtain⟨x,y,z,e,h1,h2,h3,h4⟩:=h;exact⟨x,y,z,e,h1,h2,h3,λb hb=>⟨(h4 b hb).1,(h4 b hb).2.1⟩⟩
theorem AnsN.plain(w:World)(lo:Nat)(U:Nat->Prop){a:SM.Ans}(h1:a.data=[])(h2:a.names=[])(h3:a.infos=[]):AnsN w lo U a (zbq a (.slice none 0 0) (.slice none 0 0) (.slice none 0 0)):=⟨_,_,_,rfl,by rw[h1];exact zb0 w,by rw[h2];exact zaT w,by rw[h3];exact zaT w,λb hb=>by rcases hb with h|h|h<;>cases h⟩
theorem AnsN.kp{w w':World}{lo:Nat}{U:Nat->Prop}{a:SM.Ans}{c:List Value}{S:Nat->Prop}(h:AnsN w lo U a c)(k:Kp w w' S)(hS:∀b,lo<=b->b<w.heap.size->¬U b->¬S b):AnsN w' lo U a c:=by obtain⟨x,y,z,e,h1,h2,h3,h4⟩:=h;have g:∀b,(x.ownBlock=some b\/y.ownBlock=some b\/z.ownBlock=some b)->¬S b:=λb hb=>hS b (h4 b hb).1 (h4 b hb).2.1 (h4 b hb).2.2;exact⟨x,y,z,e,zlc h1 k λb hb=>g b (.inl hb),h2.kp k λb hb=>g b (.inr (.inl hb)),h3.kp k λb hb=>g b (.inr (.inr hb)),λb hb=>⟨(h4 b hb).1,Nat.lt_of_lt_of_le (h4 b hb).2.1 k.size,(h4 b hb).2.2⟩⟩
theorem AnsN.old{w w':World}{lo:Nat}{U:Nat->Prop}{a:SM.Ans}{c:List Value}(h:AnsN w lo U a c)(k:Below w.heap.size w w'):AnsN w' lo U a c:=h.kp (Kp.of_below k λb=>w.heap.size<=b) λb _ hb _=>by omega
theorem AnsN.less{w:World}{lo lo':Nat}{U:Nat->Prop}{a:SM.Ans}{c:List Value}(h:AnsN w lo U a c)(hl:lo'<=lo):AnsN w lo' U a c:=by obtain⟨x,y,z,e,h1,h2,h3,h4⟩:=h;exact⟨x,y,z,e,h1,h2,h3,λb hb=>⟨by have:=(h4 b hb).1;omega,(h4 b hb).2⟩⟩
theorem AnsN.to{w:World}{lo:Nat}{U V:Nat->Prop}{a:SM.Ans}{c:List Value}(h:AnsN w lo U a c)(hV:∀b,lo<=b->b<w.heap.size->¬U b->¬V b):AnsN w lo V a c:=by obtain⟨x,y,z,e,h1,h2,h3,h4⟩:=h;exact⟨x,y,z,e,h1,h2,h3,λb hb=>⟨(h4 b hb).1,(h4 b hb).2.1,hV b (h4 b hb).1 (h4 b hb).2.1 (h4 b hb).2.2⟩⟩
section
variable{w w':World}{B p:Nat}{m:SM.Mem}{F:Fp}{vn va vd:Value}{q:Nat}{ds:List Value}{hl:ML Int}{c:Nat}{hb:Int->Nat}{ρ:Nat->Rl}
theorem MemX.setHnd(h:MemX w B p m F vn va vd q ds hl c hb ρ){k:Int}{hd hd':SM.Hnd}(hh:SM.hget m.hs k=some hd):
  MemX (setb w (hb k) (CB (hndC hd') T.am)) B p (m.setH k hd') F vn va vd q ds hl c hb ρ/\Tr w (setb w (hb k) (CB (hndC hd') T.am)) F F:=by
 obtain⟨r1,b1⟩:=h.bh k hd hh;have kp:=Kp.setb w (hb k) (CB (hndC hd') T.am);have hG:∀b,b<w.heap.size->b=hb k->ρ b=.hnd k:=λb _ e=>by rw[e];exact r1
 have l:=h.only kp hG (λe=>by cases e);refine⟨⟨h.own,h.sub,l.lt,h.ge,h.rp,l.bm (λe=>by cases e),l.on (λe=>by cases e),h.rn,l.oa (λe=>by cases e),h.ra,l.od (λe=>by cases e),h.rd,h.dl,l.db,h.rq,l.bq (λe=>by cases e),h.wf,λj=>?_,λj y hy=>?_⟩,h.tr kp hG (λe=>by cases e)⟩
 ·rw[h.hm j];show _=(SM.hget (SM.hput m.hs k hd') j).map _;rw[SM.zbP];by_cases e:j=k
  ·rw[if_pos e,e,hh];rfl
  ·rw[if_neg e]
 ·have hy':SM.hget (SM.hput m.hs k hd') j=some y:=hy;rw[SM.zbP]at hy';by_cases e:j=k
  ·rw[if_pos e]at hy';injection hy' with hy';subst hy' e;exact⟨r1,zap _ _ _ _ rfl (zaj b1)⟩
  ·rw[if_neg e]at hy';exact⟨(h.bh j y hy').1,l.bh j y hy' (λe2=>by injection e2 with e2;exact e e2.symm)⟩
theorem MemX.store(h:MemX w B p m F vn va vd q ds hl c hb ρ){i j g:Nat}{x d d':Value}{n':SM.Node}{cur:List Value}(hi:i<m.nodes.length)(na:zcP w vd m i d g cur)(hd0:d=ds[i]'(by rw[h.dl];exact hi))(hcl:m.nodes.length*5<=cur.length)(ht:cur.take (m.nodes.length*5)=zcS m.nodes ds)(hj:j<5)(e:(zbM (m.node i) d).set j x=zbM n' d')
  (hd:BS w d' n'.data/\∀b,d'.ownBlock=some b->F.use b/\ρ b=.no):
  MemX (setb w g (CB (cur.set (i*5+j) x) T.ag)) B p (m.setNode i n') F vn va vd q (ds.set i d') hl c hb ρ/\zcP (setb w g (CB (cur.set (i*5+j) x) T.ag)) vd (m.setNode i n') i d' g (cur.set (i*5+j) x)/\Tr w (setb w g (CB (cur.set (i*5+j) x) T.ag)) F F/\
   (m.setNode i n').nodes.length*5<=(cur.set (i*5+j) x).length/\(cur.set (i*5+j) x).take ((m.setNode i n').nodes.length*5)=zcS (m.setNode i n').nodes (ds.set i d'):=by
 have hl5:i*5+5<=m.nodes.length*5:=by omega
 have ln:=zqP m.nodes ds h.dl;have ht':(cur.set (i*5+j) x).take (m.nodes.length*5)=zcS (m.nodes.set i n') (ds.set i d'):=by
  rw[List.take_set,ht,zqO m.nodes ds h.dl hi,<-e];have e5:=zoz m.nodes ds h.dl hi;rw[<-zdA hi,<-hd0]at e5;rw[<-e5];have l5:((zcS m.nodes ds).drop (i*5)).length=m.nodes.length*5 - i*5:=by rw[List.length_drop,ln]
  apply List.ext_getElem?;intro a;by_cases ha:a=i*5+j
  ·subst ha;rw[List.getElem?_set_self (by omega),List.append_assoc,List.getElem?_append_right (by simp;omega),List.getElem?_append_left (by simp;omega)];rw[show i*5+j - ((zcS m.nodes ds).take (i*5)).length=j by simp;omega,List.getElem?_set_self (by simp;omega)]
  ·rw[List.getElem?_set_ne (λq=>ha q.symm),List.append_assoc];by_cases h1:a<i*5
   ·rw[List.getElem?_append_left (by simp;omega),List.getElem?_take_of_lt h1]
   ·rw[List.getElem?_append_right (by simp;omega)];have la:((zcS m.nodes ds).take (i*5)).length=i*5:=by simp;omega
    rw[la];by_cases h2:a<i*5+5
    ·rw[List.getElem?_append_left (by simp;omega),List.getElem?_set_ne (by omega),List.getElem?_take_of_lt (by omega),List.getElem?_drop];congr 1;omega
    ·rw[List.getElem?_append_right (by simp;omega),List.getElem?_drop];congr 1;simp;omega
 have hdl:(ds.set i d').length=(m.nodes.set i n').length:=by simp[h.dl]
 obtain⟨r1,r2⟩:=h.turnD (nodes':=m.nodes.set i n') (ds':=ds.set i d') na.ob na.bg (by simp) (by simp) ht' hdl (λa h1 h2=>by
  by_cases ea:i=a
  ·subst ea;simp only[List.getElem_set_self];exact hd
  ·rw[List.getElem_set_ne ea,List.getElem_set_ne ea];exact h.db a (by simpa using h1) (by simpa using h2))
 refine⟨r1,?_,r2,by simp[SM.Mem.setNode];omega,by simpa[SM.Mem.setNode]using ht'⟩;have hi':i<(m.setNode i n').nodes.length:=by simpa[SM.Mem.setNode]using hi
 obtain⟨g2,cur2,na2,_,_⟩:=r1.node hi';have eg:g2=g:=Option.some.inj (na2.ob.symm.trans na.ob);subst eg;have ec:cur2=cur.set (i*5+j) x:=by have:=na2.bg;rw[zap _ _ _ _ rfl (zaj na.bg)]at this;injection this with this;injection this with this;simpa using this.symm
 subst ec;have ed:(ds.set i d')[i]'(by rw[r1.dl];exact hi')=d':=by simp
 rw[ed]at na2;exact na2
end
theorem zjT(w:World)(s:SM.Stp)(v:Value):∃W:World,(w.alloc (CB (zaC s v) T.ae)).alloc (CB ansZ T.ab)=W/\Below w.heap.size w W/\W.heap.size=w.heap.size+2/\bk W w.heap.size=some (CB (zaC s v) T.ae)/\bk W (w.heap.size+1)=some (CB ansZ T.ab):=by
 refine⟨_,rfl,by repeat (first|exact Below.refl _ _|assumption|refine zag ?_ (by first|omega|(simp only[go_sem]<;>omega)) _|refine Below.alloc ?_ (by first|omega|(simp only[go_sem]<;>omega)) _|refine Below.drew ?_),by simp only[go_sem],?_,?_⟩
 ·rw[zat _ _ _ (by simp only[go_sem];omega),zaf _ _ _ rfl]
 ·rw[zaf _ _ _ (by simp only[go_sem])]
theorem zbG{w w3:World}{B p:Nat}{m':SM.Mem}{F F3:Fp}(h3:MemS w3 B p m' F3)(t3:Tr w w3 F F3){A:Nat}(hA:w.heap.size<=A)(hu:¬F3.use A){a:SM.Ans}{c:List Value}(hc:AnsN w3 (A+1) F3.use a c)(o:Obj):
  MemS (setb w3 A o) B p m' F3/\Tr w (setb w3 A o) F F3/\AnsN (setb w3 A o) w.heap.size F3.use a c:=by
 have k:=Kp.setb w3 A o;refine⟨h3.frame k λb hb e=>hu (by rw[<-e];exact hb),⟨t3.kp.trans k λx hx e=>by omega,t3.st⟩,(hc.kp k λb hb _ _ e=>by omega).less (by omega)⟩
section
variable{w:World}{K:Value->World->Prop}{B p:Nat}{m:SM.Mem}{F:Fp}{vn va vd:Value}{q:Nat}{ds:List Value}{hl:ML Int}{c:Nat}{hb:Int->Nat}{ρ:Nat->Rl}{k:Int}{hd:SM.Hnd}{s:SM.Stp}{v:Value}
theorem MemX.toS(h:MemX w B p m F vn va vd q ds hl c hb ρ):MemS w B p m F:=⟨_,_,_,_,_,_,_,_,_,h⟩
theorem MemX.hne(h:MemX w B p m F vn va vd q ds hl c hb ρ)(hh:SM.hget m.hs k=some hd){b:Nat}(hw:w.heap.size<=b):hb k≠b:=λe=>by have:=h.in_ (b:=hb k) (by rw[(h.bh k hd hh).1];exactλe=>by cases e);omega
abbrev zcx(w:World)(B p:Nat)(F:Fp)(r:SM.Mem×SM.Ans)(K:Value->World->Prop):Prop:=∀w' F' c,MemS w' B p r.1 F'->Tr w w' F F'->AnsN w' w.heap.size F'.use r.2 c->K (AG c) w'
structure Fc(w W:World)(B p:Nat)(m:SM.Mem)(F:Fp)(vn va vd:Value)(q:Nat)(ds:List Value)(hl:ML Int)(c:Nat)(hb:Int->Nat)(ρ:Nat->Rl)(s:SM.Stp)(v:Value):Prop where
 h:MemX W B p m F vn va vd q ds hl c hb ρ
 lt:∀b,F.use b->b<w.heap.size
 t:Tr w W F F
 S:bk W w.heap.size=some (CB (zaC s v) T.ae)
 A:bk W (w.heap.size+1)=some (CB ansZ T.ab)
theorem Fc.drew{W:World}(f:Fc w W B p m F vn va vd q ds hl c hb ρ s v):Fc w W.drew B p m F vn va vd q ds hl c hb ρ s v:=⟨f.h.old (by repeat (first|exact Below.refl _ _|assumption|refine zag ?_ (by first|omega|(simp only[go_sem]<;>omega)) _|refine Below.alloc ?_ (by first|omega|(simp only[go_sem]<;>omega)) _|refine Below.drew ?_)),f.lt,f.t.after (by repeat (first|exact Below.refl _ _|assumption|refine zag ?_ (by first|omega|(simp only[go_sem]<;>omega)) _|refine Below.alloc ?_ (by first|omega|(simp only[go_sem]<;>omega)) _|refine Below.drew ?_)),f.S,f.A⟩
theorem Fc.tr{W:World}(f:Fc w W B p m F vn va vd q ds hl c hb ρ s v):Tr w W F F:=f.t
theorem Fc.hne{W:World}(f:Fc w W B p m F vn va vd q ds hl c hb ρ s v)(hh:SM.hget m.hs k=some hd){b:Nat}(hw:w.heap.size<=b):hb k≠b:=λe=>by have:=f.lt (hb k) (f.h.sub _ ((f.h.own _).2 (by rw[(f.h.bh k hd hh).1];exactλe=>by cases e)));omega
theorem Fc.nA{W:World}(f:Fc w W B p m F vn va vd q ds hl c hb ρ s v):¬F.use (w.heap.size+1):=λe=>by have:=f.lt _ e;omega
theorem zs2{W:World}(f:Fc w W B p m F vn va vd q ds hl c hb ρ s v)(hh:SM.hget m.hs k=some hd)(hn:hd.node<m.nodes.length){g:Nat}{cur:List Value}(na:zcP W vd m hd.node (ds[hd.node]'(by rw[f.h.dl];exact hn)) g cur)
  (hk:zcx w B p F (if hd.ro=true then m.setH k {hd with cl:=true}else(m.setH k {hd with cl:=true}).setNode hd.node {m.node hd.node with time:=0},SM.Ans.z) K):zdO (pt (hb k) 0) W (pt (w.heap.size+1) 0) K (pt g (hd.node*5)):=by
 unfold zdO;obtain⟨m',em⟩:∃m',(if hd.ro=true then m.setH k {hd with cl:=true}else(m.setH k {hd with cl:=true}).setNode hd.node {m.node hd.node with time:=0})=m':=⟨_,rfl⟩;rw[em]at hk;have em1:hd.ro=true->m.setH k {hd with cl:=true}=m':=λh=>by rw[<-em,if_pos h]
 have em2:¬hd.ro=true->(m.setH k {hd with cl:=true}).setNode hd.node {m.node hd.node with time:=0}=m':=λh=>by rw[<-em,if_neg h]
 clear em;have bh:=(f.h.bh k hd hh).2;have lh:=zaj bh;have np1:hb k≠w.heap.size+1:=f.hne hh (by omega);obtain⟨h2,t2⟩:=f.h.setHnd (hd':={hd with cl:=true}) hh;simp(disch:=first|omega|(simp(disch:=first|omega|fail)only[go_sem,bh]<;>omega)|fail)only[go_sem,bh];have T2:=f.tr.trans t2;have bA2:bk (setb W (hb k) (CB (hndC {hd with cl:=true}) T.am)) (w.heap.size+1)=some (CB ansZ T.ab):=by rw[zao _ _ _ _ (Ne.symm np1)];exact f.A
 have B2:bk (setb W (hb k) (CB (hndC {hd with cl:=true}) T.am)) (hb k)=some (CB (hndC {hd with cl:=true}) T.am):=zap _ _ _ _ rfl lh;generalize setb W (hb k) (CB (hndC {hd with cl:=true}) T.am)=W2 at*;refine zaa (λt w'=>MemS w' B p m' F/\Tr w w' F F/\bk w' (w.heap.size+1)=some (CB ansZ T.ab)) ?_ ?_
 ·rintro t e w3 ⟨h3,t3,b3⟩;unfold zaH;obtain⟨e1,e2,e3⟩:=zbG h3 t3 (A:=w.heap.size+1) (by omega) f.nA (AnsN.plain w3 _ _ (a:=SM.Ans.z) rfl rfl rfl) (CB ansZ T.ab);have l3:=zaj b3;simp(disch:=first|omega|(simp(disch:=first|omega|fail)only[go_sem,b3]<;>omega)|fail)only[go_sem,b3];exact hk _ _ _ e1 e2 e3
 ·by_cases hro:hd.ro=true
  ·simp(disch:=first|omega|(simp(disch:=first|omega|fail)only[go_sem,B2,hro]<;>omega)|fail)only[go_sem,B2,hro];rw[<-em1 hro];exact⟨h2.toS,T2,bA2⟩
  ·have hro':hd.ro=false:=by simpa using hro
   have hn2:hd.node<(m.setH k {hd with cl:=true}).nodes.length:=hn;obtain⟨g2,cur2,n2,n3,n4⟩:=h2.node hn2;have eg:g2=g:=Option.some.inj (n2.ob.symm.trans na.ob);subst eg;have bg2:bk W2 g2=some (CB cur2 T.ag):=n2.bg;have len2:=n2.len;obtain⟨h4,n5,t4,_,_⟩:=h2.store (j:=3) (x:=.int .i64 0) (n':={m.node hd.node with time:=0}) hn2 n2 rfl n3 n4 (by omega) rfl (h2.data hn2);have lg:=zaj bg2;simp(disch:=first|omega|(simp(disch:=first|omega|fail)only[go_sem,B2,hro',bg2]<;>omega)|fail)only[go_sem,B2,hro',bg2];rw[<-em2 hro];refine⟨h4.toS,T2.trans t4,?_⟩;have:g2≠w.heap.size+1:=λe=>by have:=f.lt g2 (f.h.sub _ ((f.h.own _).2 (by rw[f.h.rd _ na.ob];decide)));omega
   show bk (setb W2 g2 _) _=_;rw[zao _ _ _ _ (Ne.symm this)];exact bA2
end
set_option maxHeartbeats 4000000 in
theorem zl5{w:World}{K:Value->World->Prop}{B p:Nat}{m:SM.Mem}{F:Fp}{x:Nat}(h:MemS w B p m F)(hx:x<m.nodes.length)(hnl:(m.node x).name.length<=140737488355328)
  (hk:∀w',Below w.heap.size w w'->K (AG (zbs (m.info x))) w'):Cl P Fn.bQ #[pt p 0,.int .i64 x] w K:=by
 obtain⟨vn,va,vd,q,ds,hl,c,hb,ρ,h⟩:=h;apply zlV;unfold zir;rw[M.af];obtain⟨W1,e1⟩:∃W1,W1=w.alloc (CB (zbs ⟨[],0,0,false,0⟩) T.ay):=⟨_,rfl⟩;have B1:Below w.heap.size w W1:=by rw[e1];repeat (first|exact Below.refl _ _|assumption|refine zag ?_ (by first|omega|(simp only[go_sem]<;>omega)) _|refine Below.alloc ?_ (by first|omega|(simp only[go_sem]<;>omega)) _|refine Below.drew ?_)
 have b1:bk W1 w.heap.size=some (CB (zbs ⟨[],0,0,false,0⟩) T.ay):=by rw[e1];exact zaf _ _ _ rfl
 have z1:W1.heap.size=w.heap.size+1:=by rw[e1];simp only[go_sem]
 rw[<-e1];clear e1;have h1:=h.old B1;have bm:=h1.bm;obtain⟨g,cur,na,na1,na2⟩:=h1.node hx;obtain⟨dat,_⟩:=h1.data hx;have ix:=na.ix .i64;have bg:=na.bg;have len:=na.len;have row:=na.row;obtain⟨da,dc,ed⟩:=zay dat;rw[ed]at row;simp(disch:=first|omega|(simp only[sZb,sZa,sZd]<;>omega)|(simp(disch:=first|omega|(simp only[sZb,sZa,sZd]<;>omega)|fail)only[go_sem,bm,ix,bg,row];done)|fail)only[go_sem,zaN,zaL,zaJ,zaM,zaK,w_u8,zaI,Int.reduceToNat,Int.reducePow,Nat.reducePow,bm,ix,bg,row];have b2:bk ((W1.alloc (CB (zbM ⟨false,0,[],0,[]⟩ (.slice none 0 0)) T.ag))) (w.heap.size+1)=some (CB (zbM ⟨false,0,[],0,[]⟩ (.slice none 0 0)) T.ag):=zaf _ _ _ z1.symm;obtain⟨W2,e2⟩:∃W2,W2=setb (W1.alloc (CB (zbM ⟨false,0,[],0,[]⟩ (.slice none 0 0)) T.ag)) W1.heap.size (CB (zbM (m.node x) (.slice da (m.node x).data.length dc)) T.ag):=⟨_,rfl⟩;have B2:Below w.heap.size w W2:=by rw[e2];exact B1.trans (by repeat (first|exact Below.refl _ _|assumption|refine zag ?_ (by first|omega|(simp only[go_sem]<;>omega)) _|refine Below.alloc ?_ (by first|omega|(simp only[go_sem]<;>omega)) _|refine Below.drew ?_))
 have b2:bk W2 W1.heap.size=some (CB (zbM (m.node x) (.slice da (m.node x).data.length dc)) T.ag):=by rw[e2];exact zap _ _ _ _ rfl (by simp only[go_sem];omega)
 have b1':bk W2 w.heap.size=some (CB (zbs ⟨[],0,0,false,0⟩) T.ay):=by rw[e2,zao _ _ _ _ (by omega),zat _ _ _ (by omega)];exact b1
 have z2:W2.heap.size=w.heap.size+2:=by rw[e2];simp only[go_sem];omega
 rw[z1]at b2;rw[<-e2];clear e2 bg row ix bm;rw[z1];have ei:SM.Mem.info m x=⟨SM.base (m.node x).name,if(m.node x).dir then 42 else(m.node x).data.length,(m.node x).mode,(m.node x).dir,(m.node x).time⟩:=rfl;have fin:∀(w3:World)(A:Nat),Below w.heap.size w w3->w.heap.size<=A->A≠w.heap.size->bk w3 A=some (CB (zbs (m.info x)) T.ay)->bk w3 w.heap.size=some (CB (zbs ⟨[],0,0,false,0⟩) T.ay)->
   st P (zab T.ay (pt A 0)) w3 λt30 w10=>st P (zai T.ay (pt w.heap.size 0) t30) w10 λ_ w11=>rsl P T.ay (pt w.heap.size 0) w11 λr1=>K (tup [r1]) w11:=by
  intro w3 A B3 hA hA2 bA b0;have l0:=zaj b0;simp(disch:=first|omega|(simp only[sZb,sZa,sZd]<;>omega)|(simp(disch:=first|omega|(simp only[sZb,sZa,sZd]<;>omega)|fail)only[go_sem,bA,b0];done)|fail)only[go_sem,zaN,zaL,zaJ,zaM,zaK,w_u8,zaI,Int.reduceToNat,Int.reducePow,Nat.reducePow,bA,b0];exact hk _ (zag B3 (Nat.le_refl _) _)
 constructor
 ·refine zmr hnl ?_;simp(disch:=first|omega|(simp only[sZb,sZa,sZd]<;>omega)|(simp(disch:=first|omega|(simp only[sZb,sZa,sZd]<;>omega)|fail)only[go_sem,b2];done)|fail)only[go_sem,zaN,zaL,zaJ,zaM,zaK,w_u8,zaI,Int.reduceToNat,Int.reducePow,Nat.reducePow,b2];refine⟨trivial,trivial,trivial,trivial,?_⟩;have B3:Below w.heap.size w (W2.drew.alloc (CB (zbs ⟨[],0,0,false,0⟩) T.ay)):=B2.trans (by repeat (first|exact Below.refl _ _|assumption|refine zag ?_ (by first|omega|(simp only[go_sem]<;>omega)) _|refine Below.alloc ?_ (by first|omega|(simp only[go_sem]<;>omega)) _|refine Below.drew ?_));have bA:bk (W2.drew.alloc (CB (zbs ⟨[],0,0,false,0⟩) T.ay)) (w.heap.size+2)=some (CB (zbs ⟨[],0,0,false,0⟩) T.ay):=zaf _ _ _ z2.symm;have bB:bk (W2.drew.alloc (CB (zbs ⟨[],0,0,false,0⟩) T.ay)) (w.heap.size+1)=some (CB (zbM (m.node x) (.slice da (m.node x).data.length dc)) T.ag):=by rw[zat _ _ _ (by show _≠W2.heap.size;omega)];exact b2
  have b0:bk (W2.drew.alloc (CB (zbs ⟨[],0,0,false,0⟩) T.ay)) w.heap.size=some (CB (zbs ⟨[],0,0,false,0⟩) T.ay):=by rw[zat _ _ _ (by show _≠W2.heap.size;omega)];exact b1'
  have lA:=zaj bA;simp(disch:=first|omega|(simp only[sZb,sZa,sZd]<;>omega)|(simp(disch:=first|omega|(simp only[sZb,sZa,sZd]<;>omega)|fail)only[go_sem,bB,z2];done)|fail)only[go_sem,zaN,zaL,zaJ,zaM,zaK,w_u8,zaI,Int.reduceToNat,Int.reducePow,Nat.reducePow,bB,z2];refine⟨trivial,trivial,trivial,trivial,?_⟩;refine zaa (λt w'=>Below w.heap.size w w'/\bk w' (w.heap.size+2)=some (CB (zbs (m.info x)) T.ay)/\bk w' w.heap.size=some (CB (zbs ⟨[],0,0,false,0⟩) T.ay)) ?_ ?_
  ·rintro t e w4 ⟨q1,q2,q3⟩;unfold zcK;exact fin w4 _ q1 (by omega) (by omega) q2 q3
  ·by_cases hd:(m.node x).dir=true
   ·simp(disch:=first|omega|(simp only[sZb,sZa,sZd]<;>omega)|(simp(disch:=first|omega|(simp only[sZb,sZa,sZd]<;>omega)|fail)only[go_sem,hd];done)|fail)only[go_sem,zaN,zaL,zaJ,zaM,zaK,w_u8,zaI,Int.reduceToNat,Int.reducePow,Nat.reducePow,hd];refine⟨zag (zag B3 (by omega) _) (by omega) _,?_,?_⟩
    ·rw[ei,hd];rfl
    ·exact b1'
   ·have hd':(m.node x).dir=false:=by simpa using hd
    simp(disch:=first|omega|(simp only[sZb,sZa,sZd]<;>omega)|(simp(disch:=first|omega|(simp only[sZb,sZa,sZd]<;>omega)|fail)only[go_sem,hd'];done)|fail)only[go_sem,zaN,zaL,zaJ,zaM,zaK,w_u8,zaI,Int.reduceToNat,Int.reducePow,Nat.reducePow,hd'];refine⟨zag B3 (by omega) _,?_,?_⟩
    ·rw[ei,hd'];rfl
    ·exact b1'
 ·have B3:Below w.heap.size w (W2.drew.alloc (CB (zbs ⟨[],0,0,false,0⟩) T.ay)):=B2.trans (by repeat (first|exact Below.refl _ _|assumption|refine zag ?_ (by first|omega|(simp only[go_sem]<;>omega)) _|refine Below.alloc ?_ (by first|omega|(simp only[go_sem]<;>omega)) _|refine Below.drew ?_));have bA:bk (W2.drew.alloc (CB (zbs ⟨[],0,0,false,0⟩) T.ay)) (w.heap.size+2)=some (CB (zbs ⟨[],0,0,false,0⟩) T.ay):=zaf _ _ _ z2.symm;have bB:bk (W2.drew.alloc (CB (zbs ⟨[],0,0,false,0⟩) T.ay)) (w.heap.size+1)=some (CB (zbM (m.node x) (.slice da (m.node x).data.length dc)) T.ag):=by rw[zat _ _ _ (by show _≠W2.heap.size;omega)];exact b2
  have b0:bk (W2.drew.alloc (CB (zbs ⟨[],0,0,false,0⟩) T.ay)) w.heap.size=some (CB (zbs ⟨[],0,0,false,0⟩) T.ay):=by rw[zat _ _ _ (by show _≠W2.heap.size;omega)];exact b1'
  have lA:=zaj bA;refine⟨trivial,trivial,trivial,trivial,trivial,?_⟩;refine zmr hnl ?_;simp(disch:=first|omega|(simp only[sZb,sZa,sZd]<;>omega)|(simp(disch:=first|omega|(simp only[sZb,sZa,sZd]<;>omega)|fail)only[go_sem,b2];done)|fail)only[go_sem,zaN,zaL,zaJ,zaM,zaK,w_u8,zaI,Int.reduceToNat,Int.reducePow,Nat.reducePow,b2];refine⟨trivial,trivial,trivial,trivial,?_⟩;refine zaa (λt w'=>Below w.heap.size w w'/\bk w' (w.heap.size+2)=some (CB (zbs (m.info x)) T.ay)/\bk w' w.heap.size=some (CB (zbs ⟨[],0,0,false,0⟩) T.ay)) ?_ ?_
  ·rintro t e w4 ⟨q1,q2,q3⟩;unfold zcK;exact fin w4 _ q1 (by omega) (by omega) q2 q3
  ·by_cases hd:(m.node x).dir=true
   ·simp(disch:=first|omega|(simp only[sZb,sZa,sZd]<;>omega)|(simp(disch:=first|omega|(simp only[sZb,sZa,sZd]<;>omega)|fail)only[go_sem,hd];done)|fail)only[go_sem,zaN,zaL,zaJ,zaM,zaK,w_u8,zaI,Int.reduceToNat,Int.reducePow,Nat.reducePow,hd];refine⟨zag (zag B3 (by omega) _) (by omega) _,?_,?_⟩
    ·rw[ei,hd];rfl
    ·exact b1'
   ·have hd':(m.node x).dir=false:=by simpa using hd
    simp(disch:=first|omega|(simp only[sZb,sZa,sZd]<;>omega)|(simp(disch:=first|omega|(simp only[sZb,sZa,sZd]<;>omega)|fail)only[go_sem,hd'];done)|fail)only[go_sem,zaN,zaL,zaJ,zaM,zaK,w_u8,zaI,Int.reduceToNat,Int.reducePow,Nat.reducePow,hd'];refine⟨zag B3 (by omega) _,?_,?_⟩
    ·rw[ei,hd'];rfl
    ·exact b1'
structure FB(m:SM.Mem)(hd:SM.Hnd)(s:SM.Stp):Prop where
 node:hd.node<m.nodes.length
 data:(m.node hd.node).data.length<=1099511627776
 name:(m.node hd.node).name.length<=140737488355328
 pos:-2305843009213693952<=hd.pos/\hd.pos<=2305843009213693952
 off:s.op<18->-2305843009213693952<=s.off/\s.off<=2305843009213693952
 n:s.op<18->s.n<=281474976710656
 len:s.data.length<=1073741824
 lst:-1099511627776<=hd.listed/\hd.listed<=1099511627776
section
variable{w W:World}{K:Value->World->Prop}{B p:Nat}{m:SM.Mem}{F:Fp}{vn va vd:Value}{q:Nat}{ds:List Value}{hl:ML Int}{c:Nat}{hb:Int->Nat}{ρ:Nat->Rl}{k:Int}{hd:SM.Hnd}{s:SM.Stp}{v:Value}
theorem ztH(f:Fc w W B p m F vn va vd q ds hl c hb ρ s v)(hh:SM.hget m.hs k=some hd)(fb:FB m hd s)
  (hk:zcx w B p F (m,{SM.Ans.z with infos:=[m.info hd.node]}) K):zec (pt (hb k) 0) W (pt p 0) (pt (w.heap.size+1) 0) K:=by
 unfold zec;have bh:=(f.h.bh k hd hh).2;simp(disch:=first|omega|(simp(disch:=first|omega|fail)only[go_sem,bh]<;>omega)|fail)only[go_sem,bh];refine zl5 f.h.toS fb.node fb.name λw1 B1=>?_;rw[zbg (z:=AG (zbs ⟨[],0,0,false,0⟩)) (size:=5) _ _ U.ap (by kernel_rfl) (by omega) (by omega) rfl];obtain⟨W2,e2⟩:∃W2,W2=w1.alloc (CB (zbs (m.info hd.node)) T.ay):=⟨_,rfl⟩;have zW:=f.t.kp.size;have z1:=B1.size;have lA:w.heap.size+1<W.heap.size:=zaj f.A;have B2:Below W.heap.size W W2:=by rw[e2];exact B1.trans (by repeat (first|exact Below.refl _ _|assumption|refine zag ?_ (by first|omega|(simp only[go_sem]<;>omega)) _|refine Below.alloc ?_ (by first|omega|(simp only[go_sem]<;>omega)) _|refine Below.drew ?_))
 have b2:bk W2 w1.heap.size=some (CB (zbs (m.info hd.node)) T.ay):=by rw[e2];exact zaf _ _ _ rfl
 have bA:bk W2 (w.heap.size+1)=some (CB ansZ T.ab):=by rw[zax B2 lA];exact f.A
 rw[<-e2];clear e2;have l2:=zaj b2;have lA2:=zaj bA;simp(disch:=first|omega|(simp(disch:=first|omega|fail)only[go_sem,bA]<;>omega)|fail)only[go_sem,bA];have hans:AnsV W2 (w.heap.size+1+1) {SM.Ans.z with infos:=[m.info hd.node]} (zbq {SM.Ans.z with infos:=[m.info hd.node]} (.slice none 0 0) (.slice none 0 0) (sl w1.heap.size 0 1 1)):=
  ⟨_,_,_,rfl,zb0 _,zaT _,.inl ⟨_,_,_,rfl,by rw[b2];rfl⟩,λb hb=>by
   rcases hb with h|h|h
   ·cases h
   ·cases h
   ·have h9:w1.heap.size=b:=Option.some.inj h;exact⟨by omega,by omega⟩⟩
 obtain⟨e1,e2,e3⟩:=zbG (f.h.old B2).toS (f.tr.after B2) (A:=w.heap.size+1) (by omega) f.nA (hans.n λb hb=>by have:=f.lt b hb;omega) (CB (zbq {SM.Ans.z with infos:=[m.info hd.node]} (.slice none 0 0) (.slice none 0 0) (sl w1.heap.size 0 1 1)) T.ab);exact hk _ _ _ e1 e2 e3
theorem ztd(f:Fc w W B p m F vn va vd q ds hl c hb ρ s v)(hh:SM.hget m.hs k=some hd){g:Nat}{cur:List Value}{d:Value}(na:zcP W vd m hd.node d g cur)
  (hk:zcx w B p F (m,{SM.Ans.z with names:=[(m.node hd.node).name]}) K):zdP (pt g (hd.node*5)) W (pt (w.heap.size+1) 0) K:=by
 unfold zdP;have bg:=na.bg;have c4:=na.c4;simp(disch:=first|omega|(simp(disch:=first|omega|fail)only[go_sem,bg,c4]<;>omega)|fail)only[go_sem,bg,c4];rw[zbc (z:=S []) _ _ U.ae (by kernel_rfl) rfl];obtain⟨W2,e2⟩:∃W2,W2=W.alloc (CB [S (m.node hd.node).name] T.string):=⟨_,rfl⟩;have zW:=f.t.kp.size;have lA:w.heap.size+1<W.heap.size:=zaj f.A;have B2:Below W.heap.size W W2:=by rw[e2];repeat (first|exact Below.refl _ _|assumption|refine zag ?_ (by first|omega|(simp only[go_sem]<;>omega)) _|refine Below.alloc ?_ (by first|omega|(simp only[go_sem]<;>omega)) _|refine Below.drew ?_)
 have b2:bk W2 W.heap.size=some (CB [S (m.node hd.node).name] T.string):=by rw[e2];exact zaf _ _ _ rfl
 have bA:bk W2 (w.heap.size+1)=some (CB ansZ T.ab):=by rw[zax B2 lA];exact f.A
 rw[<-e2];clear e2;have l2:=zaj b2;have lA2:=zaj bA;simp(disch:=first|omega|(simp(disch:=first|omega|fail)only[go_sem,bA]<;>omega)|fail)only[go_sem,bA];have hans:AnsV W2 (w.heap.size+1+1) {SM.Ans.z with names:=[(m.node hd.node).name]} (zbq {SM.Ans.z with names:=[(m.node hd.node).name]} (.slice none 0 0) (sl W.heap.size 0 1 1) (.slice none 0 0)):=
  ⟨_,_,_,rfl,zb0 _,.inl ⟨_,_,_,rfl,by rw[b2];rfl⟩,zaT _,λb hb=>by
   rcases hb with h|h|h
   ·cases h
   ·have h9:W.heap.size=b:=Option.some.inj h;exact⟨by omega,by omega⟩
   ·cases h⟩
 obtain⟨e1,e2,e3⟩:=zbG (f.h.old B2).toS (f.tr.after B2) (A:=w.heap.size+1) (by omega) f.nA (hans.n λb hb=>by have:=f.lt b hb;omega) (CB (zbq {SM.Ans.z with names:=[(m.node hd.node).name]} (.slice none 0 0) (sl W.heap.size 0 1 1) (.slice none 0 0)) T.ab);exact hk _ _ _ e1 e2 e3
theorem zfD(f:Fc w W B p m F vn va vd q ds hl c hb ρ s v){m':SM.Mem}{w3:World}(h3:MemS w3 B p m' F)(t3:Tr w w3 F F){e:Int}{o:Obj}(hk:zcx w B p F (m',SM.Ans.err e) K):
  K (AG (zbq (SM.Ans.err e) (.slice none 0 0) (.slice none 0 0) (.slice none 0 0))) (setb w3 (w.heap.size+1) o):=by
 obtain⟨e1,e2,e3⟩:=zbG h3 t3 (A:=w.heap.size+1) (by omega) f.nA (AnsN.plain w3 _ _ (a:=SM.Ans.err e) rfl rfl rfl) o;exact hk _ _ _ e1 e2 e3
theorem zs9(f:Fc w W B p m F vn va vd q ds hl c hb ρ s v)(hh:SM.hget m.hs k=some hd)(fb:FB m hd s)(hop:s.op<18){g:Nat}{cur:List Value}(na:zcP W vd m hd.node (ds[hd.node]'(by rw[f.h.dl];exact fb.node)) g cur)
  (hk:zcx w B p F (m.setH k {hd with pos:=hd.pos+(SM.zaU (m.node hd.node).data hd.pos s.n).1.length},⟨(SM.zaU (m.node hd.node).data hd.pos s.n).2,0,0,(SM.zaU (m.node hd.node).data hd.pos s.n).1,[],[]⟩) K):
  zd5 (pt g (hd.node*5)) W (pt (hb k) 0) (pt w.heap.size 0) (pt (w.heap.size+1) 0) K:=by
 unfold zd5;have bh:=(f.h.bh k hd hh).2;have bg:=na.bg;have c2:=na.c2;have bS:=f.S;obtain⟨dat,dat2⟩:=f.h.data fb.node;have hp:=fb.pos;simp(disch:=first|omega|(simp(disch:=first|omega|fail)only[go_sem,bg,c2,bh,bS]<;>omega)|fail)only[go_sem,bg,c2,bh,bS];have D1:Below W.heap.size W W.drew:=by repeat (first|exact Below.refl _ _|assumption|refine zag ?_ (by first|omega|(simp only[go_sem]<;>omega)) _|refine Below.alloc ?_ (by first|omega|(simp only[go_sem]<;>omega)) _|refine Below.drew ?_)
 have fdl:=fb.data;refine zkr (zcs dat D1 (Nat.le_refl _)) (by omega) ⟨by omega,by omega⟩ (fb.n hop) λw2 v2 b2 f2 B2=>?_;have B02:Below W.heap.size W w2:=D1.trans B2;have h2:=f.h.old B02;have bh2:=(h2.bh k hd hh).2;have lh2:=zaj bh2;obtain⟨a2,c2',e2⟩:=zay b2;have rl:(SM.zaU (m.node hd.node).data hd.pos s.n).1.length<=1099511627776:=by
  unfold SM.zaU;split
  ·simp
  ·split
   ·simp
   ·split
    ·simp
    ·simp;omega
 have lA:w.heap.size+1<W.heap.size:=zaj f.A;have zW:=f.t.kp.size;have bA2:bk w2 (w.heap.size+1)=some (CB ansZ T.ab):=by rw[zax B02 lA];exact f.A
 generalize hr:SM.zaU (m.node hd.node).data hd.pos s.n=r at*;subst e2;simp(disch:=first|omega|(simp(disch:=first|omega|fail)only[go_sem,bh2]<;>omega)|fail)only[go_sem,bh2];obtain⟨h3,t3⟩:=h2.setHnd (hd':={hd with pos:=hd.pos+r.1.length}) hh;have nA:=f.hne hh (b:=w.heap.size+1) (by omega);have bA3:bk (setb w2 (hb k) (CB (hndC {hd with pos:=hd.pos+r.1.length}) T.am)) (w.heap.size+1)=some (CB ansZ T.ab):=by rw[zao _ _ _ _ (Ne.symm nA)];exact bA2
 have kk:=Kp.setb w2 (hb k) (CB (hndC {hd with pos:=hd.pos+r.1.length}) T.am);have lhk:hb k<w.heap.size:=f.lt (hb k) (f.h.sub _ ((f.h.own _).2 (by rw[(f.h.bh k hd hh).1];exactλe=>by cases e)));have b3:=zlc b2 kk λb hb2 e=>by have h9:=(f2 b hb2).1;have h8:W.drew.heap.size=W.heap.size:=rfl;omega
 have z2:=B02.size;have T3:=(f.tr.after B02).trans t3;generalize setb w2 (hb k) (CB (hndC {hd with pos:=hd.pos+r.1.length}) T.am)=w3 at*;have lA3:=zaj bA3;simp(disch:=first|omega|(simp(disch:=first|omega|fail)only[go_sem,bA3]<;>omega)|fail)only[go_sem,bA3];obtain⟨e1,e2,e3⟩:=zbG h3.toS T3 (A:=w.heap.size+1) (by omega) f.nA (AnsV.n (AnsV.data (a:=⟨r.2,0,0,r.1,[],[]⟩) (lo:=w.heap.size+1+1) b3 (λb hb2=>⟨by have h9:=(f2 b hb2).1;have h8:W.drew.heap.size=W.heap.size:=rfl;omega,Nat.lt_of_lt_of_le (f2 b hb2).2 kk.size⟩) rfl rfl) λb hb=>by have:=f.lt b hb;omega) (CB (zbq ⟨r.2,0,0,r.1,[],[]⟩ (.slice a2 r.1.length c2') (.slice none 0 0) (.slice none 0 0)) T.ab);exact hk _ _ _ e1 e2 e3
theorem Fc.lA(f:Fc w W B p m F vn va vd q ds hl c hb ρ s v):w.heap.size+1<W.heap.size:=zaj f.A
theorem Fc.setH(f:Fc w W B p m F vn va vd q ds hl c hb ρ s v)(hh:SM.hget m.hs k=some hd)(hd':SM.Hnd):
  Fc w (setb W (hb k) (CB (hndC hd') T.am)) B p (m.setH k hd') F vn va vd q ds hl c hb ρ s v:=by
 obtain⟨h2,t2⟩:=f.h.setHnd (hd':=hd') hh;refine⟨h2,f.lt,f.tr.trans t2,?_,?_⟩
 ·rw[zao _ _ _ _ (Ne.symm (f.hne hh (Nat.le_refl _)))];exact f.S
 ·rw[zao _ _ _ _ (Ne.symm (f.hne hh (by omega)))];exact f.A
theorem Fc.below{W':World}(f:Fc w W B p m F vn va vd q ds hl c hb ρ s v)(b:Below W.heap.size W W'):Fc w W' B p m F vn va vd q ds hl c hb ρ s v:=by have:=f.lA;exact⟨f.h.old b,f.lt,f.t.after b,by rw[zax b (by omega)];exact f.S,by rw[zax b (by omega)];exact f.A⟩
theorem SM.hget_setH(m:SM.Mem)(k:Int)(h:SM.Hnd):SM.hget (m.setH k h).hs k=some h:=by show SM.hget (SM.hput m.hs k h) k=_;rw[SM.zbP,if_pos rfl]
theorem ztl(f:Fc w W B p m F vn va vd q ds hl c hb ρ s v)(hh:SM.hget m.hs k=some hd)(fb:FB m hd s)(hop:s.op<18){g:Nat}{cur:List Value}(na:zcP W vd m hd.node (ds[hd.node]'(by rw[f.h.dl];exact fb.node)) g cur)
  (hk:zcx w B p F (m,⟨(SM.zaU (m.node hd.node).data s.off s.n).2,0,0,(SM.zaU (m.node hd.node).data s.off s.n).1,[],[]⟩) K):
  zdV (pt g (hd.node*5)) W (pt w.heap.size 0) (pt (w.heap.size+1) 0) K:=by
 unfold zdV;have bg:=na.bg;have c2:=na.c2;have bS:=f.S;obtain⟨dat,dat2⟩:=f.h.data fb.node;have hp:=fb.off hop;simp(disch:=first|omega|(simp(disch:=first|omega|fail)only[go_sem,bg,c2,bS]<;>omega)|fail)only[go_sem,bg,c2,bS];have fdl:=fb.data;have f1:=f.drew;refine zkr (zcs dat (by repeat (first|exact Below.refl _ _|assumption|refine zag ?_ (by first|omega|(simp only[go_sem]<;>omega)) _|refine Below.alloc ?_ (by first|omega|(simp only[go_sem]<;>omega)) _|refine Below.drew ?_):Below W.heap.size W W.drew) (Nat.le_refl _)) (by omega) ⟨by omega,by omega⟩ (fb.n hop) λw2 v2 b2 g2 B2=>?_;have f2:=f1.below B2;have lA:=f1.lA;obtain⟨a2,c2',e2⟩:=zay b2;have bA2:=f2.A;have lA2:=zaj bA2;generalize hr:SM.zaU (m.node hd.node).data s.off s.n=r at*;subst e2;simp(disch:=first|omega|(simp(disch:=first|omega|fail)only[go_sem,bA2]<;>omega)|fail)only[go_sem,bA2];obtain⟨e1,e2,e3⟩:=zbG f2.h.toS f2.tr (A:=w.heap.size+1) (by omega) f.nA (AnsV.n (AnsV.data (a:=⟨r.2,0,0,r.1,[],[]⟩) (lo:=w.heap.size+1+1) b2 (λb hb2=>⟨by have h9:=(g2 b hb2).1;omega,(g2 b hb2).2⟩) rfl rfl) λb hb=>by have:=f.lt b hb;omega) (CB (zbq ⟨r.2,0,0,r.1,[],[]⟩ (.slice a2 r.1.length c2') (.slice none 0 0) (.slice none 0 0)) T.ab);exact hk _ _ _ e1 e2 e3
def zto(m:SM.Mem)(hd:SM.Hnd)(s:SM.Stp):Int:=if s.wh=0 then s.off else if s.wh=1 then hd.pos+s.off else if s.wh=2 then(m.node hd.node).data.length+s.off else hd.pos
theorem zta(f:Fc w W B p m F vn va vd q ds hl c hb ρ s v)(hh:SM.hget m.hs k=some hd)(fb:FB m hd s)(hop:s.op<18){g:Nat}{cur:List Value}(na:zcP W vd m hd.node (ds[hd.node]'(by rw[f.h.dl];exact fb.node)) g cur)
  (hk:zcx w B p F (m.setH k {hd with pos:=zto m hd s},⟨0,0,zto m hd s,[],[],[]⟩) K):
  zd7 (pt (hb k) 0) (pt (w.heap.size+1) 0) K (pt w.heap.size 0) W (pt g (hd.node*5)):=by
 unfold zd7;have bh:=(f.h.bh k hd hh).2;have lh:=zaj bh;have bg:=na.bg;have c2:=na.c2;have bS:=f.S;obtain⟨dat,dat2⟩:=f.h.data fb.node;obtain⟨a2,c2',ed⟩:=zay dat;rw[ed]at c2;have hp:=fb.pos;have ho:=fb.off hop;have fdl:=fb.data;obtain⟨P0,eP⟩:∃P0,zto m hd s=P0:=⟨_,rfl⟩;rw[eP]at hk;refine zaa (λt w'=>Fc w w' B p (m.setH k {hd with pos:=P0}) F vn va vd q ds hl c hb ρ s v) ?_ ?_
 ·rintro t e w3 f3;unfold zgI;have bh3:=(f3.h.bh k _ (SM.hget_setH m k _)).2;have bA3:=f3.A;have lA3:=zaj bA3;simp(disch:=first|omega|(simp(disch:=first|omega|fail)only[go_sem,bh3,bA3]<;>omega)|fail)only[go_sem,bh3,bA3];obtain⟨e1,e2,e3⟩:=zbG f3.h.toS f3.tr (A:=w.heap.size+1) (by omega) f.nA (AnsN.plain w3 (w.heap.size+1+1) _ (a:=⟨0,0,P0,[],[],[]⟩) rfl rfl rfl) (CB (zbq ⟨0,0,P0,[],[],[]⟩ (.slice none 0 0) (.slice none 0 0) (.slice none 0 0)) T.ab);exact hk _ _ _ e1 e2 e3
 ·have fin:=f.setH hh {hd with pos:=P0};unfold zto at eP;by_cases c0:s.wh=0
  ·rw[if_pos c0]at eP;subst eP;simp(disch:=first|omega|(simp(disch:=first|omega|fail)only[go_sem,bS,bh]<;>omega)|fail)only[go_sem,bS,bh];exact fin
  ·rw[if_neg c0]at eP;by_cases c1:s.wh=1
   ·rw[if_pos c1]at eP;subst eP;simp(disch:=first|omega|(simp(disch:=first|omega|fail)only[go_sem,bS]<;>omega)|fail)only[go_sem,bS];unfold zdX;simp(disch:=first|omega|(simp(disch:=first|omega|fail)only[go_sem]<;>omega)|fail)only[go_sem];unfold zgK;simp(disch:=first|omega|(simp(disch:=first|omega|fail)only[go_sem,bS,bh]<;>omega)|fail)only[go_sem,bS,bh];exact fin.drew
   ·rw[if_neg c1]at eP;simp(disch:=first|omega|(simp(disch:=first|omega|fail)only[go_sem,bS]<;>omega)|fail)only[go_sem,bS];unfold zdX;simp(disch:=first|omega|(simp(disch:=first|omega|fail)only[go_sem]<;>omega)|fail)only[go_sem];unfold zgA;by_cases c2':s.wh=2
    ·rw[if_pos c2']at eP;subst eP;simp(disch:=first|omega|(simp(disch:=first|omega|fail)only[go_sem]<;>omega)|fail)only[go_sem];unfold zgD;simp(disch:=first|omega|(simp(disch:=first|omega|fail)only[go_sem,bS,bg,c2,bh]<;>omega)|fail)only[go_sem,bS,bg,c2,bh];exact fin.drew
    ·rw[if_neg c2']at eP;subst eP;simp(disch:=first|omega|(simp(disch:=first|omega|fail)only[go_sem]<;>omega)|fail)only[go_sem];have e:setb W (hb k) (CB (hndC hd) T.am)=W:=zeJ bh;rw[e]at fin;exact fin
theorem zs4(f:Fc w W B p m F vn va vd q ds hl c hb ρ s v)(hh:SM.hget m.hs k=some hd)
  (hk:zcx w B p F (if s.op=15 then m.setH k {hd with pos:=s.off}else m,SM.Ans.err 6) K):
  zdS (pt (w.heap.size+1) 0) K (pt w.heap.size 0) W (pt (hb k) 0):=by
 unfold zdS;have bh:=(f.h.bh k hd hh).2;have lh:=zaj bh;have bS:=f.S;obtain⟨m',em⟩:∃m',(if s.op=15 then m.setH k {hd with pos:=s.off}else m)=m':=⟨_,rfl⟩;rw[em]at hk;refine zaa (λt w'=>Fc w w' B p m' F vn va vd q ds hl c hb ρ s v) ?_ ?_
 ·rintro t e w3 f3;unfold zgJ;have bA3:=f3.A;have lA3:=zaj bA3;simp(disch:=first|omega|(simp(disch:=first|omega|fail)only[go_sem,bA3]<;>omega)|fail)only[go_sem,bA3];exact zfD f3 f3.h.toS f3.tr hk
 ·by_cases c0:s.op=15
  ·rw[if_pos c0]at em;simp(disch:=first|omega|(simp(disch:=first|omega|fail)only[go_sem,bS,bh]<;>omega)|fail)only[go_sem,bS,bh];rw[<-em];exact f.setH hh {hd with pos:=s.off}
  ·rw[if_neg c0]at em;simp(disch:=first|omega|(simp(disch:=first|omega|fail)only[go_sem,bS]<;>omega)|fail)only[go_sem,bS];rw[<-em];exact f
end
theorem BS_hi{w:World}{v:Value}{l:List UInt8}(h:BS w v l){q:Nat}(hq:q<=l.length):
  ∃v',BS w v' (l.take q)/\(∀b,v'.ownBlock=some b->v.ownBlock=some b)/\∀(j:IntKind)(L:Value->Prop),pu P (zaE T.ah v none (some (.int j q)) none) L=L v':=by
 rcases h with⟨rfl,a,cap,rfl⟩|⟨b,o,cap,rfl,h3,h4,h5⟩
 ·have hq0:q=0:=by simpa using hq
  subst hq0;refine⟨.slice a 0 cap,.inl ⟨rfl,_,_,rfl⟩,λb hb=>hb,λj L=>?_⟩;cases a with
  |none=>exact zca (by simp only[Instr.sliceAt,Instr.slice,Instr.sliceBounds];simp[zau,zci,zak U.ab,zaB j 0 cap _ (by omega) (by omega),zeX (show(P.info? T.aJ).map (·.size)=some 1 by kernel_rfl)])
  |some ad=>exact zca (by simp only[Instr.sliceAt,Instr.slice,Instr.sliceBounds];simp[zau,zci,zak U.ab,zaB j 0 cap _ (by omega) (by omega),zeX (show(P.info? T.aJ).map (·.size)=some 1 by kernel_rfl)];intro h;simp[Addr.add])
 ·refine⟨sl b o q cap,?_,λb hb=>hb,λj L=>?_⟩
  ·by_cases e:q=0
   ·subst e;exact .inl ⟨by simp,some ⟨b,o,none⟩,cap,rfl⟩
   ·have el:(l.take q).length=q:=by simp;omega
    refine .inr ⟨b,o,cap,by rw[el],by rw[el];omega,?_,h5⟩;unfold rowB at h4⊢;obtain⟨c',t',fz,e1,e2,e3⟩:=za7 h4;rw[e1];simp only[zaY,el];rw[if_pos (by omega)];congr 1;rw[List.map_take,<-e3,List.take_take,Nat.min_eq_left hq]
  ·rw[zeK (size:=1) L U.ab (by kernel_rfl) (by omega) (by omega),Int.toNat_natCast]
section
variable{w W:World}{K:Value->World->Prop}{B p:Nat}{m:SM.Mem}{F:Fp}{vn va vd:Value}{q:Nat}{ds:List Value}{hl:ML Int}{c:Nat}{hb:Int->Nat}{ρ:Nat->Rl}{k:Int}{hd:SM.Hnd}{s:SM.Stp}{v:Value}
theorem Fc.setData{w2:World}{i g:Nat}{cur:List Value}{l:Str}{v2:Value}(f:Fc w W B p m F vn va vd q ds hl c hb ρ s v)(hi:i<m.nodes.length)(na:zcP W vd m i (ds[i]'(by rw[f.h.dl];exact hi)) g cur)
  (b2:Below W.heap.size W w2) (o2:w2.ownsRow W.heap.size T.aJ 1 v2 l.length (l.map byt)):
  ∃F',MemX (setb (setb w2 g (CB (cur.set (i*5+2) v2) T.ag)) g (CB ((cur.set (i*5+2) v2).set (i*5+3) (.int .i64 0)) T.ag)) B p (m.setNode i {m.node i with data:=l,time:=0}) F' vn va vd q ((ds.set i v2).set i v2) hl c hb ρ/\
   Tr w (setb (setb w2 g (CB (cur.set (i*5+2) v2) T.ag)) g (CB ((cur.set (i*5+2) v2).set (i*5+3) (.int .i64 0)) T.ag)) F F'/\
   bk (setb (setb w2 g (CB (cur.set (i*5+2) v2) T.ag)) g (CB ((cur.set (i*5+2) v2).set (i*5+3) (.int .i64 0)) T.ag)) w.heap.size=some (CB (zaC s v) T.ae)/\
   bk (setb (setb w2 g (CB (cur.set (i*5+2) v2) T.ag)) g (CB ((cur.set (i*5+2) v2).set (i*5+3) (.int .i64 0)) T.ag)) (w.heap.size+1)=some (CB ansZ T.ab)/\¬F'.use (w.heap.size+1):=by
 have f2:=f.below b2;have lA:=f.lA;have fr:∀b,v2.ownBlock=some b->W.heap.size<=b/\b<w2.heap.size:=zaW o2;have hm:=f2.h.more (U:=λb=>v2.ownBlock=some b) λb hb=>(fr b hb).2;obtain⟨g2,cur2,n2,n3,n4⟩:=hm.node hi;have eg:g2=g:=Option.some.inj (n2.ob.symm.trans na.ob);subst eg;have lg:g2<W.heap.size:=zaj na.bg;have ec:cur2=cur:=by have e1:=n2.bg;rw[zax b2 lg,na.bg]at e1;injection e1 with e1;injection e1 with e1;simpa using e1.symm
 subst ec;have hnr:∀b,v2.ownBlock=some b->ρ b=.no:=λb hb=>by have h1:=(fr b hb).1;refine Decidable.byContradiction λhn=>?_;have:=f.h.in_ hn;omega
 obtain⟨h3,n5,t3,q1,q2⟩:=hm.store (j:=2) (x:=v2) (n':={m.node i with data:=l}) (d':=v2) hi n2 rfl n3 n4 (by omega) rfl ⟨zlJ o2,λb hb=>⟨.inr hb,hnr b hb⟩⟩;have hi3:i<(m.setNode i {m.node i with data:=l}).nodes.length:=by simpa[SM.Mem.setNode]using hi
 have en:(m.setNode i {m.node i with data:=l}).node i={m.node i with data:=l}:=by rw[zdA hi3];simp[SM.Mem.setNode]
 have ed:((ds.set i v2)[i]'(by rw[h3.dl];exact hi3))=v2:=by simp
 obtain⟨h4,n6,t4,q3,q4⟩:=h3.store (j:=3) (x:=.int .i64 0) (n':={m.node i with data:=l,time:=0}) (d':=v2) hi3 n5 ed.symm q1 q2 (by omega) (by rw[en];rfl) (by have:=h3.data hi3;rw[en,ed]at this;exact this)
 have em:(m.setNode i {m.node i with data:=l}).setNode i {m.node i with data:=l,time:=0}=m.setNode i {m.node i with data:=l,time:=0}:=by unfold SM.Mem.setNode;simp
 rw[em]at h4;have T2:Tr w w2 F ⟨F.own,λb=>F.use b\/v2.ownBlock=some b⟩:=⟨f2.t.kp,λb hb=>⟨λx=>x,λx=>x.elim id λe=>by have:=(fr b e).1;omega⟩⟩;have ng:∀b,w.heap.size<=b->b≠g2:=λb hb e=>by have:=f.lt g2 (f.h.sub _ ((f.h.own _).2 (by rw[f.h.rd _ na.ob];decide)));omega
 refine⟨_,h4,(T2.trans t3).trans t4,?_,?_,λe=>e.elim f.nA λe=>by have:=(fr _ e).1;omega⟩
 ·rw[zao _ _ _ _ (ng _ (Nat.le_refl _)),zao _ _ _ _ (ng _ (Nat.le_refl _))];exact f2.S
 ·rw[zao _ _ _ _ (ng _ (by omega)),zao _ _ _ _ (ng _ (by omega))];exact f2.A
theorem J2_spec(f:Fc w W B p m F vn va vd q ds hl c hb ρ s v)(fb:FB m hd s)(h0:0<=s.off)(h1:s.off<=1099511627776){g:Nat}{cur:List Value}(na:zcP W vd m hd.node (ds[hd.node]'(by rw[f.h.dl];exact fb.node)) g cur)
  (hk:zcx w B p F (m.setNode hd.node {m.node hd.node with data:=SM.grown ((m.node hd.node).data.take (min ((m.node hd.node).data.length:Int) s.off).toNat) s.off,time:=0},SM.Ans.z) K):
  zes (pt g (hd.node*5)) W (pt w.heap.size 0) (pt (w.heap.size+1) 0) K:=by
 unfold zes;have bg:=na.bg;have c2:=na.c2;have bS:=f.S;have f1:=f.drew;obtain⟨dat,dat2⟩:=f1.h.data fb.node;obtain⟨da,dc,ed⟩:=zay dat;have fdl:=fb.data;obtain⟨x,hx⟩:=Int.eq_ofNat_of_zero_le (show 0<=min ((m.node hd.node).data.length:Int) s.off by omega);have hxl:x<=(m.node hd.node).data.length:=by omega
 obtain⟨vh,bh',uh,sh⟩:=BS_hi dat hxl;rw[ed]at sh c2;rw[hx]at hk;rw[Int.toNat_natCast]at hk;simp(disch:=first|omega|(simp(disch:=first|omega|fail)only[go_sem,bg,c2,bS,hx,sh]<;>omega)|fail)only[go_sem,bg,c2,bS,hx,sh];refine zm8 bh' (by simp;omega) h1 λw2 v2 o2 B2=>?_;have f2:=f1.below B2;have bg2:bk w2 g=some (CB cur T.ag):=by rw[zax B2 (show g<W.drew.heap.size from zaj bg)];exact bg
 have lg2:=zaj bg2;have one2:v2.oneCell'=true:=by obtain⟨_,_,rfl⟩:=zan o2;rfl
 have na1:zcP W.drew vd m hd.node (ds[hd.node]'(by rw[f1.h.dl];exact fb.node)) g cur:=⟨na.ob,na.bg,na.len,na.ix,na.row,na.c0,na.c1,na.c2,na.c3,na.c4⟩;obtain⟨F',h3,t3,s3,a3,nA⟩:=f1.setData fb.node na1 B2 o2;have len:=na.len;have hl3:hd.node*5+3<(cur.set (hd.node*5+2) v2).length:=by rw[List.length_set];omega
 simp(disch:=first|omega|(simp(disch:=first|omega|fail)only[go_sem,bg2,one2]<;>omega)|fail)only[go_sem,bg2,one2];generalize setb (setb w2 g (CB (cur.set (hd.node*5+2) v2) T.ag)) g (CB ((cur.set (hd.node*5+2) v2).set (hd.node*5+3) (.int .i64 0)) T.ag)=w3 at*;have lA3:=zaj a3;simp(disch:=first|omega|(simp(disch:=first|omega|fail)only[go_sem,a3]<;>omega)|fail)only[go_sem,a3];obtain⟨e1,e2,e3⟩:=zbG h3.toS t3 (A:=w.heap.size+1) (by omega) nA (AnsN.plain w3 (w.heap.size+1+1) _ (a:=SM.Ans.z) rfl rfl rfl) (CB ansZ T.ab);exact hk _ _ _ e1 e2 e3
theorem J1_spec{w3:World}{m':SM.Mem}{F':Fp}(h3:MemS w3 B p m' F')(t3:Tr w w3 F F')(s3:bk w3 w.heap.size=some (CB (zaC s v) T.ae))(a3:bk w3 (w.heap.size+1)=some (CB ansZ T.ab))(nA:¬F'.use (w.heap.size+1))(hv:∃a c,v=.slice a s.data.length c)
  (hk:zcx w B p F (m',⟨0,s.data.length,0,[],[],[]⟩) K) (t:List Value) (u:Env):zew (pt w.heap.size 0) (pt (w.heap.size+1) 0) K t u w3:=by
 unfold zew;obtain⟨a,c,rfl⟩:=hv;have lA3:=zaj a3;simp(disch:=first|omega|(simp(disch:=first|omega|fail)only[go_sem,s3,a3]<;>omega)|fail)only[go_sem,s3,a3];obtain⟨e1,e2,e3⟩:=zbG h3 t3 (A:=w.heap.size+1) (by omega) nA (AnsN.plain w3 (w.heap.size+1+1) _ (a:=⟨0,s.data.length,0,[],[],[]⟩) rfl rfl rfl) (CB (zbq ⟨0,s.data.length,0,[],[],[]⟩ (.slice none 0 0) (.slice none 0 0) (.slice none 0 0)) T.ab);exact hk _ _ _ e1 e2 e3
theorem zr8(f:Fc w W B p m F vn va vd q ds hl c hb ρ s v){m':SM.Mem}{w3:World}{F':Fp}{ds':List Value}{P0:Int}(hh:SM.hget m.hs k=some hd)(em:SM.hget m'.hs k=some hd)(h3:MemX w3 B p m' F' vn va vd q ds' hl c hb ρ)(t3:Tr w w3 F F')(s3:bk w3 w.heap.size=some (CB (zaC s v) T.ae))(a3:bk w3 (w.heap.size+1)=some (CB ansZ T.ab)):
  MemS (setb w3 (hb k) (CB (hndC {hd with pos:=P0}) T.am)) B p (m'.setH k {hd with pos:=P0}) F'/\Tr w (setb w3 (hb k) (CB (hndC {hd with pos:=P0}) T.am)) F F'/\bk (setb w3 (hb k) (CB (hndC {hd with pos:=P0}) T.am)) w.heap.size=some (CB (zaC s v) T.ae)/\bk (setb w3 (hb k) (CB (hndC {hd with pos:=P0}) T.am)) (w.heap.size+1)=some (CB ansZ T.ab):=by
 obtain⟨h4,t4⟩:=h3.setHnd (hd':={hd with pos:=P0}) em;refine⟨h4.toS,t3.trans t4,?_,?_⟩
 ·rw[zao _ _ _ _ (Ne.symm (f.hne hh (Nat.le_refl _)))];exact s3
 ·rw[zao _ _ _ _ (Ne.symm (f.hne hh (by omega)))];exact a3
theorem J3_spec(f:Fc w W B p m F vn va vd q ds hl c hb ρ s v)(hh:SM.hget m.hs k=some hd)(fb:FB m hd s)(hv:BS W v s.data)(h0:0<=hd.pos)(h1:hd.pos<=1048576){g:Nat}{cur:List Value}(na:zcP W vd m hd.node (ds[hd.node]'(by rw[f.h.dl];exact fb.node)) g cur)
  {kk:List Value->World->Prop} (hk:∀w3 F',MemS w3 B p ((m.setNode hd.node {m.node hd.node with data:=SM.over (m.node hd.node).data hd.pos s.data,time:=0}).setH k {hd with pos:=hd.pos+s.data.length}) F'->Tr w w3 F F'->bk w3 w.heap.size=some (CB (zaC s v) T.ae)->bk w3 (w.heap.size+1)=some (CB ansZ T.ab)->¬F'.use (w.heap.size+1)->kk [] w3):
  zey (pt g (hd.node*5)) W (pt (hb k) 0) (pt w.heap.size 0) kk:=by
 unfold zey;have bg:=na.bg;have c2:=na.c2;have bS:=f.S;have f1:=f.drew;have bh:=(f.h.bh k hd hh).2;obtain⟨dat,dat2⟩:=f1.h.data fb.node;have fdl:=fb.data;have fln:=fb.len;simp(disch:=first|omega|(simp(disch:=first|omega|fail)only[go_sem,bg,c2,bS,bh]<;>omega)|fail)only[go_sem,bg,c2,bS,bh];refine zoN dat (zcs hv (by repeat (first|exact Below.refl _ _|assumption|refine zag ?_ (by first|omega|(simp only[go_sem]<;>omega)) _|refine Below.alloc ?_ (by first|omega|(simp only[go_sem]<;>omega)) _|refine Below.drew ?_):Below W.heap.size W W.drew) (Nat.le_refl _)) fdl h0 (by omega) λw2 v2 o2 B2=>?_;have f2:=f1.below B2;have bg2:bk w2 g=some (CB cur T.ag):=by rw[zax B2 (show g<W.drew.heap.size from zaj bg)];exact bg
 have lg2:=zaj bg2;have one2:v2.oneCell'=true:=by obtain⟨_,_,rfl⟩:=zan o2;rfl
 have na1:zcP W.drew vd m hd.node (ds[hd.node]'(by rw[f1.h.dl];exact fb.node)) g cur:=⟨na.ob,na.bg,na.len,na.ix,na.row,na.c0,na.c1,na.c2,na.c3,na.c4⟩;obtain⟨F',h3,t3,s3,a3,nA⟩:=f1.setData fb.node na1 B2 o2;have len:=na.len;have hl3:hd.node*5+3<(cur.set (hd.node*5+2) v2).length:=by rw[List.length_set];omega
 simp(disch:=first|omega|(simp(disch:=first|omega|fail)only[go_sem,bg2,one2]<;>omega)|fail)only[go_sem,bg2,one2];generalize setb (setb w2 g (CB (cur.set (hd.node*5+2) v2) T.ag)) g (CB ((cur.set (hd.node*5+2) v2).set (hd.node*5+3) (.int .i64 0)) T.ag)=w3 at*;have bh3:=(h3.bh k hd hh).2;have lh3:=zaj bh3;obtain⟨av,cv,ev⟩:=zay hv;rw[ev]at s3;simp(disch:=first|omega|(simp(disch:=first|omega|fail)only[go_sem,bh3,s3]<;>omega)|fail)only[go_sem,bh3,s3];have h3d:=h3.old (by repeat (first|exact Below.refl _ _|assumption|refine zag ?_ (by first|omega|(simp only[go_sem]<;>omega)) _|refine Below.alloc ?_ (by first|omega|(simp only[go_sem]<;>omega)) _|refine Below.drew ?_):Below w3.heap.size w3 w3.drew);rw[<-ev]at s3;obtain⟨r1,r2,r3,r4⟩:=zr8 (P0:=hd.pos+s.data.length) f hh (show SM.hget (m.setNode hd.node _).hs k=some hd from hh) h3d (t3.after (by repeat (first|exact Below.refl _ _|assumption|refine zag ?_ (by first|omega|(simp only[go_sem]<;>omega)) _|refine Below.alloc ?_ (by first|omega|(simp only[go_sem]<;>omega)) _|refine Below.drew ?_))) s3 a3;exact hk _ _ r1 r2 r3 r4 nA
theorem J4_spec(f:Fc w W B p m F vn va vd q ds hl c hb ρ s v)(hh:SM.hget m.hs k=some hd)(fb:FB m hd s)(hv:BS W v s.data)(h0:0<=s.off)(h1:s.off<=1048576){g:Nat}{cur:List Value}(na:zcP W vd m hd.node (ds[hd.node]'(by rw[f.h.dl];exact fb.node)) g cur)
  {kk:List Value->World->Prop} (hk:∀w3 F',MemS w3 B p ((m.setNode hd.node {m.node hd.node with data:=SM.over (m.node hd.node).data s.off s.data,time:=0}).setH k {hd with pos:=s.off+s.data.length}) F'->Tr w w3 F F'->bk w3 w.heap.size=some (CB (zaC s v) T.ae)->bk w3 (w.heap.size+1)=some (CB ansZ T.ab)->¬F'.use (w.heap.size+1)->kk [] w3):
  zer (pt g (hd.node*5)) W (pt w.heap.size 0) (pt (hb k) 0) kk:=by
 unfold zer;have bg:=na.bg;have c2:=na.c2;have bS:=f.S;have f1:=f.drew;have bh:=(f.h.bh k hd hh).2;obtain⟨dat,dat2⟩:=f1.h.data fb.node;have fdl:=fb.data;have fln:=fb.len;simp(disch:=first|omega|(simp(disch:=first|omega|fail)only[go_sem,bg,c2,bS,bh]<;>omega)|fail)only[go_sem,bg,c2,bS,bh];refine zoN dat (zcs hv (by repeat (first|exact Below.refl _ _|assumption|refine zag ?_ (by first|omega|(simp only[go_sem]<;>omega)) _|refine Below.alloc ?_ (by first|omega|(simp only[go_sem]<;>omega)) _|refine Below.drew ?_):Below W.heap.size W W.drew) (Nat.le_refl _)) fdl h0 (by omega) λw2 v2 o2 B2=>?_;have f2:=f1.below B2;have bg2:bk w2 g=some (CB cur T.ag):=by rw[zax B2 (show g<W.drew.heap.size from zaj bg)];exact bg
 have lg2:=zaj bg2;have one2:v2.oneCell'=true:=by obtain⟨_,_,rfl⟩:=zan o2;rfl
 have na1:zcP W.drew vd m hd.node (ds[hd.node]'(by rw[f1.h.dl];exact fb.node)) g cur:=⟨na.ob,na.bg,na.len,na.ix,na.row,na.c0,na.c1,na.c2,na.c3,na.c4⟩;obtain⟨F',h3,t3,s3,a3,nA⟩:=f1.setData fb.node na1 B2 o2;have len:=na.len;have hl3:hd.node*5+3<(cur.set (hd.node*5+2) v2).length:=by rw[List.length_set];omega
 simp(disch:=first|omega|(simp(disch:=first|omega|fail)only[go_sem,bg2,one2]<;>omega)|fail)only[go_sem,bg2,one2];generalize setb (setb w2 g (CB (cur.set (hd.node*5+2) v2) T.ag)) g (CB ((cur.set (hd.node*5+2) v2).set (hd.node*5+3) (.int .i64 0)) T.ag)=w3 at*;have bh3:=(h3.bh k hd hh).2;have lh3:=zaj bh3;obtain⟨av,cv,ev⟩:=zay hv;rw[ev]at s3;simp(disch:=first|omega|(simp(disch:=first|omega|fail)only[go_sem,bh3,s3]<;>omega)|fail)only[go_sem,bh3,s3];rw[<-ev]at s3;obtain⟨r1,r2,r3,r4⟩:=zr8 (P0:=s.off+s.data.length) f hh (show SM.hget (m.setNode hd.node _).hs k=some hd from hh) h3 t3 s3 a3;exact hk _ _ r1 r2 r3 r4 nA
end
structure MB(m:SM.Mem):Prop where
 nn:m.names.length<=999990000
 dn:m.nodes.length<=999990000
 la:m.ats.length=m.names.length
 lt:∀a∈m.ats,a<m.nodes.length
 nl:∀x∈m.names,x.length<=1000000000
 dl:∀n∈m.nodes,n.name.length<=1000000000
theorem MB.node{m:SM.Mem}(h:MB m){i:Nat}(hi:i<m.nodes.length):(m.node i).name.length<=1000000000:=by rw[zdA hi];exact h.dl _ (List.getElem_mem hi)
theorem MB.find{m:SM.Mem}(h:MB m)(h0:0<m.nodes.length)(l:Str):(m.find l).getD 0<m.nodes.length:=by
 cases hf:m.find l with
 |none=>exact h0
 |some x=>exact find_lt h.la h.lt hf
theorem zlW(l:List SM.Info)(i:SM.Info):zf2 (l++[i])=zf2 l++zbs i:=by simp[zf2]
theorem znc(l:List SM.Info):∀u∈zf2 l,u.oneCell'=true:=λu hu=>by obtain⟨c,hc,hu⟩:=List.mem_flatten.1 hu;obtain⟨i,_,rfl⟩:=List.mem_map.1 hc;simp at hu;rcases hu with rfl|rfl|rfl|rfl|rfl<;>rfl
theorem zgO{w:World}{B n size:Nat}{e:TypeId}{v:Value}{xs:List Value}(h:w.ownsRow B e size v n xs):RowS w v n xs:=by
 by_cases h0:n=0
 ·subst h0;obtain⟨a,cap,rfl⟩:=zan h;exact .inr ⟨rfl,by have:=h.1;simpa using this,a,cap,rfl⟩
 ·obtain⟨b,cap,cur,rfl,h1,h2,h3,h4,h5,h6⟩:=zcV h h0;refine .inl ⟨b,0,cap,rfl,?_⟩;have:=h.1;rw[h4,this];simp only[zaY];have h7:n*size<=cap*size:=Nat.mul_le_mul_right _ h1;rw[if_pos (by simp only[List.size_toArray];omega)];simpa using h6
theorem zInfo:(P.info? T.ay).map (λi=>(i.zero,i.size,i.bytes))=some (some (AG (zbs ⟨[],0,0,false,0⟩)),5,48):=by kernel_rfl
section
variable{w W:World}{K:Value->World->Prop}{B p:Nat}{m:SM.Mem}{F:Fp}{vn va vd:Value}{q:Nat}{ds:List Value}{hl:ML Int}{c:Nat}{hb:Int->Nat}{ρ:Nat->Rl}{k:Int}{hd:SM.Hnd}{s:SM.Stp}{v:Value}
theorem zqG(f:Fc w W B p m F vn va vd q ds hl c hb ρ s v)(hh:SM.hget m.hs k=some hd)(fb:FB m hd s)(mb:MB m){x:Value}{l2:List Str}{e:Int}(hx:VS S W x l2)(hxb:∀b,x.ownBlock=some b->w.heap.size+1<b)(hll:l2.length<=999990000)(hln:∀y∈l2,y.length<=1000000000)(u:Env)
  (hk:zcx w B p F (m.setH k {hd with listed:=hd.listed+l2.length},if s.op=20 then⟨e,0,0,[],l2.map SM.base,[]⟩else⟨e,0,0,[],[],l2.map λx=>m.info ((m.find x).getD 0)⟩) K):
  zem (pt (hb k) 0) (pt (w.heap.size+1) 0) K (pt p 0) (pt w.heap.size 0) [x,.int .i64 e] u W:=by
 unfold zem;have bh:=(f.h.bh k hd hh).2;have lh:=zaj bh;obtain⟨ax,cx,ex⟩:=hx.slice;have hls:=fb.lst;have f3:=f.setH hh {hd with listed:=hd.listed+l2.length};have kk:=Kp.setb W (hb k) (CB (hndC {hd with listed:=hd.listed+l2.length}) T.am);have hx3:=hx.kp kk λb hb2 e=>by have:=hxb b hb2;have:=f.lt (hb k) (f.h.sub _ ((f.h.own _).2 (by rw[(f.h.bh k hd hh).1];exactλe=>by cases e)));omega
 rw[gs0];rw[ex];simp(disch:=first|omega|(simp(disch:=first|omega|fail)only[go_sem,bh]<;>omega)|fail)only[go_sem,bh];rw[<-ex];have z3:(setb W (hb k) (CB (hndC {hd with listed:=hd.listed+l2.length}) T.am)).heap.size=W.heap.size:=sZb _ _ _;generalize setb W (hb k) (CB (hndC {hd with listed:=hd.listed+l2.length}) T.am)=W3 at*;obtain⟨W4,e4⟩:∃W4,W4=setb (W3.alloc (CB ansZ T.ab)) W3.heap.size (CB (zbq (SM.Ans.err e) (.slice none 0 0) (.slice none 0 0) (.slice none 0 0)) T.ab):=⟨_,rfl⟩;have B4:Below W3.heap.size W3 W4:=by rw[e4];repeat (first|exact Below.refl _ _|assumption|refine zag ?_ (by first|omega|(simp only[go_sem]<;>omega)) _|refine Below.alloc ?_ (by first|omega|(simp only[go_sem]<;>omega)) _|refine Below.drew ?_)
 have bT:bk W4 W3.heap.size=some (CB (zbq (SM.Ans.err e) (.slice none 0 0) (.slice none 0 0) (.slice none 0 0)) T.ab):=by rw[e4];exact zap _ _ _ _ rfl (by simp only[go_sem];omega)
 rw[<-z3];rw[<-e4];clear e4;have f4:=f3.below B4;have hx4:=hx3.old B4;have l3A:=f3.lA;obtain⟨R,eR⟩:∃R:SM.Ans,(if s.op=20 then(⟨e,0,0,[],l2.map SM.base,[]⟩:SM.Ans)else⟨e,0,0,[],[],l2.map λx=>m.info ((m.find x).getD 0)⟩)=R:=⟨_,rfl⟩;rw[eR]at hk;have hD:({m with hs:=SM.hput m.hs k {hd with listed:=hd.listed+l2.length}}:SM.Mem).nodes=m.nodes:=rfl
 --what has been gathered
 obtain⟨Q,eQ⟩:∃Q:Nat->World->Prop,Q=λi w'=>Below W3.heap.size W3 w'/\∃y z,bk w' W3.heap.size=some (CB [.int .i64 e,.int .i64 0,.int .i64 0,.slice none 0 0,y,z] T.ab)/\
   (s.op=20->w'.ownsRow (W3.heap.size+1) T.string 1 y i (((l2.take i).map SM.base).map S)/\z=.slice none 0 0)/\
   (s.op≠20->w'.ownsRow (W3.heap.size+1) T.ay 5 z i (zf2 ((l2.take i).map λx=>m.info ((m.find x).getD 0)))/\y=.slice none 0 0):=⟨_,rfl⟩
 refine zaa (λt w'=>Q l2.length w') ?_ ?_
 ·rintro t e5 w5 h5;rw[eQ]at h5;obtain⟨B5,y,z,b5,o20,oi⟩:=h5;unfold zhj;have f5:=f3.below B5;have bA5:=f5.A;have lA5:=zaj bA5;rw[List.take_length]at o20 oi;have oy:y.oneCell'=true/\z.oneCell'=true:=by
   by_cases h20:s.op=20
   ·obtain⟨o,rfl⟩:=o20 h20;obtain⟨_,_,rfl⟩:=zan o;exact⟨rfl,rfl⟩
   ·obtain⟨o,rfl⟩:=oi h20;obtain⟨_,_,rfl⟩:=zan o;exact⟨rfl,rfl⟩
  have oy1:=oy.1;have oz1:=oy.2;simp(disch:=first|omega|(simp(disch:=first|omega|fail)only[go_sem,b5,bA5,oy1,oz1]<;>omega)|fail)only[go_sem,b5,bA5,oy1,oz1];have hans:AnsV w5 (w.heap.size+1+1) R (zbq R (.slice none 0 0) y z):=by
   rw[<-eR];by_cases h20:s.op=20
   ·rw[if_pos h20];obtain⟨o,rfl⟩:=o20 h20;refine⟨_,_,_,rfl,zb0 _,?_,zaT _,λb hb2=>?_⟩
    ·show RowS w5 y (l2.map SM.base).length _;rw[List.length_map];exact zgO o
    ·rcases hb2 with h|h|h
     ·cases h
     ·have:=zaW o b h;exact⟨by omega,this.2⟩
     ·cases h
   ·rw[if_neg h20];obtain⟨o,rfl⟩:=oi h20;refine⟨_,_,_,rfl,zb0 _,zaT _,?_,λb hb2=>?_⟩
    ·show RowS w5 z (l2.map λx=>m.info ((m.find x).getD 0)).length _;rw[List.length_map];exact zgO o
    ·rcases hb2 with h|h|h
     ·cases h
     ·cases h
     ·have:=zaW o b h;exact⟨by omega,this.2⟩
  have hR:R.e=e/\R.n=0/\R.off=0:=by rw[<-eR];split<;>exact⟨rfl,rfl,rfl⟩
  obtain⟨e1,e2,e3⟩:=zbG f5.h.toS f5.tr (A:=w.heap.size+1) (by omega) f.nA (hans.n λb hb=>by have:=f.lt b hb;omega) (CB (zbq R (.slice none 0 0) y z) T.ab);have:=hk _ _ _ e1 e2 e3;simp only[zbq,hR]at this;exact this
 ·rw[ex];simp(disch:=first|omega|(simp(disch:=first|omega|fail)only[go_sem]<;>omega)|fail)only[go_sem];rw[<-ex];refine zaA (λt w'=>∃i:Nat,t=[.int .i64 i]/\i<=l2.length/\Q i w') (λt w'=>(l2.length - (intOf (gs t 0))).toNat) ⟨0,rfl,Nat.zero_le _,?_⟩ ?_
  ·rw[eQ];refine⟨B4,_,_,bT,λ_=>⟨zfC _ _ _ _,rfl⟩,λ_=>⟨zfC _ _ _ _,rfl⟩⟩
  ·rintro t u5 w5 ⟨i,rfl,hi,h5⟩;rw[gs0,oLss];refine zaa (λt w'=>w'=w5/\i<l2.length) ?_ ?_
   ·rintro t e5 w6 ⟨rfl,hi1⟩;unfold zhd;have h5':=h5;rw[eQ]at h5';obtain⟨B5,y,z,b5,o20,oi⟩:=h5';have f5:=f3.below B5;have bS5:=f5.S;have hx5:=hx3.old B5;have lT:=zaj b5;have z5:=B5.size;obtain⟨bx,ox,x1,x2,x3,x4⟩:=hx5.idx U.ae (by kernel_rfl) hi1;have lx:=hln l2[i] (List.getElem_mem hi1);refine zaa (λt w'=>Q (i+1) w') ?_ ?_
    ·rintro t e7 w7 h7;unfold zas;simp(disch:=first|omega|(simp(disch:=first|omega|fail)only[go_sem]<;>omega)|fail)only[go_sem];refine⟨⟨i+1,rfl,by omega,h7⟩,?_⟩;simp only[gs0,intOf];omega
    ·rw[gs0,gs0,x4];have lds:∀(L:Value->World->Prop),st P (zab T.string (pt bx ox)) w6 L=L (S l2[i]) w6:=λL=>by rw[M.ak _ _ _ _ (by rw[x3];rfl),x3];rfl
     rw[lds,C.aj];refine zcC f5.h.toS (by have:=mb.nn;show m.names.length<=_;omega) mb.la ?_;by_cases h20:s.op=20
     ·simp(disch:=first|omega|(simp(disch:=first|omega|fail)only[go_sem,bS5]<;>omega)|fail)only[go_sem,bS5];unfold zhi;obtain⟨oy,rfl⟩:=o20 h20;simp(disch:=first|omega|(simp(disch:=first|omega|fail)only[go_sem,b5]<;>omega)|fail)only[go_sem,b5];refine zmr (by omega) ?_;simp(disch:=first|omega|(simp(disch:=first|omega|fail)only[go_sem,b5]<;>omega)|fail)only[go_sem,b5];refine⟨trivial,?_⟩;rw[zbc (z:=S []) _ _ U.ae (by kernel_rfl) rfl];have B7:Below w6.heap.size w6 (w6.drew.alloc (CB [S (SM.base l2[i])] T.string)):=by repeat (first|exact Below.refl _ _|assumption|refine zag ?_ (by first|omega|(simp only[go_sem]<;>omega)) _|refine Below.alloc ?_ (by first|omega|(simp only[go_sem]<;>omega)) _|refine Below.drew ?_)
      have r7:zaY (bk (w6.drew.alloc (CB [S (SM.base l2[i])] T.string)) w6.heap.size) 0 1=some [S (SM.base l2[i])]:=by show zaY (bk (w6.drew.alloc (CB [S (SM.base l2[i])] T.string)) w6.drew.heap.size) 0 1=_;rw[zaf _ _ _ rfl];rfl
      rw[show sl w6.drew.heap.size 0 1 1=sl w6.heap.size 0 1 1 from rfl];generalize w6.drew.alloc (CB [S (SM.base l2[i])] T.string)=w7 at*;have b57:bk w7 W3.heap.size=_:=(zax B7 lT).trans b5;have z7:=B7.size;simp(disch:=first|omega|(simp(disch:=first|omega|fail)only[go_sem,b57]<;>omega)|fail)only[go_sem,b57];refine⟨trivial,?_⟩;refine zbK (z:=S []) (size:=1) (bytes:=16) (news:=[S (SM.base l2[i])]) U.ae zrX rfl (by omega) (zbf oy B7 (Nat.le_refl _)) (.inl ⟨_,_,_,rfl,r7⟩) rfl (λu hu=>by simp at hu;subst hu;rfl) (by simp only[maxLen];omega) (by omega) (by omega) λy8 w8 o8 g8 a8=>?_;have K8:=Kp.of_grown g8;have nT:y.ownBlock≠some W3.heap.size:=λe=>by have:=(zaW oy _ e).1;omega
      have b58:bk w8 W3.heap.size=_:=(K8.block _ (by omega) nT).trans b57;have l8:=zaj b58;have one8:y8.oneCell'=true:=by obtain⟨_,_,rfl⟩:=zan o8;rfl
      simp(disch:=first|omega|(simp(disch:=first|omega|fail)only[go_sem,b58,one8]<;>omega)|fail)only[go_sem,b58,one8];rw[eQ];have B8:Below W3.heap.size W3 w8:=B5.trans ((B7.mono z5).trans (K8.below (λb hb2 e=>by have:=(zaW oy b e).1;omega) (by omega)));have kT:=Kp.setb w8 W3.heap.size (CB [.int .i64 e,.int .i64 0,.int .i64 0,.slice none 0 0,y8,.slice none 0 0] T.ab);refine⟨zag B8 (Nat.le_refl _) _,y8,_,zap _ _ _ _ rfl l8,λ_=>⟨?_,rfl⟩,λh=>absurd h20 h⟩;have o9:=zbI o8 kT λb hb2 e=>by have:=(zaW o8 b hb2).1;omega
      rw[List.take_succ_eq_append_getElem hi1,List.map_append,List.map_append];exact o9
     ·simp(disch:=first|omega|(simp(disch:=first|omega|fail)only[go_sem,bS5]<;>omega)|fail)only[go_sem,bS5];unfold zha;obtain⟨oz,rfl⟩:=oi h20;have h0:0<m.nodes.length:=by have:=fb.node;omega
      have hfl:=mb.find h0 l2[i];simp(disch:=first|omega|(simp(disch:=first|omega|fail)only[go_sem,b5]<;>omega)|fail)only[go_sem,b5];refine zl5 (m:=m.setH k {hd with listed:=hd.listed+l2.length}) (f5.drew.h.toS) hfl (by have:=mb.node hfl;exact Nat.le_trans this (by omega)) λw7 B7'=>?_;have B7:Below w6.heap.size w6 w7:=(by repeat (first|exact Below.refl _ _|assumption|refine zag ?_ (by first|omega|(simp only[go_sem]<;>omega)) _|refine Below.alloc ?_ (by first|omega|(simp only[go_sem]<;>omega)) _|refine Below.drew ?_):Below w6.heap.size w6 w6.drew).trans B7';have b57:bk w7 W3.heap.size=_:=(zax B7 lT).trans b5;have z7:=B7.size;simp(disch:=first|omega|(simp(disch:=first|omega|fail)only[go_sem,b57]<;>omega)|fail)only[go_sem,b57];refine⟨trivial,?_⟩;have ei:SM.Mem.info (m.setH k {hd with listed:=hd.listed+l2.length}) (((m.setH k {hd with listed:=hd.listed+l2.length}).find l2[i]).getD 0)=m.info ((m.find l2[i]).getD 0):=rfl;rw[zbg (z:=AG (zbs ⟨[],0,0,false,0⟩)) (size:=5) _ _ U.ap (by kernel_rfl) (by omega) (by omega) rfl];have B8:Below w7.heap.size w7 (w7.alloc (CB (zbs (m.info ((m.find l2[i]).getD 0))) T.ay)):=by repeat (first|exact Below.refl _ _|assumption|refine zag ?_ (by first|omega|(simp only[go_sem]<;>omega)) _|refine Below.alloc ?_ (by first|omega|(simp only[go_sem]<;>omega)) _|refine Below.drew ?_)
      have r8:zaY (bk (w7.alloc (CB (zbs (m.info ((m.find l2[i]).getD 0))) T.ay)) w7.heap.size) 0 5=some (zbs (m.info ((m.find l2[i]).getD 0))):=by rw[zaf _ _ _ rfl];rfl
      rw[ei];generalize w7.alloc (CB (zbs (m.info ((m.find l2[i]).getD 0))) T.ay)=w8 at*;have b58:bk w8 W3.heap.size=_:=(zax B8 (by omega)).trans b57;have z8:=B8.size;simp(disch:=first|omega|(simp(disch:=first|omega|fail)only[go_sem,b58]<;>omega)|fail)only[go_sem,b58];refine⟨trivial,?_⟩;refine zbK (size:=5) (bytes:=48) (news:=zbs (m.info ((m.find l2[i]).getD 0))) U.ap zInfo rfl (by omega) (zbf (zbf oz B7 (Nat.le_refl _)) B8 (Nat.le_refl _)) (.inl ⟨_,_,_,rfl,r8⟩) rfl (λu hu=>znc [m.info ((m.find l2[i]).getD 0)] u (by simpa[zf2]using hu)) (by simp only[maxLen];omega) (by omega) (by omega) λz9 w9 o9 g9 a9=>?_;have K9:=Kp.of_grown g9;have nT:z.ownBlock≠some W3.heap.size:=λe=>by have:=(zaW oz _ e).1;omega
      have b59:bk w9 W3.heap.size=_:=(K9.block _ (by omega) nT).trans b58;have l9:=zaj b59;have one9:z9.oneCell'=true:=by obtain⟨_,_,rfl⟩:=zan o9;rfl
      simp(disch:=first|omega|(simp(disch:=first|omega|fail)only[go_sem,b59,one9]<;>omega)|fail)only[go_sem,b59,one9];rw[eQ];have B9:Below W3.heap.size W3 w9:=B5.trans ((B7.mono z5).trans ((B8.mono (by omega)).trans (K9.below (λb hb2 e=>by have:=(zaW oz b e).1;omega) (by omega))));have kT:=Kp.setb w9 W3.heap.size (CB [.int .i64 e,.int .i64 0,.int .i64 0,.slice none 0 0,.slice none 0 0,z9] T.ab);refine⟨zag B9 (Nat.le_refl _) _,_,z9,zap _ _ _ _ rfl l9,λh=>absurd h h20,λ_=>⟨?_,rfl⟩⟩;have o10:=zbI o9 kT λb hb2 e=>by have:=(zaW o9 b hb2).1;omega
      rw[List.take_succ_eq_append_getElem hi1,List.map_append,List.map_singleton,zlW];exact o10
   ·by_cases hi1:i<l2.length
    ·simp(disch:=first|omega|(simp(disch:=first|omega|fail)only[go_sem]<;>omega)|fail)only[go_sem];exact⟨trivial,hi1⟩
    ·simp(disch:=first|omega|(simp(disch:=first|omega|fail)only[go_sem]<;>omega)|fail)only[go_sem];have:i=l2.length:=by omega
     subst this;exact h5
end
theorem zon{l:Str}{w:World}{K:Value->World->Prop}(hl:l.length<=140737488355328)(h:K (.int .i64 (match SM.zbk l with|some i=>(i:Int)|none=>-1)) w):Cl P Fn.aC #[S l,.int .u8 47] w K:=by
 apply ze4;unfold zcj;refine zaa (λt w'=>w'=w/\SM.zbk l=none) ?_ ?_
 ·rintro t e w1 ⟨rfl,e1⟩;rw[e1]at h;exact h
 ·rw[V.ai];simp(disch:=first|omega|(simp(disch:=first|omega|fail)only[go_sem]<;>omega)|fail)only[go_sem];refine zaA (λs w'=>w'=w/\∃i:Nat,s=[.int .i64 ((i:Int) - 1)]/\i<=l.length/\SM.ls l i=SM.zbk l) (λs w'=>((intOf (gs s 0))+1).toNat) ?_ ?_
  ·exact⟨rfl,l.length,rfl,Nat.le_refl _,rfl⟩
  ·rintro s u w1 ⟨rfl,i,rfl,hi,hs⟩;refine zaa (λt w'=>w'=w1/\0<i) ?_ ?_
   ·rintro t e w2 ⟨rfl,hi1⟩;obtain⟨j,rfl⟩:∃j,i=j+1:=⟨i - 1,by omega⟩;have ej:((j+1:Nat):Int) - 1=(j:Int):=by omega
    refine zaa (λt w'=>w'=w2/\l.getD j 0≠47) ?_ ?_
    ·rintro t e w3 ⟨rfl,hne⟩;simp(disch:=first|omega|(simp(disch:=first|omega|fail)only[go_sem,ej]<;>omega)|fail)only[go_sem,ej];refine⟨⟨trivial,j,rfl,by omega,?_⟩,?_⟩
     ·rw[<-hs];simp only[SM.ls];rw[if_neg hne]
     ·simp only[gs0,intOf];omega
    ·rw[gs0,ej,zoX _ _ _ _ _ U.string (by omega) (by omega)];rw[Int.toNat_natCast];by_cases hc:l.getD j 0=47
     ·have e1:((l.getD j 0).toNat:Int)=47:=by rw[hc];rfl
      simp(disch:=first|omega|(simp(disch:=first|omega|fail)only[go_sem,e1,decide_true]<;>omega)|fail)only[go_sem,e1,decide_true];have e2:SM.zbk l=some j:=by rw[<-hs];simp only[SM.ls,if_pos hc]
      rw[e2]at h;exact h
     ·have e1:¬((l.getD j 0).toNat:Int)=47:=λe=>hc (UInt8.toNat_inj.1 (by rw[show(47:UInt8).toNat=47 from rfl];omega));simp(disch:=first|omega|(simp(disch:=first|omega|fail)only[go_sem,e1,decide_false]<;>omega)|fail)only[go_sem,e1,decide_false];exact⟨trivial,hc⟩
   ·rw[gs0];by_cases hi1:0<i
    ·simp(disch:=first|omega|(simp(disch:=first|omega|fail)only[go_sem]<;>omega)|fail)only[go_sem];exact⟨trivial,hi1⟩
    ·simp(disch:=first|omega|(simp(disch:=first|omega|fail)only[go_sem]<;>omega)|fail)only[go_sem];refine⟨trivial,?_⟩;have:i=0:=by omega
     subst this;rw[<-hs];rfl
def zeC(l:Str):Str:=match SM.zbk l with|some i=>l.take (i+1)|none=>[]
theorem zhl{l:Str}{w:World}{K:Value->World->Prop}(hl:l.length<=140737488355328)(h:K (tup [S (zeC l),S (SM.base l)]) w.drew):Cl P Fn.ct #[S l] w K:=by
 apply zoH;unfold zk0;rw[C.aA];refine zon hl ?_;cases hs:SM.zbk l with
 |none=>
  have e1:zeC l=[]:=by unfold zeC;rw[hs]
  have e2:SM.base l=l:=by unfold SM.base;rw[hs]
  have e0:(-1:Int)+1=0:=rfl;simp only
  simp(disch:=first|omega|(simp(disch:=first|omega|fail)only[go_sem,e0]<;>omega)|fail)only[go_sem,e0];rw[zel _ _ _ _ _ U.string (by omega) (by omega)];rw[zg3 _ _ _ _ _ U.string (by omega) (by omega)];rw[e1,e2]at h;simpa using h
 |some i=>
  have hi:=SM.zk9 hs;have e1:zeC l=l.take (i+1):=by unfold zeC;rw[hs]
  have e2:SM.base l=l.drop (i+1):=by unfold SM.base;rw[hs]
  simp only
  simp(disch:=first|omega|(simp(disch:=first|omega|fail)only[go_sem]<;>omega)|fail)only[go_sem];rw[zel _ _ _ _ _ U.string (by omega) (by omega)];rw[zg3 _ _ _ _ _ U.string (by omega) (by omega)];rw[e1,e2]at h;have e3:((i:Int)+1).toNat=i+1:=by omega
  rw[e3];exact h
def InfoAt(w:World)(fi:Nat)(i:SM.Info):Prop:=∃d nm a n c md dir mode mt uid gid,bk w fi=some (CB [pt d 0] T.aF)/\bk w d=some (CB [S nm,.slice a n c,md,.bool dir,.int .u32 mode,.int .i64 mt,.int .i64 uid,.int .i64 gid] T.ak)/\
 0<=mode/\mode<=4294967295/\nm.length<=140737488355328/\i=⟨SM.base nm,if dir=true then 42 else(n:Int),mode,dir,mt⟩
theorem InfoAt.old{w w':World}{fi:Nat}{i:SM.Info}(h:InfoAt w fi i)(k:Below w.heap.size w w'):InfoAt w' fi i:=by obtain⟨d,nm,a,n,c,md,dir,mode,mt,uid,gid,h1,h2,h3⟩:=h;exact⟨d,nm,a,n,c,md,dir,mode,mt,uid,gid,(zax k (zaj h1)).trans h1,(zax k (zaj h2)).trans h2,h3⟩
set_option maxHeartbeats 1000000 in
theorem znN{w:World}{K:Value->World->Prop}{fi:Nat}{i:SM.Info}(h:InfoAt w fi i)(hk:∀w',Below w.heap.size w w'->K (AG (zbs i)) w'):Cl P Fn.cX #[pt fi 0] w K:=by
 obtain⟨d,nm,a,n,c,md,dir,mode,mt,uid,gid,h1,h2,h3,h4,h5,rfl⟩:=h;apply zmf;unfold ziB;rw[M.af];have l1:=zaj h1;have l2:=zaj h2;have B1:Below w.heap.size w (w.alloc (CB (zbs ⟨[],0,0,false,0⟩) T.ay)):=by repeat (first|exact Below.refl _ _|assumption|refine zag ?_ (by first|omega|(simp only[go_sem]<;>omega)) _|refine Below.alloc ?_ (by first|omega|(simp only[go_sem]<;>omega)) _|refine Below.drew ?_)
 have bI:bk (w.alloc (CB (zbs ⟨[],0,0,false,0⟩) T.ay)) w.heap.size=some (CB (zbs ⟨[],0,0,false,0⟩) T.ay):=zaf _ _ _ rfl;generalize w.alloc (CB (zbs ⟨[],0,0,false,0⟩) T.ay)=w1 at*;have h1':=(zax B1 l1).trans h1;have h2':=(zax B1 l2).trans h2;rw[C.aT];apply zfW;unfold zde;simp(disch:=first|omega|(simp only[sZb,sZa,sZd]<;>omega)|(simp(disch:=first|omega|(simp only[sZb,sZa,sZd]<;>omega)|fail)only[go_sem,h1',h2'];done)|fail)only[go_sem,zaN,zaL,zaJ,zaM,zaK,w_u8,zaI,Int.reduceToNat,Int.reducePow,Nat.reducePow,h1',h2'];refine zhl h5 ?_;rw[zar,zaq];apply zjN;unfold zfF;have lI:=zaj bI;have isd:∀(w9:World)(L:Value->World->Prop),bk w9 fi=some (CB [pt d 0] T.aF)->bk w9 d=some (CB [S nm,.slice a n c,md,.bool dir,.int .u32 mode,.int .i64 mt,.int .i64 uid,.int .i64 gid] T.ak)->L (.bool dir) w9->Cl P Fn.ao #[pt fi 0] w9 L:=λw9 L q1 q2 q3=>by apply zfp;unfold zcX;simp(disch:=first|omega|(simp only[sZb,sZa,sZd]<;>omega)|(simp(disch:=first|omega|(simp only[sZb,sZa,sZd]<;>omega)|fail)only[go_sem,q1,q2];done)|fail)only[go_sem,zaN,zaL,zaJ,zaM,zaK,w_u8,zaI,Int.reduceToNat,Int.reducePow,Nat.reducePow,q1,q2];exact q3
 have rest:(λt6 w3=>Cl P Fn.aq #[pt fi 0] w3 λt8 w4=>
   pu P (zj8 T.aN T.int t8) λt9=>
   Cl P Fn.ao #[pt fi 0] w4 λt11 w5=>
   Cl P Fn.aB #[pt fi 0] w5 λt13 w6=>
   pu P (zaw T.ay #[(0,S (SM.base nm)),(1,t6),(2,t9),(3,t11),(4,t13)]) λt14=>
   st P (zai T.ay (pt w.heap.size 0) t14) w6 λ_ w7=>
   rsl P T.ay (pt w.heap.size 0) w7 λr1=>
   K (tup [r1]) w7) (.int .i64 (if dir=true then 42 else(n:Int))) w1.drew:=by
  show Cl P Fn.aq #[pt fi 0] w1.drew _;apply zfG;unfold zdi;simp(disch:=first|omega|(simp only[sZb,sZa,sZd]<;>omega)|(simp(disch:=first|omega|(simp only[sZb,sZa,sZd]<;>omega)|fail)only[go_sem,h1',h2'];done)|fail)only[go_sem,zaN,zaL,zaJ,zaM,zaK,w_u8,zaI,Int.reduceToNat,Int.reducePow,Nat.reducePow,h1',h2'];refine isd _ _ h1' h2' ?_;apply zei;unfold zcr;simp(disch:=first|omega|(simp only[sZb,sZa,sZd]<;>omega)|(simp(disch:=first|omega|(simp only[sZb,sZa,sZd]<;>omega)|fail)only[go_sem,h1',h2',bI];done)|fail)only[go_sem,zaN,zaL,zaJ,zaM,zaK,w_u8,zaI,Int.reduceToNat,Int.reducePow,Nat.reducePow,h1',h2',bI];exact hk _ (zag B1.drew (Nat.le_refl _) _)
 by_cases hd:dir=true
 ·refine zaa (λ_ _=>False) (λ_ _ _ h=>h.elim) ?_;rw[C.aC];refine isd _ _ h1' h2' ?_;rw[if_pos hd]at rest;rw[hd,cd_t];exact rest
 ·have hd':dir=false:=by simpa using hd
  rw[if_neg hd]at rest;refine zaa (λt w'=>w'=w1.drew) ?_ ?_
  ·rintro t e w2 rfl;rw[zsP,A.ab,Nat.add_zero];have r:=rest;simp(disch:=first|omega|(simp only[sZb,sZa,sZd]<;>omega)|(simp(disch:=first|omega|(simp only[sZb,sZa,sZd]<;>omega)|fail)only[go_sem,h1',h2'];done)|fail)only[go_sem,zaN,zaL,zaJ,zaM,zaK,w_u8,zaI,Int.reduceToNat,Int.reducePow,Nat.reducePow,h1',h2'];simp(disch:=first|omega|(simp only[sZb,sZa,sZd]<;>omega)|(simp(disch:=first|omega|(simp only[sZb,sZa,sZd]<;>omega)|fail)only[go_sem,h1',h2'];done)|fail)only[go_sem,zaN,zaL,zaJ,zaM,zaK,w_u8,zaI,Int.reduceToNat,Int.reducePow,Nat.reducePow,h1',h2']at r;exact r
  ·rw[C.aC];refine isd _ _ h1' h2' ?_;rw[hd',cd_f]
abbrev ptV(b:Nat):Value:=pt b 0
theorem zeH{w:World}{K:Value->World->Prop}{x:Value}{fs:List Nat}{is:List SM.Info}(hx:VS ptV w x fs)(hn:fs.length<=999990000)(hl:is.length=fs.length)(hi:∀i(h1:i<fs.length)(h2:i<is.length),InfoAt w fs[i] is[i])
  (hk:∀w' v,w'.ownsRow w.heap.size T.ay 5 v is.length (zf2 is)->Below w.heap.size w w'->K v w'):Cl P Fn.bn #[x] w K:=by
 apply zlg;unfold zhR;obtain⟨a,c,ex⟩:=hx.slice;refine zaa (λt w'=>∃v,t=[v]/\w'.ownsRow w.heap.size T.ay 5 v is.length (zf2 is)/\Below w.heap.size w w') ?_ ?_
 ·rintro t e w1 ⟨v,rfl,o1,B1⟩;exact hk w1 v o1 B1
 ·rw[ex];simp(disch:=first|omega|(simp(disch:=first|omega|fail)only[go_sem]<;>omega)|fail)only[go_sem];rw[<-ex];refine zaA (λt w'=>∃v,∃i:Nat,t=[v,.int .i64 i]/\i<=fs.length/\w'.ownsRow w.heap.size T.ay 5 v i (zf2 (is.take i))/\Below w.heap.size w w') (λt w'=>(fs.length - (intOf (gs t 1))).toNat) ⟨_,0,rfl,Nat.zero_le _,zfC _ _ _ _,Below.refl _ _⟩ ?_;rintro t u w1 ⟨v,i,rfl,hi1,o1,B1⟩;rw[gs1,oLss];refine zaa (λt w'=>w'=w1/\i<fs.length) ?_ ?_
  ·rintro t e w2 ⟨rfl,hlt⟩;obtain⟨bx,ox,x1,x2,x3,x4⟩:=(hx.old B1).idx U.ai (by kernel_rfl) hlt;rw[x4];have ld:∀(L:Value->World->Prop),st P (zab T.aG (pt bx ox)) w2 L=L (pt fs[i] 0) w2:=λL=>by rw[M.ae _ _ _ _ (by rw[x3];rfl),x3];rfl
   rw[ld];simp(disch:=first|omega|(simp(disch:=first|omega|fail)only[go_sem]<;>omega)|fail)only[go_sem];refine znN ((hi i hlt (by omega)).old B1) λw3 B3=>?_;rw[zbg (z:=AG (zbs ⟨[],0,0,false,0⟩)) (size:=5) _ _ U.ap (by kernel_rfl) (by omega) (by omega) rfl];have B4:Below w3.heap.size w3 (w3.alloc (CB (zbs (is[i]'(by omega))) T.ay)):=by repeat (first|exact Below.refl _ _|assumption|refine zag ?_ (by first|omega|(simp only[go_sem]<;>omega)) _|refine Below.alloc ?_ (by first|omega|(simp only[go_sem]<;>omega)) _|refine Below.drew ?_)
   have r4:zaY (bk (w3.alloc (CB (zbs (is[i]'(by omega))) T.ay)) w3.heap.size) 0 5=some (zbs (is[i]'(by omega))):=by rw[zaf _ _ _ rfl];rfl
   generalize w3.alloc (CB (zbs (is[i]'(by omega))) T.ay)=w4 at*;have z3:=B3.size;have z4:=B4.size;have z1:=B1.size;have o4:=zbf (zbf o1 B3 (Nat.le_refl _)) B4 (Nat.le_refl _);refine zbK (size:=5) (bytes:=48) (news:=zbs (is[i]'(by omega))) U.ap zInfo rfl (by omega) o4 (.inl ⟨_,_,_,rfl,r4⟩) rfl (λu hu=>znc [is[i]'(by omega)] u (by simpa[zf2]using hu)) (by simp only[maxLen];omega) (by omega) (by omega) λz9 w9 o9 g9 a9=>?_;refine⟨⟨z9,i+1,rfl,by omega,?_,B1.trans ((B3.mono z1).trans ((B4.mono (by omega)).trans (zhz o4 g9 (by omega))))⟩,?_⟩
   ·rw[List.take_succ_eq_append_getElem (by omega),zlW];exact o9
   ·simp only[gs1,intOf];omega
  ·by_cases hlt:i<fs.length
   ·simp(disch:=first|omega|(simp(disch:=first|omega|fail)only[go_sem]<;>omega)|fail)only[go_sem];exact⟨trivial,hlt⟩
   ·simp(disch:=first|omega|(simp(disch:=first|omega|fail)only[go_sem]<;>omega)|fail)only[go_sem];have:i=is.length:=by omega
    subst this;rw[List.take_length]at o1;exact⟨v,rfl,o1,B1⟩
section
variable{w:World}{K:Value->World->Prop}{B f d:Nat}{v x:Value}{s:FX}{m:Nat->Nat×Nat}{l:List UInt8}
theorem zmk(w:World)(C:Nat)(m:Nat->Nat×Nat):ErrV w C m 3 (er (m G.ae)):=.inr (.inl ⟨G.ae,by decide,rfl,(by decide:(3:Int)=zck G.ae)⟩)
def skR(s:FX)(off wh:Int):FX×Int×Int:=if s.cl=true then(s,3,0)else({s with pos:=ziQ s off wh},0,ziQ s off wh)
theorem zty{off wh:Int}(h:FH w B f d v s)(hs:Sn w B m)(h1:-4611686018427387904<=off/\off<=4611686018427387903)(h2:-4611686018427387904<=s.pos/\s.pos<=4611686018427387903)(h3:s.bytes.length<=4611686018427387903)
  (hk:∀w' y,FH w' B f d v (skR s off wh).1->Kp w w' (Of f d v)->ErrV w' w.heap.size m (skR s off wh).2.1 y->K (tup [.int .i64 (skR s off wh).2.2,y]) w'):Cl P Fn.bM #[pt f 0,.int .i64 off,.int .i64 wh] w K:=by
 unfold skR at hk;by_cases hc:s.cl=true
 ·rw[if_pos hc]at hk;apply ziG;unfold zfQ;have hf:=h.bf;refine zaa (λ_ _=>False) (λ_ _ _ h=>h.elim) ?_;obtain⟨q1,t1,e1⟩:=hs.at_ G.ae (by decide);simp(disch:=first|omega|(simp(disch:=first|omega|fail)only[go_sem,hf,hc,e1]<;>omega)|fail)only[go_sem,hf,hc,e1];exact hk _ _ (h.old (by repeat (first|exact Below.refl _ _|assumption|refine zag ?_ (by first|omega|(simp only[go_sem]<;>omega)) _|refine Below.alloc ?_ (by first|omega|(simp only[go_sem]<;>omega)) _|refine Below.drew ?_))) (Kp.drew w _) (zmk _ _ _)
 ·rw[if_neg hc]at hk;exact zrZ h (by simpa using hc) h1 h2 h3 λw' F' K'=>hk w' _ F' K' (.inl ⟨rfl,rfl⟩)
def rdR(s:FX)(n:Nat):FX×List UInt8×Int:=if s.cl=true then(s,[],3)else({s with pos:=s.pos+(rdX s n).1.length},(rdX s n).1,((rdX s n).2:Int))
def raR(s:FX)(off:Int)(n:Nat):List UInt8×Int:=if s.cl=true then([],3)else((rdX {s with pos:=off} n).1,((rdX {s with pos:=off} n).2:Int))
theorem zp3{b n:Nat}(h:FH w B f d v s)(hs:Sn w B m)(h2:s.cl=false->0<=s.pos/\s.pos<=4611686018427387903)(h3:s.bytes.length<=281474976710656)(hn:n<=281474976710656)
  (hb:bk w b=some (CB (List.replicate n (.int .u8 0)) T.aJ)) (hbf:b≠f) (hbd:b≠d) (hbv:v.ownBlock≠some b)
  (hk:∀w' y,FH w' B f d v (rdR s n).1->Kp w w' (λk=>k=f\/k=b)->bk w' b=some (CB ((rdR s n).2.1.map byt++List.replicate (n - (rdR s n).2.1.length) (.int .u8 0)) T.aJ)->ErrV w' w.heap.size m (rdR s n).2.2 y->K (tup [.int .i64 (rdR s n).2.1.length,y]) w'):
  Cl P Fn.bU #[pt f 0,sl b 0 n n] w K:=by
 unfold rdR at hk;by_cases hc:s.cl=true
 ·rw[if_pos hc]at hk;apply ziF;unfold zfM;have hf:=h.bf;refine zaa (λ_ _=>False) (λ_ _ _ h=>h.elim) ?_;obtain⟨q1,t1,e1⟩:=hs.at_ G.ae (by decide);simp(disch:=first|omega|(simp(disch:=first|omega|fail)only[go_sem,hf,hc,e1]<;>omega)|fail)only[go_sem,hf,hc,e1];exact hk _ _ (h.old (by repeat (first|exact Below.refl _ _|assumption|refine zag ?_ (by first|omega|(simp only[go_sem]<;>omega)) _|refine Below.alloc ?_ (by first|omega|(simp only[go_sem]<;>omega)) _|refine Below.drew ?_))) (Kp.drew w _) (by show bk w b=_;simpa using hb) (zmk _ _ _)
 ·rw[if_neg hc]at hk;have hc':s.cl=false:=by simpa using hc
  exact zr9 h hs hc' (h2 hc') h3 hn hb hbf hbd hbv λw' F' K' b'=>hk w' _ F' K' b' (zrB _ _ _ (zr6 s n))
theorem zqL{b n:Nat}{off:Int}(h:FH w B f d v s)(hs:Sn w B m)(h2:0<=off/\off<=4611686018427387903)(h3:s.bytes.length<=281474976710656)(hn:n<=281474976710656)
  (hb:bk w b=some (CB (List.replicate n (.int .u8 0)) T.aJ)) (hbf:b≠f) (hbd:b≠d) (hbv:v.ownBlock≠some b)
  (hk:∀w' y,FH w' B f d v s->Kp w w' (λk=>k=f\/k=b)->bk w' b=some (CB ((raR s off n).1.map byt++List.replicate (n - (raR s off n).1.length) (.int .u8 0)) T.aJ)->ErrV w' w.heap.size m (raR s off n).2 y->K (tup [.int .i64 (raR s off n).1.length,y]) w'):
  Cl P Fn.bV #[pt f 0,sl b 0 n n,.int .i64 off] w K:=by
 unfold raR at hk;by_cases hc:s.cl=true
 ·rw[if_pos hc]at hk;apply zg7;unfold zeB;have hf:=h.bf;obtain⟨l1,l2⟩:=h.lt;simp(disch:=first|omega|(simp(disch:=first|omega|fail)only[go_sem,hf]<;>omega)|fail)only[go_sem,hf];have h5:=h.setPos off;have k5:=Kp.setb w f (CB [.int .i64 off,.int .i64 s.rdc,.bool s.cl,.bool s.ro,pt d 0] T.ao);have s5:Sn (setb w f (CB [.int .i64 off,.int .i64 s.rdc,.bool s.cl,.bool s.ro,pt d 0] T.ao)) B m:=hs.below (k5.below (λx hx e=>by have:=h.hf;omega) (by have:=h.hf;omega));have b5:bk (setb w f (CB [.int .i64 off,.int .i64 s.rdc,.bool s.cl,.bool s.ro,pt d 0] T.ao)) b=some (CB (List.replicate n (.int .u8 0)) T.aJ):=by rw[zao _ _ _ _ hbf];exact hb
  have z5:(setb w f (CB [.int .i64 off,.int .i64 s.rdc,.bool s.cl,.bool s.ro,pt d 0] T.ao)).heap.size=w.heap.size:=sZb _ _ _;generalize setb w f (CB [.int .i64 off,.int .i64 s.rdc,.bool s.cl,.bool s.ro,pt d 0] T.ao)=w1 at*;refine zp3 h5 s5 (λe=>absurd hc (by simpa using e)) h3 hn b5 hbf hbd hbv λw2 y F2 K2 b2 e2=>?_;have er2:rdR {s with pos:=off} n=({s with pos:=off},[],3):=by unfold rdR;rw[if_pos hc]
  rw[er2]at F2 b2 e2⊢;have hf2:=F2.bf;have l3:=zaj hf2;simp(disch:=first|omega|(simp(disch:=first|omega|fail)only[go_sem,hf2]<;>omega)|fail)only[go_sem,hf2];have F3:=F2.setPos s.pos;have k6:=Kp.setb w2 f (CB [.int .i64 s.pos,.int .i64 s.rdc,.bool s.cl,.bool s.ro,pt d 0] T.ao);refine hk _ _ F3 (((zlR k5 λx e=>.inl e).trans K2 λ_ _ h=>h).trans k6 λx hx e=>.inl e) ?_ ?_
  ·rw[zao _ _ _ _ hbf];exact b2
  ·rw[z5]at e2;exact e2.kp k6 λb' h1 h2 e=>by have:=k5.size;omega
 ·rw[if_neg hc]at hk;have hc':s.cl=false:=by simpa using hc
  exact zrY h hs hc' h2 h3 hn hb hbf hbd hbv λw' F' K' b'=>hk w' _ F' K' b' (zrB _ _ _ (zr6 {s with pos:=off} n))
theorem zkX{n:Int}(h:FH w B f d v s)(hd0:s.dir=false)(hk:∀w' y,Below w.heap.size w w'->ErrV w' w.heap.size m 8 y->K (tup [.slice none 0 0,y]) w'):Cl P Fn.aS #[pt f 0,.int .i64 n] w K:=by
 apply zgG;unfold zdN;have hf:=h.bf;have hd:=h.bd;obtain⟨lf,ld⟩:=h.lt;refine zaa (λ_ _=>False) (λ_ _ _ h=>h.elim) ?_;simp(disch:=first|omega|(simp(disch:=first|omega|fail)only[go_sem,hf,hd,hd0]<;>omega)|fail)only[go_sem,hf,hd,hd0];unfold zfq;simp(disch:=first|omega|(simp(disch:=first|omega|fail)only[go_sem,hf,hd]<;>omega)|fail)only[go_sem,hf,hd];refine znI ?_;simp(disch:=first|omega|(simp(disch:=first|omega|fail)only[go_sem,hf,hd,zk7]<;>omega)|fail)only[go_sem,hf,hd,zk7];refine⟨trivial,trivial,?_⟩;obtain⟨W2,e2⟩:∃W2,W2=(w.drew.alloc (CB [S [110,111,116,32,97,32,100,105,114]] T.aI)).alloc (CB [S [114,101,97,100,100,105,114],S s.nm,er (w.heap.size,0)] T.au):=⟨_,rfl⟩;have b1:bk W2 w.heap.size=some (CB [S [110,111,116,32,97,32,100,105,114]] T.aI):=by rw[e2,zat _ _ _ (by simp only[go_sem];omega)];exact zaf _ _ _ rfl
 have b2:bk W2 (w.heap.size+1)=some (CB [S [114,101,97,100,100,105,114],S s.nm,er (w.heap.size,0)] T.au):=by rw[e2];exact zaf _ _ _ (by simp only[go_sem])
 have BB:Below w.heap.size w W2:=by rw[e2];repeat (first|exact Below.refl _ _|assumption|refine zag ?_ (by first|omega|(simp only[go_sem]<;>omega)) _|refine Below.alloc ?_ (by first|omega|(simp only[go_sem]<;>omega)) _|refine Below.drew ?_)
 have:=hk W2 _ BB (zsk b1 b2);rw[e2]at this;exact this
theorem zmJ{n:Int}(h:FH w B f d v s)(hd0:s.dir=false)(hk:∀w' y z,Below w.heap.size w w'->ErrV w' w.heap.size m 8 y->RowS w' z 0 []->(∀b,z.ownBlock=some b->w.heap.size<=b/\b<w'.heap.size)->K (tup [z,y]) w'):Cl P Fn.aF #[pt f 0,.int .i64 n] w K:=by
 apply zdI;unfold zch;rw[C.aK];refine zkX (m:=m) h hd0 λw1 y B1 e1=>?_;simp(disch:=first|omega|(simp(disch:=first|omega|fail)only[go_sem]<;>omega)|fail)only[go_sem];rw[zru (z:=S []) U.ae zrX rfl 0 (by omega) (by omega)];refine zaa (λt w'=>w'=w1.alloc (CB [] T.string)) ?_ ?_
 ·rintro t e w2 rfl;have B2:Below w1.heap.size w1 (w1.alloc (CB [] T.string)):=by repeat (first|exact Below.refl _ _|assumption|refine zag ?_ (by first|omega|(simp only[go_sem]<;>omega)) _|refine Below.alloc ?_ (by first|omega|(simp only[go_sem]<;>omega)) _|refine Below.drew ?_)
  refine hk _ y _ (B1.trans (B2.mono B1.size)) (e1.old B2) (.inr ⟨rfl,rfl,_,_,rfl⟩) λb hb=>?_;have h9:w1.heap.size=b:=Option.some.inj hb;have:=B1.size;simp only[go_sem];omega
 ·refine zaA (λt w'=>t=[.int .i64 0]/\w'=w1.alloc (CB [] T.string)) (λ_ _=>0) ⟨rfl,rfl⟩ ?_;rintro t u w2 ⟨rfl,rfl⟩;rw[gs0,oLss];refine zaa (λ_ _=>False) (λ_ _ _ h=>h.elim) ?_;simp(disch:=first|omega|(simp(disch:=first|omega|fail)only[go_sem]<;>omega)|fail)only[go_sem]
end
def want(n:Int):Nat:=(max 0 (min n 1048576)).toNat
def znJ(s:FX):SM.Info:=⟨SM.base s.nm,if s.dir=true then 42 else(s.bytes.length:Int),s.mode,s.dir,s.mt⟩
def onX(s:FX)(q:SM.Stp):FX×SM.Ans:=
 if q.op=12 then((rdR s (want q.n)).1,⟨(rdR s (want q.n)).2.2,0,0,(rdR s (want q.n)).2.1,[],[]⟩)
 else if q.op=13 then(s,⟨(raR s q.off (want q.n)).2,0,0,(raR s q.off (want q.n)).1,[],[]⟩)
 else if q.op=14 then((wrR s q.data).1,⟨(wrR s q.data).2.1,(wrR s q.data).2.2,0,[],[],[]⟩)
 else if q.op=15 then((wrR {s with pos:=q.off} q.data).1,⟨(wrR {s with pos:=q.off} q.data).2.1,(wrR {s with pos:=q.off} q.data).2.2,0,[],[],[]⟩)
 else if q.op=16 then((skR s q.off q.wh).1,⟨(skR s q.off q.wh).2.1,0,(skR s q.off q.wh).2.2,[],[],[]⟩)
 else if q.op=17 then((trR s q.off).1,⟨(trR s q.off).2,0,0,[],[],[]⟩)
 else if q.op=18 then(clR s,SM.Ans.z)
 else if q.op=19 then(s,SM.Ans.err 8)
 else if q.op=20 then(s,SM.Ans.err 8)
 else if q.op=21 then(s,⟨0,0,0,[],[],[znJ s]⟩)
 else if q.op=22 then(s,⟨0,0,0,[],[s.nm],[]⟩)
 else(s,SM.Ans.z)
structure OkX(s:FX)(q:SM.Stp):Prop where
 op:12<=q.op/\q.op<=23
 dir:q.op=19\/q.op=20->s.dir=false
 len:s.bytes.length<=281474976710
 nm:s.nm.length<=140737488355328
 mode:0<=s.mode/\s.mode<=4294967295
 dat:q.data.length<=281474976710
 off:q.op<18->-4611686018427387904<=q.off/\q.off<=4611686018427387903
 pos:-4611686018427387904<=s.pos/\s.pos<=4611686018427387903
 rd:q.op=12->s.cl=false->0<=s.pos
 ra:q.op=13->0<=q.off
 wr:q.op=14->s.cl=false->s.ro=false->0<=s.pos/\s.pos<=281474976710
 wa:q.op=15->s.cl=false->s.ro=false->0<=q.off/\q.off<=281474976710
 tr:q.op=17->q.off<=281474976710
structure AnsP(w:World)(lo:Nat)(U:Nat->Prop)(a:SM.Ans)(x y z:Value):Prop where
 hx:BS w x a.data
 hy:RowS w y a.names.length (a.names.map S)
 hz:RowS w z a.infos.length (zf2 a.infos)
 ho:∀b,(x.ownBlock=some b\/y.ownBlock=some b\/z.ownBlock=some b)->lo<=b/\b<w.heap.size/\¬U b
theorem AnsP.n{w:World}{lo:Nat}{U:Nat->Prop}{a:SM.Ans}{x y z:Value}(h:AnsP w lo U a x y z):AnsN w lo U a (zbq a x y z):=⟨_,_,_,rfl,h.hx,h.hy,h.hz,h.ho⟩
theorem AnsP.kp{w w':World}{lo:Nat}{U:Nat->Prop}{a:SM.Ans}{x y z:Value}{R:Nat->Prop}(h:AnsP w lo U a x y z)(k:Kp w w' R)(hR:∀b,lo<=b->b<w.heap.size->¬U b->¬R b):AnsP w' lo U a x y z:=by have g:∀b,(x.ownBlock=some b\/y.ownBlock=some b\/z.ownBlock=some b)->¬R b:=λb hb=>hR b (h.ho b hb).1 (h.ho b hb).2.1 (h.ho b hb).2.2;exact⟨zlc h.hx k λb hb=>g b (.inl hb),h.hy.kp k λb hb=>g b (.inr (.inl hb)),h.hz.kp k λb hb=>g b (.inr (.inr hb)),λb hb=>⟨(h.ho b hb).1,Nat.lt_of_lt_of_le (h.ho b hb).2.1 k.size,(h.ho b hb).2.2⟩⟩
theorem AnsP.plain(w:World)(lo:Nat)(U:Nat->Prop){a:SM.Ans}(h1:a.data=[])(h2:a.names=[])(h3:a.infos=[]):AnsP w lo U a (.slice none 0 0) (.slice none 0 0) (.slice none 0 0):=⟨by rw[h1];exact zb0 w,by rw[h2];exact zaT w,by rw[h3];exact zaT w,λb hb=>by rcases hb with h|h|h<;>cases h⟩
theorem zaX{w:World}{x:Value}{m:Nat}{l:List Value}(h:RowS w x m l):∃a c,x=.slice a m c:=by
 rcases h with⟨b,o,c,rfl,_⟩|⟨rfl,_,a,c,rfl⟩
 ·exact⟨_,_,rfl⟩
 ·exact⟨_,_,rfl⟩
structure OnS(w w1:World)(B f d:Nat)(v:Value)(m:Nat->Nat×Nat)(s:FX)(q:SM.Stp)(x:Value):Prop where
 h:FH w1 B f d v s
 sn:Sn w1 B m
 b0:Below w.heap.size w w1
 sz:w1.heap.size=w.heap.size+3
 bs:bk w1 w.heap.size=some (CB (zaC q x) T.ae)
 b4:bk w1 (w.heap.size+1)=some (CB ansZ T.ab)
 b5:bk w1 (w.heap.size+1+1)=some (CB ansZ T.ab)
 lf:f<w.heap.size
 ld:d<w.heap.size
 lv:∀k,v.ownBlock=some k->k<w.heap.size
def OnJ(w:World)(B f d:Nat)(v:Value)(m:Nat->Nat×Nat)(s':FX)(a:SM.Ans)(t:List Value)(w':World):Prop:=
 ∃y x1 x2 x3 v',t=[y]/\FH w' B f d v' s'/\Kp w w' (Of f d v)/\(v'.ownBlock=v.ownBlock\/∀k,v'.ownBlock=some k->w.heap.size+3<=k)/\
  bk w' (w.heap.size+1+1)=some (CB (zbq {a with e:=0} x1 x2 x3) T.ab)/\bk w' (w.heap.size+1)=some (CB ansZ T.ab)/\AnsP w' (w.heap.size+3) (Of f d v') a x1 x2 x3/\ErrV w' (w.heap.size+3) m a.e y/\Sn w' B m
abbrev OnK(w:World)(B f d:Nat)(v:Value)(r:FX×SM.Ans)(K:Value->World->Prop):Prop:=∀w' v' c,FH w' B f d v' r.1->Kp w w' (Of f d v)->zmM w v v'->AnsN w' w.heap.size (Of f d v') r.2 c->K (AG c) w'
section
variable{w w1:World}{K:Value->World->Prop}{B f d:Nat}{v:Value}{m:Nat->Nat×Nat}{s:FX}{q:SM.Stp}{x:Value}
theorem OnS.nOf(o:OnS w w1 B f d v m s q x){k:Nat}(hk:w.heap.size<=k):¬Of f d v k:=by
 rintro(e|e|e)
 ·have:=o.lf;omega
 ·have:=o.ld;omega
 ·have:=o.lv k e;omega
theorem OnS.hB(o:OnS w w1 B f d v m s q x):B<=w.heap.size:=by have:=o.h.hf;have:=o.lf;omega
theorem OnS.kb(o:OnS w w1 B f d v m s q x){w2:World}{R:Nat->Prop}(k2:Kp w1 w2 R)(hR:∀x,x<w1.heap.size->R x->Of f d v x):
  bk w2 w.heap.size=some (CB (zaC q x) T.ae)/\bk w2 (w.heap.size+1)=some (CB ansZ T.ab)/\bk w2 (w.heap.size+1+1)=some (CB ansZ T.ab):=by
 have z:=o.sz;refine⟨?_,?_,?_⟩
 ·rw[k2.block _ (by omega) λe=>o.nOf (by omega) (hR _ (by omega) e)];exact o.bs
 ·rw[k2.block _ (by omega) λe=>o.nOf (by omega) (hR _ (by omega) e)];exact o.b4
 ·rw[k2.block _ (by omega) λe=>o.nOf (by omega) (hR _ (by omega) e)];exact o.b5
theorem OnS.put(o:OnS w w1 B f d v m s q x){w2:World}{R:Nat->Prop}{v':Value}{s':FX}{a:SM.Ans}{y x1 x2 x3:Value}(F2:FH w2 B f d v' s')(k2:Kp w1 w2 R)(hR:∀x,x<w1.heap.size->R x->Of f d v x)
  (O2:zmM w1 v v') (e2:ErrV w2 w1.heap.size m a.e y) (a2:AnsP w2 w1.heap.size (Of f d v') a x1 x2 x3):
  OnJ w B f d v m s' a [y] (setb w2 (w.heap.size+1+1) (CB (zbq {a with e:=0} x1 x2 x3) T.ab)):=by
 obtain⟨g1,g2,g3⟩:=o.kb k2 hR;have z:=o.sz;have hB:=o.hB;have ks:=Kp.setb w2 (w.heap.size+1+1) (CB (zbq {a with e:=0} x1 x2 x3) T.ab);have kk:Kp w w2 (Of f d v):=(Kp.of_below o.b0 _).trans k2 λx hx e=>hR x (by omega) e;have n5:v'.ownBlock≠some (w.heap.size+1+1):=λe=>by
  rcases O2 with h|h
  ·rw[h]at e;have:=o.lv _ e;omega
  ·have:=h _ e;omega
 refine⟨y,x1,x2,x3,v',rfl,F2.kept ks λx hx e=>?_,kk.trans ks λx hx e=>by omega,?_,zap _ _ _ _ rfl (zaj g3),?_,?_,?_,?_⟩
 ·subst e;rcases hx with e|e|e
  ·have:=o.lf;omega
  ·have:=o.ld;omega
  ·exact n5 e
 ·rcases O2 with h|h
  ·exact .inl h
  ·exact .inr λk hk=>by have:=h k hk;omega
 ·rw[zao _ _ _ _ (by omega)];exact g2
 ·rw[<-z];exact a2.kp ks λb h1 h2 _ e=>by omega
 ·rw[<-z];exact e2.kp ks λb h1 h2 e=>by omega
 ·refine o.sn.below ?_;have q1:=k2.below (B:=B) (λx hx e=>?_) (by omega)
  ·exact zag q1 (by omega) _
  ·rcases hR x (by omega) e with h|h|h
   ·have:=o.h.hf;omega
   ·have:=o.h.hd;omega
   ·have:=(zeS o.h.own x h).1;omega
theorem zrG{s':FX}{a:SM.Ans}{t:List Value}{u:Env}{w':World}(o:OnS w w1 B f d v m s q x)(j:OnJ w B f d v m s' a t w')(hk:OnK w B f d v (s',a) K):zjX (pt (w.heap.size+1+1) 0) (pt (w.heap.size+1) 0) K t u w':=by
 obtain⟨y,x1,x2,x3,v',rfl,F2,K2,O2,k5,k4,a2,e2,sn⟩:=j;unfold zjX;rw[gs0,C.bz];refine zp7 sn (by have:=o.hB;omega) e2 ?_;obtain⟨p1,c1,rfl⟩:=zay a2.hx;obtain⟨p2,c2,rfl⟩:=zaX a2.hy;obtain⟨p3,c3,rfl⟩:=zaX a2.hz;have l5:=zaj k5;have l4:=zaj k4;simp(disch:=first|omega|(simp only[sZb,sZa,sZd]<;>omega)|(simp(disch:=first|omega|(simp only[sZb,sZa,sZd]<;>omega)|fail)only[go_sem,k5,k4];done)|fail)only[go_sem,zaN,zaL,zaJ,zaM,zaK,w_u8,zaI,Int.reduceToNat,Int.reducePow,Nat.reducePow,k5,k4];generalize hO5:CB [.int .i64 a.e,_,_,_,_,_] T.ab=O5;have s1:=Kp.setb w' (w.heap.size+1+1) O5;have s2:=Kp.setb (setb w' (w.heap.size+1+1) O5) (w.heap.size+1) O5;have nv:∀k,w.heap.size<=k->k<w.heap.size+3->¬Of f d v' k:=λk h1 h2=>by
  rintro(e|e|e)
  ·have:=o.lf;omega
  ·have:=o.ld;omega
  ·rcases O2 with h|h
   ·rw[h]at e;have:=o.lv _ e;omega
   ·have:=h _ e;omega
 refine hk _ v' _ ((F2.kept s1 λx hx e=>nv x (by omega) (by omega) hx).kept s2 λx hx e=>nv x (by omega) (by omega) hx) ((K2.trans s1 λx hx e=>by omega).trans s2 λx hx e=>by omega) ?_ ?_
 ·rcases O2 with h|h
  ·exact .inl h
  ·exact .inr λk hk=>by have:=h k hk;omega
 ·exact(((a2.kp s1 λb h1 h2 _ e=>by omega).kp s2 λb h1 h2 _ e=>by omega).n).less (by omega)
end
section
variable{w w1:World}{K:Value->World->Prop}{B f d:Nat}{v:Value}{m:Nat->Nat×Nat}{s:FX}{q:SM.Stp}{x:Value}{k1:List Value->World->Prop}
theorem zt7{w2:World}{b n:Nat}{l:List UInt8}(hb:bk w2 b=some (CB (l.map byt++List.replicate (n - l.length) (.int .u8 0)) T.aJ))(hl:l.length<=n):BS w2 (sl b 0 l.length n) l:=by refine .inr ⟨b,0,n,rfl,hl,?_,zaj hb⟩;unfold rowB;rw[hb];simp only[zaY];rw[if_pos (by simp only[List.size_toArray,List.length_append,List.length_map,List.length_replicate];omega)];simp
theorem rdR_len(s:FX)(n:Nat):(rdR s n).2.1.length<=n:=by
 unfold rdR;split
 ·simp
 ·exact(zsh s n).1
theorem raR_len(s:FX)(off:Int)(n:Nat):(raR s off n).1.length<=n:=by
 unfold raR;split
 ·simp
 ·exact(zsh {s with pos:=off} n).1
theorem on2(o:OnS w w1 B f d v m s q x)(g:OkX s q)(hop:q.op=12)(hk:∀t w',OnJ w B f d v m (rdR s (want q.n)).1 ⟨(rdR s (want q.n)).2.2,0,0,(rdR s (want q.n)).2.1,[],[]⟩ t w'->k1 t w'):zj0 (pt w.heap.size 0) w1 (pt f 0) (pt (w.heap.size+1+1) 0) k1:=by
 unfold zj0;have ew:(max 0 (min q.n 1048576):Int)=(want q.n:Nat):=by unfold want;omega
 have hwl:want q.n<=1048576:=by unfold want;omega
 have hbs:=o.bs;have hz:=o.sz;have hrl:=rdR_len s (want q.n);generalize want q.n=N at*;simp(disch:=first|omega|(simp(disch:=first|omega|fail)only[go_sem,hbs,ew]<;>omega)|fail)only[go_sem,hbs,ew];rw[oMkB U.ab (by kernel_rfl) N (by omega)];have B2:Below w1.heap.size w1 (w1.alloc (CB (List.replicate N (.int .u8 0)) T.aJ)):=by repeat (first|exact Below.refl _ _|assumption|refine zag ?_ (by first|omega|(simp only[go_sem]<;>omega)) _|refine Below.alloc ?_ (by first|omega|(simp only[go_sem]<;>omega)) _|refine Below.drew ?_)
 have e2:bk (w1.alloc (CB (List.replicate N (.int .u8 0)) T.aJ)) w1.heap.size=some (CB (List.replicate N (.int .u8 0)) T.aJ):=zaf _ _ _ rfl;have z2:(w1.alloc (CB (List.replicate N (.int .u8 0)) T.aJ)).heap.size=w1.heap.size+1:=by simp only[go_sem]
 generalize w1.alloc (CB (List.replicate N (.int .u8 0)) T.aJ)=w2 at*;have lf:=o.lf;have ld:=o.ld;have sn2:Sn w2 B m:=o.sn.below (B2.mono (by have:=o.hB;omega));refine zp3 (m:=m) (o.h.old B2) sn2 (λh=>⟨g.rd hop h,g.pos.2⟩) (by have:=g.len;omega) (by omega) e2 (by omega) (by omega) (λe=>by have:=o.lv _ e;omega) λw3 y F3 K3 b3 e3=>?_;have hR:∀y,y<w1.heap.size->(y=f\/y=w1.heap.size)->Of f d v y:=λy hy h=>by
  rcases h with h|h
  ·exact .inl h
  ·omega
 have K13:Kp w1 w3 (λk=>k=f\/k=w1.heap.size):=(Kp.of_below B2 _).trans K3 λ_ _ h=>h;obtain⟨_,_,k5⟩:=o.kb K13 hR;have l5:=zaj k5;have sh:∀(L:Value->Prop),pu P (zaE T.ah (sl w1.heap.size 0 N N) none (some (.int .i64 (rdR s N).2.1.length)) none) L=L (sl w1.heap.size 0 (rdR s N).2.1.length N):=λL=>by rw[zeK (size:=1) L U.ab (by kernel_rfl) (by omega) (by omega)];rw[Int.toNat_natCast]
 simp(disch:=first|omega|(simp(disch:=first|omega|fail)only[go_sem,k5,sh]<;>omega)|fail)only[go_sem,k5,sh];refine hk _ _ (o.put F3 K13 hR (.inl rfl) (e3.less (by omega)) ⟨zt7 b3 hrl,zaT _,zaT _,λb hb=>?_⟩);rcases hb with h|h|h
 ·have h9:w1.heap.size=b:=Option.some.inj h;subst h9;refine⟨Nat.le_refl _,zaj b3,?_⟩;rintro(e|e|e)
  ·omega
  ·omega
  ·have:=o.lv _ e;omega
 ·cases h
 ·cases h
theorem on3(o:OnS w w1 B f d v m s q x)(g:OkX s q)(hop:q.op=13)(hk:∀t w',OnJ w B f d v m s ⟨(raR s q.off (want q.n)).2,0,0,(raR s q.off (want q.n)).1,[],[]⟩ t w'->k1 t w'):zjU (pt w.heap.size 0) w1 (pt f 0) (pt (w.heap.size+1+1) 0) k1:=by
 unfold zjU;have ew:(max 0 (min q.n 1048576):Int)=(want q.n:Nat):=by unfold want;omega
 have hwl:want q.n<=1048576:=by unfold want;omega
 have hbs:=o.bs;have hz:=o.sz;have hrl:=raR_len s q.off (want q.n);generalize want q.n=N at*;simp(disch:=first|omega|(simp(disch:=first|omega|fail)only[go_sem,hbs,ew]<;>omega)|fail)only[go_sem,hbs,ew];rw[oMkB U.ab (by kernel_rfl) N (by omega)];have B2:Below w1.heap.size w1 (w1.alloc (CB (List.replicate N (.int .u8 0)) T.aJ)):=by repeat (first|exact Below.refl _ _|assumption|refine zag ?_ (by first|omega|(simp only[go_sem]<;>omega)) _|refine Below.alloc ?_ (by first|omega|(simp only[go_sem]<;>omega)) _|refine Below.drew ?_)
 have e2:bk (w1.alloc (CB (List.replicate N (.int .u8 0)) T.aJ)) w1.heap.size=some (CB (List.replicate N (.int .u8 0)) T.aJ):=zaf _ _ _ rfl;have z2:(w1.alloc (CB (List.replicate N (.int .u8 0)) T.aJ)).heap.size=w1.heap.size+1:=by simp only[go_sem]
 have hbs2:=(zax B2 (by omega:w.heap.size<w1.heap.size)).trans hbs;generalize w1.alloc (CB (List.replicate N (.int .u8 0)) T.aJ)=w2 at*;have lf:=o.lf;have ld:=o.ld;have sn2:Sn w2 B m:=o.sn.below (B2.mono (by have:=o.hB;omega));simp(disch:=first|omega|(simp(disch:=first|omega|fail)only[go_sem,hbs2]<;>omega)|fail)only[go_sem,hbs2];refine zqL (m:=m) (o.h.old B2) sn2 ⟨g.ra hop,(g.off (by omega)).2⟩ (by have:=g.len;omega) (by omega) e2 (by omega) (by omega) (λe=>by have:=o.lv _ e;omega) λw3 y F3 K3 b3 e3=>?_;have hR:∀y,y<w1.heap.size->(y=f\/y=w1.heap.size)->Of f d v y:=λy hy h=>by
  rcases h with h|h
  ·exact .inl h
  ·omega
 have K13:Kp w1 w3 (λk=>k=f\/k=w1.heap.size):=(Kp.of_below B2 _).trans K3 λ_ _ h=>h;obtain⟨_,_,k5⟩:=o.kb K13 hR;have l5:=zaj k5;have sh:∀(L:Value->Prop),pu P (zaE T.ah (sl w1.heap.size 0 N N) none (some (.int .i64 (raR s q.off N).1.length)) none) L=L (sl w1.heap.size 0 (raR s q.off N).1.length N):=λL=>by rw[zeK (size:=1) L U.ab (by kernel_rfl) (by omega) (by omega)];rw[Int.toNat_natCast]
 simp(disch:=first|omega|(simp(disch:=first|omega|fail)only[go_sem,k5,sh]<;>omega)|fail)only[go_sem,k5,sh];refine hk _ _ (o.put F3 K13 hR (.inl rfl) (e3.less (by omega)) ⟨zt7 b3 hrl,zaT _,zaT _,λb hb=>?_⟩);rcases hb with h|h|h
 ·have h9:w1.heap.size=b:=Option.some.inj h;subst h9;refine⟨Nat.le_refl _,zaj b3,?_⟩;rintro(e|e|e)
  ·omega
  ·omega
  ·have:=o.lv _ e;omega
 ·cases h
 ·cases h
theorem zjh{w:World}{B:Nat}{x:Value}{n:Nat}{xs:List Value}(o:w.ownsRow B T.aJ 1 x n xs){k:Nat}(hk:k<B):x.ownBlock≠some k:=λe=>by have:=(zeS o k e).1;omega
theorem on4(o:OnS w w1 B f d v m s q x)(g:OkX s q)(hop:q.op=14)(hx:BS w1 x q.data)(hk:∀t w',OnJ w B f d v m (wrR s q.data).1 ⟨(wrR s q.data).2.1,(wrR s q.data).2.2,0,[],[],[]⟩ t w'->k1 t w'):zjV (pt w.heap.size 0) w1 (pt f 0) (pt (w.heap.size+1+1) 0) k1:=by
 unfold zjV;have hbs:=o.bs;have hz:=o.sz;have lf:=o.lf;have ld:=o.ld;have hq:q.data.length<=281474976710:=g.dat;simp(disch:=first|omega|(simp(disch:=first|omega|fail)only[go_sem,hbs]<;>omega)|fail)only[go_sem,hbs];refine zrl U.ab (by kernel_rfl) hx (by omega) λx2 w2 o2 b2=>?_;have z2:=b2.size;refine zoy (m:=m) (o.h.old b2) (o.sn.below (b2.mono (by have:=o.hB;omega))) (zlJ o2) (zjh o2 (by omega)) (zjh o2 (by omega)) (λh1 h2=>?_) λw3 v3 y F3 K3 O3 e3=>?_
 ·have:=g.wr hop h1 h2;have:=g.len;omega
 have hR:∀y,y<w1.heap.size->Of f d v y->Of f d v y:=λ_ _ h=>h;have K13:Kp w1 w3 (Of f d v):=(Kp.of_below b2 _).trans K3 λ_ _ h=>h;obtain⟨_,_,k5⟩:=o.kb K13 hR;have l5:=zaj k5;simp(disch:=first|omega|(simp(disch:=first|omega|fail)only[go_sem,k5]<;>omega)|fail)only[go_sem,k5];refine hk _ _ (o.put (a:=⟨(wrR s q.data).2.1,(wrR s q.data).2.2,0,[],[],[]⟩) F3 K13 hR ?_ (e3.less (by omega)) (AnsP.plain _ _ _ rfl rfl rfl));rcases O3 with h|h
 ·exact .inl h
 ·exact .inr λk hk=>by have:=h k hk;omega
theorem on5(o:OnS w w1 B f d v m s q x)(g:OkX s q)(hop:q.op=15)(hx:BS w1 x q.data)(hk:∀t w',OnJ w B f d v m (wrR {s with pos:=q.off} q.data).1 ⟨(wrR {s with pos:=q.off} q.data).2.1,(wrR {s with pos:=q.off} q.data).2.2,0,[],[],[]⟩ t w'->k1 t w'):zjO (pt w.heap.size 0) w1 (pt f 0) (pt (w.heap.size+1+1) 0) k1:=by
 unfold zjO;have hbs:=o.bs;have hz:=o.sz;have lf:=o.lf;have ld:=o.ld;have hq:q.data.length<=281474976710:=g.dat;simp(disch:=first|omega|(simp(disch:=first|omega|fail)only[go_sem,hbs]<;>omega)|fail)only[go_sem,hbs];refine zrl U.ab (by kernel_rfl) (show BS w1.drew x q.data from hx) (by omega) λx2 w2 o2 b2'=>?_;have b2:Below w1.heap.size w1 w2:=((Below.refl _ w1).drew).trans b2';have z2:=b2.size;have z2':w1.drew.heap.size=w1.heap.size:=rfl;have hbs2:=(zax b2 (by omega:w.heap.size<w1.heap.size)).trans hbs;simp(disch:=first|omega|(simp(disch:=first|omega|fail)only[go_sem,hbs2]<;>omega)|fail)only[go_sem,hbs2];refine⟨trivial,zpt (m:=m) (o.h.old b2) (o.sn.below (b2.mono (by have:=o.hB;omega))) (zlJ o2) (zjh o2 (by omega)) (zjh o2 (by omega)) (λh1 h2=>?_) λw3 v3 y F3 K3 O3 e3=>?_⟩
 ·have:=g.wa hop h1 h2;have:=g.len;omega
 have hR:∀y,y<w1.heap.size->Of f d v y->Of f d v y:=λ_ _ h=>h;have K13:Kp w1 w3 (Of f d v):=(Kp.of_below b2 _).trans K3 λ_ _ h=>h;obtain⟨_,_,k5⟩:=o.kb K13 hR;have l5:=zaj k5;simp(disch:=first|omega|(simp(disch:=first|omega|fail)only[go_sem,k5]<;>omega)|fail)only[go_sem,k5];refine hk _ _ (o.put (a:=⟨(wrR {s with pos:=q.off} q.data).2.1,(wrR {s with pos:=q.off} q.data).2.2,0,[],[],[]⟩) F3 K13 hR ?_ (e3.less (by omega)) (AnsP.plain _ _ _ rfl rfl rfl));rcases O3 with h|h
 ·exact .inl h
 ·exact .inr λk hk=>by have:=h k hk;omega
theorem on6(o:OnS w w1 B f d v m s q x)(g:OkX s q)(hop:q.op=16)(hk:∀t w',OnJ w B f d v m (skR s q.off q.wh).1 ⟨(skR s q.off q.wh).2.1,0,(skR s q.off q.wh).2.2,[],[],[]⟩ t w'->k1 t w'):zjP (pt w.heap.size 0) w1 (pt f 0) (pt (w.heap.size+1+1) 0) k1:=by unfold zjP;have hbs:=o.bs;have hz:=o.sz;simp(disch:=first|omega|(simp(disch:=first|omega|fail)only[go_sem,hbs]<;>omega)|fail)only[go_sem,hbs];refine zty (m:=m) o.h o.sn (g.off (by omega)) g.pos (by have:=g.len;omega) λw3 y F3 K3 e3=>?_;have hR:∀y,y<w1.heap.size->Of f d v y->Of f d v y:=λ_ _ h=>h;obtain⟨_,_,k5⟩:=o.kb K3 hR;have l5:=zaj k5;simp(disch:=first|omega|(simp(disch:=first|omega|fail)only[go_sem,k5]<;>omega)|fail)only[go_sem,k5];exact hk _ _ (o.put (a:=⟨(skR s q.off q.wh).2.1,0,(skR s q.off q.wh).2.2,[],[],[]⟩) F3 K3 hR (.inl rfl) e3 (AnsP.plain _ _ _ rfl rfl rfl))
theorem on7(o:OnS w w1 B f d v m s q x)(g:OkX s q)(h19:q.op=19\/q.op=20)(hk:∀t w',OnJ w B f d v m s (SM.Ans.err 8) t w'->k1 t w'):zhK (pt w.heap.size 0) w1 (pt f 0) (pt (w.heap.size+1+1) 0) k1:=by
 unfold zhK;have hbs:=o.bs;have hz:=o.sz;simp(disch:=first|omega|(simp(disch:=first|omega|fail)only[go_sem,hbs]<;>omega)|fail)only[go_sem,hbs];refine zkX (m:=m) o.h (g.dir h19) λw2 y b2 e2=>?_;simp(disch:=first|omega|(simp(disch:=first|omega|fail)only[go_sem]<;>omega)|fail)only[go_sem];refine zeH (fs:=[]) (is:=[]) (.inl ⟨rfl,_,_,rfl⟩) (by simp) rfl (λi h1=>by simp at h1) λw3 z o3 b3=>?_;have z2:=b2.size;have b13:Below w1.heap.size w1 w3:=b2.trans (b3.mono z2);have hR:∀y,y<w1.heap.size->Of f d v y->Of f d v y:=λ_ _ h=>h;have K3:Kp w1 w3 (Of f d v):=Kp.of_below b13 _;obtain⟨_,_,k5⟩:=o.kb K3 hR;have l5:=zaj k5;have hz1:z.oneCell'=true:=by obtain⟨p,c,rfl⟩:=zan o3;rfl
 simp(disch:=first|omega|(simp(disch:=first|omega|fail)only[go_sem,k5,hz1]<;>omega)|fail)only[go_sem,k5,hz1];refine hk _ _ (o.put (a:=SM.Ans.err 8) (o.h.old b13) K3 hR (.inl rfl) (e2.old b3) ⟨zb0 _,zaT _,zgO o3,λb hb=>?_⟩);rcases hb with h|h|h
 ·cases h
 ·cases h
 ·have h1:=zeS o3 b h;refine⟨by omega,h1.2,?_⟩;exact o.nOf (by omega)
theorem on8(o:OnS w w1 B f d v m s q x)(g:OkX s q)(h19:q.op=19\/q.op=20)(hk:∀t w',OnJ w B f d v m s (SM.Ans.err 8) t w'->k1 t w'):zhL (pt w.heap.size 0) w1 (pt f 0) (pt (w.heap.size+1+1) 0) k1:=by
 unfold zhL;have hbs:=o.bs;have hz:=o.sz;simp(disch:=first|omega|(simp(disch:=first|omega|fail)only[go_sem,hbs]<;>omega)|fail)only[go_sem,hbs];refine zmJ (m:=m) o.h (g.dir h19) λw3 y z b13 e2 r3 ob=>?_;have hR:∀y,y<w1.heap.size->Of f d v y->Of f d v y:=λ_ _ h=>h;have K3:Kp w1 w3 (Of f d v):=Kp.of_below b13 _;obtain⟨_,_,k5⟩:=o.kb K3 hR;have l5:=zaj k5;have hz1:z.oneCell'=true:=by obtain⟨p,c,rfl⟩:=zaX r3;rfl
 simp(disch:=first|omega|(simp(disch:=first|omega|fail)only[go_sem,k5,hz1]<;>omega)|fail)only[go_sem,k5,hz1];refine hk _ _ (o.put (a:=SM.Ans.err 8) (o.h.old b13) K3 hR (.inl rfl) e2 ⟨zb0 _,r3,zaT _,λb hb=>?_⟩);rcases hb with h|h|h
 ·cases h
 ·have h1:=ob b h;exact⟨h1.1,h1.2,o.nOf (by omega)⟩
 ·cases h
theorem on9(o:OnS w w1 B f d v m s q x)(g:OkX s q)(hk:∀t w',OnJ w B f d v m s ⟨0,0,0,[],[],[znJ s]⟩ t w'->k1 t w'):zjZ (pt f 0) w1 (pt (w.heap.size+1+1) 0) k1:=by
 unfold zjZ;have hz:=o.sz;simp(disch:=first|omega|(simp(disch:=first|omega|fail)only[go_sem]<;>omega)|fail)only[go_sem];refine zti o.h ?_;simp(disch:=first|omega|(simp(disch:=first|omega|fail)only[go_sem]<;>omega)|fail)only[go_sem];obtain⟨fi,efi⟩:∃fi,fi=w1.heap.size:=⟨_,rfl⟩;have B2:Below w1.heap.size w1 (w1.alloc (CB [pt d 0] T.aF)):=by repeat (first|exact Below.refl _ _|assumption|refine zag ?_ (by first|omega|(simp only[go_sem]<;>omega)) _|refine Below.alloc ?_ (by first|omega|(simp only[go_sem]<;>omega)) _|refine Below.drew ?_)
 have e2:bk (w1.alloc (CB [pt d 0] T.aF)) w1.heap.size=some (CB [pt d 0] T.aF):=zaf _ _ _ rfl;have z2:(w1.alloc (CB [pt d 0] T.aF)).heap.size=w1.heap.size+1:=by simp only[go_sem]
 generalize w1.alloc (CB [pt d 0] T.aF)=w2 at*;rw[zbc (z:=.pointer none) _ _ U.ai (by kernel_rfl) rfl];have B3:Below w2.heap.size w2 (w2.alloc (CB [pt w1.heap.size 0] T.aG)):=by repeat (first|exact Below.refl _ _|assumption|refine zag ?_ (by first|omega|(simp only[go_sem]<;>omega)) _|refine Below.alloc ?_ (by first|omega|(simp only[go_sem]<;>omega)) _|refine Below.drew ?_)
 have r3:bk (w2.alloc (CB [pt w1.heap.size 0] T.aG)) w2.heap.size=some (CB [pt w1.heap.size 0] T.aG):=zaf _ _ _ rfl;generalize w2.alloc (CB [pt w1.heap.size 0] T.aG)=w3 at*;have b13:Below w1.heap.size w1 w3:=B2.trans (B3.mono (by omega));have F3:=o.h.old b13;refine zeH (fs:=[w1.heap.size]) (is:=[znJ s]) (.inr ⟨w2.heap.size,0,1,rfl,Nat.le_refl _,by rw[r3];rfl,zaj r3⟩) (by simp) rfl (λi h1 h2=>?_) λw4 z o4 b4=>?_
 ·have h0:i=0:=by simp at h1;omega
  subst h0;obtain⟨p,c,ev,hc⟩:=zlE F3.own;refine⟨d,s.nm,p,s.bytes.length,c,s.md,s.dir,s.mode,s.mt,s.uid,s.gid,(zax B3 (show w1.heap.size<w2.heap.size by omega)).trans e2,?_,g.mode.1,g.mode.2,g.nm,rfl⟩;rw[<-ev];exact F3.bd
 ·have z3:=B3.size;have b14:Below w1.heap.size w1 w4:=b13.trans (b4.mono (by omega));have hR:∀y,y<w1.heap.size->Of f d v y->Of f d v y:=λ_ _ h=>h;have K3:Kp w1 w4 (Of f d v):=Kp.of_below b14 _;obtain⟨_,_,k5⟩:=o.kb K3 hR;have l5:=zaj k5;have hz1:z.oneCell'=true:=by obtain⟨p,c,rfl⟩:=zan o4;rfl
  simp(disch:=first|omega|(simp(disch:=first|omega|fail)only[go_sem,k5,hz1]<;>omega)|fail)only[go_sem,k5,hz1];refine hk _ _ (o.put (a:=⟨0,0,0,[],[],[znJ s]⟩) (o.h.old b14) K3 hR (.inl rfl) (ErrV.nil _ _ _) ⟨zb0 _,zaT _,zgO o4,λb hb=>?_⟩);rcases hb with h|h|h
  ·cases h
  ·cases h
  ·have h1:=zeS o4 b h;exact⟨by omega,h1.2,o.nOf (by omega)⟩
theorem on11{t4:Value}(o:OnS w w1 B f d v m s q x)(hop:q.op=22)(hk:∀t w',OnJ w B f d v m s ⟨0,0,0,[],[s.nm],[]⟩ t w'->k1 t w'):zeO (.int .i64 q.op) (pt f 0) w1 (pt (w.heap.size+1+1) 0) k1 t4 K:=by
 unfold zeO;have hz:=o.sz;simp(disch:=first|omega|(simp(disch:=first|omega|fail)only[go_sem,hop]<;>omega)|fail)only[go_sem,hop];refine ztD o.h ?_;rw[zbc (z:=S []) _ _ U.ae (by kernel_rfl) rfl];have B3:Below w1.heap.size w1 (w1.alloc (CB [S s.nm] T.string)):=by repeat (first|exact Below.refl _ _|assumption|refine zag ?_ (by first|omega|(simp only[go_sem]<;>omega)) _|refine Below.alloc ?_ (by first|omega|(simp only[go_sem]<;>omega)) _|refine Below.drew ?_)
 have r3:bk (w1.alloc (CB [S s.nm] T.string)) w1.heap.size=some (CB [S s.nm] T.string):=zaf _ _ _ rfl;have hR:∀y,y<w1.heap.size->Of f d v y->Of f d v y:=λ_ _ h=>h;generalize w1.alloc (CB [S s.nm] T.string)=w3 at*;have K3:Kp w1 w3 (Of f d v):=Kp.of_below B3 _;obtain⟨_,_,k5⟩:=o.kb K3 hR;have l5:=zaj k5;simp(disch:=first|omega|(simp(disch:=first|omega|fail)only[go_sem,k5]<;>omega)|fail)only[go_sem,k5];refine hk _ _ (o.put (a:=⟨0,0,0,[],[s.nm],[]⟩) (o.h.old B3) K3 hR (.inl rfl) (ErrV.nil _ _ _) ⟨zb0 _,.inl ⟨_,_,_,rfl,by rw[r3];rfl⟩,zaT _,λb hb=>?_⟩);rcases hb with h|h|h
 ·cases h
 ·have h9:w1.heap.size=b:=Option.some.inj h;subst h9;exact⟨Nat.le_refl _,zaj r3,o.nOf (by omega)⟩
 ·cases h
theorem ztC(hk:K .nilIface w):Cl P Fn.df #[pt f 0] w K:=by apply zmv;unfold zi3;simp(disch:=first|omega|(simp(disch:=first|omega|fail)only[go_sem]<;>omega)|fail)only[go_sem];exact hk
theorem OnS.still(o:OnS w w1 B f d v m s q x){w2:World}{v2:Value}{s2:FX}{a:SM.Ans}{y:Value}(F2:FH w2 B f d v2 s2)(k2:Kp w1 w2 (Of f d v))(O2:zmM w1 v v2)(h1:a.data=[])(h2:a.names=[])(h3:a.infos=[])(h4:a.n=0)(h5:a.off=0)(e2:ErrV w2 w1.heap.size m a.e y):OnJ w B f d v m s2 a [y] w2:=by
 obtain⟨g1,g2,g3⟩:=o.kb k2 λ_ _ h=>h;have j:=o.put F2 k2 (λ_ _ h=>h) O2 e2 (AnsP.plain _ _ _ h1 h2 h3);have e:(CB (zbq {a with e:=0} (.slice none 0 0) (.slice none 0 0) (.slice none 0 0)) T.ab)=CB ansZ T.ab:=by show CB [.int .i64 0,.int .i64 a.n,.int .i64 a.off,_,_,_] _=_;rw[h4,h5]
 rw[e,zeJ g3]at j;exact j
set_option maxHeartbeats 4000000 in
theorem on_any(h:FH w B f d v s)(sn:Sn w B m)(g:OkX s q)(hx:BS w x q.data)(hk:OnK w B f d v (onX s q) K):Cl P Fn.dw #[pt f 0,AG (zaC q x)] w K:=by
 apply zl9;unfold zkm;have hv:=ze0 hx;obtain⟨lf,ld⟩:=h.lt;have own:=zeS h.own;simp(disch:=first|omega|(simp(disch:=first|omega|fail)only[go_sem,hv]<;>omega)|fail)only[go_sem,hv];obtain⟨w1,ew1⟩:∃w1,w1=((w.alloc (CB (zaC q x) T.ae)).alloc (CB ansZ T.ab)).alloc (CB ansZ T.ab):=⟨_,rfl⟩;have b0:Below w.heap.size w w1:=by rw[ew1];repeat (first|exact Below.refl _ _|assumption|refine zag ?_ (by first|omega|(simp only[go_sem]<;>omega)) _|refine Below.alloc ?_ (by first|omega|(simp only[go_sem]<;>omega)) _|refine Below.drew ?_)
 have o:OnS w w1 B f d v m s q x:=by
  refine⟨h.old b0,sn.below (b0.mono (by have:=h.hf;omega)),b0,by rw[ew1];simp only[go_sem],?_,?_,?_,lf,ld,λk e=>(own k e).2⟩
  ·rw[ew1,zat _ _ _ (by simp only[go_sem];omega),zat _ _ _ (by simp only[go_sem];omega),zaf _ _ _ rfl]
  ·rw[ew1,zat _ _ _ (by simp only[go_sem];omega),zaf _ _ _ (by simp only[go_sem])]
  ·rw[ew1,zaf _ _ _ (by simp only[go_sem])]
 have hx1:BS w1 x q.data:=zcs hx b0 (Nat.le_refl _);rw[zeJ (by rw[<-ew1];exact o.b5),<-ew1];clear ew1;refine zaa (λt w'=>OnJ w B f d v m (onX s q).1 (onX s q).2 t w') (λt e w' j=>zrG o j hk) ?_;have hbs:=o.bs;have h1:=g.op.1;have h2:=g.op.2;by_cases c12:q.op=12
 ·simp(disch:=first|omega|(simp(disch:=first|omega|fail)only[go_sem,hbs]<;>omega)|fail)only[go_sem,hbs];refine on2 o g c12 λt w' j=>?_;rw[onX,if_pos c12];exact j
 simp(disch:=first|omega|(simp(disch:=first|omega|fail)only[go_sem,hbs]<;>omega)|fail)only[go_sem,hbs];unfold zgt;by_cases c13:q.op=13
 ·simp(disch:=first|omega|(simp(disch:=first|omega|fail)only[go_sem]<;>omega)|fail)only[go_sem];refine on3 o g c13 λt w' j=>?_;rw[onX,if_neg c12,if_pos c13];exact j
 simp(disch:=first|omega|(simp(disch:=first|omega|fail)only[go_sem]<;>omega)|fail)only[go_sem];unfold zgE;by_cases c14:q.op=14
 ·simp(disch:=first|omega|(simp(disch:=first|omega|fail)only[go_sem]<;>omega)|fail)only[go_sem];refine on4 o g c14 hx1 λt w' j=>?_;rw[onX,if_neg c12,if_neg c13,if_pos c14];exact j
 simp(disch:=first|omega|(simp(disch:=first|omega|fail)only[go_sem]<;>omega)|fail)only[go_sem];unfold zgB;by_cases c15:q.op=15
 ·simp(disch:=first|omega|(simp(disch:=first|omega|fail)only[go_sem]<;>omega)|fail)only[go_sem];refine on5 o g c15 hx1 λt w' j=>?_;rw[onX,if_neg c12,if_neg c13,if_neg c14,if_pos c15];exact j
 simp(disch:=first|omega|(simp(disch:=first|omega|fail)only[go_sem]<;>omega)|fail)only[go_sem];unfold zgL;by_cases c16:q.op=16
 ·simp(disch:=first|omega|(simp(disch:=first|omega|fail)only[go_sem]<;>omega)|fail)only[go_sem];refine on6 o g c16 λt w' j=>?_;rw[onX,if_neg c12,if_neg c13,if_neg c14,if_neg c15,if_pos c16];exact j
 simp(disch:=first|omega|(simp(disch:=first|omega|fail)only[go_sem]<;>omega)|fail)only[go_sem];unfold zgk;by_cases c17:q.op=17
 ·simp(disch:=first|omega|(simp(disch:=first|omega|fail)only[go_sem,hbs]<;>omega)|fail)only[go_sem,hbs];refine zos (m:=m) o.h o.sn (g.tr c17) g.len λw3 v3 y F3 K3 O3 e3=>?_;rw[onX,if_neg c12,if_neg c13,if_neg c14,if_neg c15,if_neg c16,if_pos c17];exact o.still F3 K3 O3 rfl rfl rfl rfl rfl e3
 simp(disch:=first|omega|(simp(disch:=first|omega|fail)only[go_sem]<;>omega)|fail)only[go_sem];unfold zgw;by_cases c18:q.op=18
 ·simp(disch:=first|omega|(simp(disch:=first|omega|fail)only[go_sem]<;>omega)|fail)only[go_sem];refine zr0 o.h λw3 F3 K3=>?_;rw[onX,if_neg c12,if_neg c13,if_neg c14,if_neg c15,if_neg c16,if_neg c17,if_pos c18];exact o.still F3 K3 (.inl rfl) rfl rfl rfl rfl rfl (ErrV.nil _ _ _)
 simp(disch:=first|omega|(simp(disch:=first|omega|fail)only[go_sem]<;>omega)|fail)only[go_sem];unfold zgp;by_cases c19:q.op=19
 ·simp(disch:=first|omega|(simp(disch:=first|omega|fail)only[go_sem]<;>omega)|fail)only[go_sem];refine on7 o g (.inl c19) λt w' j=>?_;rw[onX,if_neg c12,if_neg c13,if_neg c14,if_neg c15,if_neg c16,if_neg c17,if_neg c18,if_pos c19];exact j
 simp(disch:=first|omega|(simp(disch:=first|omega|fail)only[go_sem]<;>omega)|fail)only[go_sem];unfold zgM;by_cases c20:q.op=20
 ·simp(disch:=first|omega|(simp(disch:=first|omega|fail)only[go_sem]<;>omega)|fail)only[go_sem];refine on8 o g (.inr c20) λt w' j=>?_;rw[onX,if_neg c12,if_neg c13,if_neg c14,if_neg c15,if_neg c16,if_neg c17,if_neg c18,if_neg c19,if_pos c20];exact j
 simp(disch:=first|omega|(simp(disch:=first|omega|fail)only[go_sem]<;>omega)|fail)only[go_sem];unfold ziE;by_cases c21:q.op=21
 ·simp(disch:=first|omega|(simp(disch:=first|omega|fail)only[go_sem]<;>omega)|fail)only[go_sem];refine on9 o g λt w' j=>?_;rw[onX,if_neg c12,if_neg c13,if_neg c14,if_neg c15,if_neg c16,if_neg c17,if_neg c18,if_neg c19,if_neg c20,if_pos c21];exact j
 simp(disch:=first|omega|(simp(disch:=first|omega|fail)only[go_sem]<;>omega)|fail)only[go_sem];by_cases c22:q.op=22
 ·refine on11 o c22 λt w' j=>?_;rw[onX,if_neg c12,if_neg c13,if_neg c14,if_neg c15,if_neg c16,if_neg c17,if_neg c18,if_neg c19,if_neg c20,if_neg c21,if_pos c22];exact j
 unfold zeO;simp(disch:=first|omega|(simp(disch:=first|omega|fail)only[go_sem]<;>omega)|fail)only[go_sem];unfold ziS;simp(disch:=first|omega|(simp(disch:=first|omega|fail)only[go_sem]<;>omega)|fail)only[go_sem];refine ztC ?_;rw[onX,if_neg c12,if_neg c13,if_neg c14,if_neg c15,if_neg c16,if_neg c17,if_neg c18,if_neg c19,if_neg c20,if_neg c21,if_neg c22];exact o.still o.h (Kp.refl _ _) (.inl rfl) rfl rfl rfl rfl rfl (ErrV.nil _ _ _)
end
end Go.Proofs.YtdljebgllipdjaaGreatDoor.X
end
section
namespace Go.X
open Go
namespace SM
theorem zqW:∀(x y:List UInt8),Op.bytesLess x y=decide (x<y)
 |[],[]=>by simp[Op.bytesLess]
 |[],y::ys=>by simp[Op.bytesLess]
 |x::xs,[]=>by simp[Op.bytesLess]
 |x::xs,y::ys=>by
  have ih:=zqW xs ys;simp only[Op.bytesLess,List.cons_lt_cons_iff,ih];by_cases h:x<y
  ·simp[h]
  ·by_cases e:x=y
   ·simp[e]
   ·simp[h,e]
theorem zbb(x:Str):¬x<x:=List.lt_irrefl x
theorem zoQ{x y z:Str}(h:x<y)(k:y<z):x<z:=List.lt_trans h k
theorem slt_tri(x y:Str):x<y\/x=y\/y<x:=by
 by_cases h:x<y
 ·exact .inl h
 ·by_cases k:y<x
  ·exact .inr (.inr k)
  ·exact .inr (.inl (List.le_antisymm (List.not_lt.1 k) (List.not_lt.1 h)))
theorem zmw(n:Str):∀(l:List Str)(i:Nat),zfr l n i=((zfr l n 0).1+i,(zfr l n 0).2)
 |[],i=>by simp[zfr]
 |x::l,i=>by
  simp only[zfr];by_cases h:Op.bytesLess x n=true
  ·rw[if_pos h,if_pos h,zmw n l (i+1),zmw n l (0+1)];simp only[Prod.mk.injEq,and_true];omega
  ·rw[if_neg h,if_neg h];simp
theorem zqX(x n:Str)(l:List Str):zbj (x::l) n=if x<n then((zbj l n).1+1,(zbj l n).2)else(0,decide (x=n)):=by
 unfold zbj;simp only[zfr,zqW,decide_eq_true_eq];by_cases h:x<n
 ·rw[if_pos h,if_pos h,zmw]
 ·rw[if_neg h,if_neg h]
theorem zkx(n:Str):∀(l:List Str),l.Pairwise (·<·)->
  (zbj l n).1<=l.length/\(∀y∈l.take (zbj l n).1,y<n)/\(∀y∈l.drop (zbj l n).1,y=n\/n<y)/\((zbj l n).2=true->∃r,l.drop (zbj l n).1=n::r)/\((zbj l n).2=false->n∉l)
 |[],_=>⟨Nat.le_refl _,(λy h=>by cases h),(λy h=>by cases h),(λh=>by cases h),λ_ h=>by cases h⟩
 |x::l,h=>by
  obtain⟨h1,h2⟩:=List.pairwise_cons.1 h;obtain⟨i1,i2,i3,i4,i5⟩:=zkx n l h2;rw[zqX];by_cases c:x<n
  ·rw[if_pos c];simp only[List.take_succ_cons,List.drop_succ_cons,List.length_cons];refine⟨by omega,λy hy=>?_,i3,i4,λhf hm=>?_⟩
   ·rcases List.mem_cons.1 hy with rfl|hy
    ·exact c
    ·exact i2 y hy
   ·rcases List.mem_cons.1 hm with rfl|hm
    ·exact zbb _ c
    ·exact i5 hf hm
  ·rw[if_neg c];simp only[List.take_zero,List.drop_zero];have hge:∀y∈x::l,y=n\/n<y:=λy hy=>by
    have hx:x=n\/n<x:=by
     rcases slt_tri x n with h|h|h
     ·exact absurd h c
     ·exact .inl h
     ·exact .inr h
    rcases List.mem_cons.1 hy with rfl|hy
    ·exact hx
    ·rcases hx with h|h
     ·exact .inr (by rw[<-h];exact h1 y hy)
     ·exact .inr (zoQ h (h1 y hy))
   refine⟨Nat.zero_le _,(λy h=>by cases h),hge,λhe=>⟨l,by rw[of_decide_eq_true he]⟩,λhf hm=>?_⟩;have hne:=of_decide_eq_false hf;rcases List.mem_cons.1 hm with e|hm
   ·exact hne e.symm
   ·have:=h1 n hm;exact c this
structure Wf(m:Mem):Prop where
 srt:m.names.Pairwise (·<·)
 la:m.ats.length=m.names.length
 lt:∀a∈m.ats,a<m.nodes.length
def Mem.al(m:Mem):List (Str×Nat):=m.names.zip m.ats
theorem Wf.al_names{m:Mem}(h:Wf m):m.al.map (·.1)=m.names:=List.map_fst_zip (by rw[h.la];exact Nat.le_refl _)
theorem zcL{m:Mem}(h:Wf m)(k:Str)(a:Nat):m.find k=some a↔(k,a)∈m.al:=by
 obtain⟨p1,p2,p3,p4,p5⟩:=zkx k m.names h.srt;have la:=h.la;have nd:∀(i j:Nat)(hi:i<m.names.length)(hj:j<m.names.length),m.names[i]=m.names[j]->i=j:=λi j hi hj e=>by
  rcases Nat.lt_trichotomy i j with c|c|c
  ·exact absurd (List.pairwise_iff_getElem.1 h.srt i j hi hj c) (by rw[e];exact zbb _)
  ·exact c
  ·exact absurd (List.pairwise_iff_getElem.1 h.srt j i hj hi c) (by rw[e];exact zbb _)
 unfold Mem.find;cases hb:(zbj m.names k).2 with
 |true=>
  obtain⟨r,hr⟩:=p4 hb;have hlt:(zbj m.names k).1<m.names.length:=by have:=congrArg List.length hr;simp only[List.length_drop,List.length_cons]at this;omega
  have hk:m.names[(zbj m.names k).1]=k:=by have:=List.getElem_cons_drop hlt;rw[hr]at this;injection this
  have hla:(zbj m.names k).1<m.ats.length:=by omega
  rw[if_pos rfl];have eg:m.ats.getD (zbj m.names k).1 0=m.ats[(zbj m.names k).1]:=by simp[List.getD,hla]
  rw[eg];constructor
  ·intro e;injection e with e;unfold Mem.al;rw[List.mem_iff_getElem];refine⟨(zbj m.names k).1,by rw[List.length_zip];omega,?_⟩;rw[List.getElem_zip,hk,e]
  ·intro hm;unfold Mem.al at hm;obtain⟨i,hi,e⟩:=List.mem_iff_getElem.1 hm;rw[List.getElem_zip]at e;rw[List.length_zip]at hi;injection e with e1 e2;have:i=(zbj m.names k).1:=nd _ _ (by omega) hlt (by rw[e1,hk]);subst this;rw[e2]
 |false=>rw[if_neg (by simp)];refine⟨λe=>(by cases e),λhm=>?_⟩;have:k∈m.al.map (·.1):=List.mem_map.2 ⟨_,hm,rfl⟩;rw[h.al_names]at this;exact absurd this (p5 hb)
theorem zco{m:Mem}(h:Wf m)(k:Str):m.find k=none↔k∉m.names:=by
 constructor
 ·intro e hm;rw[<-h.al_names]at hm;obtain⟨⟨k',a⟩,hx,rfl⟩:=List.mem_map.1 hm;rw[(zcL h k' a).2 hx]at e;cases e
 ·intro hn;cases e:m.find k with
  |none=>rfl
  |some a=>have:=(zcL h k a).1 e;exact absurd (by rw[<-h.al_names];exact List.mem_map.2 ⟨_,this,rfl⟩) hn
theorem zbO{m:Mem}(h:Wf m){k:Str}{a:Nat}(e:m.find k=some a):k∈m.names/\a∈m.ats:=by have:=(zcL h k a).1 e;exact⟨(List.of_mem_zip this).1,(List.of_mem_zip this).2⟩
theorem Wf.find_lt{m:Mem}(h:Wf m){k:Str}{a:Nat}(e:m.find k=some a):a<m.nodes.length:=h.lt a (zbO h e).2
theorem zuk{m:Mem}(h:Wf m)(n:Str):∃A R A' R',m.names=A++R/\m.ats=A'++R'/\A.length=A'.length/\R.length=R'.length/\(∀y∈A,y<n)/\(∀y∈R,y=n\/n<y)/\(zbj m.names n).1=A.length/\((zbj m.names n).2=true->∃r b r',R=n::r/\R'=b::r')/\((zbj m.names n).2=false->n∉m.names):=by
 obtain⟨p1,p2,p3,p4,p5⟩:=zkx n m.names h.srt;have la:=h.la;refine⟨m.names.take (zbj m.names n).1,m.names.drop (zbj m.names n).1,m.ats.take (zbj m.names n).1,m.ats.drop (zbj m.names n).1,(List.take_append_drop _ _).symm,(List.take_append_drop _ _).symm,by simp;omega,by simp;omega,p2,p3,by simp;omega,λhb=>?_,p5⟩;obtain⟨r,hr⟩:=p4 hb;have hl:=congrArg List.length hr;simp only[List.length_drop,List.length_cons]at hl;cases hq:m.ats.drop (zbj m.names n).1 with
 |nil=>have:=congrArg List.length hq;simp only[List.length_drop,List.length_nil]at this;omega
 |cons b r'=>exact⟨r,b,r',hr,rfl⟩
theorem znX{m m':Mem}(h:Wf m)(h':Wf m'){k:Str}{o:Option Nat}(e:∀a,(k,a)∈m'.al↔o=some a):m'.find k=o:=by
 cases ho:o with
 |some a=>exact(zcL h' k a).2 ((e a).2 ho)
 |none=>rw[zco h',<-h'.al_names];intro hm;obtain⟨⟨k',a⟩,hx,rfl⟩:=List.mem_map.1 hm;have:=(e a).1 hx;rw[ho]at this;cases this
theorem zst{m:Mem}(h:Wf m)(n:Str)(x:Nat)(hx:x<m.nodes.length):Wf (m.put n x)/\(∀k,(m.put n x).find k=if k=n then some x else m.find k)/\∀k,k∈(m.put n x).names↔k=n\/k∈m.names:=by
 obtain⟨A,R,A',R',e1,e2,l1,l2,c1,c2,cp,ch,cn⟩:=zuk h n;have srt:=h.srt;rw[e1]at srt;obtain⟨s1,s2,s3⟩:=List.pairwise_append.1 srt;have hal:m.al=A.zip A'++R.zip R':=by unfold Mem.al;rw[e1,e2,List.zip_append l1]
 cases hb:(zbj m.names n).2 with
 |true=>
  obtain⟨r,b,r',rfl,rfl⟩:=ch hb;have ep:m.put n x={m with ats:=A'++x::r'}:=by unfold Mem.put;simp only[hb,if_true];rw[cp,l1,e2,List.set_append_right _ _ (Nat.le_refl _)];simp
  rw[ep];have w:Wf {m with ats:=A'++x::r'}:=by
   refine⟨h.srt,?_,λa ha=>?_⟩
   ·show(A'++x::r').length=m.names.length;rw[e1];simp at l2⊢;omega
   ·have ha:a∈A'++x::r':=ha;rcases List.mem_append.1 ha with q|q
    ·exact h.lt a (by rw[e2];exact List.mem_append_left _ q)
    ·rcases List.mem_cons.1 q with rfl|q
     ·exact hx
     ·exact h.lt a (by rw[e2];exact List.mem_append_right _ (List.mem_cons_of_mem _ q))
  have hal':Mem.al {m with ats:=A'++x::r'}=A.zip A'++(n,x)::r.zip r':=by unfold Mem.al;show m.names.zip _=_;rw[e1,List.zip_append l1];rfl
  have nA:∀a,(n,a)∉A.zip A':=λa hm=>zbb n (c1 n (List.of_mem_zip hm).1);have nr:∀a,(n,a)∉r.zip r':=λa hm=>zbb n ((List.pairwise_cons.1 s2).1 n (List.of_mem_zip hm).1);refine⟨w,λk=>znX h w λa=>?_,λk=>?_⟩
  ·rw[hal'];by_cases hk:k=n
   ·subst hk;rw[if_pos rfl];constructor
    ·intro hm;rcases List.mem_append.1 hm with q|q
     ·exact absurd q (nA a)
     ·rcases List.mem_cons.1 q with q|q
      ·injection q with _ q;rw[q]
      ·exact absurd q (nr a)
    ·intro q;injection q with q;rw[q];exact List.mem_append_right _ (List.mem_cons_self ..)
   ·rw[if_neg hk,zcL h,hal];constructor
    ·intro hm;rcases List.mem_append.1 hm with q|q
     ·exact List.mem_append_left _ q
     ·rcases List.mem_cons.1 q with q|q
      ·injection q with q;exact absurd q hk
      ·exact List.mem_append_right _ (List.mem_cons_of_mem _ q)
    ·intro hm;rcases List.mem_append.1 hm with q|q
     ·exact List.mem_append_left _ q
     ·rcases List.mem_cons.1 q with q|q
      ·injection q with q;exact absurd q hk
      ·exact List.mem_append_right _ (List.mem_cons_of_mem _ q)
  ·show k∈m.names↔_;refine⟨.inr,λq=>q.elim (λq=>?_) id⟩;rw[q,e1];exact List.mem_append_right _ (List.mem_cons_self ..)
 |false=>
  have hn:=cn hb;have cR:∀y∈R,n<y:=λy hy=>by
   rcases c2 y hy with q|q
   ·exact absurd (by rw[<-q,e1];exact List.mem_append_right _ hy) hn
   ·exact q
  have ep:m.put n x={m with names:=A++n::R,ats:=A'++x::R'}:=by
   unfold Mem.put;simp only[hb,Bool.false_eq_true,if_false];rw[cp]
   conv=>lhs;rw[e1,l1,e2]
   rw[<-l1,List.take_left,List.drop_left,l1,List.take_left,List.drop_left]
  rw[ep];have w:Wf {m with names:=A++n::R,ats:=A'++x::R'}:=by
   refine⟨?_,?_,λa ha=>?_⟩
   ·show(A++n::R).Pairwise (·<·);refine List.pairwise_append.2 ⟨s1,List.pairwise_cons.2 ⟨cR,s2⟩,λa ha b hb=>?_⟩;rcases List.mem_cons.1 hb with rfl|hb
    ·exact c1 a ha
    ·exact s3 a ha b hb
   ·show(A'++x::R').length=(A++n::R).length;simp;omega
   ·have ha:a∈A'++x::R':=ha;rcases List.mem_append.1 ha with q|q
    ·exact h.lt a (by rw[e2];exact List.mem_append_left _ q)
    ·rcases List.mem_cons.1 q with rfl|q
     ·exact hx
     ·exact h.lt a (by rw[e2];exact List.mem_append_right _ q)
  have hal':Mem.al {m with names:=A++n::R,ats:=A'++x::R'}=A.zip A'++(n,x)::R.zip R':=by unfold Mem.al;show(A++n::R).zip _=_;rw[List.zip_append l1];rfl
  have nA:∀a,(n,a)∉A.zip A':=λa hm=>zbb n (c1 n (List.of_mem_zip hm).1);have nR:∀a,(n,a)∉R.zip R':=λa hm=>zbb n (cR n (List.of_mem_zip hm).1);refine⟨w,λk=>znX h w λa=>?_,λk=>?_⟩
  ·rw[hal'];by_cases hk:k=n
   ·subst hk;rw[if_pos rfl];constructor
    ·intro hm;rcases List.mem_append.1 hm with q|q
     ·exact absurd q (nA a)
     ·rcases List.mem_cons.1 q with q|q
      ·injection q with _ q;rw[q]
      ·exact absurd q (nR a)
    ·intro q;injection q with q;rw[q];exact List.mem_append_right _ (List.mem_cons_self ..)
   ·rw[if_neg hk,zcL h,hal];constructor
    ·intro hm;rcases List.mem_append.1 hm with q|q
     ·exact List.mem_append_left _ q
     ·rcases List.mem_cons.1 q with q|q
      ·injection q with q;exact absurd q hk
      ·exact List.mem_append_right _ q
    ·intro hm;rcases List.mem_append.1 hm with q|q
     ·exact List.mem_append_left _ q
     ·exact List.mem_append_right _ (List.mem_cons_of_mem _ q)
  ·show k∈A++n::R↔_;rw[e1];simp only[List.mem_append,List.mem_cons];constructor
   ·rintro(q|q|q)
    ·exact .inr (.inl q)
    ·exact .inl q
    ·exact .inr (.inr q)
   ·rintro(q|q|q)
    ·exact .inr (.inl q)
    ·exact .inl q
    ·exact .inr (.inr q)
theorem zku{m:Mem}(h:Wf m)(n:Str):Wf (m.drop n)/\(∀k,(m.drop n).find k=if k=n then none else m.find k)/\∀k,k∈(m.drop n).names↔k≠n/\k∈m.names:=by
 obtain⟨A,R,A',R',e1,e2,l1,l2,c1,c2,cp,ch,cn⟩:=zuk h n;have srt:=h.srt;rw[e1]at srt;obtain⟨s1,s2,s3⟩:=List.pairwise_append.1 srt;have hal:m.al=A.zip A'++R.zip R':=by unfold Mem.al;rw[e1,e2,List.zip_append l1]
 cases hb:(zbj m.names n).2 with
 |true=>
  obtain⟨r,b,r',rfl,rfl⟩:=ch hb;have ep:m.drop n={m with names:=A++r,ats:=A'++r'}:=by
   unfold Mem.drop;simp only[hb,if_true];have d1:(A++n::r).drop (A.length+1)=r:=by rw[<-List.drop_drop,List.drop_left];rfl
   have d2:(A'++b::r').drop (A.length+1)=r':=by rw[l1,<-List.drop_drop,List.drop_left];rfl
   have d3:(A'++b::r').take A.length=A':=by rw[l1,List.take_left]
   rw[cp]
   conv=>lhs;rw[e1,e2]
   rw[List.take_left,d1,d2,d3]
  rw[ep];have w:Wf {m with names:=A++r,ats:=A'++r'}:=by
   refine⟨?_,?_,λa ha=>?_⟩
   ·show(A++r).Pairwise (·<·);exact List.pairwise_append.2 ⟨s1,(List.pairwise_cons.1 s2).2,λa ha b hb=>s3 a ha b (List.mem_cons_of_mem _ hb)⟩
   ·show(A'++r').length=(A++r).length;simp at l2⊢;omega
   ·have ha:a∈A'++r':=ha;rcases List.mem_append.1 ha with q|q
    ·exact h.lt a (by rw[e2];exact List.mem_append_left _ q)
    ·exact h.lt a (by rw[e2];exact List.mem_append_right _ (List.mem_cons_of_mem _ q))
  have hal':Mem.al {m with names:=A++r,ats:=A'++r'}=A.zip A'++r.zip r':=by unfold Mem.al;show(A++r).zip _=_;rw[List.zip_append l1]
  have nA:∀a,(n,a)∉A.zip A':=λa hm=>zbb n (c1 n (List.of_mem_zip hm).1);have nr:∀a,(n,a)∉r.zip r':=λa hm=>zbb n ((List.pairwise_cons.1 s2).1 n (List.of_mem_zip hm).1);refine⟨w,λk=>znX h w λa=>?_,λk=>?_⟩
  ·rw[hal'];by_cases hk:k=n
   ·subst hk;rw[if_pos rfl];constructor
    ·intro hm;rcases List.mem_append.1 hm with q|q
     ·exact absurd q (nA a)
     ·exact absurd q (nr a)
    ·intro q;cases q
   ·rw[if_neg hk,zcL h,hal];constructor
    ·intro hm;rcases List.mem_append.1 hm with q|q
     ·exact List.mem_append_left _ q
     ·exact List.mem_append_right _ (List.mem_cons_of_mem _ q)
    ·intro hm;rcases List.mem_append.1 hm with q|q
     ·exact List.mem_append_left _ q
     ·rcases List.mem_cons.1 q with q|q
      ·injection q with q;exact absurd q hk
      ·exact List.mem_append_right _ q
  ·show k∈A++r↔_;rw[e1];simp only[List.mem_append,List.mem_cons];constructor
   ·rintro(q|q)
    ·exact⟨λe=>zbb n (c1 n (by rw[<-e];exact q)),.inl q⟩
    ·exact⟨λe=>zbb n ((List.pairwise_cons.1 s2).1 n (by rw[<-e];exact q)),.inr (.inr q)⟩
   ·rintro⟨hk,q|q|q⟩
    ·exact .inl q
    ·exact absurd q hk
    ·exact .inr q
 |false=>
  have hn:=cn hb;have ep:m.drop n=m:=by unfold Mem.drop;simp only[hb,Bool.false_eq_true,if_false]
  rw[ep];refine⟨h,λk=>?_,λk=>⟨λq=>⟨λe=>hn (by rw[<-e];exact q),q⟩,λq=>q.2⟩⟩;by_cases hk:k=n
  ·rw[if_pos hk,hk];exact(zco h n).2 hn
  ·rw[if_neg hk]
theorem zsz{m:Mem}(h:Wf m)(n:Str)(x:Nat):(m.put n x).names.length<=m.names.length+1/\(n∈m.names->(m.put n x).names.length=m.names.length):=by
 obtain⟨p1,p2,p3,p4,p5⟩:=zkx n m.names h.srt;unfold Mem.put;simp only
 cases hb:(zbj m.names n).2 with
 |true=>rw[if_pos rfl];exact⟨Nat.le_succ _,λ_=>rfl⟩
 |false=>rw[if_neg (by simp)];refine⟨by simp;omega,λhm=>absurd hm (p5 hb)⟩
theorem znW{m:Mem}(h:Wf m)(n:Str):(m.drop n).names.length<=m.names.length/\(n∈m.names->(m.drop n).names.length+1=m.names.length):=by
 obtain⟨p1,p2,p3,p4,p5⟩:=zkx n m.names h.srt;unfold Mem.drop;simp only
 cases hb:(zbj m.names n).2 with
 |true=>obtain⟨r,hr⟩:=p4 hb;have hl:=congrArg List.length hr;simp only[List.length_drop,List.length_cons]at hl;rw[if_pos rfl];refine⟨by simp;omega,λ_=>by simp;omega⟩
 |false=>rw[if_neg (by simp)];exact⟨Nat.le_refl _,λhm=>absurd hm (p5 hb)⟩
theorem zeV(m:Mem)(n:Str)(x:Nat):(m.put n x).nodes=m.nodes/\(m.put n x).hs=m.hs:=by
 unfold Mem.put;simp only
 split<;>exact⟨rfl,rfl⟩
theorem zcp(m:Mem)(n:Str):(m.drop n).nodes=m.nodes/\(m.drop n).hs=m.hs:=by
 unfold Mem.drop;simp only
 split<;>exact⟨rfl,rfl⟩
theorem Wf.same{m m':Mem}(h:Wf m)(e1:m'.names=m.names)(e2:m'.ats=m.ats)(e3:m.nodes.length<=m'.nodes.length):Wf m':=⟨by rw[e1];exact h.srt,by rw[e1,e2];exact h.la,λa ha=>Nat.lt_of_lt_of_le (h.lt a (by rw[<-e2];exact ha)) e3⟩
theorem zhs{m m':Mem}(e1:m'.names=m.names)(e2:m'.ats=m.ats)(k:Str):m'.find k=m.find k:=by unfold Mem.find;rw[e1,e2]
theorem za5(m:Mem)(x:Nat)(n:Node):(m.setNode x n).names=m.names/\(m.setNode x n).ats=m.ats/\(m.setNode x n).nodes.length=m.nodes.length/\(m.setNode x n).hs=m.hs:=⟨rfl,rfl,by simp[Mem.setNode],rfl⟩
theorem zeF{m:Mem}(h:Wf m)(n:Str)(x:Node):Wf (m.add n x)/\(∀k,(m.add n x).find k=if k=n then some m.nodes.length else m.find k)/\(∀k,k∈(m.add n x).names↔k=n\/k∈m.names)/\(m.add n x).nodes=m.nodes++[{x with name:=n}]/\(m.add n x).hs=m.hs/\(m.add n x).names.length<=m.names.length+1:=by have w:Wf {m with nodes:=m.nodes++[{x with name:=n}]}:=h.same rfl rfl (by simp);obtain⟨p1,p2,p3⟩:=zst w n m.nodes.length (by simp);unfold Mem.add;exact⟨p1,p2,p3,(zeV _ _ _).1,(zeV _ _ _).2,(zsz w n m.nodes.length).1⟩
theorem zi7{m:Mem}(h:Wf m)(src dst:Str){n:Str}(hn:n∈m.names):Wf (m.moved src dst n)/\(∀k,(m.moved src dst n).find k=if k=dst++n.drop src.length then m.find n else if k=n then none else m.find k)/\(∀k,k∈(m.moved src dst n).names↔k=dst++n.drop src.length\/(k≠n/\k∈m.names))/\(m.moved src dst n).names.length<=m.names.length/\(m.moved src dst n).nodes.length=m.nodes.length:=by
 obtain⟨x,hx⟩:∃x,m.find n=some x:=by
  cases e:m.find n with
  |some x=>exact⟨x,rfl⟩
  |none=>exact absurd hn ((zco h n).1 e)
 have hlt:=h.find_lt hx;obtain⟨d1,d2,d3⟩:=zku h n;have dl:=(znW h n).2 hn;have dn:=(zcp m n).1;obtain⟨p1,p2,p3⟩:=zst d1 (dst++n.drop src.length) x (by rw[dn];exact hlt);have pl:=(zsz d1 (dst++n.drop src.length) x).1;have pn:=(zeV (m.drop n) (dst++n.drop src.length) x).1;unfold Mem.moved;simp only[hx,Option.getD_some];obtain⟨s1,s2,s3,s4⟩:=za5 ((m.drop n).put (dst++n.drop src.length) x) x {((m.drop n).put (dst++n.drop src.length) x).node x with name:=dst++n.drop src.length};refine⟨p1.same s1 s2 (by rw[s3];exact Nat.le_refl _),λk=>?_,λk=>?_,?_,?_⟩
 ·rw[zhs s1 s2,p2,d2]
 ·rw[s1,p3,d3]
 ·rw[s1];omega
 ·rw[s3,pn,dn]
theorem zeU(perm:Int){m:Mem}(hr:(m.find [47]).isSome=true):∀(f:Nat)(l:Str),Wf m->Wf (m.parentsF l perm f)/\(∀k,k∈m.names->k∈(m.parentsF l perm f).names/\(m.parentsF l perm f).find k=m.find k)/\(∀k∈(m.parentsF l perm f).names,k∈m.names\/k.length<=l.length+1)/\(∃x,(m.parentsF l perm f).nodes=m.nodes++x/\∀n∈x,n.name.length<=l.length+1/\n.data=[]/\n.dir=true)/\(m.parentsF l perm f).hs=m.hs
 |0,l,h=>⟨h,λk hk=>⟨hk,rfl⟩,λk hk=>.inl hk,⟨[],by simp[Mem.parentsF],λn hn=>by cases hn⟩,rfl⟩
 |f+1,l,h=>by
  simp only[Mem.parentsF];cases hf:m.find (parent l)with
  |some x=>exact⟨h,λk hk=>⟨hk,rfl⟩,λk hk=>.inl hk,⟨[],by simp,λn hn=>by cases hn⟩,rfl⟩
  |none=>
   obtain⟨i1,i2,i3,⟨x,i4,i5⟩,i6⟩:=zeU perm hr f (parent l) h;obtain⟨a1,a2,a3,a4,a5,a6⟩:=zeF i1 (parent l) ⟨true,orI 2147483648 perm,[],0,[]⟩;have hn:=(zco h _).1 hf;have pl:=zjm l;have pp:(parent l).length<l.length:=by
    rcases zaZ l with q|q
    ·exact q
    ·rw[q]at hf;rw[hf]at hr;cases hr
   simp only
   refine⟨a1,λk hk=>⟨(a3 k).2 (.inr (i2 k hk).1),?_⟩,λk hk=>?_,?_,a5.trans i6⟩
   ·rw[a2,if_neg (λe=>hn (by rw[<-e];exact hk)),(i2 k hk).2]
   ·rcases(a3 k).1 hk with q|q
    ·right;rw[q];omega
    ·rcases i3 k q with q|q
     ·exact .inl q
     ·exact .inr (by omega)
   ·refine⟨x++[{(⟨true,orI 2147483648 perm,[],0,[]⟩:Node)with name:=parent l}],by rw[a4,i4,List.append_assoc],λn hn'=>?_⟩;rcases List.mem_append.1 hn' with q|q
    ·obtain⟨q1,q2,q3⟩:=i5 n q;exact⟨by omega,q2,q3⟩
    ·simp at q;rw[q];exact⟨by omega,rfl,rfl⟩
end SM
end Go.X
end
section
namespace Go.X
open Go Go.RowKit Go.Lib
namespace SM
def El(x:Str):Prop:=x≠[]/\47∉x/\x≠[46]/\x≠[46,46]
def Kept(l:Str):Prop:=l=[47]\/∃ro xs,xs≠[]/\(∀x∈xs,El x)/\l=jf ro xs
theorem gd_el(ro:Bool):∀(xs:List Str),(∀x∈xs,El x)->Gd ro xs
 |[],_=>trivial
 |x::r,h=>by have:=h x (by simp);exact⟨this.1,this.2.2.1,this.2.1,λe=>absurd e this.2.2.2,gd_el ro r λy hy=>h y (List.mem_cons_of_mem _ hy)⟩
theorem zoR(zs:List Str)(h0:zs≠[])(h:∀z∈zs,47∉z):Pa.els (([47]:Str).intercalate zs)=zs:=by
 cases zs with
 |nil=>exact absurd rfl h0
 |cons y Y=>rw[Pa.els_J,zob _ h]
theorem ztI(ro:Bool)(zs:List Str)(h0:zs≠[])(h1:∀z,zs.head?=some z->z≠[])(h:∀z∈zs,47∉z):((jf ro zs).head?==some 47)=ro/\zcW (jf ro zs)=zs.foldl (Pa.cleanStep ro) []:=by
 obtain⟨y,Y,rfl⟩:∃y Y,zs=y::Y:=by
  cases zs with
  |nil=>exact absurd rfl h0
  |cons y Y=>exact⟨y,Y,rfl⟩
 cases ro with
 |true=>
  have e:jf true (y::Y)=47::([47]:Str).intercalate (y::Y):=by simp only[jf,if_true];exact zjd _ (by simp)
  have hd:((jf true (y::Y)).head?==some 47)=true:=by rw[e];rfl
  refine⟨hd,?_⟩;unfold zcW;rw[hd,e,Pa.els_slash,List.foldl_cons,zoR _ (by simp) h];rfl
 |false=>
  have e:jf false (y::Y)=([47]:Str).intercalate (y::Y):=rfl;have hy:=h1 y rfl;have hj:=Pa.J_head y Y hy;have hd:((jf false (y::Y)).head?==some 47)=false:=by
   rw[e,hj.1];cases y with
   |nil=>exact absurd rfl hy
   |cons c t=>have:c≠47:=λq=>h (c::t) (by simp) (by simp[q]);simpa using this
  refine⟨hd,?_⟩;unfold zcW;rw[hd,e,zoR _ (by simp) h]
theorem jf_ne(ro:Bool)(xs:List Str)(h0:xs≠[])(h:∀x∈xs,El x):jf ro xs≠[]:=by
 obtain⟨y,Y,rfl⟩:∃y Y,xs=y::Y:=by
  cases xs with
  |nil=>exact absurd rfl h0
  |cons y Y=>exact⟨y,Y,rfl⟩
 have hy:=(h y (by simp)).1;cases ro with
 |true=>simp[jf]
 |false=>exact(Pa.J_head y Y hy).2
theorem zqj(ro:Bool)(zs:List Str)(h0:zs≠[])(h1:∀z,zs.head?=some z->z≠[])(h:∀z∈zs,47∉z)(xs:List Str)(hx:xs≠[])(he:zs.foldl (Pa.cleanStep ro) []=xs.reverse):Pa.clean (jf ro zs)=jf ro xs:=by
 obtain⟨e1,e2⟩:=ztI ro zs h0 h1 h;rw[zrh,e1,e2,he,List.reverse_reverse];cases ro with
 |true=>simp only[if_true,jf,Bool.false_eq_true,if_false];rw[zjd _ hx]
 |false=>rw[if_neg (by simp),if_neg (by simpa using hx)]
theorem zsu(ro:Bool)(xs:List Str)(h:∀x∈xs,El x):xs.foldl (Pa.cleanStep ro) []=xs.reverse:=by have:=zro ro xs.reverse (gd_el ro _ λx hx=>h x (List.mem_reverse.1 hx));rwa[List.reverse_reverse]at this
theorem head_el{xs:List Str}(h:∀x∈xs,El x):∀z,xs.head?=some z->z≠[]:=λz hz=>(h z (List.mem_of_head? hz)).1
theorem ztJ(ro:Bool)(xs:List Str)(h0:xs≠[])(h:∀x∈xs,El x):Pa.clean (jf ro xs)=jf ro xs:=zqj ro xs h0 (head_el h) (λz hz=>(h z hz).2.1) xs h0 (zsu ro xs h)
theorem zuj(ro:Bool)(xs:List Str)(h0:xs≠[])(h:∀x∈xs,El x):jf ro xs≠[46]/\jf ro xs≠[46,46]/\jf ro xs≠[47]:=by
 obtain⟨y,Y,rfl⟩:∃y Y,xs=y::Y:=by
  cases xs with
  |nil=>exact absurd rfl h0
  |cons y Y=>exact⟨y,Y,rfl⟩
 obtain⟨h1,h2,h3,h4⟩:=h y (by simp);cases ro with
 |true=>simp only[jf,if_true,List.flatMap_cons,List.cons_append];refine⟨by simp,by simp,λe=>?_⟩;injection e with _ e;exact h1 (List.append_eq_nil_iff.1 e).1
 |false=>
  have e:jf false (y::Y)=([47]:Str).intercalate (y::Y):=rfl;rw[e];cases Y with
  |nil=>
   have e:([47]:Str).intercalate [y]=y:=by simp[List.intercalate]
   rw[e];exact⟨h3,h4,λe=>h2 (by rw[e];simp)⟩
  |cons z r=>
   rw[zhv];have m:(47:UInt8)∈y++47::([47]:Str).intercalate (z::r):=by simp
   refine⟨λe=>?_,λe=>?_,λe=>?_⟩
   ·rw[e]at m;simp at m
   ·rw[e]at m;simp at m
   ·have l:=congrArg List.length e;have:0<y.length:=List.length_pos_iff.2 h1;simp only[List.length_append,List.length_cons,List.length_nil]at l;omega
theorem zc8{l:Str}(h:Kept l):norm l=l/\(Pa.clean l=l):=by
 rcases h with rfl|⟨ro,xs,h0,h,rfl⟩
 ·exact⟨rfl,rfl⟩
 ·have e:=ztJ ro xs h0 h;obtain⟨n1,n2,n3⟩:=zuj ro xs h0 h;refine⟨?_,e⟩;unfold norm;rw[e,if_neg (by simp[n1,n2])]
theorem zsw{ro:Bool}:∀{st:List Str},Gd ro st->([46,46]:Str)∈st->ro=false/\st.getLast?=some [46,46]
 |[],_,h=>by cases h
 |x::r,g,h=>by
  cases r with
  |nil=>simp at h;exact⟨(g.2.2.2.1 h.symm).1,by rw[<-h];rfl⟩
  |cons y s=>
   have hm:([46,46]:Str)∈y::s:=by
    rcases List.mem_cons.1 h with q|q
    ·have:=(g.2.2.2.1 q.symm).2 y rfl;rw[this];simp
    ·exact q
   obtain⟨a,b⟩:=zsw g.2.2.2.2 hm;exact⟨a,by rw[List.getLast?_cons_cons];exact b⟩
theorem zeW{l:Str}(h:zbF l=true):Kept (norm l):=by
 have g:=zpJ l;have e:=zq2 l;by_cases c:jf (l.head?==some 47) (zcW l).reverse=[]\/jf (l.head?==some 47) (zcW l).reverse=[46,46]
 ·rw[if_pos c]at e;rw[e];exact .inl rfl
 rw[if_neg c]at e;have hne:(zcW l).reverse≠[]:=λq=>c (.inl (by rw[q];cases(l.head?==some 47)<;>simp[jf,List.intercalate]));refine .inr ⟨_,_,hne,λx hx=>?_,e⟩;have hx':=List.mem_reverse.1 hx;have g2:∀{st:List Str},Gd (l.head?==some 47) st->∀x∈st,x≠[46]:=by
  intro st
  induction st with
  |nil=>intro _ x hx;cases hx
  |cons y r ih=>
   intro g x hx;rcases List.mem_cons.1 hx with q|q
   ·rw[q];exact g.2.1
   ·exact ih g.2.2.2.2 x q
 obtain⟨a1,a2⟩:=zq4 g x hx';refine⟨a1,a2,g2 g x hx',λq=>?_⟩;rw[q]at hx';obtain⟨b1,b2⟩:=zsw g hx';obtain⟨Y,hY⟩:∃Y,(zcW l).reverse=[46,46]::Y:=by
  rw[<-List.head?_reverse]at b2;cases hr:(zcW l).reverse with
  |nil=>exact absurd hr hne
  |cons y Y=>rw[hr]at b2;simp at b2;exact⟨Y,by rw[b2]⟩
 rw[b1,hY]at e c;cases Y with
 |nil=>exact c (.inr (by simp[jf,List.intercalate]))
 |cons y Y=>
  have e2:norm l=46::46::47::([47]:Str).intercalate (y::Y):=by rw[e];simp only[jf,Bool.false_eq_true,if_false];rw[zhv];rfl
  unfold zbF at h;rw[e2]at h;simp at h
theorem ls_eq{l:Str}{j:Nat}(h:l.getD j 0=47):∀{i:Nat},j<i->(∀k,j<k->k<i->l.getD k 0≠47)->ls l i=some j
 |0,hj,_=>by omega
 |i+1,hj,hn=>by
  simp only[ls];by_cases e:j=i
  ·subst e;rw[if_pos h]
  ·rw[if_neg (hn i (by omega) (by omega))];exact ls_eq h (by omega) λk h1 h2=>hn k h1 (by omega)
theorem zsv{l:Str}:∀{i:Nat},(∀k,k<i->l.getD k 0≠47)->ls l i=none
 |0,_=>rfl
 |i+1,hn=>by simp only[ls];rw[if_neg (hn i (by omega))];exact zsv λk h=>hn k (by omega)
theorem zcM(A x:Str)(h:47∉x):zbk (A++47::x)=some A.length:=by
 refine ls_eq (by simp[List.getD]) (by simp) λk h1 h2=>?_;simp only[List.length_append,List.length_cons]at h2;intro e;have hk:k<(A++47::x).length:=by simp;omega
 have e1:(A++47::x).getD k 0=(A++47::x)[k]:=by rw[List.getD_eq_getElem?_getD,List.getElem?_eq_getElem hk];rfl
 rw[e1,List.getElem_append_right (by omega)]at e;obtain⟨j,hj⟩:∃j,k - A.length=j+1:=⟨k - A.length - 1,by omega⟩;simp only[hj,List.getElem_cons_succ]at e;exact h (e▸List.getElem_mem _)
theorem zi9(x:Str)(h:47∉x):zbk x=none:=by
 refine zsv λk hk e=>?_;have e1:x.getD k 0=x[k]:=by simp[List.getD,hk]
 rw[e1]at e;exact h (e▸List.getElem_mem _)
theorem zkR{l:Str}(h:Kept l)(hr:l≠[47]):∃x,El x/\((l=x/\parent l=[47])\/(l=47::x/\parent l=[47])\/(Kept (parent l)/\parent l≠[47]/\parent l≠[]/\l=parent l++47::x)):=by
 rcases h with rfl|⟨ro,xs,h0,h,rfl⟩
 ·exact absurd rfl hr
 obtain⟨ys,x,rfl⟩:∃ys x,xs=ys++[x]:=by
  rcases List.eq_nil_or_concat xs with q|⟨ys,x,q⟩
  ·exact absurd q h0
  ·exact⟨ys,x,by rw[q,List.concat_eq_append]⟩
 have hx:El x:=h x (by simp);have hys:∀y∈ys,El y:=λy hy=>h y (by simp[hy]);refine⟨x,hx,?_⟩;by_cases c:ys=[]
 ·subst c;cases ro with
  |false=>
   left;have e:jf false ([]++[x])=x:=by simp[jf,List.intercalate]
   rw[e];refine⟨rfl,?_⟩;unfold parent;rw[zi9 x hx.2.1]
  |true=>
   right;left;have e:jf true ([]++[x])=47::x:=by simp[jf]
   rw[e];refine⟨rfl,?_⟩;have:=zcM [] x hx.2.1;unfold parent;simp only[List.nil_append,List.length_nil]at this;rw[this];rfl
 ·right;right;have e:jf ro (ys++[x])=jf ro ys++47::x:=by rw[zlK,if_pos (.inl c)];simp
  have hn:=jf_ne ro ys c hys;have hp:parent (jf ro (ys++[x]))=jf ro ys:=by
   rw[e];unfold parent;rw[zcM _ _ hx.2.1];have:0<(jf ro ys).length:=List.length_pos_iff.2 hn;obtain⟨n,hn⟩:∃n,(jf ro ys).length=n+1:=⟨(jf ro ys).length - 1,by omega⟩;rw[hn];simp only
   rw[<-hn,List.take_left'];rfl
  rw[hp];exact⟨.inr ⟨ro,ys,c,hys,rfl⟩,(zuj ro ys c hys).2.2,hn,e⟩
theorem zdj{l:Str}(h:Kept l):Kept (parent l):=by
 by_cases hr:l=[47]
 ·rw[hr];exact .inl rfl
 ·obtain⟨x,hx,q⟩:=zkR h hr;rcases q with⟨_,q⟩|⟨_,q⟩|⟨q,_⟩
  ·rw[q];exact .inl rfl
  ·rw[q];exact .inl rfl
  ·exact q
theorem zb5{l:Str}(h:Kept l):l≠[]:=by
 rcases h with rfl|⟨ro,xs,h0,h,rfl⟩
 ·simp
 ·exact jf_ne ro xs h0 h
def dirP(l:Str):Str:=match zbk l with|some i=>l.take (i+1)|none=>[]
theorem zky{l:Str}(h:Kept l):norm (Pa.clean (dirP l))=parent l:=by
 have cn:Pa.clean []=[46]:=rfl;by_cases hr:l=[47]
 ·subst hr;rfl
 rcases h with rfl|⟨ro,xs,h0,h,rfl⟩
 ·exact absurd rfl hr
 obtain⟨ys,x,rfl⟩:∃ys x,xs=ys++[x]:=by
  rcases List.eq_nil_or_concat xs with q|⟨ys,x,q⟩
  ·exact absurd q h0
  ·exact⟨ys,x,by rw[q,List.concat_eq_append]⟩
 have hx:El x:=h x (by simp);have hys:∀y∈ys,El y:=λy hy=>h y (by simp[hy]);by_cases c:ys=[]
 ·subst c;cases ro with
  |false=>
   have e:jf false ([]++[x])=x:=by simp[jf,List.intercalate]
   rw[e];unfold parent dirP;rw[zi9 x hx.2.1];rfl
  |true=>
   have e:jf true ([]++[x])=47::x:=by simp[jf]
   rw[e];have:=zcM [] x hx.2.1;simp only[List.nil_append,List.length_nil]at this;unfold parent dirP;rw[this];rfl
 ·have e:jf ro (ys++[x])=jf ro ys++47::x:=by rw[zlK,if_pos (.inl c)];simp
  have hk:Kept (jf ro ys):=.inr ⟨ro,ys,c,hys,rfl⟩;have hn:=zb5 hk;have hd:dirP (jf ro (ys++[x]))=jf ro (ys++[[]]):=by rw[e];unfold dirP;rw[zcM _ _ hx.2.1,zlK,if_pos (.inl c)];simp only[List.append_nil];rw[show jf ro ys++47::x=(jf ro ys++[47])++x by simp,List.take_left' (by simp)]
  have hp:parent (jf ro (ys++[x]))=jf ro ys:=by
   rw[e];unfold parent;rw[zcM _ _ hx.2.1];have:0<(jf ro ys).length:=List.length_pos_iff.2 hn;obtain⟨n,hn⟩:∃n,(jf ro ys).length=n+1:=⟨(jf ro ys).length - 1,by omega⟩;rw[hn];simp only
   rw[<-hn,List.take_left'];rfl
  have hc:Pa.clean (jf ro (ys++[[]]))=jf ro ys:=by
   refine zqj ro _ (by simp) ?_ ?_ ys c ?_
   ·intro z hz;obtain⟨y,Y,rfl⟩:∃y Y,ys=y::Y:=by
     cases ys with
     |nil=>exact absurd rfl c
     |cons y Y=>exact⟨y,Y,rfl⟩
    simp at hz;rw[<-hz];exact(hys y (by simp)).1
   ·intro z hz;rcases List.mem_append.1 hz with q|q
    ·exact(hys z q).2.1
    ·simp at q;rw[q];simp
   ·rw[List.foldl_append,zsu ro ys hys];rfl
  rw[hd,hc,hp];exact(zc8 hk).1
theorem zaz{n d:Str}(hd:d≠[47]):below n d=true↔∃r,n=d++47::r:=by
 unfold below;rw[if_neg hd];simp only[Bool.and_eq_true,decide_eq_true_eq];constructor
 ·rintro⟨⟨h1,h2⟩,h3⟩;have e1:n.getD d.length 0=n[d.length]:=by simp[List.getD,h1]
  refine⟨n.drop (d.length+1),?_⟩;rw[<-h2,List.length_take,Nat.min_eq_left (by omega),<-h3,e1,<-List.drop_eq_getElem_cons h1,List.take_append_drop]
 ·rintro⟨r,rfl⟩;refine⟨⟨by simp,by simp⟩,by simp[List.getD]⟩
theorem zcO{n d:Str}(hn:Kept n)(hr:n≠[47])(hd:Kept d)(hdr:d≠[47]):below n d=true↔parent n=d\/below (parent n) d=true:=by
 have hd0:=zb5 hd;obtain⟨x,hx,q⟩:=zkR hn hr;have no:∀r,x≠d++47::r:=λr e=>hx.2.1 (by rw[e];simp);have nb:below [47] d=false:=by rw[Bool.eq_false_iff];intro h;obtain⟨r,e⟩:=(zaz hdr).1 h;have:=congrArg List.length e;have:0<d.length:=List.length_pos_iff.2 hd0;simp at*;omega
 rcases q with⟨e,p⟩|⟨e,p⟩|⟨k,kr,k0,e⟩
 ·rw[p,nb];constructor
  ·intro h;obtain⟨r,h⟩:=(zaz hdr).1 h;rw[e]at h;exact absurd h (no r)
  ·rintro(h|h)
   ·exact absurd h.symm hdr
   ·cases h
 ·rw[p,nb];constructor
  ·intro h;obtain⟨r,h⟩:=(zaz hdr).1 h;rw[e]at h;cases d with
   |nil=>exact absurd rfl hd0
   |cons c t=>injection h with h1 h2;exact absurd (by rw[h2];simp) hx.2.1
  ·rintro(h|h)
   ·exact absurd h.symm hdr
   ·cases h
 ·constructor
  ·intro h;obtain⟨r,h⟩:=(zaz hdr).1 h;rw[e]at h;rcases List.append_eq_append_iff.1 h with⟨a,h1,h2⟩|⟨a,h1,h2⟩
   ·cases a with
    |nil=>left;simpa using h1.symm
    |cons c a=>injection h2 with h2 h3;exact absurd (by rw[h3];simp) hx.2.1
   ·cases a with
    |nil=>left;simpa using h1
    |cons c a=>injection h2 with h2 h3;right;exact(zaz hdr).2 ⟨a,by rw[h1,h2]⟩
  ·rintro(h|h)
   ·refine(zaz hdr).2 ⟨x,?_⟩;rw[<-h];exact e
   ·obtain⟨r,h⟩:=(zaz hdr).1 h;refine(zaz hdr).2 ⟨r++47::x,?_⟩;rw[e,h];simp
end SM
namespace SM
structure MI(m:Mem)(X:Option Str):Prop where
 wf:Wf m
 rt:m.isDir [47]=true
 nm:∀q x,m.find q=some x->(m.node x).name=q
 cl:∀q x,m.find q=some x->q≠[47]->X≠some q->m.isDir (parent q)=true
 kp:∀q x,m.find q=some x->Kept q
theorem zb6{m:Mem}{q:Str}(h:m.isDir q=true):∃x,m.find q=some x/\(m.node x).dir=true:=by
 unfold Mem.isDir at h;cases e:m.find q with
 |none=>rw[e]at h;cases h
 |some x=>rw[e]at h;exact⟨x,rfl,h⟩
theorem zgR{m:Mem}{q:Str}{x:Nat}(e:m.find q=some x)(h:(m.node x).dir=true):m.isDir q=true:=by unfold Mem.isDir;rw[e];exact h
theorem MI.root{m:Mem}{X:Option Str}(h:MI m X):(m.find [47]).isSome=true:=by obtain⟨x,e,_⟩:=zb6 h.rt;rw[e];rfl
theorem zi6{m:Mem}(h:Wf m)(d q:Str):q∈m.children d↔(∃x,m.find q=some x)/\q≠[47]/\parent q=d:=by
 unfold Mem.children;rw[List.mem_filter];simp only[Bool.and_eq_true,decide_eq_true_eq];constructor
 ·rintro⟨h1,h2,h3⟩;refine⟨?_,h2,h3⟩;cases e:m.find q with
  |none=>exact absurd h1 ((zco h q).1 e)
  |some x=>exact⟨x,rfl⟩
 ·rintro⟨⟨x,e⟩,h2,h3⟩;exact⟨(zbO h e).1,h2,h3⟩
theorem zkS{m:Mem}{x:Nat}(h:x<m.nodes.length):m.node x=m.nodes[x]:=by simp[Mem.node,List.getD,h]
theorem zfw{m:Mem}(h:Wf m)(l:Str)(n:Node):(∀x,x<m.nodes.length->(m.add l n).node x=m.node x)/\(m.add l n).node m.nodes.length={n with name:=l}:=by
 obtain⟨a1,a2,a3,a4,a5,a6⟩:=zeF h l n;refine⟨λx hx=>?_,?_⟩
 ·rw[zkS (by rw[a4];simp;omega),zkS hx];simp only[a4];rw[List.getElem_append_left hx]
 ·rw[zkS (by rw[a4];simp)];simp only[a4];rw[List.getElem_append_right (by omega)];simp
theorem zi8{m:Mem}(h:Wf m)(l:Str)(n:Node):(m.add l n).nodes.length=m.nodes.length+1:=by rw[(zeF h l n).2.2.2.1];simp
theorem MI.add{m:Mem}{X:Option Str}(h:MI m X){l:Str}(n:Node)(hk:Kept l)(hp:m.isDir (parent l)=true)(hd:m.isDir l=false):MI (m.add l n) X:=by
 obtain⟨a1,a2,a3,a4,a5,a6⟩:=zeF h.wf l n;obtain⟨n1,n2⟩:=zfw h.wf l n;have old:∀q x,q≠l->m.find q=some x->(m.add l n).find q=some x/\(m.add l n).node x=m.node x:=λq x hq e=>⟨by rw[a2,if_neg hq];exact e,n1 x (h.wf.find_lt e)⟩;have dir:∀q,q≠l->m.isDir q=true->(m.add l n).isDir q=true:=λq hq hd=>by obtain⟨x,e,d⟩:=zb6 hd;obtain⟨o1,o2⟩:=old q x hq e;exact zgR o1 (by rw[o2];exact d)
 have hr:([47]:Str)≠l:=λe=>by rw[<-e,h.rt]at hd;cases hd
 have hpl:∀q,m.isDir q=true->q≠l:=λq hq e=>by rw[e,hd]at hq;cases hq
 refine⟨a1,dir _ hr h.rt,λq x e=>?_,λq x e hq hX=>?_,λq x e=>?_⟩
 ·rw[a2]at e;by_cases c:q=l
  ·rw[if_pos c]at e;injection e with e;rw[<-e,n2,c]
  ·rw[if_neg c]at e;rw[(old q x c e).2];exact h.nm q x e
 ·rw[a2]at e;by_cases c:q=l
  ·rw[c];exact dir _ (hpl _ hp) hp
  ·rw[if_neg c]at e;have:=h.cl q x e hq hX;exact dir _ (hpl _ this) this
 ·rw[a2]at e;by_cases c:q=l
  ·rw[c];exact hk
  ·rw[if_neg c]at e;exact h.kp q x e
theorem zex(m:Mem):∀(f g:Nat)(l:Str),l.length<f->l.length<g->m.clearF l f=m.clearF l g
 |0,_,_,h,_=>by omega
 |_,0,_,_,h=>by omega
 |f+1,g+1,l,h1,h2=>by
  have rt:∀f,m.clearF [47] f=true:=λf=>by cases f<;>simp[Mem.clearF]
  have key:m.clearF (parent l) f=m.clearF (parent l) g:=by
   rcases zaZ l with q|q
   ·exact zex m f g _ (by omega) (by omega)
   ·rw[q,rt,rt]
  simp only[Mem.clearF,key]
theorem zdt{m:Mem}{l:Str}(h:m.clear l=true)(hl:l≠[47]):(∀x,m.find (parent l)=some x->(m.node x).dir=true)/\m.clear (parent l)=true:=by
 have hs:m.clear (parent l)=m.clearF (parent l) (l.length+1):=by
  unfold Mem.clear;have:=zjm l;rcases zaZ l with q|q
  ·exact zex m _ _ _ (by omega) (by omega)
  ·rw[q];simp[Mem.clearF]
 unfold Mem.clear at h;simp only[Mem.clearF,if_neg hl]at h;rw[hs];cases e:m.find (parent l)with
 |none=>rw[e]at h;exact⟨λx hx=>(by cases hx),h⟩
 |some x=>
  rw[e]at h;simp only at h;by_cases c:(m.node x).dir=false
  ·rw[if_pos c]at h;cases h
  ·rw[if_neg c]at h;exact⟨λy hy=>(by injection hy with hy;rw[<-hy];simpa using c),h⟩
theorem zkP(m:Mem):m.clear [47]=true:=by unfold Mem.clear;simp[Mem.clearF]
theorem zbN{m:Mem}{l:Str}{perm:Int}{x:Nat}(h:m.find (parent l)=some x):m.parents l perm=m:=by unfold Mem.parents;simp only[Mem.parentsF,h]
theorem zeG{m:Mem}(hr:(m.find [47]).isSome=true){l:Str}{perm:Int}(h:m.find (parent l)=none):m.parents l perm=(m.parents (parent l) perm).add (parent l) ⟨true,orI 2147483648 perm,[],0,[]⟩:=by
 have hp:parent l≠[47]:=λe=>by rw[e]at h;rw[h]at hr;cases hr
 have hl:=(zaZ l).resolve_right hp;unfold Mem.parents;have st:m.parentsF l perm (l.length+1+1)=(m.parentsF (parent l) perm (l.length+1)).add (parent l) ⟨true,orI 2147483648 perm,[],0,[]⟩:=by rw[Mem.parentsF,h]
 rw[show l.length+2=(l.length+1)+1 by omega,st,zkw m perm hr (l.length+1) ((parent l).length+2) (parent l) (by omega) (by omega)]
theorem MI.parents{m:Mem}{X:Option Str}(h:MI m X)(perm:Int):∀(k:Nat)(l:Str),l.length<=k->Kept l->l≠[47]->m.clear l=true->MI (m.parents l perm) X/\(m.parents l perm).isDir (parent l)=true/\(∀q,m.isDir q=false->q.length>=l.length->(m.parents l perm).isDir q=false)/\(∀q x,m.find q=some x->(m.parents l perm).find q=some x/\(m.parents l perm).node x=m.node x):=by
 intro k
 induction k with
 |zero=>intro l hl hk hr;exact absurd (List.length_eq_zero_iff.1 (by omega)) (zb5 hk)
 |succ k ih=>
  intro l hl hk hr hc;obtain⟨c1,c2⟩:=zdt hc hr;cases e:m.find (parent l)with
  |some x=>rw[zbN e];exact⟨h,zgR e (c1 x e),λq hq _=>hq,λq x e=>⟨e,rfl⟩⟩
  |none=>
   have hp:parent l≠[47]:=λq=>by have:=h.root;rw[q]at e;rw[e]at this;cases this
   have hlt:=(zaZ l).resolve_right hp;have hkp:=zdj hk;obtain⟨i1,i2,i3,i4⟩:=ih (parent l) (by omega) hkp hp c2;have nd:m.isDir (parent l)=false:=by unfold Mem.isDir;rw[e]
   have nd':=i3 _ nd (Nat.le_refl _);rw[zeG h.root e];have A:=i1.add ⟨true,orI 2147483648 perm,[],0,[]⟩ hkp i2 nd';obtain⟨a1,a2,a3,a4,a5,a6⟩:=zeF i1.wf (parent l) ⟨true,orI 2147483648 perm,[],0,[]⟩;obtain⟨n1,n2⟩:=zfw i1.wf (parent l) ⟨true,orI 2147483648 perm,[],0,[]⟩;refine⟨A,zgR (by rw[a2,if_pos rfl]) (by rw[n2]),λq hq hlq=>?_,λq x hx=>?_⟩
   ·have hne:q≠parent l:=λe=>by rw[e]at hlq;omega
    have hq':=i3 q hq (by omega);unfold Mem.isDir at hq'⊢;rw[a2,if_neg hne];cases e2:(m.parents (parent l) perm).find q with
    |none=>rfl
    |some y=>rw[e2]at hq';simp only at hq'⊢;rw[n1 y (i1.wf.find_lt e2)];exact hq'
   ·obtain⟨j1,j2⟩:=i4 q x hx;have hne:q≠parent l:=λq'=>by rw[q',e]at hx;cases hx
    exact⟨by rw[a2,if_neg hne];exact j1,by rw[n1 x (i1.wf.find_lt j1)];exact j2⟩
end SM
namespace PM
structure Nd where
 n:SM.Node
 kids:Option (Str->Option Nat)
structure Hd where
 d:Nat
 pos:Int
 listed:Int
 cl:Bool
 ro:Bool
structure St where
 g:Str->Option Nat
 nd:Nat->Option Nd
 hs:Nat->Option Hd
def St.putG(s:St)(l:Str)(o:Option Nat):St:={s with g:=λq=>if q=l then o else s.g q}
def St.setNd(s:St)(d:Nat)(n:Nd):St:={s with nd:=λk=>if k=d then some n else s.nd k}
def St.setH(s:St)(f:Nat)(h:Hd):St:={s with hs:=λk=>if k=f then some h else s.hs k}
def zb9(k:Str->Option Nat)(l:Str)(o:Option Nat):Str->Option Nat:=λq=>if q=l then o else k q
def kz(d:Bool):Option (Str->Option Nat):=if d=true then some λ_=>none else none
abbrev pt'(ps:List Nat)(x:Nat):Nat:=ps.getD x 0
theorem znY{ps:List Nat}{x:Nat}(h:x<ps.length):pt' ps x=ps[x]:=by simp[pt',List.getD,h]
theorem zoS{ps:List Nat}{x:Nat}(h:x<ps.length):pt' ps x∈ps:=by rw[znY h];exact List.getElem_mem h
theorem zkz{ps:List Nat}(hn:ps.Nodup){x y:Nat}(hx:x<ps.length)(hy:y<ps.length)(e:pt' ps x=pt' ps y):x=y:=by rw[znY hx,znY hy]at e;exact(List.getElem_inj hn).1 e
theorem zsA{ps:List Nat}{f x:Nat}(h:x<ps.length):pt' (ps++[f]) x=pt' ps x:=by rw[znY (by simp;omega),znY h,List.getElem_append_left h]
theorem zsD(ps:List Nat)(f:Nat):pt' (ps++[f]) ps.length=f:=by rw[znY (by simp),List.getElem_append_right (by omega)];simp
abbrev Ex:=List (Str×Nat×SM.Node)
def eg:Ex->Str->Option Nat
 |[],_=>none
 |e::E,q=>if q=e.1 then some e.2.1 else eg E q
theorem zpz{E:Ex}{q:Str}(h:q∉E.map (·.1)):eg E q=none:=by
 induction E with
 |nil=>rfl
 |cons e E ih=>simp only[List.map_cons,List.mem_cons,not_or]at h;simp only[eg];rw[if_neg h.1];exact ih h.2
def zla(m:SM.Mem)(X:Option Str)(ps:List Nat)(x:Nat)(k:Option (Str->Option Nat)):Prop:=((m.node x).dir=false/\k=none)\/((m.node x).dir=true/\∃kk,k=some kk/\(m.find (m.node x).name=some x->∀q,(X=some q->SM.parent q≠(m.node x).name)->kk q=if q≠[47]/\SM.parent q=(m.node x).name then(m.find q).map (pt' ps)else none))
def Pos(h:SM.Hnd)(pos:Int):Prop:=(h.cl=false->pos=h.pos)/\(h.cl=true->-8796093022208<=pos/\pos<=8796093022208)
structure Hs(s:St)(m:SM.Mem)(ps:List Nat)(hp:Int->Nat):Prop where
 at_:∀k h,SM.hget m.hs k=some h->h.node<m.nodes.length/\∃pos,Pos h pos/\s.hs (hp k)=some ⟨pt' ps h.node,pos,h.listed,h.cl,h.ro⟩
 inj:∀k k' h h',SM.hget m.hs k=some h->SM.hget m.hs k'=some h'->hp k=hp k'->k=k'
structure Rel(s:St)(m:SM.Mem)(ps:List Nat)(hp:Int->Nat)(E:Ex)(X:Option Str):Prop where
 mi:SM.MI m X
 len:ps.length=m.nodes.length
 inj:ps.Nodup
 g:∀q,s.g q=(eg E q).or ((m.find q).map (pt' ps))
 nd:∀x,x<m.nodes.length->∃k,s.nd (pt' ps x)=some ⟨m.node x,k⟩/\zla m X ps x k
 ex:∀e∈E,s.nd e.2.1=some ⟨{e.2.2 with name:=e.1},kz e.2.2.dir⟩/\e.2.1∉ps
 exd:(E.map (·.2.1)).Nodup
 exn:(E.map (·.1)).Nodup
 hs:Hs s m ps hp
variable{s:St}{m:SM.Mem}{ps:List Nat}{hp:Int->Nat}{E:Ex}{X:Option Str}
theorem Rel.lt(r:Rel s m ps hp E X){q:Str}{x:Nat}(h:m.find q=some x):x<m.nodes.length:=r.mi.wf.find_lt h
theorem Rel.push(r:Rel s m ps hp E X){l:Str}{d:Nat}(n:SM.Node)(h1:s.nd d=none)(h2:l∉E.map (·.1)):Rel ((s.setNd d ⟨{n with name:=l},kz n.dir⟩).putG l (some d)) m ps hp ((l,d,n)::E) X:=by
 have nps:d∉ps:=λhd=>by obtain⟨x,hx,e⟩:=List.getElem_of_mem hd;obtain⟨k,q,_⟩:=r.nd x (by rw[<-r.len];exact hx);rw[znY hx,e,h1]at q;cases q
 have nE:d∉E.map (·.2.1):=λhd=>by obtain⟨e,he,rfl⟩:=List.mem_map.1 hd;have:=(r.ex e he).1;rw[h1]at this;cases this
 refine⟨r.mi,r.len,r.inj,λq=>?_,λx hx=>?_,λe he=>?_,?_,?_,⟨r.hs.at_,r.hs.inj⟩⟩
 ·simp only[St.putG,St.setNd,eg];by_cases c:q=l
  ·rw[if_pos c,if_pos c];rfl
  ·rw[if_neg c,if_neg c];exact r.g q
 ·obtain⟨k,q1,q2⟩:=r.nd x hx;refine⟨k,?_,q2⟩;simp only[St.putG,St.setNd];rw[if_neg (λe=>nps (by rw[<-e];exact zoS (by rw[r.len];exact hx)))];exact q1
 ·rcases List.mem_cons.1 he with rfl|he
  ·exact⟨by simp[St.putG,St.setNd],nps⟩
  ·obtain⟨q1,q2⟩:=r.ex e he;refine⟨?_,q2⟩;simp only[St.putG,St.setNd];rw[if_neg (λe'=>nE (List.mem_map.2 ⟨e,he,e'⟩))];exact q1
 ·simp only[List.map_cons,List.nodup_cons];exact⟨nE,r.exd⟩
 ·simp only[List.map_cons,List.nodup_cons];exact⟨h2,r.exn⟩
theorem Rel.here{l:Str}{f:Nat}{n:SM.Node}{x:Nat}(r:Rel s m ps hp ((l,f,n)::E) X)(hX:X≠some l)(hk:SM.Kept l)(hl:l≠[47])(hx:m.find (SM.parent l)=some x)(hd:(m.node x).dir=true)(hn:m.isDir l=false):
  ∃kk,s.nd (pt' ps x)=some ⟨m.node x,some kk⟩/\Rel (s.setNd (pt' ps x) ⟨m.node x,some (zb9 kk l (some f))⟩) (m.add l n) (ps++[f]) hp E X:=by
 have lx:=r.lt hx;have len:=r.len;obtain⟨k,k1,k2⟩:=r.nd x lx;rcases k2 with⟨k2,_⟩|⟨_,kk,rfl,k3⟩
 ·rw[hd]at k2;cases k2
 refine⟨kk,k1,?_⟩;have nm:=r.mi.nm _ _ hx;have k3:=k3 (by rw[nm];exact hx);obtain⟨a1,a2,a3,a4,a5,a6⟩:=SM.zeF r.mi.wf l n;obtain⟨n1,n2⟩:=SM.zfw r.mi.wf l n;have al:=SM.zi8 r.mi.wf l n;obtain⟨f1,f2⟩:=r.ex (l,f,n) (by simp);simp only at f1 f2;have exd:=r.exd;have exn:=r.exn;simp only[List.map_cons,List.nodup_cons]at exd exn;have pl:SM.parent l≠l:=λe=>by
  rcases SM.zaZ l with q|q
  ·rw[e]at q;omega
  ·exact hl (by rw[<-e];exact q)
 have mp:∀q,q≠l->((m.add l n).find q).map (pt' (ps++[f]))=(m.find q).map (pt' ps):=λq hq=>by
  rw[a2,if_neg hq];cases e:m.find q with
  |none=>rfl
  |some y=>simp only[Option.map_some];rw[zsA (by rw[len];exact r.lt e)]
 have mpl:((m.add l n).find l).map (pt' (ps++[f]))=some f:=by rw[a2,if_pos rfl,<-len];simp only[Option.map_some];rw[zsD]
 refine⟨r.mi.add n hk (SM.zgR hx hd) hn,by rw[al];simp[len],?_,λq=>?_,λy hy=>?_,λe he=>?_,exd.2,exn.2,⟨λk h hh=>?_,λk k' h h' e e'=>?_⟩⟩
 ·rw[List.nodup_append];exact⟨r.inj,by simp,λa ha b hb e=>f2 (by simp at hb;rw[<-hb,<-e];exact ha)⟩
 ·have:=r.g q;simp only[St.setNd];rw[this];simp only[eg];by_cases c:q=l
  ·rw[if_pos c,c,zpz exn.1,mpl];rfl
  ·rw[if_neg c,mp q c]
 ·rw[al]at hy;by_cases c:y<m.nodes.length
  ·have yl:y<ps.length:=by rw[len];exact c
   rw[zsA yl,n1 y c];by_cases cx:y=x
   ·subst cx;refine⟨some (zb9 kk l (some f)),by simp[St.setNd],.inr ⟨by rw[n1 y c];exact hd,_,rfl,λ_ q hq=>?_⟩⟩;rw[n1 y c]at hq⊢;simp only[zb9];by_cases cq:q=l
    ·rw[if_pos cq,cq,if_pos ⟨hl,nm.symm⟩,mpl]
    ·rw[if_neg cq,k3 q hq,mp q cq]
   ·obtain⟨k',q1,q2⟩:=r.nd y c;refine⟨k',?_,?_⟩
    ·simp only[St.setNd];rw[if_neg (λe=>cx (zkz r.inj yl (by rw[len];exact lx) e))];exact q1
    ·rcases q2 with⟨d0,e0⟩|⟨d1,kk',e1,q3⟩
     ·exact .inl ⟨by rw[n1 y c];exact d0,e0⟩
     ·refine .inr ⟨by rw[n1 y c];exact d1,kk',e1,λhf q hq=>?_⟩;rw[n1 y c]at hf hq⊢;have hne:(m.node y).name≠l:=λe=>by rw[a2,if_pos e]at hf;injection hf with hf;omega
      rw[a2,if_neg hne]at hf;rw[q3 hf q hq];by_cases cc:q≠[47]/\SM.parent q=(m.node y).name
      ·rw[if_pos cc,if_pos cc];have:q≠l:=λe=>by rw[e]at cc;rw[<-cc.2,hx]at hf;injection hf with hf;exact cx hf.symm
       rw[mp q this]
      ·rw[if_neg cc,if_neg cc]
  ·have e:y=m.nodes.length:=by omega
   subst e;refine⟨kz n.dir,?_,?_⟩
   ·rw[<-len,zsD,len,n2];simp only[St.setNd];rw[if_neg (λe=>f2 (by rw[e];exact zoS (by rw[len];exact lx)))];exact f1
   ·unfold zla;rw[n2];cases hdn:n.dir with
    |false=>exact .inl ⟨by simp[hdn],by simp[kz]⟩
    |true=>
     refine .inr ⟨by simp[hdn],λ_=>none,by simp[kz],λhf q hq=>?_⟩
     try simp only
     by_cases cc:q≠[47]/\SM.parent q=l
     ·rw[if_pos cc];have hql:q≠l:=λe=>pl (by rw[<-e];exact e▸cc.2);rw[mp q hql];cases ef:m.find q with
      |none=>rfl
      |some z=>have:=r.mi.cl q z ef cc.1 (λe=>hq e cc.2);rw[cc.2,hn]at this;cases this
     ·rw[if_neg cc]
 ·obtain⟨q1,q2⟩:=r.ex e (List.mem_cons_of_mem _ he);refine⟨?_,?_⟩
  ·simp only[St.setNd];rw[if_neg (λe'=>q2 (by rw[e'];exact zoS (by rw[len];exact lx)))];exact q1
  ·simp only[List.mem_append,List.mem_singleton,not_or];exact⟨q2,λe'=>exd.1 (List.mem_map.2 ⟨e,he,e'⟩)⟩
 ·rw[a5]at hh;obtain⟨q1,q2⟩:=r.hs.at_ k h hh;refine⟨by rw[al];omega,?_⟩;rw[zsA (by rw[len];exact q1)];exact q2
 ·rw[a5]at e e';exact r.hs.inj k k' h h' e e'
end PM
namespace SM
theorem zgQ(m:Mem)(x:Nat)(n:Node)(hx:x<m.nodes.length)(y:Nat):(m.setNode x n).node y=if y=x then n else m.node y:=by
 unfold Mem.setNode Mem.node;simp only[List.getD];by_cases c:y=x
 ·subst c;rw[if_pos rfl,List.getElem?_set_self hx];rfl
 ·rw[if_neg c,List.getElem?_set_ne (Ne.symm c)]
theorem MI.setNode{m:Mem}{X:Option Str}(h:MI m X){x:Nat}{n:Node}(hx:x<m.nodes.length)(h1:n.name=(m.node x).name)(h2:n.dir=(m.node x).dir):MI (m.setNode x n) X:=by
 obtain⟨s1,s2,s3,s4⟩:=za5 m x n;have fs:=λq=>zhs s1 s2 q;have nn:=zgQ m x n hx;have na:∀y,((m.setNode x n).node y).name=(m.node y).name/\((m.setNode x n).node y).dir=(m.node y).dir:=λy=>by
  rw[nn];split
  ·rename_i e;rw[e];exact⟨h1,h2⟩
  ·exact⟨rfl,rfl⟩
 have dir:∀q,(m.setNode x n).isDir q=m.isDir q:=λq=>by
  unfold Mem.isDir;rw[fs];cases m.find q with
  |none=>rfl
  |some y=>exact(na y).2
 exact⟨h.wf.same s1 s2 (by rw[s3];exact Nat.le_refl _),by rw[dir];exact h.rt,λq y e=>by rw[(na y).1];exact h.nm q y (by rw[<-fs];exact e),λq y e hq hX=>by rw[dir];exact h.cl q y (by rw[<-fs];exact e) hq hX,λq y e=>h.kp q y (by rw[<-fs];exact e)⟩
theorem MI.setH{m:Mem}{X:Option Str}(h:MI m X)(k:Int)(hd:Hnd):MI (m.setH k hd) X:=⟨h.wf.same rfl rfl (Nat.le_refl _),h.rt,h.nm,h.cl,h.kp⟩
theorem MI.dropD{m m':Mem}{X:Option Str}(h:MI m X)(wf:Wf m'){D:Str->Prop}[DecidablePred D](hf:∀q,m'.find q=if D q then none else m.find q)(hn:m'.nodes=m.nodes)(hr:¬D [47])(hD:∀q x,m.find q=some x->q≠[47]->D (parent q)->D q)(hX:∀q,X=some q->D q):MI m' none:=by
 have nn:∀x,m'.node x=m.node x:=λx=>by unfold Mem.node;rw[hn]
 have old:∀q x,m'.find q=some x->¬D q/\m.find q=some x:=λq x e=>by
  rw[hf]at e;by_cases c:D q
  ·rw[if_pos c]at e;cases e
  ·rw[if_neg c]at e;exact⟨c,e⟩
 have dir:∀q,¬D q->m'.isDir q=m.isDir q:=λq c=>by
  unfold Mem.isDir;rw[hf,if_neg c];cases m.find q with
  |none=>rfl
  |some y=>simp only[nn]
 refine⟨wf,by rw[dir _ hr];exact h.rt,λq x e=>by rw[nn];exact h.nm q x (old q x e).2,λq x e hq _=>?_,λq x e=>h.kp q x (old q x e).2⟩;obtain⟨c,e2⟩:=old q x e;rw[dir _ λd=>c (hD q x e2 hq d)];exact h.cl q x e2 hq λe=>c (hX q e)
theorem zj5:∀(ns:List Str){m:Mem},Wf m->Wf (m.dropAll ns)/\(∀k,(m.dropAll ns).find k=if k∈ns then none else m.find k)/\(m.dropAll ns).nodes=m.nodes/\(m.dropAll ns).hs=m.hs
 |[],m,h=>⟨h,λk=>by simp[Mem.dropAll],rfl,rfl⟩
 |n::ns,m,h=>by
  obtain⟨d1,d2,d3⟩:=zku h n;obtain⟨e1,e2⟩:=zcp m n;obtain⟨i1,i2,i3,i4⟩:=zj5 ns d1;refine⟨i1,λk=>?_,i3.trans e1,i4.trans e2⟩;rw[show m.dropAll (n::ns)=(m.drop n).dropAll ns from rfl,i2,d2];by_cases c:k∈ns
  ·rw[if_pos c,if_pos (List.mem_cons_of_mem _ c)]
  ·rw[if_neg c];by_cases e:k=n
   ·rw[if_pos e,if_pos (by rw[e];simp)]
   ·rw[if_neg e,if_neg (by simp[e,c])]
end SM
namespace PM
variable{s:St}{m:SM.Mem}{ps:List Nat}{hp:Int->Nat}{E:Ex}{X:Option Str}
theorem Rel.setNode(r:Rel s m ps hp E X){x:Nat}{n:SM.Node}{k:Option (Str->Option Nat)}(hx:x<m.nodes.length)(hk:s.nd (pt' ps x)=some ⟨m.node x,k⟩)(h1:n.name=(m.node x).name)(h2:n.dir=(m.node x).dir):Rel (s.setNd (pt' ps x) ⟨n,k⟩) (m.setNode x n) ps hp E X:=by
 obtain⟨s1,s2,s3,s4⟩:=SM.za5 m x n;have fs:=λq=>SM.zhs s1 s2 q;have nn:=SM.zgQ m x n hx;have na:∀y,((m.setNode x n).node y).name=(m.node y).name/\((m.setNode x n).node y).dir=(m.node y).dir:=λy=>by
  rw[nn];split
  ·rename_i e;rw[e];exact⟨h1,h2⟩
  ·exact⟨rfl,rfl⟩
 have len:=r.len;have ko:∀y k,zla m X ps y k->zla (m.setNode x n) X ps y k:=λy k q=>by unfold zla at q⊢;rw[(na y).1,(na y).2];simp only[fs];exact q
 refine⟨r.mi.setNode hx h1 h2,by rw[s3];exact len,r.inj,λq=>by rw[fs];exact r.g q,λy hy=>?_,λe he=>?_,r.exd,r.exn,⟨λj h hh=>?_,λj j' h h' e e'=>r.hs.inj j j' h h' (by rw[<-s4];exact e) (by rw[<-s4];exact e')⟩⟩
 ·rw[s3]at hy;by_cases c:y=x
  ·subst c;refine⟨k,by simp[St.setNd,nn],?_⟩;obtain⟨k',q1,q2⟩:=r.nd y hy;rw[hk]at q1;injection q1 with q1;injection q1 with _ q1;rw[q1];exact ko _ _ q2
  ·obtain⟨k',q1,q2⟩:=r.nd y hy;refine⟨k',?_,ko _ _ q2⟩;simp only[St.setNd];rw[if_neg (λe=>c (zkz r.inj (by rw[len];exact hy) (by rw[len];exact hx) e)),nn,if_neg c];exact q1
 ·obtain⟨q1,q2⟩:=r.ex e he;refine⟨?_,q2⟩;simp only[St.setNd];rw[if_neg (λe'=>q2 (by rw[e'];exact zoS (by rw[len];exact hx)))];exact q1
 ·rw[s4]at hh;obtain⟨q1,q2⟩:=r.hs.at_ j h hh;exact⟨by rw[s3];exact q1,q2⟩
theorem Rel.setH(r:Rel s m ps hp E X){i:Int}{h0 h:SM.Hnd}{pos:Int}(h1:SM.hget m.hs i=some h0)(h2:h.node=h0.node)(hpos:Pos h pos):Rel (s.setH (hp i) ⟨pt' ps h.node,pos,h.listed,h.cl,h.ro⟩) (m.setH i h) ps hp E X:=by
 obtain⟨l0,_⟩:=r.hs.at_ i h0 h1;refine⟨r.mi.setH i h,r.len,r.inj,r.g,r.nd,r.ex,r.exd,r.exn,⟨λj h' hh=>?_,λj j' a a' e e' hj=>?_⟩⟩
 ·have hh:SM.hget (SM.hput m.hs i h) j=some h':=hh;rw[SM.zbP]at hh;by_cases c:j=i
  ·rw[if_pos c]at hh;injection hh with hh;subst hh c;exact⟨by rw[h2];exact l0,pos,hpos,by simp[St.setH]⟩
  ·rw[if_neg c]at hh;obtain⟨q1,p',hp',q2⟩:=r.hs.at_ j h' hh;refine⟨q1,p',hp',?_⟩;simp only[St.setH];rw[if_neg (λe=>c (r.hs.inj j i h' h0 hh h1 e))];exact q2
 ·have live:∀j a,SM.hget (m.setH i h).hs j=some a->∃b,SM.hget m.hs j=some b:=λj a e=>by
   have e:SM.hget (SM.hput m.hs i h) j=some a:=e;rw[SM.zbP]at e;by_cases c:j=i
   ·rw[c];exact⟨_,h1⟩
   ·rw[if_neg c]at e;exact⟨_,e⟩
  obtain⟨b,hb⟩:=live j a e;obtain⟨b',hb'⟩:=live j' a' e';exact r.hs.inj j j' b b' hb hb' hj
theorem Rel.newH(r:Rel s m ps hp E X)(i:Int){f:Nat}{h:SM.Hnd}(hf:s.hs f=none)(hl:h.node<m.nodes.length)(hc:h.cl=false):Rel (s.setH f ⟨pt' ps h.node,h.pos,h.listed,h.cl,h.ro⟩) (m.setH i h) ps (λk=>if k=i then f else hp k) E X:=by
 have nf:∀j a,SM.hget m.hs j=some a->hp j≠f:=λj a e q=>by obtain⟨_,_,_,q2⟩:=r.hs.at_ j a e;rw[q,hf]at q2;cases q2
 refine⟨r.mi.setH i h,r.len,r.inj,r.g,r.nd,r.ex,r.exd,r.exn,⟨λj h' hh=>?_,λj j' a a' e e' hj=>?_⟩⟩
 ·have hh:SM.hget (SM.hput m.hs i h) j=some h':=hh;rw[SM.zbP]at hh;by_cases c:j=i
  ·rw[if_pos c]at hh;injection hh with hh;subst hh c;exact⟨hl,h.pos,⟨λ_=>rfl,λe=>by rw[hc]at e;cases e⟩,by simp[St.setH]⟩
  ·rw[if_neg c]at hh;obtain⟨q1,p',hp',q2⟩:=r.hs.at_ j h' hh;refine⟨q1,p',by simpa only[if_neg c]using hp',?_⟩;simp only[St.setH,if_neg c];rw[if_neg (nf j h' hh)];exact q2
 ·have e:SM.hget (SM.hput m.hs i h) j=some a:=e;have e':SM.hget (SM.hput m.hs i h) j'=some a':=e';rw[SM.zbP]at e e';by_cases c:j=i
  ·by_cases c':j'=i
   ·rw[c,c']
   ·rw[if_neg c']at e';simp only[if_pos c,if_neg c']at hj;exact absurd hj.symm (nf j' a' e')
  ·rw[if_neg c]at e;by_cases c':j'=i
   ·simp only[if_neg c,if_pos c']at hj;exact absurd hj (nf j a e)
   ·rw[if_neg c']at e';simp only[if_neg c,if_neg c']at hj;exact r.hs.inj j j' a a' e e' hj
theorem Rel.spareH(r:Rel s m ps hp E X){f:Nat}(h:Hd)(hf:s.hs f=none):Rel (s.setH f h) m ps hp E X:=by refine⟨r.mi,r.len,r.inj,r.g,r.nd,r.ex,r.exd,r.exn,⟨λj h' hh=>?_,r.hs.inj⟩⟩;obtain⟨q1,p',hp',q2⟩:=r.hs.at_ j h' hh;refine⟨q1,p',hp',?_⟩;simp only[St.setH];rw[if_neg (λe=>by rw[e,hf]at q2;cases q2)];exact q2
def zqZ(s:St)(m:SM.Mem)(ps:List Nat)(l:Str):Prop:=∀y kk,y<m.nodes.length->s.nd (pt' ps y)=some ⟨m.node y,some kk⟩->m.find (m.node y).name=some y->kk l=none
theorem Rel.unreg(r:Rel s m ps hp [] none){l:Str}{x:Nat}(hl:l≠[47])(hx:m.find (SM.parent l)=some x)(hd:(m.node x).dir=true):
  ∃kk,s.nd (pt' ps x)=some ⟨m.node x,some kk⟩/\Rel (s.setNd (pt' ps x) ⟨m.node x,some (zb9 kk l none)⟩) m ps hp [] (some l)/\zqZ (s.setNd (pt' ps x) ⟨m.node x,some (zb9 kk l none)⟩) m ps l:=by
 have lx:=r.lt hx;have len:=r.len;obtain⟨k,k1,k2⟩:=r.nd x lx;rcases k2 with⟨k2,_⟩|⟨_,kk,rfl,k3⟩
 ·rw[hd]at k2;cases k2
 have nm:=r.mi.nm _ _ hx;have k3:=k3 (by rw[nm];exact hx);have ne:∀y,y<m.nodes.length->y≠x->pt' ps y≠pt' ps x:=λy hy c e=>c (zkz r.inj (by rw[len];exact hy) (by rw[len];exact lx) e);refine⟨kk,k1,⟨⟨r.mi.wf,r.mi.rt,r.mi.nm,λq y e h1 _=>r.mi.cl q y e h1 (λh=>by cases h),r.mi.kp⟩,r.len,r.inj,r.g,λy hy=>?_,λe he=>(by cases he),r.exd,r.exn,⟨r.hs.at_,r.hs.inj⟩⟩,λy kk' hy hnd hf=>?_⟩
 ·by_cases c:y=x
  ·subst c;refine⟨some (zb9 kk l none),by simp[St.setNd],.inr ⟨hd,_,rfl,λ_ q hq=>?_⟩⟩;simp only[zb9];have cq:q≠l:=λe=>hq (by rw[e]) (by rw[e,nm]);rw[if_neg cq,k3 q (λh=>by cases h)]
  ·obtain⟨k',q1,q2⟩:=r.nd y hy;refine⟨k',?_,?_⟩
   ·simp only[St.setNd];rw[if_neg (ne y hy c)];exact q1
   ·rcases q2 with q2|⟨d1,kk',e1,q3⟩
    ·exact .inl q2
    ·exact .inr ⟨d1,kk',e1,λhf q hq=>q3 hf q (λh=>by cases h)⟩
 ·simp only[St.setNd]at hnd;by_cases c:y=x
  ·rw[if_pos (by rw[c])]at hnd;injection hnd with hnd;injection hnd with _ hnd;injection hnd with hnd;rw[<-hnd];simp[zb9]
  ·rw[if_neg (ne y hy c)]at hnd;obtain⟨k',q1,q2⟩:=r.nd y hy;rw[hnd]at q1;injection q1 with q1;injection q1 with _ q1;rcases q2 with⟨_,q2⟩|⟨d1,kk2,e1,q3⟩
   ·rw[q2]at q1;cases q1
   ·rw[e1]at q1;injection q1 with q1;rw[q1,q3 hf l (λh=>by cases h)];rw[if_neg];rintro⟨_,e⟩;rw[<-e,hx]at hf;injection hf with hf;exact c hf.symm
theorem Rel.noreg(r:Rel s m ps hp [] none){l:Str}(hx:m.find l=none):Rel s m ps hp [] (some l)/\zqZ s m ps l:=by
 refine⟨⟨⟨r.mi.wf,r.mi.rt,r.mi.nm,λq y e h1 _=>r.mi.cl q y e h1 (λh=>by cases h),r.mi.kp⟩,r.len,r.inj,r.g,λy hy=>?_,λe he=>(by cases he),r.exd,r.exn,r.hs⟩,λy kk hy hnd hf=>?_⟩
 ·obtain⟨k',q1,q2⟩:=r.nd y hy;refine⟨k',q1,?_⟩;rcases q2 with q2|⟨d1,kk',e1,q3⟩
  ·exact .inl q2
  ·exact .inr ⟨d1,kk',e1,λhf q hq=>q3 hf q (λh=>by cases h)⟩
 ·obtain⟨k',q1,q2⟩:=r.nd y hy;rw[hnd]at q1;injection q1 with q1;injection q1 with _ q1;rcases q2 with⟨_,q2⟩|⟨d1,kk2,e1,q3⟩
  ·rw[q2]at q1;cases q1
  ·rw[e1]at q1;injection q1 with q1;rw[q1,q3 hf l (λh=>by cases h),hx];split<;>rfl
theorem Rel.dropD{m':SM.Mem}{s':St}{l:Str}(r:Rel s m ps hp [] (some l))(nk:zqZ s m ps l)(wf:SM.Wf m'){D:Str->Prop}[DecidablePred D](hf:∀q,m'.find q=if D q then none else m.find q)(hn:m'.nodes=m.nodes)(hh:m'.hs=m.hs)(hr:¬D [47])
  (hD:∀q x,m.find q=some x->q≠[47]->D (SM.parent q)->D q) (hl:D l) (hD2:∀q x,m.find q=some x->q≠[47]->D q->q=l\/D (SM.parent q))
  (s1:∀q,s'.g q=if D q then none else s.g q) (s2:s'.hs=s.hs) (s3:s'.nd=s.nd):Rel s' m' ps hp [] none:=by
 have nn:∀x,m'.node x=m.node x:=λx=>by unfold SM.Mem.node;rw[hn]
 refine⟨r.mi.dropD wf hf hn hr hD (λq e=>by injection e with e;rw[<-e];exact hl),by rw[hn];exact r.len,r.inj,λq=>?_,λy hy=>?_,λe he=>(by cases he),List.nodup_nil,List.nodup_nil,⟨λj h e=>?_,λj j' h h' e e'=>r.hs.inj j j' h h' (by rw[<-hh];exact e) (by rw[<-hh];exact e')⟩⟩
 ·rw[s1,hf];by_cases c:D q
  ·rw[if_pos c,if_pos c];rfl
  ·rw[if_neg c,if_neg c];exact r.g q
 ·rw[hn]at hy;obtain⟨k,q1,q2⟩:=r.nd y hy;refine⟨k,by rw[nn,s3];exact q1,?_⟩;unfold zla;rw[nn];rcases q2 with q2|⟨d1,kk,e1,q3⟩
  ·exact .inl q2
  ·refine .inr ⟨d1,kk,e1,λhfy q _=>?_⟩;have hfy2:¬D (m.node y).name/\m.find (m.node y).name=some y:=by
    rw[hf]at hfy;by_cases c:D (m.node y).name
    ·rw[if_pos c]at hfy;cases hfy
    ·rw[if_neg c]at hfy;exact⟨c,hfy⟩
   by_cases cq:q=l
   ·rw[cq,nk y kk hy (by rw[q1,e1]) hfy2.2,hf,if_pos hl];split<;>rfl
   ·rw[q3 hfy2.2 q (λh=>absurd (by injection h with h;exact h.symm) cq),hf];by_cases cc:q≠[47]/\SM.parent q=(m.node y).name
    ·rw[if_pos cc,if_pos cc];by_cases cD:D q
     ·rw[if_pos cD];cases ef:m.find q with
      |none=>rfl
      |some z=>
       rcases hD2 q z ef cc.1 cD with e|e
       ·exact absurd e cq
       ·rw[cc.2]at e;exact absurd e hfy2.1
     ·rw[if_neg cD]
    ·rw[if_neg cc,if_neg cc]
 ·rw[hh]at e;obtain⟨q1,q2⟩:=r.hs.at_ j h e;exact⟨by rw[hn];exact q1,by rw[s2];exact q2⟩
theorem Rel.join{l:Str}{x y:Nat}(r:Rel s m ps hp E (some l))(hl:l≠[47])(hx:m.find (SM.parent l)=some x)(hd:(m.node x).dir=true)(hy:m.find l=some y):
  ∃kk,s.nd (pt' ps x)=some ⟨m.node x,some kk⟩/\Rel (s.setNd (pt' ps x) ⟨m.node x,some (zb9 kk l (some (pt' ps y)))⟩) m ps hp E none:=by
 have lx:=r.lt hx;have len:=r.len;obtain⟨k,k1,k2⟩:=r.nd x lx;rcases k2 with⟨k2,_⟩|⟨_,kk,rfl,k3⟩
 ·rw[hd]at k2;cases k2
 have nm:=r.mi.nm _ _ hx;have k3:=k3 (by rw[nm];exact hx);refine⟨kk,k1,⟨⟨r.mi.wf,r.mi.rt,r.mi.nm,λq z e h1 _=>?_,r.mi.kp⟩,r.len,r.inj,r.g,λz hz=>?_,λe he=>?_,r.exd,r.exn,⟨r.hs.at_,r.hs.inj⟩⟩⟩
 ·by_cases c:q=l
  ·rw[c];exact SM.zgR hx hd
  ·exact r.mi.cl q z e h1 λh=>c (by injection h with h;exact h.symm)
 ·by_cases c:z=x
  ·subst c;refine⟨some (zb9 kk l (some (pt' ps y))),by simp[St.setNd],.inr ⟨hd,_,rfl,λ_ q _=>?_⟩⟩;simp only[zb9];by_cases cq:q=l
   ·rw[if_pos cq,cq,if_pos ⟨hl,nm.symm⟩,hy];rfl
   ·rw[if_neg cq,k3 q (λh=>absurd (by injection h with h;exact h.symm) cq)]
  ·obtain⟨k',q1,q2⟩:=r.nd z hz;refine⟨k',?_,?_⟩
   ·simp only[St.setNd];rw[if_neg (λe=>c (zkz r.inj (by rw[len];exact hz) (by rw[len];exact lx) e))];exact q1
   ·rcases q2 with q2|⟨d1,kk',e1,q3⟩
    ·exact .inl q2
    ·refine .inr ⟨d1,kk',e1,λhf q _=>q3 hf q λh e=>?_⟩;injection h with h;rw[<-h]at e;rw[<-e,hx]at hf;injection hf with hf;exact c hf.symm
 ·obtain⟨q1,q2⟩:=r.ex e he;refine⟨?_,q2⟩;simp only[St.setNd];rw[if_neg (λe'=>q2 (by rw[e'];exact zoS (by rw[len];exact lx)))];exact q1
end PM
end Go.X
end
section
set_option linter.unusedSectionVars false
namespace Go.X
open Go Go.RowKit
section
variable{κ:Type}[DecidableEq κ]{P:Program}{emb:κ->Value}
theorem zql(l:ML κ):(mes emb l).size=l.length:=by simp[mes]
theorem zrp(K:Value->World->Prop){w:World}{t kt et ty:TypeId}{b:Nat}{l:ML κ}{c:Nat}{cs:Array Bool}(ht:P.underlying t=some (.map kt et))(hb:bk w b=some (MO emb l c)):
  st P (zac .len #[t] ty cs #[.map (some b)]) w K=K (.int .i64 l.length) w:=
 zav (zbd (by have hg:(getObj b).run P w=.ok (.map (mes emb l) c) w:=MapKept.run_getObj_map hb;have a0:(#[t]:Array TypeId)[0]?=some t:=rfl;have a1:(#[.map (some b)]:Array Value)[0]?=some (.map (some b)):=rfl;simp only[Builtin.len_,a0,a1,Sem.run_bind,run_underlying ht w,Result.andThen_ok,hg,Sem.run_pure,zql];rfl))
theorem zsH(K:Value->World->Prop){w:World}{b it since:Nat}{seen:Array Nat}{l:ML κ}{c:Nat}{x:κ×Value×Nat}(hb:bk w b=some (MO emb l c))(hi:bk w it=some (.mapIter (some b) since (seen.push x.2.2) c))(hx:x∈l)(wf:MWF l c):
  st P (zpB (pt it 0)) w K=K (tup [emb x.1,x.2.1]) w:=
 zav (zbd (by
  have hgb:(getObj b).run P w=.ok (.map (mes emb l) c) w:=MapKept.run_getObj_map hb;have hgi:(getObj it).run P w=.ok (.mapIter (some b) since (seen.push x.2.2) c) w:=by have:w.heap[it]?=some (.mapIter (some b) since (seen.push x.2.2) c):=hi;simp[getObj,Sem.run,this]
  have hfind:(mes emb l).find? (·.born==x.2.2)=some ⟨emb x.1,x.2.1,x.2.2⟩:=by
   have key:∀l:ML κ,(l.map (·.2.2)).Nodup->x∈l->(l.map λx=>(⟨emb x.1,x.2.1,x.2.2⟩:MapEntry)).find? (·.born==x.2.2)=some ⟨emb x.1,x.2.1,x.2.2⟩:=by
    intro l hn hx
    induction l with
    |nil=>cases hx
    |cons y l ih=>
     simp only[List.map_cons,List.nodup_cons]at hn;rcases List.mem_cons.1 hx with rfl|hx
     ·simp
     ·have:¬y.2.2=x.2.2:=λe=>hn.1 (by rw[e];exact List.mem_map.2 ⟨x,hx,rfl⟩);simp only[List.map_cons];rw[List.find?_cons_of_neg (by simpa using this)];exact ih hn.2 hx
   have:=key l wf.born hx;simp only[mes];rw[<-Array.find?_toList];exact this
  simp only[Instr.entry,pt,Sem.run_bind,hgi,Result.andThen_ok,hgb,Array.back?_push,bne_self_eq_false,Bool.false_eq_true,if_false,hfind,Sem.run_pure];rfl))
structure Rg(emb:κ->Value)(w:World)(b it:Nat)(l:ML κ)(c:Nat)(vis rest:ML κ):Prop where
 hb:bk w b=some (MO emb l c)
 hi:∃seen,bk w it=some (.mapIter (some b) c seen c)/\seen.toList=vis.map (·.2.2)
 pm:(vis++rest).Perm l
 wf:MWF l c
theorem Rg.ne{w:World}{b it:Nat}{l:ML κ}{c:Nat}{vis rest:ML κ}(h:Rg emb w b it l c vis rest):b≠it:=λe=>by obtain⟨seen,hi,_⟩:=h.hi;rw[<-e,h.hb]at hi;cases hi
theorem Rg.kp{w w':World}{b it:Nat}{l:ML κ}{c:Nat}{vis rest:ML κ}{S:Nat->Prop}(h:Rg emb w b it l c vis rest)(k:Kp w w' S)(h1:¬S b)(h2:¬S it):Rg emb w' b it l c vis rest:=by obtain⟨seen,hi,hs⟩:=h.hi;exact⟨(k.block _ (zaj h.hb) h1).trans h.hb,⟨seen,(k.block _ (zaj hi) h2).trans hi,hs⟩,h.pm,h.wf⟩
theorem Rg.start(w:World){b:Nat}{l:ML κ}{c:Nat}(hb:bk w b=some (MO emb l c))(wf:MWF l c):Rg emb (w.alloc (.mapIter (some b) c #[] c)) b w.heap.size l c [] l:=⟨by rw[zat _ _ _ (by have:=zaj hb;omega)];exact hb,⟨#[],zaf _ _ _ rfl,rfl⟩,List.Perm.refl _,wf⟩
theorem Rg.next{w:World}{ty:TypeId}{b it:Nat}{l:ML κ}{c:Nat}{vis rest:ML κ}{K:Value->World->Prop}(h:Rg emb w b it l c vis rest)
  (h0:rest=[]->vis.Perm l->K (.tuple #[.bool false]) w)
  (h1:∀x rest' w1,Rg emb w1 b it l c (vis++[x]) rest'->x∈l->rest.length=rest'.length+1->Kp w w1 (·=it)->(∀L:Value->World->Prop,st P (zpB (pt it 0)) w1 L=L (tup [emb x.1,x.2.1]) w1)->K (tup [.bool true,emb x.1,x.2.1]) w1):
  st P (zqp (pt it 0) false ty) w K:=by
 obtain⟨seen,hi,hs⟩:=h.hi;have hmem:∀n,n∈seen↔n∈vis.map (·.2.2):=λn=>by rw[<-hs];simp
 have hnd:((vis++rest).map (·.2.2)).Nodup:=(h.pm.map _).nodup_iff.2 h.wf.born;refine next_m h.hb hi h.wf.lt (Nat.le_refl _) ?_ ?_
 ·intro hall;have hr:rest=[]:=by
   cases rest with
   |nil=>rfl
   |cons y r=>have hy:y∈l:=h.pm.subset (by simp);have:=(hmem _).1 (hall y hy);rw[List.map_append,List.nodup_append]at hnd;exact absurd rfl (hnd.2.2 _ this _ (by simp))
  subst hr;exact h0 rfl (by simpa using h.pm)
 ·intro x hx hns w1 hw;have hxr:x∈rest:=by
   rcases List.mem_append.1 (h.pm.mem_iff.2 hx)with q|q
   ·exact absurd ((hmem _).2 (List.mem_map.2 ⟨x,q,rfl⟩)) hns
   ·exact q
  obtain⟨r1,r2,rfl⟩:=List.append_of_mem hxr;have e1:∀k,bk w1 k=bk w k:=λk=>by rcases hw with rfl|rfl<;>rfl
  have s1:w1.heap.size=w.heap.size:=by rcases hw with rfl|rfl<;>rfl
  have lit:=zaj hi;have q1:bk (setb w1 it (.mapIter (some b) c (seen.push x.2.2) c)) b=some (MO emb l c):=by rw[zao _ _ _ _ h.ne,e1];exact h.hb
  have q2:bk (setb w1 it (.mapIter (some b) c (seen.push x.2.2) c)) it=some (.mapIter (some b) c (seen.push x.2.2) c):=zap _ _ _ _ rfl (by omega);refine h1 x (r1++r2) _ ⟨q1,⟨_,q2,by simp[hs]⟩,?_,h.wf⟩ hx (by simp;omega) ?_ λL=>zsH L q1 q2 hx h.wf
  ·refine List.Perm.trans ?_ h.pm;rw[List.append_assoc];refine List.Perm.append_left _ ?_;simpa using List.perm_middle.symm
  ·refine⟨?_,?_,?_,?_,λk hk hn=>?_⟩
   ·rcases hw with rfl|rfl<;>rfl
   ·rcases hw with rfl|rfl<;>rfl
   ·rcases hw with rfl|rfl<;>rfl
   ·rw[sZb,s1];exact Nat.le_refl _
   ·rw[zao _ _ _ _ hn,e1]
end
section
variable{P:Program}{L:Value->Prop}{t te:TypeId}
theorem rp_eqMd{d:Nat}{tk:TypeId}(h:P.underlying t=some (.map tk te))(a:Option Nat):rp P (Op.equalIn (d+1) t (.map a) (.map none))=some a.isNone:=by
 cases a with
 |none=>simp[Op.equalIn,zau,zak h]
 |some b=>simp[Op.equalIn,zau,zak h]
theorem oEqlM{tk:TypeId}(h:P.underlying t=some (.map tk te))(cx cy:Bool)(a:Option Nat):pu P (oBin .eql t cx cy (.map a) (.map none)) L=L (.bool a.isNone):=
 zca (by
  rw[zau];have g:rp P (eqGuard .eql t (fl cx) (fl cy) (.map a) (.map none))=some ():=by unfold eqGuard;rfl
  rw[g];simp only[Option.bind_some];have e2:binOp .eql t (.map a) (.map none)=(do pure (.bool (<-Op.equal t (.map a) (.map none)))):=rfl;have e3:rp P (Op.equal t (.map a) (.map none))=some a.isNone:=rp_eqMd h a;rw[e2,zau,e3];rfl)
end
end Go.X
end
section
namespace Go.Proofs.YtdljebgllipdjaaGreatDoor.X
open Go Go.X Go.Proofs Go.RowKit Go.X.PM
structure Rep where
 v:Value
 kb:Nat
def mdV(k:Option (Str->Option Nat))(kb:Nat):Value:=match k with|some _=>.map (some kb)|none=>.map none
theorem zsl(k:Option (Str->Option Nat))(kb:Nat):(mdV k kb).oneCell'=true:=by cases k<;>rfl
abbrev qC(n:PM.Nd)(r:Rep)(u g:Int):List Value:=[S n.n.name,r.v,mdV n.kids r.kb,.bool n.n.dir,.int .u32 n.n.mode,.int .i64 n.n.time,.int .i64 u,.int .i64 g]
structure QN(w:World)(B d:Nat)(n:PM.Nd)(r:Rep):Prop where
 hd:B<=d
 bd:∃u g,bk w d=some (CB (qC n r u g) T.ak)
 own:w.ownsRow B T.aJ 1 r.v n.n.data.length (n.n.data.map byt)
 kid:∀k,n.kids=some k->B<=r.kb/\∃K c,bk w r.kb=some (MO emS K c)/\MWF K c/\∀q,mget K q=(k q).map ptV
theorem QN.one{w:World}{B d:Nat}{n:PM.Nd}{r:Rep}(h:QN w B d n r):r.v.oneCell'=true:=by obtain⟨a,c,e⟩:=zan h.own;rw[e];rfl
theorem QN.kp{w w':World}{B d:Nat}{n:PM.Nd}{r:Rep}{S:Nat->Prop}(h:QN w B d n r)(k:Kp w w' S)(h1:¬S d)(h2:∀b,r.v.ownBlock=some b->¬S b)(h3:n.kids.isSome=true->¬S r.kb):QN w' B d n r:=by obtain⟨u,g,hb⟩:=h.bd;refine⟨h.hd,⟨u,g,(k.block _ (zaj hb) h1).trans hb⟩,zbQ h.own k h2,λkk hk=>?_⟩;obtain⟨q1,K,c,q2,q3⟩:=h.kid kk hk;exact⟨q1,K,c,(k.block _ (zaj q2) (h3 (by rw[hk];rfl))).trans q2,q3⟩
abbrev handC(h:PM.Hd):List Value:=[.int .i64 h.pos,.int .i64 h.listed,.bool h.cl,.bool h.ro,pt h.d 0]
def zue(w:World)(B f:Nat)(h:PM.Hd):Prop:=B<=f/\bk w f=some (CB (handC h) T.ao)
structure PF(w:World)(B p:Nat)(s:PM.St)(mb:Nat)(rep:Nat->Rep):Prop where
 hp:B<=p
 bp:bk w p=some (CB [.map (some mb)] T.aL)
 hm:B<=mb
 map:∃M c,bk w mb=some (MO emS M c)/\MWF M c/\∀q,mget M q=(s.g q).map ptV
 node:∀d n,s.nd d=some n->QN w B d n (rep d)
 hand:∀f h,s.hs f=some h->zue w B f h
 sv:∀d d' n n' b,s.nd d=some n->s.nd d'=some n'->(rep d).v.ownBlock=some b->(rep d').v.ownBlock=some b->d=d'
 sk:∀d d' n n',s.nd d=some n->s.nd d'=some n'->n.kids.isSome=true->n'.kids.isSome=true->(rep d).kb=(rep d').kb->d=d'
 km:∀d n,s.nd d=some n->n.kids.isSome=true->(rep d).kb≠mb
def Own(p mb:Nat)(s:PM.St)(rep:Nat->Rep)(b:Nat):Prop:=b=p\/b=mb\/(∃d n,s.nd d=some n/\(b=d\/(rep d).v.ownBlock=some b\/(n.kids.isSome=true/\b=(rep d).kb)))\/∃h,s.hs b=some h
def fpOf(p mb:Nat)(s:PM.St)(rep:Nat->Rep):Fp:=⟨Own p mb s rep,Own p mb s rep⟩
theorem zc5{w:World}{a b:Nat}{x y:Obj}(h1:bk w a=some x)(h2:bk w b=some y)(h:x≠y):a≠b:=λe=>by rw[e,h2]at h1;injection h1 with h1;exact h h1.symm
theorem zjo{l l':List Value}{t t':Nat}(h:t≠t'):CB l t≠CB l' t':=λe=>by injection e with _ e;exact h e
theorem zjr{l:List Value}{t:Nat}{M:ML Str}{c:Nat}:CB l t≠MO emS M c:=λe=>by cases e
section
variable{w w':World}{B p mb:Nat}{s:PM.St}{rep:Nat->Rep}
theorem PF.kp{S:Nat->Prop}(h:PF w B p s mb rep)(k:Kp w w' S)(hS:∀b,Own p mb s rep b->¬S b):PF w' B p s mb rep:=by
 obtain⟨M,c,m1,m2,m3⟩:=h.map;refine⟨h.hp,(k.block _ (zaj h.bp) (hS _ (.inl rfl))).trans h.bp,h.hm,⟨M,c,(k.block _ (zaj m1) (hS _ (.inr (.inl rfl)))).trans m1,m2,m3⟩,λd n hd=>?_,λf hh hf=>?_,h.sv,h.sk,h.km⟩
 ·have own:=λb q=>hS b (.inr (.inr (.inl ⟨d,n,hd,q⟩)));exact(h.node d n hd).kp k (own d (.inl rfl)) (λb hb=>own b (.inr (.inl hb))) λhk=>own _ (.inr (.inr ⟨hk,rfl⟩))
 ·obtain⟨q1,q2⟩:=h.hand f hh hf;exact⟨q1,(k.block _ (zaj q2) (hS f (.inr (.inr (.inr ⟨hh,hf⟩))))).trans q2⟩
theorem PF.lt(h:PF w B p s mb rep):∀b,Own p mb s rep b->B<=b/\b<w.heap.size:=by
 obtain⟨M,c,m1,m2,m3⟩:=h.map;rintro b (rfl|rfl|⟨d,n,hd,q⟩|⟨hh,hf⟩)
 ·exact⟨h.hp,zaj h.bp⟩
 ·exact⟨h.hm,zaj m1⟩
 ·have N:=h.node d n hd;obtain⟨u,g,hb⟩:=N.bd;rcases q with rfl|q|⟨q,rfl⟩
  ·exact⟨N.hd,zaj hb⟩
  ·exact zeS N.own b q
  ·cases hk:n.kids with
   |none=>rw[hk]at q;cases q
   |some k=>obtain⟨q1,K,c,q2,_⟩:=N.kid k hk;exact⟨q1,zaj q2⟩
 ·obtain⟨q1,q2⟩:=h.hand b hh hf;exact⟨q1,zaj q2⟩
theorem PF.old(h:PF w B p s mb rep)(k:Below w.heap.size w w'):PF w' B p s mb rep:=h.kp (Kp.of_below k λb=>w.heap.size<=b) λb hb=>by have:=(h.lt b hb).2;omega
structure PT(w0:World)(F0:Fp)(w:World)(B p:Nat)(s:PM.St)(mb:Nat)(rep:Nat->Rep)(se:Nat->Nat×Nat):Prop where
 pf:PF w B p s mb rep
 tr:Tr w0 w F0 (fpOf p mb s rep)
 sn:Sn w B se
variable{w0:World}{F0:Fp}{se:Nat->Nat×Nat}
theorem PF.le(h:PF w B p s mb rep):B<=w.heap.size:=by have:=h.hp;have:=zaj h.bp;omega
theorem PT.start(h:PF w B p s mb rep)(sn:Sn w B se):PT w (fpOf p mb s rep) w B p s mb rep se:=⟨h,Tr.refl _ _,sn⟩
theorem PT.old(h:PT w0 F0 w B p s mb rep se)(k:Below w.heap.size w w'):PT w0 F0 w' B p s mb rep se:=⟨h.pf.old k,h.tr.after k,h.sn.below (k.mono h.pf.le)⟩
theorem PT.step{s':PM.St}{rep':Nat->Rep}{S:Nat->Prop}(h:PT w0 F0 w B p s mb rep se)(h':PF w' B p s' mb rep')(k:Kp w w' S)(hS:∀b,b<w.heap.size->S b->Own p mb s rep b)(hO:∀b,b<w.heap.size->Own p mb s' rep' b->Own p mb s rep b):PT w0 F0 w' B p s' mb rep' se:=⟨h',h.tr.trans ⟨zkV k hS,λb hb=>⟨hO b hb,hO b hb⟩⟩,h.sn.below (k.below (λb hb hs=>by have l:=h.pf.le;have:=(h.pf.lt b (hS b (by omega) hs)).1;omega) h.pf.le)⟩
theorem PF.nodeTy(h:PF w B p s mb rep){d:Nat}{n:PM.Nd}(hd:s.nd d=some n):∃l,bk w d=some (CB l T.ak):=by obtain⟨u,g,e⟩:=(h.node d n hd).bd;exact⟨_,e⟩
theorem PF.kbTy(h:PF w B p s mb rep){d:Nat}{n:PM.Nd}(hd:s.nd d=some n)(hk:n.kids.isSome=true):∃K c,bk w (rep d).kb=some (MO emS K c):=by
 cases hk':n.kids with
 |none=>rw[hk']at hk;cases hk
 |some k=>obtain⟨_,K,c,e,_⟩:=(h.node d n hd).kid k hk';exact⟨K,c,e⟩
theorem PF.vTy(h:PF w B p s mb rep){d b:Nat}{n:PM.Nd}(hd:s.nd d=some n)(hb:(rep d).v.ownBlock=some b):∃l,bk w b=some (CB l T.aJ):=by
 rcases(h.node d n hd).own.2 with⟨e,_⟩|⟨g',cap,cur,e,h1,h2,_⟩
 ·rw[e]at hb;cases hb
 ·rw[e]at hb;injection hb with hb;subst hb;exact⟨cur.toList,by unfold bk;rw[h2]⟩
theorem PT.mapSet(h:PT w0 F0 w B p s mb rep se){M:ML Str}{c:Nat}{g:Str->Option Nat}(wf:MWF M c)(hg:∀q,mget M q=(g q).map ptV):PT w0 F0 (setb w mb (MO emS M c)) B p {s with g:=g} mb rep se:=by
 have H:=h.pf;obtain⟨M0,c0,m1,_,_⟩:=H.map;have k:=Kp.setb w mb (MO emS M c);have np:p≠mb:=zc5 H.bp m1 zjr;refine h.step ⟨H.hp,(k.block _ (zaj H.bp) np).trans H.bp,H.hm,⟨M,c,zap _ _ _ _ rfl (zaj m1),wf,hg⟩,λd n hd=>?_,λf hh hf=>?_,H.sv,H.sk,H.km⟩ k (λb _ e=>.inr (.inl e)) λb _ hb=>hb
 ·obtain⟨l,e⟩:=H.nodeTy hd;refine(H.node d n hd).kp k (zc5 e m1 zjr) (λb hb=>?_) λhk=>H.km d n hd hk;obtain⟨l',e'⟩:=H.vTy hd hb;exact zc5 e' m1 zjr
 ·obtain⟨q1,q2⟩:=H.hand f hh hf;exact⟨q1,(k.block _ (zaj q2) (zc5 q2 m1 zjr)).trans q2⟩
theorem PT.nodeSet(h:PT w0 F0 w B p s mb rep se){d:Nat}{n n':PM.Nd}{u g:Int}(hd:s.nd d=some n)(h1:n'.n.data=n.n.data)(h2:n'.kids=n.kids):PT w0 F0 (setb w d (CB (qC n' (rep d) u g) T.ak)) B p (s.setNd d n') mb rep se:=by
 have H:=h.pf;obtain⟨M0,c0,m1,m2,m3⟩:=H.map;obtain⟨l,e0⟩:=H.nodeTy hd;have k:=Kp.setb w d (CB (qC n' (rep d) u g) T.ak);have np:p≠d:=zc5 H.bp e0 (zjo (by decide));have nm:mb≠d:=(zc5 e0 m1 zjr).symm;have same:∀e ne,(s.setNd d n').nd e=some ne->∃no,s.nd e=some no/\no.kids=ne.kids:=λe ne he=>by
  simp only[St.setNd]at he;by_cases c:e=d
  ·rw[if_pos c]at he;injection he with he;rw[c];exact⟨n,hd,by rw[<-he,h2]⟩
  ·rw[if_neg c]at he;exact⟨ne,he,rfl⟩
 refine h.step ⟨H.hp,(k.block _ (zaj H.bp) np).trans H.bp,H.hm,⟨M0,c0,(k.block _ (zaj m1) nm).trans m1,m2,m3⟩,λe ne he=>?_,λf hh hf=>?_,λe e' ne ne' b he he'=>?_,λe e' ne ne' he he' k1 k2=>?_,λe ne he hk=>?_⟩ k (λb _ hb=>.inr (.inr (.inl ⟨d,n,hd,.inl hb⟩))) λb _ hb=>?_
 ·simp only[St.setNd]at he;have vk:∀{e ne},s.nd e=some ne->(∀b,(rep e).v.ownBlock=some b->b≠d)/\(ne.kids.isSome=true->(rep e).kb≠d):=λ{e ne} he=>⟨λb hb=>by
   obtain⟨l',e'⟩:=H.vTy he hb;exact zc5 e' e0 (zjo (by decide)),λhk=>by
   obtain⟨K,c,e'⟩:=H.kbTy he hk;exact(zc5 e0 e' zjr).symm⟩
  by_cases c:e=d
  ·rw[if_pos c]at he;injection he with he;subst he c;have N:=H.node e n hd;obtain⟨v1,v2⟩:=vk hd;refine⟨N.hd,⟨u,g,zap _ _ _ _ rfl (zaj e0)⟩,by rw[h1];exact zbQ N.own k v1,λkk hk=>?_⟩;rw[h2]at hk;obtain⟨q1,K,c,q2,q3⟩:=N.kid kk hk;exact⟨q1,K,c,(k.block _ (zaj q2) (v2 (by rw[hk];rfl))).trans q2,q3⟩
  ·rw[if_neg c]at he;obtain⟨v1,v2⟩:=vk he;exact(H.node e ne he).kp k c v1 v2
 ·obtain⟨q1,q2⟩:=H.hand f hh hf;exact⟨q1,(k.block _ (zaj q2) (zc5 q2 e0 (zjo (by decide)))).trans q2⟩
 ·obtain⟨no,q1,_⟩:=same e ne he;obtain⟨no',q1',_⟩:=same e' ne' he';exact H.sv e e' no no' b q1 q1'
 ·obtain⟨no,q1,q2⟩:=same e ne he;obtain⟨no',q1',q2'⟩:=same e' ne' he';exact H.sk e e' no no' q1 q1' (by rw[q2];exact k1) (by rw[q2'];exact k2)
 ·obtain⟨no,q1,q2⟩:=same e ne he;exact H.km e no q1 (by rw[q2];exact hk)
 ·rcases hb with hb|hb|⟨e,ne,he,q⟩|hb
  ·exact .inl hb
  ·exact .inr (.inl hb)
  ·obtain⟨no,q1,q2⟩:=same e ne he;refine .inr (.inr (.inl ⟨e,no,q1,?_⟩));rw[q2];exact q
  ·exact .inr (.inr (.inr hb))
theorem PT.kidSet(h:PT w0 F0 w B p s mb rep se){d:Nat}{n:PM.Nd}{k:Str->Option Nat}{K:ML Str}{c:Nat}(hd:s.nd d=some n)(hk:n.kids.isSome=true)(wf:MWF K c)(hg:∀q,mget K q=(k q).map ptV):PT w0 F0 (setb w (rep d).kb (MO emS K c)) B p (s.setNd d ⟨n.n,some k⟩) mb rep se:=by
 have H:=h.pf;obtain⟨M0,c0,m1,m2,m3⟩:=H.map;obtain⟨K0,kc0,e0⟩:=H.kbTy hd hk;have kk:=Kp.setb w (rep d).kb (MO emS K c);have np:p≠(rep d).kb:=zc5 H.bp e0 zjr;have nm:mb≠(rep d).kb:=(H.km d n hd hk).symm;have same:∀e ne,(s.setNd d ⟨n.n,some k⟩).nd e=some ne->∃no,s.nd e=some no/\no.kids.isSome=ne.kids.isSome:=λe ne he=>by
  simp only[St.setNd]at he;by_cases c:e=d
  ·rw[if_pos c]at he;injection he with he;rw[c];exact⟨n,hd,by rw[<-he,hk];rfl⟩
  ·rw[if_neg c]at he;exact⟨ne,he,rfl⟩
 refine h.step ⟨H.hp,(kk.block _ (zaj H.bp) np).trans H.bp,H.hm,⟨M0,c0,(kk.block _ (zaj m1) nm).trans m1,m2,m3⟩,λe ne he=>?_,λf hh hf=>?_,λe e' ne ne' b he he'=>?_,λe e' ne ne' he he' k1 k2=>?_,λe ne he hk=>?_⟩ kk (λb _ hb=>.inr (.inr (.inl ⟨d,n,hd,.inr (.inr ⟨hk,hb⟩)⟩))) λb _ hb=>?_
 ·simp only[St.setNd]at he;by_cases c1:e=d
  ·rw[if_pos c1]at he;injection he with he;subst he c1;have N:=H.node e n hd;obtain⟨u,g,hb⟩:=N.bd;refine⟨N.hd,⟨u,g,?_⟩,zbQ N.own kk λb hb=>?_,λk2 hk2=>?_⟩
   ·rw[kk.block _ (zaj hb) (zc5 hb e0 zjr),hb];cases hkk:n.kids with
    |none=>rw[hkk]at hk;cases hk
    |some k0=>simp only[qC,mdV,hkk]
   ·obtain⟨l',e'⟩:=H.vTy hd hb;exact zc5 e' e0 zjr
   ·injection hk2 with hk2;subst hk2;cases hkk:n.kids with
    |none=>rw[hkk]at hk;cases hk
    |some k0=>exact⟨(N.kid k0 hkk).1,K,c,zap _ _ _ _ rfl (zaj e0),wf,hg⟩
  ·rw[if_neg c1]at he;obtain⟨l,e1⟩:=H.nodeTy he;refine(H.node e ne he).kp kk (zc5 e1 e0 zjr) (λb hb=>?_) λhk' q=>c1 (H.sk e d ne n he hd hk' hk q);obtain⟨l',e'⟩:=H.vTy he hb;exact zc5 e' e0 zjr
 ·obtain⟨q1,q2⟩:=H.hand f hh hf;exact⟨q1,(kk.block _ (zaj q2) (zc5 q2 e0 zjr)).trans q2⟩
 ·obtain⟨no,q1,_⟩:=same e ne he;obtain⟨no',q1',_⟩:=same e' ne' he';exact H.sv e e' no no' b q1 q1'
 ·obtain⟨no,q1,q2⟩:=same e ne he;obtain⟨no',q1',q2'⟩:=same e' ne' he';exact H.sk e e' no no' q1 q1' (by rw[q2];exact k1) (by rw[q2'];exact k2)
 ·obtain⟨no,q1,q2⟩:=same e ne he;exact H.km e no q1 (by rw[q2];exact hk)
 ·rcases hb with hb|hb|⟨e,ne,he,q⟩|hb
  ·exact .inl hb
  ·exact .inr (.inl hb)
  ·obtain⟨no,q1,q2⟩:=same e ne he;refine .inr (.inr (.inl ⟨e,no,q1,?_⟩));rw[q2];exact q
  ·exact .inr (.inr (.inr hb))
theorem PF.fresh(h:PF w B p s mb rep){d:Nat}(hd:w.heap.size<=d):s.nd d=none/\s.hs d=none:=by
 constructor
 ·cases e:s.nd d with
  |none=>rfl
  |some n=>have:=(h.lt d (.inr (.inr (.inl ⟨d,n,e,.inl rfl⟩)))).2;omega
 ·cases e:s.hs d with
  |none=>rfl
  |some hh=>have:=(h.lt d (.inr (.inr (.inr ⟨hh,e⟩)))).2;omega
theorem PT.new(h:PT w0 F0 w B p s mb rep se)(k:Below w.heap.size w w'){d:Nat}{n:PM.Nd}{r:Rep}(hd:w.heap.size<=d)(N:QN w' B d n r)(hv:r.v.ownBlock=none)(hk:n.kids.isSome=true->w.heap.size<=r.kb):PT w0 F0 w' B p (s.setNd d n) mb (λk=>if k=d then r else rep k) se:=by
 have H:=h.pf.old k;have fr:=(h.pf.fresh hd).1;have cs:∀e ne,(s.setNd d n).nd e=some ne->(e=d/\ne=n)\/(e≠d/\s.nd e=some ne):=λe ne he=>by
  simp only[St.setNd]at he;by_cases c:e=d
  ·rw[if_pos c]at he;injection he with he;exact .inl ⟨c,he.symm⟩
  ·rw[if_neg c]at he;exact .inr ⟨c,he⟩
 have lt:∀e ne,s.nd e=some ne->ne.kids.isSome=true->(rep e).kb<w.heap.size:=λe ne he hk=>(h.pf.lt _ (.inr (.inr (.inl ⟨e,ne,he,.inr (.inr ⟨hk,rfl⟩)⟩)))).2;refine⟨⟨H.hp,H.bp,H.hm,H.map,λe ne he=>?_,H.hand,λe e' ne ne' b he he' h1 h2=>?_,λe e' ne ne' he he' k1 k2 h3=>?_,λe ne he hk'=>?_⟩,h.tr.trans ⟨Kp.of_below k _,λb hb=>?_⟩,h.sn.below (k.mono h.pf.le)⟩
 ·rcases cs e ne he with⟨rfl,rfl⟩|⟨c,q⟩
  ·simp only[if_pos];exact N
  ·simp only[if_neg c];exact H.node e ne q
 ·try simp only at h1 h2
  rcases cs e ne he with⟨c,q⟩|⟨c,q⟩
  ·rw[if_pos c,hv]at h1;cases h1
  ·rcases cs e' ne' he' with⟨c',q'⟩|⟨c',q'⟩
   ·rw[if_pos c',hv]at h2;cases h2
   ·rw[if_neg c]at h1;rw[if_neg c']at h2;exact H.sv e e' ne ne' b q q' h1 h2
 ·try simp only at h3
  rcases cs e ne he with⟨c,q⟩|⟨c,q⟩
  ·rcases cs e' ne' he' with⟨c',q'⟩|⟨c',q'⟩
   ·rw[c,c']
   ·rw[if_pos c,if_neg c']at h3;have:=hk (by rw[<-q];exact k1);have:=lt e' ne' q' k2;omega
  ·rcases cs e' ne' he' with⟨c',q'⟩|⟨c',q'⟩
   ·rw[if_neg c,if_pos c']at h3;have:=hk (by rw[<-q'];exact k2);have:=lt e ne q k1;omega
   ·rw[if_neg c,if_neg c']at h3;exact H.sk e e' ne ne' q q' k1 k2 h3
 ·try simp only
  rcases cs e ne he with⟨c,q⟩|⟨c,q⟩
  ·rw[if_pos c];have:=hk (by rw[<-q];exact hk');have:=(h.pf.lt mb (.inr (.inl rfl))).2;omega
  ·rw[if_neg c];exact H.km e ne q hk'
 ·have key:Own p mb (s.setNd d n) (λk=>if k=d then r else rep k) b->Own p mb s rep b:=by
   rintro(q|q|⟨e,ne,he,q⟩|q)
   ·exact .inl q
   ·exact .inr (.inl q)
   ·simp only at q;rcases cs e ne he with⟨c,q'⟩|⟨c,q'⟩
    ·rw[if_pos c]at q;rcases q with q|q|⟨q1,q2⟩
     ·omega
     ·rw[hv]at q;cases q
     ·have:=hk (by rw[<-q'];exact q1);omega
    ·rw[if_neg c]at q;exact .inr (.inr (.inl ⟨e,ne,q',q⟩))
   ·exact .inr (.inr (.inr q))
  exact⟨key,key⟩
theorem PT.newH(h:PT w0 F0 w B p s mb rep se)(k:Below w.heap.size w w'){f:Nat}{hh:PM.Hd}(hf:w.heap.size<=f)(N:zue w' B f hh):PT w0 F0 w' B p (s.setH f hh) mb rep se:=by
 have H:=h.pf.old k;refine⟨⟨H.hp,H.bp,H.hm,H.map,H.node,λe he q=>?_,H.sv,H.sk,H.km⟩,h.tr.trans ⟨Kp.of_below k _,λb hb=>?_⟩,h.sn.below (k.mono h.pf.le)⟩
 ·simp only[St.setH]at q;by_cases c:e=f
  ·rw[if_pos c]at q;injection q with q;rw[c,<-q];exact N
  ·rw[if_neg c]at q;exact H.hand e he q
 ·have key:Own p mb (s.setH f hh) rep b->Own p mb s rep b:=by
   rintro(q|q|q|⟨he,q⟩)
   ·exact .inl q
   ·exact .inr (.inl q)
   ·exact .inr (.inr (.inl q))
   ·simp only[St.setH]at q;by_cases c:b=f
    ·omega
    ·rw[if_neg c]at q;exact .inr (.inr (.inr ⟨he,q⟩))
  exact⟨key,key⟩
end
end Go.Proofs.YtdljebgllipdjaaGreatDoor.X
end
