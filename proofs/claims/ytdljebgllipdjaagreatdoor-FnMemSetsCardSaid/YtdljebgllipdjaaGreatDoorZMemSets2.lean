/- What the claim needs of the texts on it, laid together. No condition. -/
import Derived.Test.YtdljebgllipdjaaGreatDoorZMemSets1
import Derived.MapKept
import Derived.Laws.IdiomRangeMap
import Derived.Lib.CleanSame2
import Derived.Lib.CleanSame
import Derived.Lib.CleanLen
set_option linter.unusedVariables false
set_option linter.unusedSimpArgs false
set_option linter.unusedSectionVars false
set_option maxRecDepth 100000
section
namespace Go.Proofs.YtdljebgllipdjaaGreatDoor.X
open Go Go.X Go.Proofs Go.RowKit
abbrev Of(f d:Nat)(v:Value):Nat->Prop:=λk=>k=f\/k=d\/v.ownBlock=some k
theorem zeS{w:World}{B n size:Nat}{e:TypeId}{v:Value}{xs:List Value}(h:w.ownsRow B e size v n xs):∀k,v.ownBlock=some k->B<=k/\k<w.heap.size:=λk hk=>by
 rcases h.2 with⟨rfl,_⟩|⟨g,cap,cur,rfl,h1,h2,h3⟩
 ·cases hk
 ·injection hk with hk;subst hk;exact⟨h1,(Array.getElem?_eq_some_iff.1 h2).1⟩
def sents:List Nat:=[G.ab,G.ah,G.ai,G.aj,G.am,G.ap,G.ak,G.ao,G.af,G.ae,G.ag]
abbrev er(q:Nat×Nat):Value:=.iface T.aO (pt q.1 q.2)
structure Sn(w:World)(B:Nat)(m:Nat->Nat×Nat):Prop where
 at_:∀g∈sents,g<B/\∃tt,bk w g=some (CB [er (m g)] tt)
 cell:∀g∈sents,(m g).1<B/\∃l tt,bk w (m g).1=some (CB l tt)
 inj:∀g∈sents,∀g'∈sents,m g=m g'->g=g'
theorem Sn.below{w w':World}{B:Nat}{m:Nat->Nat×Nat}(h:Sn w B m)(hb:Below B w w'):Sn w' B m:=⟨λg hg=>⟨(h.at_ g hg).1,by rw[zax hb (h.at_ g hg).1];exact(h.at_ g hg).2⟩,λg hg=>⟨(h.cell g hg).1,by rw[zax hb (h.cell g hg).1];exact(h.cell g hg).2⟩,h.inj⟩
theorem errT:ErrT P T.aB T.aO T.aI:=⟨⟨_,Tryz.underlying116⟩,U.aq,by kernel_rfl,by kernel_rfl⟩
theorem Sn.load{w:World}{B:Nat}{m:Nat->Nat×Nat}(h:Sn w B m){g:Nat}(hg:g∈sents)(L:Value->World->Prop):st P (zab T.aB (.pointer (some ⟨g,0,none⟩))) w L=L (er (m g)) w:=by
 obtain⟨_,tt,e⟩:=h.at_ g hg;have q:za1 (bk w g) 0=some (er (m g)):=by rw[e];rfl
 rw[show st P (zab T.aB (.pointer (some ⟨g,0,none⟩))) w L=st P (zab T.aB (pt g 0)) w L from rfl];rw[M.aV _ _ _ _ (by rw[q];rfl),q];rfl
theorem Sn.eql{w:World}{B:Nat}{m:Nat->Nat×Nat}(h:Sn w B m){g g':Nat}(hg:g∈sents)(hg':g'∈sents)(L:Value->World->Prop):st P (oBin .eql T.aB false false (er (m g)) (er (m g'))) w L=L (.bool (decide (g=g'))) w:=by obtain⟨_,l,t,e⟩:=h.cell g hg;obtain⟨_,l',t',e'⟩:=h.cell g' hg';rw[zpP errT false false e e'];congr 2;refine decide_eq_decide.2 ⟨λq=>h.inj g hg g' hg' (Prod.ext q.1 q.2),λq=>by subst q;exact⟨rfl,rfl⟩⟩
theorem zr7(L:Value->Prop)(q:Nat×Nat):pu P (zgS (er q) T.aB T.aD true) L=L (tup [.pointer none,.bool false]):=zn8 U.ak (by kernel_rfl) (by decide) _
theorem zuc(L:Value->Prop)(q:Nat×Nat):pu P (oBin .eql T.aB false true (er q) .nilIface) L=L (.bool false):=zlu Tryz.underlying116 _ _ _ _
theorem zsZ{w:World}{K:Value->World->Prop}(h:K (.int .i64 0) w):Cl P Fn.bY #[.nilIface] w K:=by
 apply zhI;unfold zf0;refine zaa (λt w'=>t=[.nilIface]/\w'=w) ?_ ?_
 ·rintro t e w1 ⟨rfl,rfl⟩;refine zaa (λ_ _=>False) (λ_ _ _ h=>h.elim) ?_;rw[gs0,zjG Tryz.underlying116];simp(disch:=first|omega|(simp(disch:=first|omega|fail)only[go_sem]<;>omega)|fail)only[go_sem];exact h
 ·rw[zmW U.ak (by kernel_rfl)];simp(disch:=first|omega|(simp(disch:=first|omega|fail)only[go_sem]<;>omega)|fail)only[go_sem];exact⟨trivial,trivial⟩
theorem mkErr(L:Value->Prop)(x:Value):pu P (zbl T.aO x) L=L (.iface T.aO x):=zca (by simp[Instr.makeInterface,zau,zak U.aq])
theorem zk7(L:Value->Prop)(x:Value):pu P (zbl T.aD x) L=L (.iface T.aD x):=zca (by simp[Instr.makeInterface,zau,zak U.ak])
theorem znI{w:World}{K:Value->World->Prop}{l:List UInt8}(h:K (er (w.heap.size,0)) (w.alloc (CB [S l] T.aI))):Cl P Fn.cL #[S l] w K:=by apply zop;unfold zk3;simp(disch:=first|omega|(simp(disch:=first|omega|fail)only[go_sem,mkErr]<;>omega)|fail)only[go_sem,mkErr];exact h
theorem zs3{w:World}{B:Nat}{m:Nat->Nat×Nat}(hs:Sn w B m){ib:Nat}{txt:List UInt8}(hb:bk w ib=some (CB [S txt] T.aI))(hB:B<=ib){g:Nat}(hg:g∈sents)(L:Value->World->Prop):st P (oBin .eql T.aB false false (er (ib,0)) (er (m g))) w L=L (.bool false) w:=by obtain⟨q,l,t,e⟩:=hs.cell g hg;rw[zpP errT false false hb e];congr 2;refine decide_eq_false λh=>?_;have:=h.1;omega
theorem zlR{a b:World}{S T:Nat->Prop}(h:Kp a b S)(hS:∀x,S x->T x):Kp a b T:=⟨h.os,h.tape,h.output,h.size,λk hk hn=>h.block k hk λhs=>hn (hS k hs)⟩
theorem zoD(n:Nat):(List.replicate n (0:UInt8)).map byt=List.replicate n (.int .u8 0):=by rw[List.map_replicate];rfl
theorem app_nil{w:World}{L:Value->World->Prop}{B n:Nat}{v:Value}{xs:List Value}(h:w.ownsRow B T.aJ 1 v n xs){cs:Array Bool}{ty:TypeId}:st P (zac .append #[T.ah,T.ah] ty cs #[v,.slice none 0 0]) w L=L v w:=by obtain⟨a,cap,rfl,hc⟩:=zlE h;exact zim U.ab (by kernel_rfl) (Src.ofNil w U.ab 0) hc
theorem zlk{cur:List Value}{l:List UInt8}{n:Nat}(h:cur.take n=l.map byt)(p:Nat)(hp:p<=n):cur.take p=(l.take p).map byt:=by rw[List.map_take,<-h,List.take_take,Nat.min_eq_left hp]
theorem zrR{cur cur':List Value}{bs l:List UInt8}{cap p:Nat}(hc:cur.length=cap)(ht:cur.take bs.length=bs.map byt)(hp:p+l.length<bs.length)(hl:bs.length<=cap)(e:cur'=cur.take p++l.map byt++cur.drop (p+l.length)):
  (cur'.take (p+l.length)++(bs.drop (p+l.length)).map byt++cur'.drop bs.length).length=cap/\(cur'.take (p+l.length)++(bs.drop (p+l.length)).map byt++cur'.drop bs.length).take bs.length=(bs.take p++l++bs.drop (p+l.length)).map byt/\cur'.length=cap/\(cur'.drop (p+l.length)).take (bs.length - (p+l.length))=(bs.drop (p+l.length)).map byt:=by
 have k1:cur'.length=cap:=by rw[e];simp;omega
 have k2:cur'.take (p+l.length)=(bs.take p++l).map byt:=by rw[e,List.take_append_of_le_length (by simp;omega),List.take_of_length_le (by simp;omega),zlk ht p (by omega),List.map_append]
 refine⟨by simp;omega,?_,k1,?_⟩
 ·rw[List.take_append_of_le_length (by simp;omega),List.take_of_length_le (by simp;omega),k2];simp
 ·have e1:cur'.drop (p+l.length)=cur.drop (p+l.length):=by
   rw[e,List.drop_append,List.drop_of_length_le (by simp;omega),List.nil_append];simp
   have e0:p+l.length - (min p cur.length+l.length)=0:=by omega
   rw[e0,Nat.add_zero]
  rw[e1,<-List.drop_take,ht,List.map_drop]
def zck(g:Nat):Int:=if g=G.ab then 1 else if g=G.ah then 2 else if g=G.ai then 1 else if g=G.aj then 8 else if g=G.am then 9 else if g=G.ap then 11 else if g=G.ak then 10 else if g=G.ao then 4 else if g=G.af then 5 else if g=G.ae then 3 else if g=G.ag then 7 else 13
theorem zsg{w:World}{K:Value->World->Prop}{B:Nat}{m:Nat->Nat×Nat}(hs:Sn w B m){g:Nat}(hg:g∈sents)(h:K (.int .i64 (zck g)) w):Cl P Fn.bY #[er (m g)] w K:=by
 apply zhI;unfold zf0;have fd:∀L:Value->World->Prop,st P (zab T.aB (.pointer (some ⟨G.ab,0,none⟩))) w L=L (er (m G.ab)) w:=λL=>hs.load (by decide) L;have ex:∀L:Value->World->Prop,st P (oBin .eql T.aB false false (er (m g)) (er (m G.ab))) w L=L (.bool (decide (g=G.ab))) w:=λL=>hs.eql hg (by decide) L;have fc:∀L:Value->World->Prop,st P (zab T.aB (.pointer (some ⟨G.ah,0,none⟩))) w L=L (er (m G.ah)) w:=λL=>hs.load (by decide) L;have ew:∀L:Value->World->Prop,st P (oBin .eql T.aB false false (er (m g)) (er (m G.ah))) w L=L (.bool (decide (g=G.ah))) w:=λL=>hs.eql hg (by decide) L;have e9:∀L:Value->World->Prop,st P (zab T.aB (.pointer (some ⟨G.ai,0,none⟩))) w L=L (er (m G.ai)) w:=λL=>hs.load (by decide) L;have et:∀L:Value->World->Prop,st P (oBin .eql T.aB false false (er (m g)) (er (m G.ai))) w L=L (.bool (decide (g=G.ai))) w:=λL=>hs.eql hg (by decide) L;have fa:∀L:Value->World->Prop,st P (zab T.aB (.pointer (some ⟨G.aj,0,none⟩))) w L=L (er (m G.aj)) w:=λL=>hs.load (by decide) L;have eu:∀L:Value->World->Prop,st P (oBin .eql T.aB false false (er (m g)) (er (m G.aj))) w L=L (.bool (decide (g=G.aj))) w:=λL=>hs.eql hg (by decide) L;have fb:∀L:Value->World->Prop,st P (zab T.aB (.pointer (some ⟨G.am,0,none⟩))) w L=L (er (m G.am)) w:=λL=>hs.load (by decide) L;have ev:∀L:Value->World->Prop,st P (oBin .eql T.aB false false (er (m g)) (er (m G.am))) w L=L (.bool (decide (g=G.am))) w:=λL=>hs.eql hg (by decide) L;have e8:∀L:Value->World->Prop,st P (zab T.aB (.pointer (some ⟨G.ap,0,none⟩))) w L=L (er (m G.ap)) w:=λL=>hs.load (by decide) L;have es:∀L:Value->World->Prop,st P (oBin .eql T.aB false false (er (m g)) (er (m G.ap))) w L=L (.bool (decide (g=G.ap))) w:=λL=>hs.eql hg (by decide) L;have e7:∀L:Value->World->Prop,st P (zab T.aB (.pointer (some ⟨G.ak,0,none⟩))) w L=L (er (m G.ak)) w:=λL=>hs.load (by decide) L;have ep:∀L:Value->World->Prop,st P (oBin .eql T.aB false false (er (m g)) (er (m G.ak))) w L=L (.bool (decide (g=G.ak))) w:=λL=>hs.eql hg (by decide) L;have ey:∀L:Value->World->Prop,st P (zab T.aB (.pointer (some ⟨G.ao,0,none⟩))) w L=L (er (m G.ao)) w:=λL=>hs.load (by decide) L;have el:∀L:Value->World->Prop,st P (oBin .eql T.aB false false (er (m g)) (er (m G.ao))) w L=L (.bool (decide (g=G.ao))) w:=λL=>hs.eql hg (by decide) L;have ez:∀L:Value->World->Prop,st P (zab T.aB (.pointer (some ⟨G.af,0,none⟩))) w L=L (er (m G.af)) w:=λL=>hs.load (by decide) L;have em:∀L:Value->World->Prop,st P (oBin .eql T.aB false false (er (m g)) (er (m G.af))) w L=L (.bool (decide (g=G.af))) w:=λL=>hs.eql hg (by decide) L;have e5:∀L:Value->World->Prop,st P (zab T.aB (.pointer (some ⟨G.ae,0,none⟩))) w L=L (er (m G.ae)) w:=λL=>hs.load (by decide) L;have en:∀L:Value->World->Prop,st P (oBin .eql T.aB false false (er (m g)) (er (m G.ae))) w L=L (.bool (decide (g=G.ae))) w:=λL=>hs.eql hg (by decide) L;have e6:∀L:Value->World->Prop,st P (zab T.aB (.pointer (some ⟨G.ag,0,none⟩))) w L=L (er (m G.ag)) w:=λL=>hs.load (by decide) L;have eo:∀L:Value->World->Prop,st P (oBin .eql T.aB false false (er (m g)) (er (m G.ag))) w L=L (.bool (decide (g=G.ag))) w:=λL=>hs.eql hg (by decide) L;refine zaa (λt w'=>t=[er (m g)]/\w'=w) ?_ ?_
 ·rintro t e w1 ⟨rfl,rfl⟩;refine zaa (λ_ _=>False) (λ_ _ _ h=>h.elim) ?_;rw[gs0,zuc];simp(disch:=first|omega|(simp(disch:=first|omega|fail)only[go_sem]<;>omega)|fail)only[go_sem];refine zaa (λt w'=>t=[.bool (decide (g=G.ab\/g=G.ai))]/\w'=w1) ?_ ?_
  ·rintro t e w2 ⟨rfl,rfl⟩;simp only[sents,List.mem_cons,List.not_mem_nil,or_false]at hg;clear hs;rcases hg with hg|hg|hg|hg|hg|hg|hg|hg|hg|hg|hg
   ·have d0:decide (g=G.ab\/g=G.ai)=true:=by rw[hg];decide
    have ej:decide (g=G.ah)=false:=by rw[hg];decide
    have eh:decide (g=G.aj)=false:=by rw[hg];decide
    have ei:decide (g=G.am)=false:=by rw[hg];decide
    have ef:decide (g=G.ap)=false:=by rw[hg];decide
    have ee:decide (g=G.ak)=false:=by rw[hg];decide
    have ea:decide (g=G.ao)=false:=by rw[hg];decide
    have eb:decide (g=G.af)=false:=by rw[hg];decide
    have ec:decide (g=G.ae)=false:=by rw[hg];decide
    have ed:decide (g=G.ag)=false:=by rw[hg];decide
    have hc:zck g=1:=by rw[hg];decide
    rw[hc]at h;simp(disch:=first|omega|(simp(disch:=first|omega|fail)only[go_sem,d0,fd,ex,fc,ew,e9,et,fa,eu,fb,ev,e8,es,e7,ep,ey,el,ez,em,e5,en,e6,eo,ej,eh,ei,ef,ee,ea,eb,ec,ed]<;>omega)|fail)only[go_sem,d0,fd,ex,fc,ew,e9,et,fa,eu,fb,ev,e8,es,e7,ep,ey,el,ez,em,e5,en,e6,eo,ej,eh,ei,ef,ee,ea,eb,ec,ed];exact h
   ·have d0:decide (g=G.ab\/g=G.ai)=false:=by rw[hg];decide
    have ej:decide (g=G.ah)=true:=by rw[hg];decide
    have eh:decide (g=G.aj)=false:=by rw[hg];decide
    have ei:decide (g=G.am)=false:=by rw[hg];decide
    have ef:decide (g=G.ap)=false:=by rw[hg];decide
    have ee:decide (g=G.ak)=false:=by rw[hg];decide
    have ea:decide (g=G.ao)=false:=by rw[hg];decide
    have eb:decide (g=G.af)=false:=by rw[hg];decide
    have ec:decide (g=G.ae)=false:=by rw[hg];decide
    have ed:decide (g=G.ag)=false:=by rw[hg];decide
    have hc:zck g=2:=by rw[hg];decide
    rw[hc]at h;simp(disch:=first|omega|(simp(disch:=first|omega|fail)only[go_sem,d0,fd,ex,fc,ew,e9,et,fa,eu,fb,ev,e8,es,e7,ep,ey,el,ez,em,e5,en,e6,eo,ej,eh,ei,ef,ee,ea,eb,ec,ed]<;>omega)|fail)only[go_sem,d0,fd,ex,fc,ew,e9,et,fa,eu,fb,ev,e8,es,e7,ep,ey,el,ez,em,e5,en,e6,eo,ej,eh,ei,ef,ee,ea,eb,ec,ed];exact h
   ·have d0:decide (g=G.ab\/g=G.ai)=true:=by rw[hg];decide
    have ej:decide (g=G.ah)=false:=by rw[hg];decide
    have eh:decide (g=G.aj)=false:=by rw[hg];decide
    have ei:decide (g=G.am)=false:=by rw[hg];decide
    have ef:decide (g=G.ap)=false:=by rw[hg];decide
    have ee:decide (g=G.ak)=false:=by rw[hg];decide
    have ea:decide (g=G.ao)=false:=by rw[hg];decide
    have eb:decide (g=G.af)=false:=by rw[hg];decide
    have ec:decide (g=G.ae)=false:=by rw[hg];decide
    have ed:decide (g=G.ag)=false:=by rw[hg];decide
    have hc:zck g=1:=by rw[hg];decide
    rw[hc]at h;simp(disch:=first|omega|(simp(disch:=first|omega|fail)only[go_sem,d0,fd,ex,fc,ew,e9,et,fa,eu,fb,ev,e8,es,e7,ep,ey,el,ez,em,e5,en,e6,eo,ej,eh,ei,ef,ee,ea,eb,ec,ed]<;>omega)|fail)only[go_sem,d0,fd,ex,fc,ew,e9,et,fa,eu,fb,ev,e8,es,e7,ep,ey,el,ez,em,e5,en,e6,eo,ej,eh,ei,ef,ee,ea,eb,ec,ed];exact h
   ·have d0:decide (g=G.ab\/g=G.ai)=false:=by rw[hg];decide
    have ej:decide (g=G.ah)=false:=by rw[hg];decide
    have eh:decide (g=G.aj)=true:=by rw[hg];decide
    have ei:decide (g=G.am)=false:=by rw[hg];decide
    have ef:decide (g=G.ap)=false:=by rw[hg];decide
    have ee:decide (g=G.ak)=false:=by rw[hg];decide
    have ea:decide (g=G.ao)=false:=by rw[hg];decide
    have eb:decide (g=G.af)=false:=by rw[hg];decide
    have ec:decide (g=G.ae)=false:=by rw[hg];decide
    have ed:decide (g=G.ag)=false:=by rw[hg];decide
    have hc:zck g=8:=by rw[hg];decide
    rw[hc]at h;simp(disch:=first|omega|(simp(disch:=first|omega|fail)only[go_sem,d0,fd,ex,fc,ew,e9,et,fa,eu,fb,ev,e8,es,e7,ep,ey,el,ez,em,e5,en,e6,eo,ej,eh,ei,ef,ee,ea,eb,ec,ed]<;>omega)|fail)only[go_sem,d0,fd,ex,fc,ew,e9,et,fa,eu,fb,ev,e8,es,e7,ep,ey,el,ez,em,e5,en,e6,eo,ej,eh,ei,ef,ee,ea,eb,ec,ed];exact h
   ·have d0:decide (g=G.ab\/g=G.ai)=false:=by rw[hg];decide
    have ej:decide (g=G.ah)=false:=by rw[hg];decide
    have eh:decide (g=G.aj)=false:=by rw[hg];decide
    have ei:decide (g=G.am)=true:=by rw[hg];decide
    have ef:decide (g=G.ap)=false:=by rw[hg];decide
    have ee:decide (g=G.ak)=false:=by rw[hg];decide
    have ea:decide (g=G.ao)=false:=by rw[hg];decide
    have eb:decide (g=G.af)=false:=by rw[hg];decide
    have ec:decide (g=G.ae)=false:=by rw[hg];decide
    have ed:decide (g=G.ag)=false:=by rw[hg];decide
    have hc:zck g=9:=by rw[hg];decide
    rw[hc]at h;simp(disch:=first|omega|(simp(disch:=first|omega|fail)only[go_sem,d0,fd,ex,fc,ew,e9,et,fa,eu,fb,ev,e8,es,e7,ep,ey,el,ez,em,e5,en,e6,eo,ej,eh,ei,ef,ee,ea,eb,ec,ed]<;>omega)|fail)only[go_sem,d0,fd,ex,fc,ew,e9,et,fa,eu,fb,ev,e8,es,e7,ep,ey,el,ez,em,e5,en,e6,eo,ej,eh,ei,ef,ee,ea,eb,ec,ed];exact h
   ·have d0:decide (g=G.ab\/g=G.ai)=false:=by rw[hg];decide
    have ej:decide (g=G.ah)=false:=by rw[hg];decide
    have eh:decide (g=G.aj)=false:=by rw[hg];decide
    have ei:decide (g=G.am)=false:=by rw[hg];decide
    have ef:decide (g=G.ap)=true:=by rw[hg];decide
    have ee:decide (g=G.ak)=false:=by rw[hg];decide
    have ea:decide (g=G.ao)=false:=by rw[hg];decide
    have eb:decide (g=G.af)=false:=by rw[hg];decide
    have ec:decide (g=G.ae)=false:=by rw[hg];decide
    have ed:decide (g=G.ag)=false:=by rw[hg];decide
    have hc:zck g=11:=by rw[hg];decide
    rw[hc]at h;simp(disch:=first|omega|(simp(disch:=first|omega|fail)only[go_sem,d0,fd,ex,fc,ew,e9,et,fa,eu,fb,ev,e8,es,e7,ep,ey,el,ez,em,e5,en,e6,eo,ej,eh,ei,ef,ee,ea,eb,ec,ed]<;>omega)|fail)only[go_sem,d0,fd,ex,fc,ew,e9,et,fa,eu,fb,ev,e8,es,e7,ep,ey,el,ez,em,e5,en,e6,eo,ej,eh,ei,ef,ee,ea,eb,ec,ed];exact h
   ·have d0:decide (g=G.ab\/g=G.ai)=false:=by rw[hg];decide
    have ej:decide (g=G.ah)=false:=by rw[hg];decide
    have eh:decide (g=G.aj)=false:=by rw[hg];decide
    have ei:decide (g=G.am)=false:=by rw[hg];decide
    have ef:decide (g=G.ap)=false:=by rw[hg];decide
    have ee:decide (g=G.ak)=true:=by rw[hg];decide
    have ea:decide (g=G.ao)=false:=by rw[hg];decide
    have eb:decide (g=G.af)=false:=by rw[hg];decide
    have ec:decide (g=G.ae)=false:=by rw[hg];decide
    have ed:decide (g=G.ag)=false:=by rw[hg];decide
    have hc:zck g=10:=by rw[hg];decide
    rw[hc]at h;simp(disch:=first|omega|(simp(disch:=first|omega|fail)only[go_sem,d0,fd,ex,fc,ew,e9,et,fa,eu,fb,ev,e8,es,e7,ep,ey,el,ez,em,e5,en,e6,eo,ej,eh,ei,ef,ee,ea,eb,ec,ed]<;>omega)|fail)only[go_sem,d0,fd,ex,fc,ew,e9,et,fa,eu,fb,ev,e8,es,e7,ep,ey,el,ez,em,e5,en,e6,eo,ej,eh,ei,ef,ee,ea,eb,ec,ed];exact h
   ·have d0:decide (g=G.ab\/g=G.ai)=false:=by rw[hg];decide
    have ej:decide (g=G.ah)=false:=by rw[hg];decide
    have eh:decide (g=G.aj)=false:=by rw[hg];decide
    have ei:decide (g=G.am)=false:=by rw[hg];decide
    have ef:decide (g=G.ap)=false:=by rw[hg];decide
    have ee:decide (g=G.ak)=false:=by rw[hg];decide
    have ea:decide (g=G.ao)=true:=by rw[hg];decide
    have eb:decide (g=G.af)=false:=by rw[hg];decide
    have ec:decide (g=G.ae)=false:=by rw[hg];decide
    have ed:decide (g=G.ag)=false:=by rw[hg];decide
    have hc:zck g=4:=by rw[hg];decide
    rw[hc]at h;simp(disch:=first|omega|(simp(disch:=first|omega|fail)only[go_sem,d0,fd,ex,fc,ew,e9,et,fa,eu,fb,ev,e8,es,e7,ep,ey,el,ez,em,e5,en,e6,eo,ej,eh,ei,ef,ee,ea,eb,ec,ed]<;>omega)|fail)only[go_sem,d0,fd,ex,fc,ew,e9,et,fa,eu,fb,ev,e8,es,e7,ep,ey,el,ez,em,e5,en,e6,eo,ej,eh,ei,ef,ee,ea,eb,ec,ed];exact h
   ·have d0:decide (g=G.ab\/g=G.ai)=false:=by rw[hg];decide
    have ej:decide (g=G.ah)=false:=by rw[hg];decide
    have eh:decide (g=G.aj)=false:=by rw[hg];decide
    have ei:decide (g=G.am)=false:=by rw[hg];decide
    have ef:decide (g=G.ap)=false:=by rw[hg];decide
    have ee:decide (g=G.ak)=false:=by rw[hg];decide
    have ea:decide (g=G.ao)=false:=by rw[hg];decide
    have eb:decide (g=G.af)=true:=by rw[hg];decide
    have ec:decide (g=G.ae)=false:=by rw[hg];decide
    have ed:decide (g=G.ag)=false:=by rw[hg];decide
    have hc:zck g=5:=by rw[hg];decide
    rw[hc]at h;simp(disch:=first|omega|(simp(disch:=first|omega|fail)only[go_sem,d0,fd,ex,fc,ew,e9,et,fa,eu,fb,ev,e8,es,e7,ep,ey,el,ez,em,e5,en,e6,eo,ej,eh,ei,ef,ee,ea,eb,ec,ed]<;>omega)|fail)only[go_sem,d0,fd,ex,fc,ew,e9,et,fa,eu,fb,ev,e8,es,e7,ep,ey,el,ez,em,e5,en,e6,eo,ej,eh,ei,ef,ee,ea,eb,ec,ed];exact h
   ·have d0:decide (g=G.ab\/g=G.ai)=false:=by rw[hg];decide
    have ej:decide (g=G.ah)=false:=by rw[hg];decide
    have eh:decide (g=G.aj)=false:=by rw[hg];decide
    have ei:decide (g=G.am)=false:=by rw[hg];decide
    have ef:decide (g=G.ap)=false:=by rw[hg];decide
    have ee:decide (g=G.ak)=false:=by rw[hg];decide
    have ea:decide (g=G.ao)=false:=by rw[hg];decide
    have eb:decide (g=G.af)=false:=by rw[hg];decide
    have ec:decide (g=G.ae)=true:=by rw[hg];decide
    have ed:decide (g=G.ag)=false:=by rw[hg];decide
    have hc:zck g=3:=by rw[hg];decide
    rw[hc]at h;simp(disch:=first|omega|(simp(disch:=first|omega|fail)only[go_sem,d0,fd,ex,fc,ew,e9,et,fa,eu,fb,ev,e8,es,e7,ep,ey,el,ez,em,e5,en,e6,eo,ej,eh,ei,ef,ee,ea,eb,ec,ed]<;>omega)|fail)only[go_sem,d0,fd,ex,fc,ew,e9,et,fa,eu,fb,ev,e8,es,e7,ep,ey,el,ez,em,e5,en,e6,eo,ej,eh,ei,ef,ee,ea,eb,ec,ed];exact h
   ·have d0:decide (g=G.ab\/g=G.ai)=false:=by rw[hg];decide
    have ej:decide (g=G.ah)=false:=by rw[hg];decide
    have eh:decide (g=G.aj)=false:=by rw[hg];decide
    have ei:decide (g=G.am)=false:=by rw[hg];decide
    have ef:decide (g=G.ap)=false:=by rw[hg];decide
    have ee:decide (g=G.ak)=false:=by rw[hg];decide
    have ea:decide (g=G.ao)=false:=by rw[hg];decide
    have eb:decide (g=G.af)=false:=by rw[hg];decide
    have ec:decide (g=G.ae)=false:=by rw[hg];decide
    have ed:decide (g=G.ag)=true:=by rw[hg];decide
    have hc:zck g=7:=by rw[hg];decide
    rw[hc]at h;simp(disch:=first|omega|(simp(disch:=first|omega|fail)only[go_sem,d0,fd,ex,fc,ew,e9,et,fa,eu,fb,ev,e8,es,e7,ep,ey,el,ez,em,e5,en,e6,eo,ej,eh,ei,ef,ee,ea,eb,ec,ed]<;>omega)|fail)only[go_sem,d0,fd,ex,fc,ew,e9,et,fa,eu,fb,ev,e8,es,e7,ep,ey,el,ez,em,e5,en,e6,eo,ej,eh,ei,ef,ee,ea,eb,ec,ed];exact h
  ·by_cases c1:g=G.ab
   ·have d1:decide (g=G.ab)=true:=by simp[c1]
    have d2:decide (g=G.ab\/g=G.ai)=true:=by simp[c1]
    simp(disch:=first|omega|(simp(disch:=first|omega|fail)only[go_sem,fd,ex,d1,d2]<;>omega)|fail)only[go_sem,fd,ex,d1,d2];exact⟨trivial,trivial⟩
   ·have d1:decide (g=G.ab)=false:=by simp[c1]
    have d2:decide (g=G.ab\/g=G.ai)=decide (g=G.ai):=by simp[c1]
    simp(disch:=first|omega|(simp(disch:=first|omega|fail)only[go_sem,fd,ex,d1,d2,e9,et]<;>omega)|fail)only[go_sem,fd,ex,d1,d2,e9,et];exact⟨trivial,trivial⟩
 ·rw[zr7];simp(disch:=first|omega|(simp(disch:=first|omega|fail)only[go_sem]<;>omega)|fail)only[go_sem];exact⟨trivial,trivial⟩
def PE(w:World)(C:Nat)(x:Value)(op:List UInt8)(q:Nat×Nat):Prop:=∃pb nm,x=.iface T.aD (pt pb 0)/\bk w pb=some (CB [S op,S nm,er q] T.au)/\C<=pb
def NE(w:World)(C:Nat)(q:Nat×Nat):Prop:=q.2=0/\C<=q.1/\∃txt,bk w q.1=some (CB [S txt] T.aI)
def four:List Nat:=[G.ab,G.ah,G.aj,G.ai]
theorem zm4{g:Nat}(h:g∈four):g∈sents:=by simp only[four,List.mem_cons,List.not_mem_nil,or_false]at h;rcases h with h|h|h|h<;>(rw[h];decide)
theorem zso{w:World}{K:Value->World->Prop}{B C:Nat}{m:Nat->Nat×Nat}(hs:Sn w B m){x:Value}{op:List UInt8}{g:Nat}(hg:g∈four)(hx:PE w C x op (m g))(h:K (.int .i64 (zck g)) w):Cl P Fn.bY #[x] w K:=by
 obtain⟨pb,nm,rfl,hp,hC⟩:=hx;have hg0:=zm4 hg;apply zhI;unfold zf0;have as1:∀(L:Value->Prop),pu P (zgS (.iface T.aD (pt pb 0)) T.aB T.aD true) L=L (tup [pt pb 0,.bool true]):=λL=>zjK U.ak _;have fd:∀L:Value->World->Prop,st P (zab T.aB (.pointer (some ⟨G.ab,0,none⟩))) w L=L (er (m G.ab)) w:=λL=>hs.load (by decide) L;have ex:∀L:Value->World->Prop,st P (oBin .eql T.aB false false (er (m g)) (er (m G.ab))) w L=L (.bool (decide (g=G.ab))) w:=λL=>hs.eql hg0 (by decide) L;have fc:∀L:Value->World->Prop,st P (zab T.aB (.pointer (some ⟨G.ah,0,none⟩))) w L=L (er (m G.ah)) w:=λL=>hs.load (by decide) L;have ew:∀L:Value->World->Prop,st P (oBin .eql T.aB false false (er (m g)) (er (m G.ah))) w L=L (.bool (decide (g=G.ah))) w:=λL=>hs.eql hg0 (by decide) L;have e9:∀L:Value->World->Prop,st P (zab T.aB (.pointer (some ⟨G.ai,0,none⟩))) w L=L (er (m G.ai)) w:=λL=>hs.load (by decide) L;have et:∀L:Value->World->Prop,st P (oBin .eql T.aB false false (er (m g)) (er (m G.ai))) w L=L (.bool (decide (g=G.ai))) w:=λL=>hs.eql hg0 (by decide) L;have fa:∀L:Value->World->Prop,st P (zab T.aB (.pointer (some ⟨G.aj,0,none⟩))) w L=L (er (m G.aj)) w:=λL=>hs.load (by decide) L;have eu:∀L:Value->World->Prop,st P (oBin .eql T.aB false false (er (m g)) (er (m G.aj))) w L=L (.bool (decide (g=G.aj))) w:=λL=>hs.eql hg0 (by decide) L;have fb:∀L:Value->World->Prop,st P (zab T.aB (.pointer (some ⟨G.am,0,none⟩))) w L=L (er (m G.am)) w:=λL=>hs.load (by decide) L;have ev:∀L:Value->World->Prop,st P (oBin .eql T.aB false false (er (m g)) (er (m G.am))) w L=L (.bool (decide (g=G.am))) w:=λL=>hs.eql hg0 (by decide) L;have e8:∀L:Value->World->Prop,st P (zab T.aB (.pointer (some ⟨G.ap,0,none⟩))) w L=L (er (m G.ap)) w:=λL=>hs.load (by decide) L;have es:∀L:Value->World->Prop,st P (oBin .eql T.aB false false (er (m g)) (er (m G.ap))) w L=L (.bool (decide (g=G.ap))) w:=λL=>hs.eql hg0 (by decide) L;have e7:∀L:Value->World->Prop,st P (zab T.aB (.pointer (some ⟨G.ak,0,none⟩))) w L=L (er (m G.ak)) w:=λL=>hs.load (by decide) L;have ep:∀L:Value->World->Prop,st P (oBin .eql T.aB false false (er (m g)) (er (m G.ak))) w L=L (.bool (decide (g=G.ak))) w:=λL=>hs.eql hg0 (by decide) L;have ey:∀L:Value->World->Prop,st P (zab T.aB (.pointer (some ⟨G.ao,0,none⟩))) w L=L (er (m G.ao)) w:=λL=>hs.load (by decide) L;have el:∀L:Value->World->Prop,st P (oBin .eql T.aB false false (er (m g)) (er (m G.ao))) w L=L (.bool (decide (g=G.ao))) w:=λL=>hs.eql hg0 (by decide) L;have ez:∀L:Value->World->Prop,st P (zab T.aB (.pointer (some ⟨G.af,0,none⟩))) w L=L (er (m G.af)) w:=λL=>hs.load (by decide) L;have em:∀L:Value->World->Prop,st P (oBin .eql T.aB false false (er (m g)) (er (m G.af))) w L=L (.bool (decide (g=G.af))) w:=λL=>hs.eql hg0 (by decide) L;have e5:∀L:Value->World->Prop,st P (zab T.aB (.pointer (some ⟨G.ae,0,none⟩))) w L=L (er (m G.ae)) w:=λL=>hs.load (by decide) L;have en:∀L:Value->World->Prop,st P (oBin .eql T.aB false false (er (m g)) (er (m G.ae))) w L=L (.bool (decide (g=G.ae))) w:=λL=>hs.eql hg0 (by decide) L;have e6:∀L:Value->World->Prop,st P (zab T.aB (.pointer (some ⟨G.ag,0,none⟩))) w L=L (er (m G.ag)) w:=λL=>hs.load (by decide) L;have eo:∀L:Value->World->Prop,st P (oBin .eql T.aB false false (er (m g)) (er (m G.ag))) w L=L (.bool (decide (g=G.ag))) w:=λL=>hs.eql hg0 (by decide) L;refine zaa (λt w'=>t=[er (m g)]/\w'=w) ?_ ?_
 ·rintro t e w1 ⟨rfl,rfl⟩;refine zaa (λ_ _=>False) (λ_ _ _ h=>h.elim) ?_;rw[gs0,zuc];simp(disch:=first|omega|(simp(disch:=first|omega|fail)only[go_sem]<;>omega)|fail)only[go_sem];refine zaa (λt w'=>t=[.bool (decide (g=G.ab\/g=G.ai))]/\w'=w1) ?_ ?_
  ·rintro t e w2 ⟨rfl,rfl⟩;simp only[four,List.mem_cons,List.not_mem_nil,or_false]at hg;clear hs;rcases hg with hg|hg|hg|hg
   ·have d0:decide (g=G.ab\/g=G.ai)=true:=by rw[hg];decide
    have ej:decide (g=G.ah)=false:=by rw[hg];decide
    have eh:decide (g=G.aj)=false:=by rw[hg];decide
    have ei:decide (g=G.am)=false:=by rw[hg];decide
    have ef:decide (g=G.ap)=false:=by rw[hg];decide
    have ee:decide (g=G.ak)=false:=by rw[hg];decide
    have ea:decide (g=G.ao)=false:=by rw[hg];decide
    have eb:decide (g=G.af)=false:=by rw[hg];decide
    have ec:decide (g=G.ae)=false:=by rw[hg];decide
    have ed:decide (g=G.ag)=false:=by rw[hg];decide
    have hc:zck g=1:=by rw[hg];decide
    rw[hc]at h;simp(disch:=first|omega|(simp(disch:=first|omega|fail)only[go_sem,d0,fd,ex,fc,ew,e9,et,fa,eu,fb,ev,e8,es,e7,ep,ey,el,ez,em,e5,en,e6,eo,ej,eh,ei,ef,ee,ea,eb,ec,ed]<;>omega)|fail)only[go_sem,d0,fd,ex,fc,ew,e9,et,fa,eu,fb,ev,e8,es,e7,ep,ey,el,ez,em,e5,en,e6,eo,ej,eh,ei,ef,ee,ea,eb,ec,ed];exact h
   ·have d0:decide (g=G.ab\/g=G.ai)=false:=by rw[hg];decide
    have ej:decide (g=G.ah)=true:=by rw[hg];decide
    have eh:decide (g=G.aj)=false:=by rw[hg];decide
    have ei:decide (g=G.am)=false:=by rw[hg];decide
    have ef:decide (g=G.ap)=false:=by rw[hg];decide
    have ee:decide (g=G.ak)=false:=by rw[hg];decide
    have ea:decide (g=G.ao)=false:=by rw[hg];decide
    have eb:decide (g=G.af)=false:=by rw[hg];decide
    have ec:decide (g=G.ae)=false:=by rw[hg];decide
    have ed:decide (g=G.ag)=false:=by rw[hg];decide
    have hc:zck g=2:=by rw[hg];decide
    rw[hc]at h;simp(disch:=first|omega|(simp(disch:=first|omega|fail)only[go_sem,d0,fd,ex,fc,ew,e9,et,fa,eu,fb,ev,e8,es,e7,ep,ey,el,ez,em,e5,en,e6,eo,ej,eh,ei,ef,ee,ea,eb,ec,ed]<;>omega)|fail)only[go_sem,d0,fd,ex,fc,ew,e9,et,fa,eu,fb,ev,e8,es,e7,ep,ey,el,ez,em,e5,en,e6,eo,ej,eh,ei,ef,ee,ea,eb,ec,ed];exact h
   ·have d0:decide (g=G.ab\/g=G.ai)=false:=by rw[hg];decide
    have ej:decide (g=G.ah)=false:=by rw[hg];decide
    have eh:decide (g=G.aj)=true:=by rw[hg];decide
    have ei:decide (g=G.am)=false:=by rw[hg];decide
    have ef:decide (g=G.ap)=false:=by rw[hg];decide
    have ee:decide (g=G.ak)=false:=by rw[hg];decide
    have ea:decide (g=G.ao)=false:=by rw[hg];decide
    have eb:decide (g=G.af)=false:=by rw[hg];decide
    have ec:decide (g=G.ae)=false:=by rw[hg];decide
    have ed:decide (g=G.ag)=false:=by rw[hg];decide
    have hc:zck g=8:=by rw[hg];decide
    rw[hc]at h;simp(disch:=first|omega|(simp(disch:=first|omega|fail)only[go_sem,d0,fd,ex,fc,ew,e9,et,fa,eu,fb,ev,e8,es,e7,ep,ey,el,ez,em,e5,en,e6,eo,ej,eh,ei,ef,ee,ea,eb,ec,ed]<;>omega)|fail)only[go_sem,d0,fd,ex,fc,ew,e9,et,fa,eu,fb,ev,e8,es,e7,ep,ey,el,ez,em,e5,en,e6,eo,ej,eh,ei,ef,ee,ea,eb,ec,ed];exact h
   ·have d0:decide (g=G.ab\/g=G.ai)=true:=by rw[hg];decide
    have ej:decide (g=G.ah)=false:=by rw[hg];decide
    have eh:decide (g=G.aj)=false:=by rw[hg];decide
    have ei:decide (g=G.am)=false:=by rw[hg];decide
    have ef:decide (g=G.ap)=false:=by rw[hg];decide
    have ee:decide (g=G.ak)=false:=by rw[hg];decide
    have ea:decide (g=G.ao)=false:=by rw[hg];decide
    have eb:decide (g=G.af)=false:=by rw[hg];decide
    have ec:decide (g=G.ae)=false:=by rw[hg];decide
    have ed:decide (g=G.ag)=false:=by rw[hg];decide
    have hc:zck g=1:=by rw[hg];decide
    rw[hc]at h;simp(disch:=first|omega|(simp(disch:=first|omega|fail)only[go_sem,d0,fd,ex,fc,ew,e9,et,fa,eu,fb,ev,e8,es,e7,ep,ey,el,ez,em,e5,en,e6,eo,ej,eh,ei,ef,ee,ea,eb,ec,ed]<;>omega)|fail)only[go_sem,d0,fd,ex,fc,ew,e9,et,fa,eu,fb,ev,e8,es,e7,ep,ey,el,ez,em,e5,en,e6,eo,ej,eh,ei,ef,ee,ea,eb,ec,ed];exact h
  ·by_cases c1:g=G.ab
   ·have d1:decide (g=G.ab)=true:=by simp[c1]
    have d2:decide (g=G.ab\/g=G.ai)=true:=by simp[c1]
    simp(disch:=first|omega|(simp(disch:=first|omega|fail)only[go_sem,fd,ex,d1,d2]<;>omega)|fail)only[go_sem,fd,ex,d1,d2];exact⟨trivial,trivial⟩
   ·have d1:decide (g=G.ab)=false:=by simp[c1]
    have d2:decide (g=G.ab\/g=G.ai)=decide (g=G.ai):=by simp[c1]
    simp(disch:=first|omega|(simp(disch:=first|omega|fail)only[go_sem,fd,ex,d1,d2,e9,et]<;>omega)|fail)only[go_sem,fd,ex,d1,d2,e9,et];exact⟨trivial,trivial⟩
 ·rw[as1];simp(disch:=first|omega|(simp(disch:=first|omega|fail)only[go_sem,hp]<;>omega)|fail)only[go_sem,hp];refine zaa (λt w'=>t=[.bool true]/\w'=w) ?_ ?_
  ·rintro t e w1 ⟨rfl,rfl⟩;simp(disch:=first|omega|(simp(disch:=first|omega|fail)only[go_sem,hp]<;>omega)|fail)only[go_sem,hp];exact⟨trivial,trivial⟩
  ·simp only[four,List.mem_cons,List.not_mem_nil,or_false]at hg;clear hs;rcases hg with hg|hg|hg|hg
   ·have ek:decide (g=G.ab)=true:=by rw[hg];decide
    simp(disch:=first|omega|(simp(disch:=first|omega|fail)only[go_sem,fd,ex,fc,ew,e9,et,fa,eu,fb,ev,e8,es,e7,ep,ey,el,ez,em,e5,en,e6,eo,ek]<;>omega)|fail)only[go_sem,fd,ex,fc,ew,e9,et,fa,eu,fb,ev,e8,es,e7,ep,ey,el,ez,em,e5,en,e6,eo,ek];exact⟨trivial,trivial⟩
   ·have ek:decide (g=G.ab)=false:=by rw[hg];decide
    have ej:decide (g=G.ah)=true:=by rw[hg];decide
    simp(disch:=first|omega|(simp(disch:=first|omega|fail)only[go_sem,fd,ex,fc,ew,e9,et,fa,eu,fb,ev,e8,es,e7,ep,ey,el,ez,em,e5,en,e6,eo,ek,ej]<;>omega)|fail)only[go_sem,fd,ex,fc,ew,e9,et,fa,eu,fb,ev,e8,es,e7,ep,ey,el,ez,em,e5,en,e6,eo,ek,ej];exact⟨trivial,trivial⟩
   ·have ek:decide (g=G.ab)=false:=by rw[hg];decide
    have ej:decide (g=G.ah)=false:=by rw[hg];decide
    have eh:decide (g=G.aj)=true:=by rw[hg];decide
    simp(disch:=first|omega|(simp(disch:=first|omega|fail)only[go_sem,fd,ex,fc,ew,e9,et,fa,eu,fb,ev,e8,es,e7,ep,ey,el,ez,em,e5,en,e6,eo,ek,ej,eh]<;>omega)|fail)only[go_sem,fd,ex,fc,ew,e9,et,fa,eu,fb,ev,e8,es,e7,ep,ey,el,ez,em,e5,en,e6,eo,ek,ej,eh];exact⟨trivial,trivial⟩
   ·have ek:decide (g=G.ab)=false:=by rw[hg];decide
    have ej:decide (g=G.ah)=false:=by rw[hg];decide
    have eh:decide (g=G.aj)=false:=by rw[hg];decide
    have eg:decide (g=G.ai)=true:=by rw[hg];decide
    simp(disch:=first|omega|(simp(disch:=first|omega|fail)only[go_sem,fd,ex,fc,ew,e9,et,fa,eu,fb,ev,e8,es,e7,ep,ey,el,ez,em,e5,en,e6,eo,ek,ej,eh,eg]<;>omega)|fail)only[go_sem,fd,ex,fc,ew,e9,et,fa,eu,fb,ev,e8,es,e7,ep,ey,el,ez,em,e5,en,e6,eo,ek,ej,eh,eg];exact⟨trivial,trivial⟩
def zm7(op:List UInt8):Int:=if op=[114,101,97,100,100,105,114]then 8 else if op=[116,114,117,110,99,97,116,101]\/op=[119,114,105,116,101]then 6 else 13
theorem ztc{w:World}{K:Value->World->Prop}{B C:Nat}{m:Nat->Nat×Nat}(hs:Sn w B m)(hBC:B<=C){x:Value}{op:List UInt8}{q:Nat×Nat}(hq:NE w C q)(hx:PE w C x op q)(h:K (.int .i64 (zm7 op)) w):Cl P Fn.bY #[x] w K:=by
 obtain⟨pb,nm,rfl,hp,hC⟩:=hx;obtain⟨ib,i0⟩:=q;obtain⟨q0,qB,txt,hi⟩:=hq;simp only at q0 qB hi;subst q0;apply zhI;unfold zf0;have eq:∀{g:Nat},g∈sents->∀(L:Value->World->Prop),st P (oBin .eql T.aB false false (er (ib,0)) (er (m g))) w L=L (.bool false) w:=λhg L=>zs3 hs hi (by omega) hg L;have as1:∀(L:Value->Prop),pu P (zgS (.iface T.aD (pt pb 0)) T.aB T.aD true) L=L (tup [pt pb 0,.bool true]):=λL=>zjK U.ak _;have l1:=λL=>hs.load (g:=G.ab) (by decide) L;have l2:=λL=>hs.load (g:=G.ah) (by decide) L;have l3:=λL=>hs.load (g:=G.aj) (by decide) L;have l4:=λL=>hs.load (g:=G.ai) (by decide) L;have e1:=@eq G.ab (by decide);have e2:=@eq G.ah (by decide);have e3:=@eq G.aj (by decide);have e4:=@eq G.ai (by decide);refine zaa (λ_ _=>False) (λ_ _ _ h=>h.elim) ?_;rw[as1];simp(disch:=first|omega|(simp(disch:=first|omega|fail)only[go_sem,hp]<;>omega)|fail)only[go_sem,hp];refine zaa (λt w'=>t=[.bool false]/\w'=w) ?_ ?_
 ·rintro t e w1 ⟨rfl,rfl⟩;simp(disch:=first|omega|(simp(disch:=first|omega|fail)only[go_sem]<;>omega)|fail)only[go_sem];unfold zm7 at h;by_cases c1:op=[114,101,97,100,100,105,114]
  ·rw[if_pos c1]at h;refine zaa (λ_ _=>False) (λ_ _ _ h=>h.elim) ?_;simp(disch:=first|omega|(simp(disch:=first|omega|fail)only[go_sem,hp,c1,decide_true]<;>omega)|fail)only[go_sem,hp,c1,decide_true];exact h
  ·rw[if_neg c1]at h;by_cases c2:op=[116,114,117,110,99,97,116,101]\/op=[119,114,105,116,101]
   ·rw[if_pos c2]at h;refine zaa (λ_ _=>False) (λ_ _ _ h=>h.elim) ?_;simp(disch:=first|omega|(simp(disch:=first|omega|fail)only[go_sem,hp,c1,decide_false]<;>omega)|fail)only[go_sem,hp,c1,decide_false];refine zaa (λt w'=>t=[.bool true]/\w'=w1) ?_ ?_
    ·rintro t e w2 ⟨rfl,rfl⟩;simp(disch:=first|omega|(simp(disch:=first|omega|fail)only[go_sem]<;>omega)|fail)only[go_sem];exact h
    ·by_cases c3:op=[116,114,117,110,99,97,116,101]
     ·have d3:decide (op=[116,114,117,110,99,97,116,101])=true:=by rw[c3];decide
      simp(disch:=first|omega|(simp(disch:=first|omega|fail)only[go_sem,d3]<;>omega)|fail)only[go_sem,d3];exact⟨trivial,trivial⟩
     ·have c4:=c2.resolve_left c3;have d3:decide (op=[116,114,117,110,99,97,116,101])=false:=decide_eq_false c3;have d4:decide (op=[119,114,105,116,101])=true:=by rw[c4];decide
      simp(disch:=first|omega|(simp(disch:=first|omega|fail)only[go_sem,d3,d4]<;>omega)|fail)only[go_sem,d3,d4];exact⟨trivial,trivial⟩
   ·rw[if_neg c2]at h;refine zaa (λt w'=>w'=w1) ?_ ?_
    ·rintro t e w2 rfl;exact h
    ·simp(disch:=first|omega|(simp(disch:=first|omega|fail)only[go_sem,hp,c1,decide_false]<;>omega)|fail)only[go_sem,hp,c1,decide_false];have d3:decide (op=[116,114,117,110,99,97,116,101])=false:=decide_eq_false λe=>c2 (.inl e);have d4:decide (op=[119,114,105,116,101])=false:=decide_eq_false λe=>c2 (.inr e);refine zaa (λt w'=>t=[.bool false]/\w'=w1) ?_ ?_
     ·rintro t e w2 ⟨rfl,rfl⟩;simp(disch:=first|omega|(simp(disch:=first|omega|fail)only[go_sem]<;>omega)|fail)only[go_sem]
     ·simp(disch:=first|omega|(simp(disch:=first|omega|fail)only[go_sem,d3,d4]<;>omega)|fail)only[go_sem,d3,d4];exact⟨trivial,trivial⟩
 ·simp(disch:=first|omega|(simp(disch:=first|omega|fail)only[go_sem,l1,l2,l3,l4,e1,e2,e3,e4]<;>omega)|fail)only[go_sem,l1,l2,l3,l4,e1,e2,e3,e4];exact⟨trivial,trivial⟩
def ErrV(w:World)(C:Nat)(m:Nat->Nat×Nat)(e:Int)(x:Value):Prop:=(e=0/\x=.nilIface)\/(∃g∈sents,x=er (m g)/\e=zck g)\/(∃g∈four,∃op,PE w C x op (m g)/\e=zck g)\/∃op q,PE w C x op q/\NE w C q/\e=zm7 op
theorem zp7{w:World}{K:Value->World->Prop}{B C:Nat}{m:Nat->Nat×Nat}(hs:Sn w B m)(hBC:B<=C){e:Int}{x:Value}(hx:ErrV w C m e x)(h:K (.int .i64 e) w):Cl P Fn.bY #[x] w K:=by
 rcases hx with⟨rfl,rfl⟩|⟨g,hg,rfl,rfl⟩|⟨g,hg,op,hp,rfl⟩|⟨op,q,hp,hq,rfl⟩
 ·exact zsZ h
 ·exact zsg hs hg h
 ·exact zso hs hg hp h
 ·exact ztc hs hBC hq hp h
theorem PE.kp{w w':World}{C:Nat}{x:Value}{op:List UInt8}{q:Nat×Nat}{S:Nat->Prop}(h:PE w C x op q)(k:Kp w w' S)(hS:∀b,C<=b->b<w.heap.size->¬S b):PE w' C x op q:=by obtain⟨pb,nm,e,h1,h2⟩:=h;exact⟨pb,nm,e,(k.block pb (zaj h1) (hS pb h2 (zaj h1))).trans h1,h2⟩
theorem NE.kp{w w':World}{C:Nat}{q:Nat×Nat}{S:Nat->Prop}(h:NE w C q)(k:Kp w w' S)(hS:∀b,C<=b->b<w.heap.size->¬S b):NE w' C q:=by obtain⟨h0,h2,txt,h1⟩:=h;exact⟨h0,h2,txt,(k.block q.1 (zaj h1) (hS q.1 h2 (zaj h1))).trans h1⟩
theorem ErrV.kp{w w':World}{C:Nat}{m:Nat->Nat×Nat}{e:Int}{x:Value}{S:Nat->Prop}(h:ErrV w C m e x)(k:Kp w w' S)(hS:∀b,C<=b->b<w.heap.size->¬S b):ErrV w' C m e x:=by
 rcases h with h|h|⟨g,hg,op,hp,he⟩|⟨op,q,hp,hq,he⟩
 ·exact .inl h
 ·exact .inr (.inl h)
 ·exact .inr (.inr (.inl ⟨g,hg,op,hp.kp k hS,he⟩))
 ·exact .inr (.inr (.inr ⟨op,q,hp.kp k hS,hq.kp k hS,he⟩))
theorem ErrV.old{w w':World}{C:Nat}{m:Nat->Nat×Nat}{e:Int}{x:Value}(h:ErrV w C m e x)(k:Below w.heap.size w w'):ErrV w' C m e x:=h.kp (Kp.of_below k λb=>w.heap.size<=b) λb _ hb=>by omega
theorem ErrV.less{w:World}{C C':Nat}{m:Nat->Nat×Nat}{e:Int}{x:Value}(h:ErrV w C m e x)(hC:C'<=C):ErrV w C' m e x:=by
 rcases h with h|h|⟨g,hg,op,⟨pb,nm,e1,h1,h2⟩,he⟩|⟨op,q,⟨pb,nm,e1,h1,h2⟩,⟨g0,g2,g3⟩,he⟩
 ·exact .inl h
 ·exact .inr (.inl h)
 ·exact .inr (.inr (.inl ⟨g,hg,op,⟨pb,nm,e1,h1,by omega⟩,he⟩))
 ·exact .inr (.inr (.inr ⟨op,q,⟨pb,nm,e1,h1,by omega⟩,⟨g0,by omega,g3⟩,he⟩))
theorem zoP{g:Nat}(h:g∈sents):zck g≠0:=by simp only[sents,List.mem_cons,List.not_mem_nil,or_false]at h;rcases h with h|h|h|h|h|h|h|h|h|h|h<;>(rw[h];decide)
theorem zse(op:List UInt8):zm7 op≠0:=by
 unfold zm7;split
 ·decide
 ·split<;>decide
theorem ErrV.nil_iff{w:World}{C:Nat}{m:Nat->Nat×Nat}{e:Int}{x:Value}(h:ErrV w C m e x):(e=0/\x=.nilIface)\/(e≠0/\∃t y,x=.iface t y):=by
 rcases h with h|⟨g,hg,rfl,rfl⟩|⟨g,hg,op,⟨pb,nm,rfl,h1,h2⟩,rfl⟩|⟨op,q,⟨pb,nm,rfl,h1,h2⟩,hq,rfl⟩
 ·exact .inl h
 ·exact .inr ⟨zoP hg,_,_,rfl⟩
 ·exact .inr ⟨zoP (zm4 hg),_,_,rfl⟩
 ·exact .inr ⟨zse op,_,_,rfl⟩
theorem ErrV.nil(w:World)(C:Nat)(m:Nat->Nat×Nat):ErrV w C m 0 .nilIface:=.inl ⟨rfl,rfl⟩
def errV(m:Nat->Nat×Nat)(k:Nat):Value:=if k=4 then er (m G.ao)else if k=5 then er (m G.af)else .nilIface
structure FX where
 bytes:List UInt8
 pos:Int
 cl:Bool
 ro:Bool
 rdc:Int
 nm:List UInt8
 md:Value
 dir:Bool
 mode:Int
 mt:Int
 uid:Int
 gid:Int
structure FH(w:World)(B f d:Nat)(v:Value)(s:FX):Prop where
 hf:B<=f
 hd:B<=d
 fd:f≠d
 bf:bk w f=some (CB [.int .i64 s.pos,.int .i64 s.rdc,.bool s.cl,.bool s.ro,pt d 0] T.ao)
 bd:bk w d=some (CB [S s.nm,v,s.md,.bool s.dir,.int .u32 s.mode,.int .i64 s.mt,.int .i64 s.uid,.int .i64 s.gid] T.ak)
 md1:s.md.oneCell'=true
 own:w.ownsRow B T.aJ 1 v s.bytes.length (s.bytes.map byt)
 nf:v.ownBlock≠some f
 nd:v.ownBlock≠some d
theorem FH.lt{w:World}{B f d:Nat}{v:Value}{s:FX}(h:FH w B f d v s):f<w.heap.size/\d<w.heap.size:=⟨zaj h.bf,zaj h.bd⟩
theorem FH.kept{w w':World}{B f d:Nat}{v:Value}{s:FX}(h:FH w B f d v s){R:Nat->Prop}(k:Kp w w' R)(hR:∀x,Of f d v x->¬R x):FH w' B f d v s:=by
 obtain⟨l1,l2⟩:=h.lt;refine⟨h.hf,h.hd,h.fd,?_,?_,h.md1,zbI h.own k λx hx=>hR x (.inr (.inr hx)),h.nf,h.nd⟩
 ·rw[k.block f l1 (hR f (.inl rfl))];exact h.bf
 ·rw[k.block d l2 (hR d (.inr (.inl rfl)))];exact h.bd
theorem FH.old{w w':World}{B f d:Nat}{v:Value}{s:FX}(h:FH w B f d v s)(hb:Below w.heap.size w w'):FH w' B f d v s:=by
 refine h.kept (R:=λx=>w.heap.size<=x) ⟨hb.os,hb.tape,hb.output,hb.size,λk hk _=>hb.block k hk⟩ λx hx=>?_;obtain⟨l1,l2⟩:=h.lt;rcases hx with rfl|rfl|hx
 ·omega
 ·omega
 ·have:=(zeS h.own x hx).2;omega
theorem FH.setHd{w:World}{B f d:Nat}{v:Value}{s:FX}(h:FH w B f d v s)(p r:Int)(c o:Bool):FH (setb w f (CB [.int .i64 p,.int .i64 r,.bool c,.bool o,pt d 0] T.ao)) B f d v {s with pos:=p,rdc:=r,cl:=c,ro:=o}:=by obtain⟨l1,l2⟩:=h.lt;have k:=Kp.setb w f (CB [.int .i64 p,.int .i64 r,.bool c,.bool o,pt d 0] T.ao);refine⟨h.hf,h.hd,h.fd,zap _ _ _ _ rfl l1,?_,h.md1,zbI h.own k λx hx e=>h.nf (by rw[hx,e]),h.nf,h.nd⟩;rw[zao _ _ _ _ (Ne.symm h.fd)];exact h.bd
theorem FH.setPos{w:World}{B f d:Nat}{v:Value}{s:FX}(h:FH w B f d v s)(p:Int):FH (setb w f (CB [.int .i64 p,.int .i64 s.rdc,.bool s.cl,.bool s.ro,pt d 0] T.ao)) B f d v {s with pos:=p}:=h.setHd p s.rdc s.cl s.ro
def ziQ(s:FX)(off wh:Int):Int:=if wh=0 then off else if wh=1 then s.pos+off else if wh=2 then s.bytes.length+off else s.pos
theorem zrZ{w:World}{K:Value->World->Prop}{B f d:Nat}{v:Value}{s:FX}{off wh:Int}(h:FH w B f d v s)(hc:s.cl=false)(h1:-4611686018427387904<=off/\off<=4611686018427387903)(h2:-4611686018427387904<=s.pos/\s.pos<=4611686018427387903)(h3:s.bytes.length<=4611686018427387903)
  (hk:∀w',FH w' B f d v {s with pos:=ziQ s off wh}->Kp w w' (Of f d v)->K (tup [.int .i64 (ziQ s off wh),.nilIface]) w'):Cl P Fn.bM #[pt f 0,.int .i64 off,.int .i64 wh] w K:=by
 apply ziG;unfold zfQ;have hf:=h.bf;have hd:=h.bd;have hmd:=h.md1;obtain⟨l1,l2⟩:=h.lt;have hfd:=h.fd;obtain⟨a,cap,rfl⟩:=zan h.own;have fin:∀p:Int,ziQ s off wh=p->∀w',w'=setb w f (CB [.int .i64 p,.int .i64 s.rdc,.bool s.cl,.bool s.ro,pt d 0] T.ao)->K (tup [.int .i64 p,.nilIface]) w':=λp e w' e2=>by subst e;subst e2;have kp:=Kp.setb w f (CB [.int .i64 (ziQ s off wh),.int .i64 s.rdc,.bool s.cl,.bool s.ro,pt d 0] T.ao);exact hk _ (h.setPos _) ⟨kp.os,kp.tape,kp.output,kp.size,λk hk hn=>kp.block k hk λe3=>hn (.inl e3)⟩
 refine zaa (λt w'=>w'=w) ?_ ?_
 ·rintro t e w1 rfl;refine zaa (λt w'=>w'=setb w1 f (CB [.int .i64 (ziQ s off wh),.int .i64 s.rdc,.bool s.cl,.bool s.ro,pt d 0] T.ao)) ?_ ?_
  ·rintro t e w2 e2;have hf2:bk w2 f=some (CB [.int .i64 (ziQ s off wh),.int .i64 s.rdc,.bool s.cl,.bool s.ro,pt d 0] T.ao):=by rw[e2];exact zap _ _ _ _ rfl l1
   simp(disch:=first|omega|(simp(disch:=first|omega|fail)only[go_sem,hf2]<;>omega)|fail)only[go_sem,hf2];exact fin _ rfl _ e2
  ·by_cases c0:wh=0
   ·simp(disch:=first|omega|(simp(disch:=first|omega|fail)only[go_sem,c0,hf,decide_true]<;>omega)|fail)only[go_sem,c0,hf,decide_true];simp[ziQ]
   by_cases c1:wh=1
   ·simp(disch:=first|omega|(simp(disch:=first|omega|fail)only[go_sem,c0,c1,hf,decide_true,decide_false]<;>omega)|fail)only[go_sem,c0,c1,hf,decide_true,decide_false];simp[ziQ]
   by_cases c2:wh=2
   ·simp(disch:=first|omega|(simp(disch:=first|omega|fail)only[go_sem,c0,c1,c2,hf,hd,decide_true,decide_false]<;>omega)|fail)only[go_sem,c0,c1,c2,hf,hd,decide_true,decide_false];simp[ziQ]
   ·simp(disch:=first|omega|(simp(disch:=first|omega|fail)only[go_sem,c0,c1,c2,hf,decide_true,decide_false]<;>omega)|fail)only[go_sem,c0,c1,c2,hf,decide_true,decide_false];have e5:ziQ s off wh=s.pos:=by simp[ziQ,c0,c1,c2]
    rw[e5];exact(zeJ hf).symm
 ·simp(disch:=first|omega|(simp(disch:=first|omega|fail)only[go_sem,hf,hc]<;>omega)|fail)only[go_sem,hf,hc]
def rdX(s:FX)(n:Nat):List UInt8×Nat:=if 0<n/\s.pos=s.bytes.length then([],4)else if(s.bytes.length:Int)<s.pos then([],5)else((s.bytes.drop s.pos.toNat).take n,0)
set_option maxHeartbeats 4000000 in
theorem zr9{w:World}{K:Value->World->Prop}{B f d b n:Nat}{v:Value}{s:FX}{m:Nat->Nat×Nat}(h:FH w B f d v s)(hs:Sn w B m)(hc:s.cl=false)(h2:0<=s.pos/\s.pos<=4611686018427387903)(h3:s.bytes.length<=281474976710656)(hn:n<=281474976710656)
  (hb:bk w b=some (CB (List.replicate n (.int .u8 0)) T.aJ)) (hbf:b≠f) (hbd:b≠d) (hbv:v.ownBlock≠some b)
  (hk:∀w',FH w' B f d v {s with pos:=s.pos+(rdX s n).1.length}->Kp w w' (λk=>k=f\/k=b)->bk w' b=some (CB ((rdX s n).1.map byt++List.replicate (n - (rdX s n).1.length) (.int .u8 0)) T.aJ)->K (tup [.int .i64 (rdX s n).1.length,errV m (rdX s n).2]) w'):
  Cl P Fn.bU #[pt f 0,sl b 0 n n] w K:=by
 apply ziF;unfold zfM;have hf:=h.bf;have hd:=h.bd;have hmd:=h.md1;obtain⟨l1,l2⟩:=h.lt;have hfd:=h.fd;obtain⟨a,cap,rfl⟩:=zan h.own;obtain⟨q1,t1,e1⟩:=hs.at_ G.ao (by simp[sents]);obtain⟨q2,t2,e2⟩:=hs.at_ G.af (by simp[sents]);have fin0:∀k,rdX s n=([],k)->∀w',Kp w w' (λ_=>False)->K (tup [.int .i64 0,errV m k]) w':=λk e w' kp=>by
  have q:=hk w';rw[e]at q;refine q ?_ ⟨kp.os,kp.tape,kp.output,kp.size,λx hx _=>kp.block x hx id⟩ ?_
  ·have:=h.kept kp λ_ _ h=>h;simpa using this
  ·rw[kp.block b (zaj hb) id,hb];simp
 have kd:∀{x:World},Kp w x (λ_=>False)->Kp w x.drew (λ_=>False):=λh=>⟨h.os,h.tape,h.output,h.size,h.block⟩;refine zaa (λt w'=>t=[.nilIface]/\w'=w) ?_ ?_
 ·rintro t e w1 ⟨rfl,rfl⟩;refine zaa (λt w'=>t=[.nilIface]/\Kp w1 w' (λ_=>False)/\¬(0<n/\s.pos=s.bytes.length)) ?_ ?_
  ·rintro t e w2 ⟨rfl,k2,hn2⟩;have hf2:=(k2.block f l1 id).trans hf;have hd2:=(k2.block d l2 id).trans hd;by_cases c2:(s.bytes.length:Int)<s.pos
   ·refine zaa (λ_ _=>False) (λ_ _ _ h=>h.elim) ?_;have e3:bk w2 G.af=some (CB [er (m G.af)] t2):=by rw[k2.block _ (by have:=h.hf;omega) id,e2]
    simp(disch:=first|omega|(simp(disch:=first|omega|fail)only[go_sem,hf2,hd2,e3]<;>omega)|fail)only[go_sem,hf2,hd2,e3];exact fin0 5 (by rw[rdX,if_neg hn2,if_pos c2]) _ (kd (kd k2))
   ·refine zaa (λt w'=>t=[.nilIface]/\Kp w1 w' (λ_=>False)) ?_ ?_
    ·rintro t e w3 ⟨rfl,k3⟩;have hf3:=(k3.block f l1 id).trans hf;have hd3:=(k3.block d l2 id).trans hd;have hb3:=(k3.block b (zaj hb) id).trans hb;obtain⟨p,hp⟩:=Int.eq_ofNat_of_zero_le h2.1;have hpl:p<=s.bytes.length:=by omega
     have erd:rdX s n=((s.bytes.drop p).take n,0):=by rw[rdX,if_neg hn2,if_neg c2,hp];rfl
     have erl:(rdX s n).1.length=min n (s.bytes.length - p):=by rw[erd];simp
     refine zaa (λt w'=>t=[.int .i64 (rdX s n).1.length]/\Kp w1 w' (λ_=>False)) ?_ ?_
     ·rintro t e w4 ⟨rfl,k4⟩;have hf4:=(k4.block f l1 id).trans hf;have hd4:=(k4.block d l2 id).trans hd;have hb4:=(k4.block b (zaj hb) id).trans hb;have lb4:b<w4.heap.size:=zaj hb4;have lf4:f<w4.heap.size:=zaj hf4;have ed:(rdX s n).1=(s.bytes.drop p).take n:=congrArg Prod.fst erd;have ek:(rdX s n).2=0:=congrArg Prod.snd erd;have h4:FH w4.drew B f d (.slice a s.bytes.length cap) s:=h.kept (kd k4) λ_ _ h=>h;generalize hM:(rdX s n).1.length=M at*;rw[ek]at hk;have hMl:p+M<=s.bytes.length:=by omega
      have hMn:M<=n:=by omega
      have fin:∀w5,w5=setb w4.drew b (CB ((rdX s n).1.map byt++List.replicate (n - M) (.int .u8 0)) T.aJ)->∀w6,w6=setb w5 f (CB [.int .i64 (s.pos+M),.int .i64 s.rdc,.bool s.cl,.bool s.ro,pt d 0] T.ao)->K (tup [.int .i64 M,.nilIface]) w6:=by
       rintro w5 rfl w6 rfl;have k5:=Kp.setb w4.drew b (CB ((rdX s n).1.map byt++List.replicate (n - M) (.int .u8 0)) T.aJ);have h5:=h4.kept k5 λx hx e=>by
        subst e;rcases hx with e|e|e
        ·exact hbf e
        ·exact hbd e
        ·exact hbv e
       have h6:=h5.setPos (s.pos+M);refine hk _ h6 ?_ ?_
       ·have k6:=Kp.setb (setb w4.drew b (CB ((rdX s n).1.map byt++List.replicate (n - M) (.int .u8 0)) T.aJ)) f (CB [.int .i64 (s.pos+M),.int .i64 s.rdc,.bool s.cl,.bool s.ro,pt d 0] T.ao);have q1:=(kd k4).trans (k5) (S:=λ_=>False) (T:=λx=>x=b);refine⟨k6.os.trans (k5.os.trans k4.os),k6.tape.trans (k5.tape.trans k4.tape),k6.output.trans (k5.output.trans k4.output),?_,?_⟩
        ·simp only[go_sem];exact k4.size
        ·intro x hx hn3;have n1:x≠f:=λe=>hn3 (.inl e);have n2:x≠b:=λe=>hn3 (.inr e);rw[zao _ _ _ _ n1,zao _ _ _ _ n2];exact k4.block x hx id
       ·rw[zao _ _ _ _ hbf];exact zap _ _ _ _ rfl (show b<w4.drew.heap.size from lb4)
      by_cases hz:s.bytes.length=0
      ·have hp0:p=0:=by omega
       have hM0:M=0:=by omega
       subst hp0 hM0;have ei:((0:Nat):Int)=0:=rfl;have sx:∀(L:Value->Prop),pu P (zaE T.ah (.slice a s.bytes.length cap) (some (.int .i64 0)) (some (.int .i64 0)) none) L=L (.slice a 0 cap):=λL=>zlI (size:=1) U.ab (by kernel_rfl);have cp:∀(w:World)(L:Value->World->Prop),st P (zac .copy #[T.ah,T.ah] T.int #[false,false] #[sl b 0 n n,.slice a 0 cap]) w L=L (.int .i64 0) w:=λw L=>oCopy0 U.ab (by kernel_rfl);have er0:(rdX s n).1=[]:=List.length_eq_zero_iff.1 hM;have f5:=fin w4.drew (by rw[er0];simp only[List.map_nil,List.nil_append,Nat.sub_zero];exact(zeJ (w:=w4.drew) hb4).symm) _ rfl
       rw[hp]at f5;simp(disch:=first|omega|(simp(disch:=first|omega|fail)only[go_sem,hf4,hd4,hp,ei,Int.add_zero,sx,cp]<;>omega)|fail)only[go_sem,hf4,hd4,hp,ei,Int.add_zero,sx,cp];simpa using f5
      ·obtain⟨b',cap',cur,ev,r1,r2,r3,r4,r5,r6⟩:=zcV h4.own hz;injection ev with ev1 ev2 ev3;subst ev1 ev3;obtain⟨o',eo,hro⟩:=part_at (w:=w4.drew) (b:=b') (cap:=cap) r4 (by omega) (by simpa using r6) r1 p M hMl;have sx:∀(L:Value->Prop),pu P (zaE T.ah (sl b' 0 s.bytes.length cap) (some (.int .i64 p)) (some (.int .i64 ((p:Int)+M))) none) L=L (sl b' o' M (cap - p)):=λL=>by rw[zlQ (size:=1) L U.ab (by kernel_rfl) (by omega) (by omega) (by omega)];rw[show(p:Int).toNat=p by omega,show((p:Int)+M).toNat - p=M by omega,eo]
       have hpre:(rdX s n).1=(s.bytes.drop p).take M:=by have q:=List.prefix_iff_eq_take.1 (List.take_prefix n (s.bytes.drop p));rw[<-ed,hM]at q;exact q
       have hl:((s.bytes.drop p).take M).length=M:=by rw[<-hpre,hM]
       have cp:∀(L:Value->World->Prop),st P (zac .copy #[T.ah,T.ah] T.int #[false,false] #[sl b 0 n n,sl b' o' M (cap - p)]) w4.drew L=L (.int .i64 M) (setb w4.drew b (CB ((rdX s n).1.map byt++List.replicate (n - M) (.int .u8 0)) T.aJ)):=λL=>by rw[oCopy L w4.drew (tE:=T.aJ) (l0:=List.replicate n (.int .u8 0)) (t:=T.aJ) (l:=(s.bytes.drop p).take M) U.ab (by kernel_rfl) hb4 hl.symm (by omega) (by simp only[List.length_replicate];omega) hro];rw[hl,<-hpre];simp
       have f5:=fin _ rfl _ rfl;rw[hp]at f5;have hf5:bk (setb w4.drew b (CB ((rdX s n).1.map byt++List.replicate (n - M) (.int .u8 0)) T.aJ)) f=some (CB [.int .i64 s.pos,.int .i64 s.rdc,.bool s.cl,.bool s.ro,pt d 0] T.ao):=by rw[zao _ _ _ _ (Ne.symm hbf)];exact hf4
       simp(disch:=first|omega|(simp(disch:=first|omega|fail)only[go_sem,hf4,hd4,hp,sx,cp,hf5]<;>omega)|fail)only[go_sem,hf4,hd4,hp,sx,cp,hf5];exact f5
     ·rw[erl];by_cases c3:(n:Int)<=(s.bytes.length:Int) - p
      ·simp(disch:=first|omega|(simp(disch:=first|omega|fail)only[go_sem,hf3,hd3,hp]<;>omega)|fail)only[go_sem,hf3,hd3,hp];exact⟨by rw[Nat.min_eq_left (by omega)],kd k3⟩
      ·simp(disch:=first|omega|(simp(disch:=first|omega|fail)only[go_sem,hf3,hd3,hp]<;>omega)|fail)only[go_sem,hf3,hd3,hp];refine⟨?_,kd (kd k3)⟩;have e9:((s.bytes.length:Int) - p)=(min n (s.bytes.length - p):Nat):=by omega
       rw[e9]
    ·simp(disch:=first|omega|(simp(disch:=first|omega|fail)only[go_sem,hf2,hd2]<;>omega)|fail)only[go_sem,hf2,hd2];exact⟨trivial,kd k2⟩
  ·by_cases c1:0<n/\s.pos=s.bytes.length
   ·have g1:(0:Int)<n:=by omega
    have g2:s.pos=(s.bytes.length:Int):=c1.2;simp(disch:=first|omega|(simp(disch:=first|omega|fail)only[go_sem,hf,hd,e1]<;>omega)|fail)only[go_sem,hf,hd,e1];exact fin0 4 (by rw[rdX,if_pos c1]) _ (kd (kd (Kp.refl _ _)))
   ·by_cases g1:(0:Int)<n
    ·have g2:¬s.pos=(s.bytes.length:Int):=λe=>c1 ⟨by omega,e⟩;simp(disch:=first|omega|(simp(disch:=first|omega|fail)only[go_sem,hf,hd]<;>omega)|fail)only[go_sem,hf,hd];exact⟨trivial,kd (Kp.refl _ _),c1⟩
    ·simp(disch:=first|omega|(simp(disch:=first|omega|fail)only[go_sem,hf,hd]<;>omega)|fail)only[go_sem,hf,hd];exact⟨trivial,kd (Kp.refl _ _),c1⟩
 ·simp(disch:=first|omega|(simp(disch:=first|omega|fail)only[go_sem,hf,hc]<;>omega)|fail)only[go_sem,hf,hc];exact⟨trivial,trivial⟩
theorem zrY{w:World}{K:Value->World->Prop}{B f d b n:Nat}{v:Value}{s:FX}{m:Nat->Nat×Nat}{off:Int}(h:FH w B f d v s)(hs:Sn w B m)(hc:s.cl=false)(h2:0<=off/\off<=4611686018427387903)(h3:s.bytes.length<=281474976710656)(hn:n<=281474976710656)
  (hb:bk w b=some (CB (List.replicate n (.int .u8 0)) T.aJ)) (hbf:b≠f) (hbd:b≠d) (hbv:v.ownBlock≠some b)
  (hk:∀w',FH w' B f d v s->Kp w w' (λk=>k=f\/k=b)->bk w' b=some (CB ((rdX {s with pos:=off} n).1.map byt++List.replicate (n - (rdX {s with pos:=off} n).1.length) (.int .u8 0)) T.aJ)->K (tup [.int .i64 (rdX {s with pos:=off} n).1.length,errV m (rdX {s with pos:=off} n).2]) w'):
  Cl P Fn.bV #[pt f 0,sl b 0 n n,.int .i64 off] w K:=by
 apply zg7;unfold zeB;have hf:=h.bf;obtain⟨l1,l2⟩:=h.lt;simp(disch:=first|omega|(simp(disch:=first|omega|fail)only[go_sem,hf]<;>omega)|fail)only[go_sem,hf];have h5:=h.setPos off;have k5:=Kp.setb w f (CB [.int .i64 off,.int .i64 s.rdc,.bool s.cl,.bool s.ro,pt d 0] T.ao);refine zr9 (m:=m) h5 (hs.below (k5.below (λx hx e=>by have:=h.hf;omega) (by have:=h.hf;omega))) hc h2 h3 hn (by rw[zao _ _ _ _ hbf];exact hb) hbf hbd hbv λw2 F2 K2 kb=>?_;have hf2:=F2.bf;have l3:=zaj hf2;simp(disch:=first|omega|(simp(disch:=first|omega|fail)only[go_sem,hf2]<;>omega)|fail)only[go_sem,hf2];have F3:=F2.setPos s.pos;refine hk _ F3 ?_ ?_
 ·have k6:=Kp.setb w2 f (CB [.int .i64 s.pos,.int .i64 s.rdc,.bool s.cl,.bool s.ro,pt d 0] T.ao);have k5':Kp w (setb w f (CB [.int .i64 off,.int .i64 s.rdc,.bool s.cl,.bool s.ro,pt d 0] T.ao)) (λk=>k=f\/k=b):=⟨k5.os,k5.tape,k5.output,k5.size,λk hk hn=>k5.block k hk λe=>hn (.inl e)⟩;exact(k5'.trans K2 λ_ _ h=>h).trans k6 λx hx e=>.inl e
 ·rw[zao _ _ _ _ hbf];exact kb
def wrX(s:FX)(l:List UInt8):List UInt8:=if(s.bytes.length:Int)<s.pos then s.bytes++(List.replicate (s.pos.toNat - s.bytes.length) 0++l)else s.bytes.take s.pos.toNat++l++s.bytes.drop (s.pos.toNat+l.length)
theorem FH.setData{w:World}{B f d:Nat}{v v':Value}{s s':FX}(h:FH w B f d v s)(e:s'.pos=s.pos/\s'.rdc=s.rdc/\s'.cl=s.cl/\s'.ro=s.ro)(o:w.ownsRow B T.aJ 1 v' s'.bytes.length (s'.bytes.map byt))(n1:v'.ownBlock≠some f)(n2:v'.ownBlock≠some d)(hmd:s'.md.oneCell'=true):
  FH (setb w d (CB [S s'.nm,v',s'.md,.bool s'.dir,.int .u32 s'.mode,.int .i64 s'.mt,.int .i64 s'.uid,.int .i64 s'.gid] T.ak)) B f d v' s':=by
 obtain⟨l1,l2⟩:=h.lt;have k:=Kp.setb w d (CB [S s'.nm,v',s'.md,.bool s'.dir,.int .u32 s'.mode,.int .i64 s'.mt,.int .i64 s'.uid,.int .i64 s'.gid] T.ak);refine⟨h.hf,h.hd,h.fd,?_,zap _ _ _ _ rfl l2,hmd,zbI o k λx hx e=>n2 (by rw[hx,e]),n1,n2⟩;rw[zao _ _ _ _ h.fd,e.1,e.2.1,e.2.2.1,e.2.2.2];exact h.bf
set_option maxHeartbeats 8000000 in
theorem ztj{w:World}{K:Value->World->Prop}{B f d:Nat}{v x:Value}{s:FX}{l:List UInt8}(h:FH w B f d v s)(hc:s.cl=false)(hro:s.ro=false)(hx:BS w x l)(hxf:x.ownBlock≠some f)(hxd:x.ownBlock≠some d)(h0:0<=s.pos)(h1:s.pos+l.length<=140737488355328)(h2:s.bytes.length<=140737488355328)
  (hk:∀w' v',FH w' B f d v' {s with bytes:=wrX s l,pos:=s.pos+l.length,mt:=0}->Kp w w' (Of f d v)->(v'.ownBlock=v.ownBlock\/∀k,v'.ownBlock=some k->w.heap.size<=k)->K (tup [.int .i64 l.length,.nilIface]) w'):Cl P Fn.bC #[pt f 0,x] w K:=by
 apply ze6;unfold zda;have hf:=h.bf;have hd:=h.bd;have hmd:=h.md1;obtain⟨l1,l2⟩:=h.lt;have hfd:=h.fd;have hBf:=h.hf;have hBd:=h.hd;have hnf:=h.nf;have hnd:=h.nd;have hown:=h.own;have hlt:=zeS h.own;obtain⟨a,cap,ev,hcap⟩:=zlE h.own;obtain⟨xa,xc,ex⟩:=zay hx;obtain⟨p,hp⟩:=Int.eq_ofNat_of_zero_le h0;refine zaa (λt w'=>t=[.nilIface]/\w'=w) ?_ ?_
 ·rintro t e w1 ⟨rfl,rfl⟩;refine zaa (λt w'=>t=[.nilIface]/\w'=w1) ?_ ?_
  ·rintro t e w2 ⟨rfl,rfl⟩;subst ex ev;simp(disch:=first|omega|(simp(disch:=first|omega|fail)only[go_sem,hf,hd]<;>omega)|fail)only[go_sem,hf,hd];refine zaa (λt w'=>w'=w2/\((¬p+l.length<s.bytes.length/\t=[.slice none 0 0])\/(p+l.length<s.bytes.length/\∃g,a=some ⟨g,0,none⟩/\t=[sl g (p+l.length) (s.bytes.length - (p+l.length)) (cap - (p+l.length))]))) ?_ ?_
   ·rintro t e w3 ⟨rfl,ht⟩;refine zaa (λt w'=>∃v',FH w' B f d v' {s with bytes:=wrX s l}/\Kp w3 w' (Of f d (.slice a s.bytes.length cap))/\(v'.ownBlock=(Value.slice a s.bytes.length cap).ownBlock\/∀k,v'.ownBlock=some k->w3.heap.size<=k)) ?_ ?_
    ·rintro t e w4 ⟨v4,F4,K4,a4⟩;have hf4:=F4.bf;have hd4:=F4.bd;obtain⟨l14,l24⟩:=F4.lt;simp(disch:=first|omega|(simp(disch:=first|omega|fail)only[go_sem,hf4]<;>omega)|fail)only[go_sem,hf4];apply zdb;unfold zcm;simp(disch:=first|omega|(simp(disch:=first|omega|fail)only[go_sem,hd4,hf4]<;>omega)|fail)only[go_sem,hd4,hf4];have F5:=F4.setData (s':={s with bytes:=wrX s l,mt:=0}) ⟨rfl,rfl,rfl,rfl⟩ F4.own F4.nf F4.nd hmd;have K5:=K4.trans (Kp.setb w4 d (CB [S s.nm,v4,s.md,.bool s.dir,.int .u32 s.mode,.int .i64 0,.int .i64 s.uid,.int .i64 s.gid] T.ak)) λy _ e=>.inr (.inl e);refine hk _ _ (F5.setPos (s.pos+l.length)) (K5.trans (Kp.setb _ f _) λy _ e=>.inl e) a4
    ·have fin:∀w5 v5,bk w5 f=some (CB [.int .i64 s.pos,.int .i64 s.rdc,.bool s.cl,.bool s.ro,pt d 0] T.ao)->w5.ownsRow B T.aJ 1 v5 (wrX s l).length ((wrX s l).map byt)->v5.ownBlock≠some f->v5.ownBlock≠some d->Kp w3 w5 (Of f d (.slice a s.bytes.length cap))->(v5.ownBlock=(Value.slice a s.bytes.length cap).ownBlock\/∀k,v5.ownBlock=some k->w3.heap.size<=k)->∀w6,w6=setb w5 d (CB [S s.nm,v5,s.md,.bool s.dir,.int .u32 s.mode,.int .i64 s.mt,.int .i64 s.uid,.int .i64 s.gid] T.ak)->
       ∃v',FH w6 B f d v' {s with bytes:=wrX s l}/\Kp w3 w6 (Of f d (.slice a s.bytes.length cap))/\(v'.ownBlock=(Value.slice a s.bytes.length cap).ownBlock\/∀k,v'.ownBlock=some k->w3.heap.size<=k):=by
      rintro w5 v5 f5 o5 n1 n2 K5 a5 w6 rfl;have k:=Kp.setb w5 d (CB [S s.nm,v5,s.md,.bool s.dir,.int .u32 s.mode,.int .i64 s.mt,.int .i64 s.uid,.int .i64 s.gid] T.ak);have z5:=K5.size;refine⟨v5,⟨hBf,hBd,hfd,?_,zap _ _ _ _ rfl (by omega),hmd,zbI o5 k λy hy e=>n2 (by rw[hy,e]),n1,n2⟩,K5.trans k λy _ e=>.inr (.inl e),a5⟩;rw[zao _ _ _ _ hfd];exact f5
     have fin2:∀w6 v6,bk w6 f=some (CB [.int .i64 s.pos,.int .i64 s.rdc,.bool s.cl,.bool s.ro,pt d 0] T.ao)->w6.ownsRow B T.aJ 1 v6 (wrX s l).length ((wrX s l).map byt)->v6.ownBlock≠some f->v6.ownBlock≠some d->Kp w3 w6 (Of f d (.slice a s.bytes.length cap))->(v6.ownBlock=(Value.slice a s.bytes.length cap).ownBlock\/∀k,v6.ownBlock=some k->w3.heap.size<=k)->
       st P (zac .append #[T.ah,T.ah] T.ah #[false,false] #[v6,.slice none 0 0]) (setb w6 d (CB [S s.nm,v6,s.md,.bool s.dir,.int .u32 s.mode,.int .i64 s.mt,.int .i64 s.uid,.int .i64 s.gid] T.ak)).drew λt100 w16=>hold P (zab T.af (.pointer (some ⟨f,4,none⟩))) (pt d 0) w16/\st P (zai T.ah (.pointer (some ⟨d,1,none⟩)) t100) w16 λ_ w17=>∃v',FH w17 B f d v' {s with bytes:=wrX s l}/\Kp w3 w17 (Of f d (.slice a s.bytes.length cap))/\(v'.ownBlock=(Value.slice a s.bytes.length cap).ownBlock\/∀k,v'.ownBlock=some k->w3.heap.size<=k):=by
      intro w6 v6 hf6 o6 n61 n62 K6 a6;have z6:=K6.size;have o7:=zbI o6 ((Kp.setb w6 d (CB [S s.nm,v6,s.md,.bool s.dir,.int .u32 s.mode,.int .i64 s.mt,.int .i64 s.uid,.int .i64 s.gid] T.ak)).trans (Kp.drew _ (λk=>k=d)) λ_ _ h=>h) λk hk e=>n62 (by rw[hk,e]);have one6:v6.oneCell'=true:=by obtain⟨_,_,rfl⟩:=zan o6;rfl
      rw[app_nil o7];simp(disch:=first|omega|(simp(disch:=first|omega|fail)only[go_sem,hf6,one6]<;>omega)|fail)only[go_sem,hf6,one6];refine⟨trivial,?_⟩;rw[zeJ (w:=(setb w6 d (CB [S s.nm,v6,s.md,.bool s.dir,.int .u32 s.mode,.int .i64 s.mt,.int .i64 s.uid,.int .i64 s.gid] T.ak)).drew) (by show bk (setb w6 d _) d=_;exact zap _ _ _ _ rfl (by omega))];exact fin w6.drew v6 hf6 o6 n61 n62 (K6.trans (Kp.drew _ (λ_=>False)) λ_ _ h=>h.elim) a6 _ rfl
     rcases ht with⟨g1,rfl⟩|⟨g1,g,rfl,rfl⟩
     ·by_cases g2:s.bytes.length<p
      ·have ed:s.pos - (s.bytes.length:Int)=((p - s.bytes.length:Nat):Int):=by omega
       generalize hm:p - s.bytes.length=m at*;simp(disch:=first|omega|(simp(disch:=first|omega|fail)only[go_sem,ed]<;>omega)|fail)only[go_sem,ed];simp(disch:=first|omega|(simp(disch:=first|omega|fail)only[go_sem,hf,hd]<;>omega)|fail)only[go_sem,hf,hd];rw[oMkB U.ab (by kernel_rfl) m (by omega)];have oz:(w3.drew.alloc (CB (List.replicate m (.int .u8 0)) T.aJ)).ownsRow w3.heap.size T.aJ 1 (sl w3.heap.size 0 m m) m ((List.replicate m (0:UInt8)).map byt):=⟨by simp,.inr ⟨w3.heap.size,m,(List.replicate m (.int .u8 0)).toArray,rfl,Nat.le_refl _,heap_alloc_new w3.drew _,Nat.le_refl _,by simp only[maxLen];omega,by simp,by rw[zoD];simp⟩⟩;have B4:Below w3.heap.size w3 (w3.drew.alloc (CB (List.replicate m (.int .u8 0)) T.aJ)):=by repeat (first|exact Below.refl _ _|assumption|refine zag ?_ (by first|omega|(simp only[go_sem]<;>omega)) _|refine Below.alloc ?_ (by first|omega|(simp only[go_sem]<;>omega)) _|refine Below.drew ?_)
       have z4:(w3.drew.alloc (CB (List.replicate m (.int .u8 0)) T.aJ)).heap.size=w3.heap.size+1:=by simp only[go_sem]
       rw[show sl w3.drew.heap.size 0 m m=sl w3.heap.size 0 m m from rfl];generalize w3.drew.alloc (CB (List.replicate m (.int .u8 0)) T.aJ)=w4 at*;have hf4:=(zax B4 l1).trans hf;have hd4:=(zax B4 l2).trans hd;simp(disch:=first|omega|(simp(disch:=first|omega|fail)only[go_sem,hf4,hd4]<;>omega)|fail)only[go_sem,hf4,hd4];refine⟨trivial,trivial,trivial,?_⟩;refine zii U.ab (by kernel_rfl) oz (zcs hx B4 (Nat.le_refl _)) (by omega) (by omega) λy w5 o5 g5 a5=>?_;have K5:=Kp.of_grown g5;have z5:=K5.size;have n5:∀k,k<w3.heap.size->¬((sl w3.heap.size 0 m m).ownBlock=some k):=λk hk e=>by have e2:w3.heap.size=k:=Option.some.inj e;omega
       have hf5:=(K5.block f (by omega) (n5 f l1)).trans hf4;have hd5:=(K5.block d (by omega) (n5 d l2)).trans hd4;have own5:=zbI (zbf hown B4 (Nat.le_refl _)) K5 λk hk=>n5 k (hlt k hk).2;have y5:∀k,y.ownBlock=some k->w3.heap.size<=k:=λk hk=>(zeS o5 k hk).1;rw[<-List.map_append]at o5;have el:(List.replicate m (0:UInt8)++l).length=m+l.length:=by simp
       rw[<-el]at o5;have by5:=zlJ o5;have B5:Below w3.heap.size w3 w5:=B4.trans (K5.below (λk hk=>n5 k hk) (by omega));obtain⟨ya,yc,ey⟩:=zan o5;simp(disch:=first|omega|(simp(disch:=first|omega|fail)only[go_sem,hf5,hd5]<;>omega)|fail)only[go_sem,hf5,hd5];refine⟨trivial,trivial,trivial,?_⟩;refine zii U.ab (by kernel_rfl) own5 by5 (by omega) (by omega) λv6 w6 o6 g6 a6=>?_;have K6:=Kp.of_grown g6;have z6:=K6.size;have hf6:=(K6.block f (by omega) hnf).trans hf5;have hd6:=(K6.block d (by omega) hnd).trans hd5;have ew:wrX s l=s.bytes++(List.replicate m (0:UInt8)++l):=by unfold wrX;rw[if_pos (by omega)];congr 3;omega
       rw[<-List.map_append,<-ew]at o6;rw[show s.bytes.length+(List.replicate m (0:UInt8)++l).length=(wrX s l).length by rw[ew,List.length_append,List.length_append,List.length_append]]at o6;have n61:v6.ownBlock≠some f:=λe=>by
        rcases a6 with h|h
        ·exact hnf (by rw[<-h];exact e)
        ·rw[h]at e;have:=Option.some.inj e;omega
       have n62:v6.ownBlock≠some d:=λe=>by
        rcases a6 with h|h
        ·exact hnd (by rw[<-h];exact e)
        ·rw[h]at e;have:=Option.some.inj e;omega
       have a6':v6.ownBlock=(Value.slice a s.bytes.length cap).ownBlock\/∀k,v6.ownBlock=some k->w3.heap.size<=k:=by
        rcases a6 with h|h
        ·exact .inl h
        ·exact .inr λk hk=>by rw[h]at hk;have:=Option.some.inj hk;omega
       have K6':Kp w3 w6 (Of f d (.slice a s.bytes.length cap)):=(Kp.of_below B5 _).trans K6 λy _ e=>.inr (.inr e);have one6:v6.oneCell'=true:=by obtain⟨_,_,rfl⟩:=zan o6;rfl
       simp(disch:=first|omega|(simp(disch:=first|omega|fail)only[go_sem,hf6,hd6,one6]<;>omega)|fail)only[go_sem,hf6,hd6,one6];refine⟨trivial,?_⟩;exact fin2 w6 v6 hf6 o6 n61 n62 K6' a6'
      ·simp(disch:=first|omega|(simp(disch:=first|omega|fail)only[go_sem,hp]<;>omega)|fail)only[go_sem,hp];simp(disch:=first|omega|(simp(disch:=first|omega|fail)only[go_sem,hp,hf,hd]<;>omega)|fail)only[go_sem,hp,hf,hd];obtain⟨v4,o4,e4,sl4,_⟩:=ztQ U.ab (by kernel_rfl) hown (p:=p) (by omega);simp(disch:=first|omega|(simp(disch:=first|omega|fail)only[go_sem,hp,hf,hd,sl4]<;>omega)|fail)only[go_sem,hp,hf,hd,sl4];refine zii (w:=w3.drew) U.ab (by kernel_rfl) (zbI o4 (Kp.drew _ (λ_=>False)) λ_ _ h=>h) (show BS w3.drew _ l from hx) (by omega) (by show B<=w3.heap.size;omega) λv6 w6 o6 g6 a6=>?_;have K6:=Kp.of_grown g6;have z6:w3.heap.size<=w6.heap.size:=K6.size;rw[e4]at K6 a6;have hf6:=(K6.block f l1 hnf).trans hf;have hd6:=(K6.block d l2 hnd).trans hd;have ew:wrX s l=s.bytes.take p++l:=by unfold wrX;rw[if_neg (by omega),hp];simp only[Int.toNat_natCast];rw[List.drop_of_length_le (by omega),List.append_nil]
       rw[<-List.map_take,<-List.map_append,<-ew]at o6;rw[show p+l.length=(wrX s l).length by rw[ew,List.length_append,List.length_take];omega]at o6;have n61:v6.ownBlock≠some f:=λe=>by
        rcases a6 with h|h
        ·exact hnf (by rw[<-h];exact e)
        ·rw[h]at e;have e2:w3.heap.size=f:=Option.some.inj e;omega
       have n62:v6.ownBlock≠some d:=λe=>by
        rcases a6 with h|h
        ·exact hnd (by rw[<-h];exact e)
        ·rw[h]at e;have e2:w3.heap.size=d:=Option.some.inj e;omega
       have a6':v6.ownBlock=(Value.slice a s.bytes.length cap).ownBlock\/∀k,v6.ownBlock=some k->w3.heap.size<=k:=by
        rcases a6 with h|h
        ·exact .inl h
        ·refine .inr λk hk=>?_;rw[h]at hk;have e2:w3.heap.size=k:=Option.some.inj hk;omega
       have K6':Kp w3 w6 (Of f d (.slice a s.bytes.length cap)):=((Kp.drew w3 _).trans K6 (S:=Of f d (.slice a s.bytes.length cap)) (T:=λk=>(Value.slice a s.bytes.length cap).ownBlock=some k) λy _ e=>.inr (.inr e));have one6:v6.oneCell'=true:=by obtain⟨_,_,rfl⟩:=zan o6;rfl
       rw[hp]at hf6;simp(disch:=first|omega|(simp(disch:=first|omega|fail)only[go_sem,hf6,hd6,one6]<;>omega)|fail)only[go_sem,hf6,hd6,one6];refine⟨trivial,?_⟩;have q:=fin2 w6 v6 (by rw[hp];exact hf6) o6 n61 n62 K6' a6';rw[hp]at q;exact q
     ·obtain⟨b',cap',cur,ev,r1,r2,r3,r4,r5,r6⟩:=zcV hown (by omega);injection ev with ev1 ev2 ev3;injection ev1 with ev1;injection ev1 with ev1;subst ev1 ev3;rw[Nat.mul_one]at r5 r6;have gp:¬((s.bytes.length:Int)<p):=by omega
      simp(disch:=first|omega|(simp(disch:=first|omega|fail)only[go_sem,hp,hf,hd]<;>omega)|fail)only[go_sem,hp,hf,hd];have sl4:∀(M:Value->Prop),pu P (zaE T.ah (sl g 0 s.bytes.length cap) none (some (.int .i64 p)) none) M=M (sl g 0 p cap):=λM=>by rw[zeK (size:=1) M U.ab (by kernel_rfl) (by omega) (by omega),Int.toNat_natCast]
      simp(disch:=first|omega|(simp(disch:=first|omega|fail)only[go_sem,hp,hf,hd,sl4]<;>omega)|fail)only[go_sem,hp,hf,hd,sl4];rw[zkU (P:=P) (w:=w3.drew) U.ab (by kernel_rfl) (zt1 U.ab (show BS w3.drew _ l from hx)) (show bk w3.drew g=_ from r4) (by omega) (by omega)];obtain⟨cur',ecur'⟩:∃cur':List Value,cur'=cur.take (0+p)++l.map byt++cur.drop (0+p+l.length):=⟨_,rfl⟩;rw[<-ecur'];rw[Nat.zero_add]at ecur';obtain⟨q1,q2,q3,q4⟩:=zrR r5 r6 g1 r1 ecur';have gf:g≠f:=λe=>hnf (by rw[e];rfl);have gd:g≠d:=λe=>hnd (by rw[e];rfl);have lg:g<w3.heap.size:=r3;obtain⟨wg,ewg⟩:∃wg:World,wg=setb w3.drew g (CB cur' T.aJ):=⟨_,rfl⟩;have Kg:Kp w3 wg (Of f d (sl g 0 s.bytes.length cap)):=by rw[ewg];exact(Kp.drew w3 _).trans (Kp.setb w3.drew g (CB cur' T.aJ)) λy _ e=>.inr (.inr (by rw[e];rfl))
      have zg:wg.heap.size=w3.heap.size:=by rw[ewg];simp only[go_sem]
      have hfg:bk wg f=some (CB [.int .i64 p,.int .i64 s.rdc,.bool s.cl,.bool s.ro,pt d 0] T.ao):=by rw[ewg,zao _ _ _ _ (Ne.symm gf),<-hp];exact hf
      have hdg:bk wg d=some (CB [S s.nm,sl g 0 s.bytes.length cap,s.md,.bool s.dir,.int .u32 s.mode,.int .i64 s.mt,.int .i64 s.uid,.int .i64 s.gid] T.ak):=by rw[ewg,zao _ _ _ _ (Ne.symm gd)];exact hd
      have hgg:bk wg g=some (CB cur' T.aJ):=by rw[ewg];exact zap _ _ _ _ rfl lg
      rw[<-ewg];clear ewg;simp(disch:=first|omega|(simp(disch:=first|omega|fail)only[go_sem,hfg,hdg]<;>omega)|fail)only[go_sem,hfg,hdg];refine⟨trivial,?_⟩;obtain⟨wh,ewh⟩:∃wh:World,wh=(setb wg d (CB [S s.nm,sl g 0 (p+l.length) cap,s.md,.bool s.dir,.int .u32 s.mode,.int .i64 s.mt,.int .i64 s.uid,.int .i64 s.gid] T.ak)).drew:=⟨_,rfl⟩;have Kh:Kp w3 wh (Of f d (sl g 0 s.bytes.length cap)):=by rw[ewh];exact(Kg.trans (Kp.setb wg d _) λy _ e=>.inr (.inl e)).trans (Kp.drew _ _) λ_ _ h=>h
      have zh:wh.heap.size=w3.heap.size:=by rw[ewh];simp only[go_sem,zg]
      have hfh:bk wh f=some (CB [.int .i64 p,.int .i64 s.rdc,.bool s.cl,.bool s.ro,pt d 0] T.ao):=by rw[ewh];show bk (setb wg d _) f=_;rw[zao _ _ _ _ hfd];exact hfg
      have hdh:bk wh d=some (CB [S s.nm,sl g 0 (p+l.length) cap,s.md,.bool s.dir,.int .u32 s.mode,.int .i64 s.mt,.int .i64 s.uid,.int .i64 s.gid] T.ak):=by rw[ewh];show bk (setb wg d _) d=_;exact zap _ _ _ _ rfl (by omega)
      have hgh:bk wh g=some (CB cur' T.aJ):=by rw[ewh];show bk (setb wg d _) g=_;rw[zao _ _ _ _ gd];exact hgg
      rw[<-ewh];clear ewh;have enl:((s.bytes.drop (p+l.length)).map byt).length=s.bytes.length - (p+l.length):=by simp
      have srcT:Src P 1 T.ah (sl g (p+l.length) (s.bytes.length - (p+l.length)) (cap - (p+l.length))) (s.bytes.length - (p+l.length)) ((s.bytes.drop (p+l.length)).map byt) wh:=by
       refine zrv U.ab ?_ enl.symm λu hu=>by obtain⟨y,_,rfl⟩:=List.mem_map.1 hu;rfl
       rw[hgh,enl];simp only[zaY];rw[if_pos (by simp only[List.size_toArray];omega)];exact congrArg some q4
      rw[zkU (P:=P) (w:=wh) U.ab (by kernel_rfl) srcT hgh (by omega) (by omega)];have lhg:g<wh.heap.size:=by omega
      obtain⟨wi,ewi⟩:∃wi:World,wi=setb wh g (CB (cur'.take (0+(p+l.length))++(s.bytes.drop (p+l.length)).map byt++cur'.drop (0+(p+l.length)+(s.bytes.length - (p+l.length)))) T.aJ):=⟨_,rfl⟩;have en:p+l.length+(s.bytes.length - (p+l.length))=s.bytes.length:=by omega
      rw[<-ewi];rw[Nat.zero_add,en]at ewi;have Ki:Kp w3 wi (Of f d (sl g 0 s.bytes.length cap)):=by rw[ewi];exact Kh.trans (Kp.setb wh g _) λy _ e=>.inr (.inr (by rw[e];rfl))
      have hfi:bk wi f=some (CB [.int .i64 p,.int .i64 s.rdc,.bool s.cl,.bool s.ro,pt d 0] T.ao):=by rw[ewi,zao _ _ _ _ (Ne.symm gf)];exact hfh
      have hdi:bk wi d=some (CB [S s.nm,sl g 0 (p+l.length) cap,s.md,.bool s.dir,.int .u32 s.mode,.int .i64 s.mt,.int .i64 s.uid,.int .i64 s.gid] T.ak):=by rw[ewi,zao _ _ _ _ (Ne.symm gd)];exact hdh
      have ldi:=zaj hdi;have ew:wrX s l=s.bytes.take p++l++s.bytes.drop (p+l.length):=by unfold wrX;rw[if_neg (by omega),hp];simp only[Int.toNat_natCast]
      have ewl:(wrX s l).length=s.bytes.length:=by rw[ew];simp;omega
      have hcapm:cap<=maxLen:=by
       rcases hown.2 with⟨e,_⟩|⟨gb,cap',cur,e,h3,h4,h5,h6,_⟩
       ·cases e
       ·injection e with _ _ ec;rw[ec];exact h6
      have oi:wi.ownsRow B T.aJ 1 (sl g 0 s.bytes.length cap) (wrX s l).length ((wrX s l).map byt):=by
       refine⟨by simp,.inr ⟨g,cap,_,by rw[ewl],r2,by rw[ewi];exact zap _ _ _ _ rfl lhg,by omega,hcapm,?_,?_⟩⟩
       ·simp only[List.size_toArray,q1,Nat.mul_one]
       ·rw[Nat.mul_one,ewl,ew];exact q2
      rw[en];simp(disch:=first|omega|(simp(disch:=first|omega|fail)only[go_sem,hfi,hdi]<;>omega)|fail)only[go_sem,hfi,hdi];refine⟨trivial,?_⟩;have q:=fin wi (sl g 0 s.bytes.length cap) (by rw[hp];exact hfi) oi hnf hnd Ki (.inl rfl) _ rfl;rw[hp]at q;exact q
   ·by_cases g1:p+l.length<s.bytes.length
    ·obtain⟨b',cap',cur,ev,r1,r2,r3,r4,r5,r6⟩:=zcV hown (by omega);injection ev with ev1 ev2 ev3;subst ev1 ev3;have e1:(l.length:Int)+p=((p+l.length:Nat):Int):=by omega
     simp(disch:=first|omega|(simp(disch:=first|omega|fail)only[go_sem,hp,e1,hf,hd]<;>omega)|fail)only[go_sem,hp,e1,hf,hd];rw[zj7 (size:=1) _ U.ab (by kernel_rfl) (by omega) (by omega) (by omega)];refine⟨trivial,.inr ⟨g1,b',rfl,?_⟩⟩;rw[Int.toNat_natCast,if_neg (by omega)];simp
    ·simp(disch:=first|omega|(simp(disch:=first|omega|fail)only[go_sem,hp]<;>omega)|fail)only[go_sem,hp];exact⟨trivial,.inl ⟨g1,trivial⟩⟩
  ·simp(disch:=first|omega|(simp(disch:=first|omega|fail)only[go_sem,hf,hro]<;>omega)|fail)only[go_sem,hf,hro];exact⟨trivial,trivial⟩
 ·simp(disch:=first|omega|(simp(disch:=first|omega|fail)only[go_sem,hf,hc]<;>omega)|fail)only[go_sem,hf,hc];exact⟨trivial,trivial⟩
abbrev zmM(w:World)(v v':Value):Prop:=v'.ownBlock=v.ownBlock\/∀k,v'.ownBlock=some k->w.heap.size<=k
theorem infoB8:(P.info? T.aJ).map (λi=>(i.zero,i.size,i.bytes))=some (some (.int .u8 0),1,1):=by kernel_rfl
section
variable{w:World}{K:Value->World->Prop}{B f d:Nat}{v x:Value}{s:FX}{m:Nat->Nat×Nat}{l:List UInt8}
theorem zrB(w:World)(C:Nat)(m:Nat->Nat×Nat){k:Nat}(h:k=0\/k=4\/k=5):ErrV w C m k (errV m k):=by
 rcases h with rfl|rfl|rfl
 ·exact .inl ⟨rfl,rfl⟩
 ·exact .inr (.inl ⟨G.ao,by decide,rfl,by decide⟩)
 ·exact .inr (.inl ⟨G.af,by decide,rfl,by decide⟩)
theorem zr6(s:FX)(n:Nat):(rdX s n).2=0\/(rdX s n).2=4\/(rdX s n).2=5:=by
 unfold rdX;split
 ·exact .inr (.inl rfl)
 ·split
  ·exact .inr (.inr rfl)
  ·exact .inl rfl
theorem zsh(s:FX)(n:Nat):(rdX s n).1.length<=n/\(rdX s n).1.length<=s.bytes.length:=by
 unfold rdX;split
 ·simp
 ·split
  ·simp
  ·simp;omega
theorem zsk{w w':World}{op nm txt:List UInt8}(hb:bk w' w.heap.size=some (CB [S txt] T.aI))(hp:bk w' (w.heap.size+1)=some (CB [S op,S nm,er (w.heap.size,0)] T.au)):ErrV w' w.heap.size m (zm7 op) (.iface T.aD (pt (w.heap.size+1) 0)):=.inr (.inr (.inr ⟨op,(w.heap.size,0),⟨_,nm,rfl,hp,by omega⟩,⟨rfl,Nat.le_refl _,txt,hb⟩,rfl⟩))
def wrR(s:FX)(l:List UInt8):FX×Int×Int:=if s.cl=true then(s,3,0)else if s.ro=true then(s,6,0)else({s with bytes:=wrX s l,pos:=s.pos+l.length,mt:=0},0,l.length)
theorem zoy(h:FH w B f d v s)(hs:Sn w B m)(hx:BS w x l)(hxf:x.ownBlock≠some f)(hxd:x.ownBlock≠some d)(hb:s.cl=false->s.ro=false->0<=s.pos/\s.pos+l.length<=140737488355328/\s.bytes.length<=140737488355328)
  (hk:∀w' v' y,FH w' B f d v' (wrR s l).1->Kp w w' (Of f d v)->zmM w v v'->ErrV w' w.heap.size m (wrR s l).2.1 y->K (tup [.int .i64 (wrR s l).2.2,y]) w'):Cl P Fn.bC #[pt f 0,x] w K:=by
 unfold wrR at hk;have hf:=h.bf;have hd:=h.bd;obtain⟨lf,ld⟩:=h.lt;by_cases hc:s.cl=true
 ·rw[if_pos hc]at hk;apply ze6;unfold zda;refine zaa (λ_ _=>False) (λ_ _ _ h=>h.elim) ?_;obtain⟨q1,t1,e1⟩:=hs.at_ G.ae (by decide);simp(disch:=first|omega|(simp(disch:=first|omega|fail)only[go_sem,hf,hc,e1]<;>omega)|fail)only[go_sem,hf,hc,e1];exact hk _ v _ (h.old (by repeat (first|exact Below.refl _ _|assumption|refine zag ?_ (by first|omega|(simp only[go_sem]<;>omega)) _|refine Below.alloc ?_ (by first|omega|(simp only[go_sem]<;>omega)) _|refine Below.drew ?_))) (Kp.drew w _) (.inl rfl) (.inr (.inl ⟨G.ae,by decide,rfl,(by decide:(3:Int)=zck G.ae)⟩))
 rw[if_neg hc]at hk;have hc':s.cl=false:=by simpa using hc
 by_cases hr:s.ro=true
 ·rw[if_pos hr]at hk;apply ze6;unfold zda;refine zaa (λt w'=>t=[.nilIface]/\w'=w) ?_ ?_
  ·rintro t e w1 ⟨rfl,rfl⟩;refine zaa (λ_ _=>False) (λ_ _ _ h=>h.elim) ?_;simp(disch:=first|omega|(simp(disch:=first|omega|fail)only[go_sem,hf,hd,hr]<;>omega)|fail)only[go_sem,hf,hd,hr];refine znI ?_;simp(disch:=first|omega|(simp(disch:=first|omega|fail)only[go_sem,hf,hd,zk7]<;>omega)|fail)only[go_sem,hf,hd,zk7];refine⟨trivial,trivial,?_⟩;obtain⟨W2,e2⟩:∃W2,W2=(w1.drew.alloc (CB [S [102,105,108,101,32,104,97,110,100,108,101,32,105,115,32,114,101,97,100,32,111,110,108,121]] T.aI)).alloc (CB [S [119,114,105,116,101],S s.nm,er (w1.heap.size,0)] T.au):=⟨_,rfl⟩;have b1:bk W2 w1.heap.size=some (CB [S [102,105,108,101,32,104,97,110,100,108,101,32,105,115,32,114,101,97,100,32,111,110,108,121]] T.aI):=by rw[e2,zat _ _ _ (by simp only[go_sem];omega)];exact zaf _ _ _ rfl
   have b2:bk W2 (w1.heap.size+1)=some (CB [S [119,114,105,116,101],S s.nm,er (w1.heap.size,0)] T.au):=by rw[e2];exact zaf _ _ _ (by simp only[go_sem])
   have BB:Below w1.heap.size w1 W2:=by rw[e2];repeat (first|exact Below.refl _ _|assumption|refine zag ?_ (by first|omega|(simp only[go_sem]<;>omega)) _|refine Below.alloc ?_ (by first|omega|(simp only[go_sem]<;>omega)) _|refine Below.drew ?_)
   have:=hk W2 v _ (h.old BB) (Kp.of_below BB _) (.inl rfl) (zsk b1 b2);rw[e2]at this;exact this
  ·simp(disch:=first|omega|(simp(disch:=first|omega|fail)only[go_sem,hf,hc']<;>omega)|fail)only[go_sem,hf,hc'];exact⟨trivial,trivial⟩
 ·rw[if_neg hr]at hk;have hr':s.ro=false:=by simpa using hr
  obtain⟨b1,b2,b3⟩:=hb hc' hr';exact ztj h hc' hr' hx hxf hxd b1 b2 b3 λw' v' F' K' o'=>hk w' v' _ F' K' o' (.inl ⟨rfl,rfl⟩)
theorem zpt{off:Int}(h:FH w B f d v s)(hs:Sn w B m)(hx:BS w x l)(hxf:x.ownBlock≠some f)(hxd:x.ownBlock≠some d)(hb:s.cl=false->s.ro=false->0<=off/\off+l.length<=140737488355328/\s.bytes.length<=140737488355328)
  (hk:∀w' v' y,FH w' B f d v' (wrR {s with pos:=off} l).1->Kp w w' (Of f d v)->zmM w v v'->ErrV w' w.heap.size m (wrR {s with pos:=off} l).2.1 y->K (tup [.int .i64 (wrR {s with pos:=off} l).2.2,y]) w'):Cl P Fn.cw #[pt f 0,x,.int .i64 off] w K:=by
 apply zkk;unfold zgP;have hf:=h.bf;obtain⟨l1,l2⟩:=h.lt;simp(disch:=first|omega|(simp(disch:=first|omega|fail)only[go_sem,hf]<;>omega)|fail)only[go_sem,hf];have h5:=h.setPos off;have k5:=Kp.setb w f (CB [.int .i64 off,.int .i64 s.rdc,.bool s.cl,.bool s.ro,pt d 0] T.ao);have z5:(setb w f (CB [.int .i64 off,.int .i64 s.rdc,.bool s.cl,.bool s.ro,pt d 0] T.ao)).heap.size=w.heap.size:=by simp only[go_sem]
 have x5:=zlc hx k5 λk hk e=>hxf (by rw[hk,e]);have s5:Sn (setb w f (CB [.int .i64 off,.int .i64 s.rdc,.bool s.cl,.bool s.ro,pt d 0] T.ao)) B m:=hs.below (k5.below (λx hx e=>by have:=h.hf;omega) (by have:=h.hf;omega));generalize setb w f (CB [.int .i64 off,.int .i64 s.rdc,.bool s.cl,.bool s.ro,pt d 0] T.ao)=w1 at*;refine zoy h5 s5 x5 hxf hxd hb λw2 v2 y F2 K2 a2 e2=>?_;rw[z5]at e2;simp(disch:=first|omega|(simp(disch:=first|omega|fail)only[go_sem]<;>omega)|fail)only[go_sem];refine hk w2 v2 y F2 ((zlR k5 λ_ e=>.inl e).trans K2 λ_ _ h=>h) (a2.imp id λh k hk=>by rw[<-z5];exact h k hk) e2
def clR(s:FX):FX:=if s.ro=true then{s with cl:=true}else{s with cl:=true,mt:=0}
theorem zr0(h:FH w B f d v s)(hk:∀w',FH w' B f d v (clR s)->Kp w w' (Of f d v)->K .nilIface w'):Cl P Fn.bz #[pt f 0] w K:=by
 apply zlm;unfold zhQ;have hf:=h.bf;have hd:=h.bd;obtain⟨lf,ld⟩:=h.lt;have h1:=h.setHd s.pos s.rdc true s.ro;have k1:=Kp.setb w f (CB [.int .i64 s.pos,.int .i64 s.rdc,.bool true,.bool s.ro,pt d 0] T.ao);have hfd:=h.fd;unfold clR at hk;simp(disch:=first|omega|(simp(disch:=first|omega|fail)only[go_sem,hf]<;>omega)|fail)only[go_sem,hf];generalize setb w f (CB [.int .i64 s.pos,.int .i64 s.rdc,.bool true,.bool s.ro,pt d 0] T.ao)=w1 at*;have hf1:=h1.bf;have hd1:=h1.bd;obtain⟨lf1,ld1⟩:=h1.lt;by_cases hr:s.ro=true
 ·rw[if_pos hr]at hk;refine zaa (λt w'=>w'=w1) ?_ ?_
  ·rintro t e w2 rfl;exact hk _ h1 (zlR k1 λ_ e=>.inl e)
  ·simp(disch:=first|omega|(simp(disch:=first|omega|fail)only[go_sem,hf1,hr]<;>omega)|fail)only[go_sem,hf1,hr]
 ·rw[if_neg hr]at hk;have hr':s.ro=false:=by simpa using hr
  obtain⟨s1,es1⟩:∃s1,s1={s with cl:=true,mt:=0}:=⟨_,rfl⟩;rw[<-es1]at hk;refine zaa (λt w'=>FH w' B f d v s1/\Kp w w' (Of f d v)) ?_ ?_
  ·rintro t e w2 ⟨h2,k2⟩;exact hk _ h2 k2
  ·simp(disch:=first|omega|(simp(disch:=first|omega|fail)only[go_sem,hf1,hr']<;>omega)|fail)only[go_sem,hf1,hr'];apply zdb;unfold zcm;simp(disch:=first|omega|(simp(disch:=first|omega|fail)only[go_sem,hd1]<;>omega)|fail)only[go_sem,hd1];rw[es1];refine⟨h1.setData (s':={s with cl:=true,mt:=0}) ⟨rfl,rfl,rfl,rfl⟩ h1.own h1.nf h1.nd h1.md1,?_⟩;exact(zlR k1 λ_ e=>.inl e).trans (Kp.setb _ _ _) λ_ _ e=>.inr (.inl e)
theorem zti(h:FH w B f d v s)(hk:K (tup [pt w.heap.size 0,.nilIface]) (w.alloc (CB [pt d 0] T.aF))):Cl P Fn.cV #[pt f 0] w K:=by apply zlU;unfold ziZ;have hf:=h.bf;simp(disch:=first|omega|(simp(disch:=first|omega|fail)only[go_sem,hf]<;>omega)|fail)only[go_sem,hf];exact hk
theorem ztD(h:FH w B f d v s)(hk:K (S s.nm) w):Cl P Fn.de #[pt f 0] w K:=by apply zmn;unfold zis;have hf:=h.bf;have hd:=h.bd;simp(disch:=first|omega|(simp(disch:=first|omega|fail)only[go_sem,hf]<;>omega)|fail)only[go_sem,hf];apply zfO;unfold zdg;simp(disch:=first|omega|(simp(disch:=first|omega|fail)only[go_sem,hd]<;>omega)|fail)only[go_sem,hd];exact hk
def trR(s:FX)(n:Int):FX×Int:=if s.cl=true then(s,3)else if s.ro=true then(s,6)else if n<0 then(s,7)else({s with bytes:=if(s.bytes.length:Int)<n then s.bytes++List.replicate (n.toNat - s.bytes.length) 0 else s.bytes.take n.toNat,mt:=0},0)
set_option maxHeartbeats 4000000 in
theorem zos{n:Int}(h:FH w B f d v s)(hs:Sn w B m)(hn:n<=281474976710)(hb:s.bytes.length<=281474976710)
  (hk:∀w' v' y,FH w' B f d v' (trR s n).1->Kp w w' (Of f d v)->zmM w v v'->ErrV w' w.heap.size m (trR s n).2 y->K y w'):Cl P Fn.bc #[pt f 0,.int .i64 n] w K:=by
 apply zjY;unfold zfU;unfold trR at hk;have hf:=h.bf;have hd:=h.bd;obtain⟨lf,ld⟩:=h.lt;by_cases hc:s.cl=true
 ·rw[if_pos hc]at hk;refine zaa (λ_ _=>False) (λ_ _ _ h=>h.elim) ?_;obtain⟨q1,t1,e1⟩:=hs.at_ G.ae (by decide);simp(disch:=first|omega|(simp(disch:=first|omega|fail)only[go_sem,hf,hc,e1]<;>omega)|fail)only[go_sem,hf,hc,e1];exact hk _ v _ h (Kp.refl w _) (.inl rfl) (.inr (.inl ⟨G.ae,by decide,rfl,(by decide:(3:Int)=zck G.ae)⟩))
 rw[if_neg hc]at hk;have hc':s.cl=false:=by simpa using hc
 refine zaa (λt w'=>w'=w) ?_ ?_
 ·rintro t e w1 rfl;by_cases hr:s.ro=true
  ·rw[if_pos hr]at hk;refine zaa (λ_ _=>False) (λ_ _ _ h=>h.elim) ?_;simp(disch:=first|omega|(simp(disch:=first|omega|fail)only[go_sem,hf,hd,hr]<;>omega)|fail)only[go_sem,hf,hd,hr];refine znI ?_;simp(disch:=first|omega|(simp(disch:=first|omega|fail)only[go_sem,hf,hd,zk7]<;>omega)|fail)only[go_sem,hf,hd,zk7];refine⟨trivial,trivial,?_⟩;obtain⟨W2,e2⟩:∃W2,W2=(w1.drew.alloc (CB [S [102,105,108,101,32,104,97,110,100,108,101,32,105,115,32,114,101,97,100,32,111,110,108,121]] T.aI)).alloc (CB [S [116,114,117,110,99,97,116,101],S s.nm,er (w1.heap.size,0)] T.au):=⟨_,rfl⟩;have b1:bk W2 w1.heap.size=some (CB [S [102,105,108,101,32,104,97,110,100,108,101,32,105,115,32,114,101,97,100,32,111,110,108,121]] T.aI):=by rw[e2,zat _ _ _ (by simp only[go_sem];omega)];exact zaf _ _ _ rfl
   have b2:bk W2 (w1.heap.size+1)=some (CB [S [116,114,117,110,99,97,116,101],S s.nm,er (w1.heap.size,0)] T.au):=by rw[e2];exact zaf _ _ _ (by simp only[go_sem])
   have BB:Below w1.heap.size w1 W2:=by rw[e2];repeat (first|exact Below.refl _ _|assumption|refine zag ?_ (by first|omega|(simp only[go_sem]<;>omega)) _|refine Below.alloc ?_ (by first|omega|(simp only[go_sem]<;>omega)) _|refine Below.drew ?_)
   have:=hk W2 v _ (h.old BB) (Kp.of_below BB _) (.inl rfl) (zsk b1 b2);rw[e2]at this;exact this
  ·rw[if_neg hr]at hk;have hr':s.ro=false:=by simpa using hr
   refine zaa (λt w'=>w'=w1) ?_ ?_
   ·rintro t e w2 rfl;by_cases hn0:n<0
    ·rw[if_pos hn0]at hk;refine zaa (λ_ _=>False) (λ_ _ _ h=>h.elim) ?_;obtain⟨q1,t1,e1⟩:=hs.at_ G.ag (by decide);simp(disch:=first|omega|(simp(disch:=first|omega|fail)only[go_sem,e1]<;>omega)|fail)only[go_sem,e1];exact hk _ v _ h (Kp.refl w2 _) (.inl rfl) (.inr (.inl ⟨G.ag,by decide,rfl,(by decide:(7:Int)=zck G.ag)⟩))
    ·rw[if_neg hn0]at hk;refine zaa (λt w'=>w'=w2) ?_ ?_
     ·rintro t e w3 rfl;obtain⟨x,rfl⟩:=Int.eq_ofNat_of_zero_le (show 0<=n by omega);rw[Int.toNat_natCast]at hk;obtain⟨nb,enb⟩:∃nb,nb=(if(s.bytes.length:Int)<(x:Int)then s.bytes++List.replicate (x - s.bytes.length) 0 else s.bytes.take x):=⟨_,rfl⟩;rw[<-enb]at hk;obtain⟨a,cap,ev⟩:=zan h.own;refine zaa (λt w'=>∃v',FH w' B f d v' {s with bytes:=nb}/\Kp w3 w' (Of f d v)/\zmM w3 v v') ?_ ?_
      ·rintro t e w4 ⟨v4,h4,k4,o4⟩;have hf4:=h4.bf;have hd4:=h4.bd;obtain⟨lf4,ld4⟩:=h4.lt;simp(disch:=first|omega|(simp(disch:=first|omega|fail)only[go_sem,hf4]<;>omega)|fail)only[go_sem,hf4];apply zdb;unfold zcm;simp(disch:=first|omega|(simp(disch:=first|omega|fail)only[go_sem,hd4]<;>omega)|fail)only[go_sem,hd4];refine hk _ v4 _ (h4.setData (s':={s with bytes:=nb,mt:=0}) ⟨rfl,rfl,rfl,rfl⟩ h4.own h4.nf h4.nd h4.md1) (k4.trans (Kp.setb _ _ _) λ_ _ e=>.inr (.inl e)) o4 (.inl ⟨rfl,rfl⟩)
      ·by_cases hlt:(s.bytes.length:Int)<(x:Int)
       ·rw[if_pos hlt]at enb;have es:((x:Int) - (s.bytes.length:Int))=((x - s.bytes.length:Nat):Int):=by omega
        subst ev;simp(disch:=first|omega|(simp(disch:=first|omega|fail)only[go_sem,hf,hd,es]<;>omega)|fail)only[go_sem,hf,hd,es];have D1:Below w3.heap.size w3 w3.drew:=by repeat (first|exact Below.refl _ _|assumption|refine zag ?_ (by first|omega|(simp only[go_sem]<;>omega)) _|refine Below.alloc ?_ (by first|omega|(simp only[go_sem]<;>omega)) _|refine Below.drew ?_)
        refine zsU U.ab infoB8 U.int (zbf h.own D1 (Nat.le_refl _)) (by omega) (by omega) (by have:=h.hf;show B<=w3.heap.size;omega) λv5 w5 o5 g5 a5=>?_;have K5:Kp w3 w5 (λk=>(Value.slice a s.bytes.length cap).ownBlock=some k):=(Kp.drew w3 _).trans (Kp.of_grown g5) λ_ _ h=>h;have hf5:bk w5 f=_:=(K5.block f lf h.nf).trans hf;have hd5:bk w5 d=_:=(K5.block d ld h.nd).trans hd;have n5f:v5.ownBlock≠some f:=λe=>by
         rcases a5 with a5|a5
         ·exact h.nf (by rw[<-a5];exact e)
         ·rw[a5]at e;have:=Option.some.inj e;have e9:w3.drew.heap.size=w3.heap.size:=rfl;omega
        have n5d:v5.ownBlock≠some d:=λe=>by
         rcases a5 with a5|a5
         ·exact h.nd (by rw[<-a5];exact e)
         ·rw[a5]at e;have:=Option.some.inj e;have e9:w3.drew.heap.size=w3.heap.size:=rfl;omega
        have one5:v5.oneCell'=true:=by obtain⟨_,_,rfl⟩:=zan o5;rfl
        have ld5:=zaj hd5;simp(disch:=first|omega|(simp(disch:=first|omega|fail)only[go_sem,hf5,hd5,one5]<;>omega)|fail)only[go_sem,hf5,hd5,one5];refine⟨trivial,v5,?_,?_,?_⟩
        ·have o6:w5.ownsRow B T.aJ 1 v5 nb.length (nb.map byt):=by
          rw[enb];have e1:(s.bytes++List.replicate (x - s.bytes.length) 0).length=s.bytes.length+(x - s.bytes.length):=by simp
          rw[e1,List.map_append,zoD];exact o5
         have kd:=Kp.setb w5 d (CB [S s.nm,v5,s.md,.bool s.dir,.int .u32 s.mode,.int .i64 s.mt,.int .i64 s.uid,.int .i64 s.gid] T.ak);refine⟨h.hf,h.hd,h.fd,?_,zap _ _ _ _ rfl ld5,h.md1,zbI o6 kd λk hk e=>n5d (by rw[hk,e]),n5f,n5d⟩;rw[zao _ _ _ _ h.fd];exact hf5
        ·exact(zlR K5 λ_ e=>.inr (.inr e)).trans (Kp.setb _ _ _) λ_ _ e=>.inr (.inl e)
        ·rcases a5 with a5|a5
         ·exact .inl a5
         ·exact .inr λk hk=>by rw[a5]at hk;have:=Option.some.inj hk;have e9:w3.drew.heap.size=w3.heap.size:=rfl;omega
       ·rw[if_neg hlt]at enb;obtain⟨v5,o5,a5,_,s5⟩:=ztQ U.ab (by kernel_rfl) h.own (p:=x) (by omega);subst ev;have one5:v5.oneCell'=true:=by obtain⟨_,_,rfl⟩:=zan o5;rfl
        simp(disch:=first|omega|(simp(disch:=first|omega|fail)only[go_sem,hf,hd,s5,one5]<;>omega)|fail)only[go_sem,hf,hd,s5,one5];refine⟨v5,?_,?_,.inl a5⟩
        ·have o6:w3.drew.ownsRow B T.aJ 1 v5 nb.length (nb.map byt):=by
          rw[enb];have e1:(s.bytes.take x).length=x:=by simp;omega
          rw[e1,List.map_take];exact o5
         have kd:=Kp.setb w3.drew d (CB [S s.nm,v5,s.md,.bool s.dir,.int .u32 s.mode,.int .i64 s.mt,.int .i64 s.uid,.int .i64 s.gid] T.ak);refine⟨h.hf,h.hd,h.fd,?_,zap _ _ _ _ rfl ld,h.md1,zbI o6 kd λk hk e=>h.nd (by rw[<-a5,hk,e]),by rw[a5];exact h.nf,by rw[a5];exact h.nd⟩;rw[zao _ _ _ _ h.fd];exact hf
        ·exact(Kp.drew w3 _).trans (Kp.setb _ _ _) λ_ _ e=>.inr (.inl e)
     ·simp(disch:=first|omega|(simp(disch:=first|omega|fail)only[go_sem]<;>omega)|fail)only[go_sem]
   ·simp(disch:=first|omega|(simp(disch:=first|omega|fail)only[go_sem,hf,hr']<;>omega)|fail)only[go_sem,hf,hr']
 ·simp(disch:=first|omega|(simp(disch:=first|omega|fail)only[go_sem,hf,hc']<;>omega)|fail)only[go_sem,hf,hc']
end
end Go.Proofs.YtdljebgllipdjaaGreatDoor.X
end
section
set_option linter.unusedSectionVars false
namespace Go.X
open Go Go.RowKit
structure KE{κ:Type}[DecidableEq κ](P:Program)(kt:TypeId)(emb:κ->Value):Prop where
 d:∃d,P.underlying kt=some d/\(∀a b,Instr.sameNow d (emb a) (emb b)=some (decide (a=b)))/\(∀e n a,rp P (Instr.checkKey e (n+1) kt (emb a))=some ())
 bits:∀a,Instr.sameBits 10000 (emb a) (emb a)=true
abbrev emS(l:List UInt8):Value:=S l
abbrev emI(n:Int):Value:=.int .i64 n
section
variable{κ:Type}[DecidableEq κ]
abbrev ML(κ:Type):=List (κ×Value×Nat)
def mes(emb:κ->Value)(l:ML κ):Array MapEntry:=(l.map λx=>(⟨emb x.1,x.2.1,x.2.2⟩:MapEntry)).toArray
def MO(emb:κ->Value)(l:ML κ)(c:Nat):Obj:=.map (mes emb l) c
def mget:ML κ->κ->Option Value
 |[],_=>none
 |x::l,k=>if x.1=k then some x.2.1 else mget l k
def mmod:ML κ->κ->Value->ML κ
 |[],_,_=>[]
 |x::l,k,v=>if x.1=k then(x.1,v,x.2.2)::l else x::mmod l k v
def mdel:ML κ->κ->ML κ
 |[],_=>[]
 |x::l,k=>if x.1=k then l else x::mdel l k
def zic(l:ML κ)(k:κ)(v:Value)(c:Nat):ML κ:=if(mget l k).isSome then mmod l k v else l++[(k,v,c)]
def zjn(l:ML κ)(k:κ)(c:Nat):Nat:=if(mget l k).isSome then c else c+1
def midx:ML κ->κ->Nat->Option (Nat×Value)
 |[],_,_=>none
 |x::l,k,i=>if x.1=k then some (i,x.2.1)else midx l k (i+1)
theorem zlw:∀(l:ML κ)(k:κ)(i:Nat),(midx l k i).map (·.2)=mget l k
 |[],_,_=>rfl
 |x::l,k,i=>by
  simp only[midx,mget];by_cases h:x.1=k
  ·simp[h]
  ·simp only[h,if_false];exact zlw l k (i+1)
theorem zlN:∀(l:ML κ)(k:κ)(i j:Nat)(v:Value),midx l k i=some (j,v)->i<=j/\∃x,l[j - i]?=some x/\x.1=k/\x.2.1=v/\(∀u,mmod l k u=l.set (j - i) (x.1,u,x.2.2))/\mdel l k=l.eraseIdx (j - i)
 |[],_,_,_,_,h=>by cases h
 |x::l,k,i,j,v,h=>by
  simp only[midx]at h;by_cases hx:x.1=k
  ·rw[if_pos hx]at h;injection h with h;injection h with h1 h2;subst h1;refine⟨Nat.le_refl _,x,?_,hx,h2,λu=>?_,?_⟩
   ·simp
   ·simp[mmod,hx]
   ·simp[mdel,hx]
  ·rw[if_neg hx]at h;obtain⟨h1,y,h2,h3,h4,h5,h6⟩:=zlN l k (i+1) j v h;have e:j - i=(j - (i+1))+1:=by omega
   refine⟨by omega,y,by rw[e];simpa using h2,h3,h4,λu=>?_,?_⟩
   ·simp only[mmod,hx,if_false,e,List.set_cons_succ,h5]
   ·simp only[mdel,hx,if_false,e,List.eraseIdx_cons_succ,h6]
variable{P:Program}{emb:κ->Value}
theorem zmX{d:TypeDesc}(hd:∀a b,Instr.sameNow d (emb a) (emb b)=some (decide (a=b)))(k:κ):∀(l:ML κ)(i:Nat),Instr.findNow d (emb k) (mes emb l).toList i=some (midx l k i)
 |[],i=>rfl
 |x::l,i=>by
  have ih:=zmX hd k l (i+1);simp only[mes,List.map_cons,Instr.findNow,hd]at ih⊢;by_cases h:x.1=k
  ·simp[midx,h]
  ·have h':¬k=x.1:=λe=>h e.symm;simp only[h',decide_false,midx,h,if_false];exact ih
theorem zkA{kt:TypeId}(hk:KE P kt emb)(k:κ)(l:ML κ):rp P (Instr.findKey kt (emb k) (mes emb l).toList)=some (midx l k 0):=by obtain⟨d,h1,h2,_⟩:=hk.d;unfold Instr.findKey;rw[zau,zak h1];simp only[Option.bind_some,zmX h2,zhx]
theorem zni{kt:TypeId}(hk:KE P kt emb)(e:Bool)(k:κ):rp P (Instr.checkKey e 10000 kt (emb k))=some ():=by obtain⟨d,_,_,h⟩:=hk.d;exact h e 9999 k
theorem zlL{α:Type}{s:Sem α}{a:α}{w:World}(h:rp P s=some a):s.run P w=.ok a w:=by
 induction s with
 |pure b=>simp[rp]at h;subst h;rfl
 |program k ih=>exact ih P h
 |mark _ k ih=>exact ih h
 |_=>simp[rp]at h
theorem zkF{w:World}{t kt et:TypeId}{b:Nat}{l:ML κ}{c:Nat}{z:Value}(ht:P.underlying t=some (.map kt et))(hk:KE P kt emb)(hz:rp P (zeroValue et)=some z)(hb:bk w b=some (MO emb l c))(k:κ)(ok:Bool):
  (Instr.lookup t (.map (some b)) (emb k) ok).run P w=.ok (if ok then .tuple #[(mget l k).getD z,.bool (mget l k).isSome]else(mget l k).getD z) w:=by
 have hg:(getObj b).run P w=.ok (.map (mes emb l) c) w:=MapKept.run_getObj_map hb;have e:=zlw l k 0;unfold Instr.lookup;simp only[Sem.run_bind,run_underlying ht w,Result.andThen_ok,hg,Sem.run_pure,zlL (zni hk _ k),zlL (zkA hk k l)];cases h:midx l k 0 with
 |none=>rw[h]at e;simp only[Option.map_none]at e;simp only[<-e,Sem.run_bind,zlL hz,Result.andThen_ok,Sem.run_pure,Option.getD_none,Option.isSome_none]
 |some q=>rw[h]at e;simp only[Option.map_some]at e;simp only[<-e,Sem.run_bind,Result.andThen_ok,Sem.run_pure,Option.getD_some,Option.isSome_some]
theorem zqv{α:Type}(l:List α)(i:Nat)(f:α->α){x:α}(h:l[i]?=some x):(l.toArray.modify i f)=(l.set i (f x)).toArray:=by
 apply Array.ext_getElem?;intro j;rw[Array.getElem?_modify];by_cases e:i=j
 ·subst e;obtain⟨hl,hx⟩:=List.getElem?_eq_some_iff.1 h;simp[hl,hx]
 ·rw[if_neg e];simp[e]
theorem zrk{w:World}{t kt et:TypeId}{b:Nat}{l:ML κ}{c:Nat}(ht:P.underlying t=some (.map kt et))(hk:KE P kt emb)(hb:bk w b=some (MO emb l c))(k:κ)(v:Value):
  (Instr.mapUpdate t (.map (some b)) (emb k) v).run P w=.ok () (setb w b (MO emb (zic l k v c) (zjn l k c))):=by
 have hg:(getObj b).run P w=.ok (.map (mes emb l) c) w:=MapKept.run_getObj_map hb;have hs:∀o,(setObj b o).run P w=.ok () (setb w b o):=λo=>MapKept.run_setObj_map o hb;have e:=zlw l k 0;unfold Instr.mapUpdate;simp only[Sem.run_bind,run_underlying ht w,Result.andThen_ok,hg,Sem.run_pure,zlL (zni hk _ k),zlL (zkA hk k l)];cases h:midx l k 0 with
 |none=>rw[h]at e;simp only[Option.map_none]at e;simp only[zic,zjn,<-e,Option.isSome_none,Bool.false_eq_true,if_false,hs];congr 2;simp[MO,mes]
 |some q=>
  obtain⟨i,u⟩:=q;rw[h]at e;simp only[Option.map_some]at e;obtain⟨h1,x,h2,h3,h4,h5,h6⟩:=zlN l k 0 i u h;rw[Nat.sub_zero]at h2 h5 h6;have hi:(mes emb l)[i]?=some ⟨emb k,u,x.2.2⟩:=by
   have:(mes emb l)[i]?=(l[i]?).map λx=>(⟨emb x.1,x.2.1,x.2.2⟩:MapEntry):=by simp[mes]
   rw[this,h2];simp[h3,h4]
  have hkey:(Instr.keyThatStays (((mes emb l)[i]?.map (·.key)).getD (emb k)) (emb k)).run P w=.ok (emb k) w:=by rw[hi];simp[Instr.keyThatStays,hk.bits]
  simp only[zic,zjn,<-e,Option.isSome_some,if_true,Sem.run_bind,hkey,Result.andThen_ok,hs,h5];congr 2;have hm:=zqv (l.map λx=>(⟨emb x.1,x.2.1,x.2.2⟩:MapEntry)) i (λe=>{e with key:=emb k,val:=v}) (x:=⟨emb x.1,x.2.1,x.2.2⟩) (by simp[h2]);show Obj.map ((mes emb l).modify i _) c=Obj.map _ c;unfold mes;rw[hm];simp[h3]
theorem zqr{w:World}{t kt et ty t2:TypeId}{b:Nat}{l:ML κ}{c:Nat}(ht:P.underlying t=some (.map kt et))(hk:KE P kt emb)(hb:bk w b=some (MO emb l c))(k:κ):
  (Builtin.delete_ #[t,t2] ty #[.map (some b),emb k]).run P w=.ok (.tuple #[]) (setb w b (MO emb (mdel l k) c)):=by
 have hg:(getObj b).run P w=.ok (.map (mes emb l) c) w:=MapKept.run_getObj_map hb;have hs:∀o,(setObj b o).run P w=.ok () (setb w b o):=λo=>MapKept.run_setObj_map o hb;unfold Builtin.delete_;have a0:(#[t,t2]:Array TypeId)[0]?=some t:=rfl;have a1:(#[.map (some b),emb k]:Array Value)[0]?=some (.map (some b)):=rfl;have a2:(#[.map (some b),emb k]:Array Value)[1]?=some (emb k):=rfl;simp only[a0,a1,a2,Sem.run_bind,run_underlying ht w,Result.andThen_ok,hg,Sem.run_pure,zlL (zni hk _ k),zlL (zkA hk k l)];cases h:midx l k 0 with
 |none=>
  have:mdel l k=l:=by
   clear hb hg hs;have e:=zlw l k 0;rw[h]at e;generalize hz:(0:Nat)=z at h;clear hz e
   induction l generalizing z with
   |nil=>rfl
   |cons x l ih=>
    simp only[midx]at h;by_cases hx:x.1=k
    ·rw[if_pos hx]at h;cases h
    ·rw[if_neg hx]at h;simp only[mdel,hx,if_false];rw[ih _ h]
  rw[this];simp only[Sem.run_bind,hs,Result.andThen_ok,Sem.run_pure];rfl
 |some q=>
  obtain⟨i,u⟩:=q;obtain⟨h1,x,h2,h3,h4,h5,h6⟩:=zlN l k 0 i u h;rw[Nat.sub_zero]at h6;have:(mes emb l).eraseIdxIfInBounds i=mes emb (l.eraseIdx i):=by
   have hl:=(List.getElem?_eq_some_iff.1 h2).1;rw[Nat.sub_zero]at hl;have em:∀(l:List (κ×Value×Nat))(i:Nat),(l.map λx=>(⟨emb x.1,x.2.1,x.2.2⟩:MapEntry)).eraseIdx i=(l.eraseIdx i).map λx=>(⟨emb x.1,x.2.1,x.2.2⟩:MapEntry):=by
    intro l
    induction l with
    |nil=>intro i;rfl
    |cons a r ih=>
     intro i;cases i with
     |zero=>rfl
     |succ i=>simp[ih]
   simp[mes,Array.eraseIdxIfInBounds,hl,em]
  rw[h6];simp only[Sem.run_bind,hs,Result.andThen_ok,Sem.run_pure,this];rfl
theorem zn6(K:Value->World->Prop){w:World}{t kt et:TypeId}{b:Nat}{l:ML κ}{c:Nat}{z:Value}(ht:P.underlying t=some (.map kt et))(hk:KE P kt emb)(hz:rp P (zeroValue et)=some z)(hb:bk w b=some (MO emb l c))(k:κ):
  st P (za3 t (.map (some b)) (emb k) true) w K=K (tup [(mget l k).getD z,.bool (mget l k).isSome]) w:=
 zav (zbd (by rw[zkF ht hk hz hb];rfl))
theorem zqx(K:Value->World->Prop){w:World}{t kt et:TypeId}{b:Nat}{l:ML κ}{c:Nat}{z:Value}(ht:P.underlying t=some (.map kt et))(hk:KE P kt emb)(hz:rp P (zeroValue et)=some z)(hb:bk w b=some (MO emb l c))(k:κ):
  st P (za3 t (.map (some b)) (emb k) false) w K=K ((mget l k).getD z) w:=
 zav (zbd (by rw[zkF ht hk hz hb];rfl))
theorem zo9(K:Value->Prop){w:World}{t kt et:TypeId}{b:Nat}{l:ML κ}{c:Nat}{z:Value}(ht:P.underlying t=some (.map kt et))(hk:KE P kt emb)(hz:rp P (zeroValue et)=some z)(hb:bk w b=some (MO emb l c))(k:κ):
  rd P (za3 t (.map (some b)) (emb k) false) w K=K ((mget l k).getD z):=
 zsF (zbd (by rw[zkF ht hk hz hb];rfl))
theorem zlv(K:Value->World->Prop){w:World}{t kt et:TypeId}{b:Nat}{l:ML κ}{c:Nat}(ht:P.underlying t=some (.map kt et))(hk:KE P kt emb)(hb:bk w b=some (MO emb l c))(k:κ)(v:Value):
  st P (zee t (.map (some b)) (emb k) v) w K=K undef (setb w b (MO emb (zic l k v c) (zjn l k c))):=
 zkE (zre (zrk ht hk hb k v))
theorem zn9(K:Value->World->Prop){w:World}{t kt et ty t2:TypeId}{b:Nat}{l:ML κ}{c:Nat}(ht:P.underlying t=some (.map kt et))(hk:KE P kt emb)(hb:bk w b=some (MO emb l c))(k:κ)(cs:Array Bool):
  st P (zac .delete #[t,t2] ty cs #[.map (some b),emb k]) w K=K (.tuple #[]) (setb w b (MO emb (mdel l k) c)):=
 zav (zbd (zqr (ty:=ty) ht hk hb k))
theorem znh(K:Value->World->Prop){w:World}(t:TypeId):st P (zlF t none) w K=K (.map (some w.heap.size)) (w.alloc (MO emb [] 0)):=zav (zbd (by simp[Instr.makeMap,MO,mes]))
theorem zpG(K:Value->World->Prop){w:World}{t kt et:TypeId}{b:Nat}{l:ML κ}{c:Nat}(ht:P.underlying t=some (.map kt et))(hb:bk w b=some (MO emb l c)):
  st P (zrt t (.map (some b))) w K=K (pt w.heap.size 0) (w.alloc (.mapIter (some b) c #[] c)):=
 zav (zbd (run_range_map w t kt et b (mes emb l) c ht hb))
structure MWF(l:ML κ)(c:Nat):Prop where
 keys:(l.map (·.1)).Nodup
 born:(l.map (·.2.2)).Nodup
 lt:∀x∈l,x.2.2<c
theorem MWF.nil(c:Nat):MWF ([]:ML κ) c:=⟨List.nodup_nil,List.nodup_nil,λ_ h=>by cases h⟩
theorem zbr:∀(l:ML κ)(k:κ),mget l k=none↔k∉l.map (·.1)
 |[],k=>by simp[mget]
 |x::l,k=>by
  simp only[mget,List.map_cons,List.mem_cons,not_or];by_cases h:x.1=k
  ·simp[h]
  ·rw[if_neg h,zbr l k];exact⟨λq=>⟨λe=>h e.symm,q⟩,λq=>q.2⟩
theorem zsQ{l:ML κ}{c:Nat}(h:MWF l c){x:κ×Value×Nat}(hx:x∈l):mget l x.1=some x.2.1:=by
 have:=h.keys;clear h
 induction l with
 |nil=>cases hx
 |cons y l ih=>
  simp only[List.map_cons,List.nodup_cons]at this;simp only[mget];rcases List.mem_cons.1 hx with rfl|hx
  ·simp
  ·have:¬y.1=x.1:=λe=>this.1 (by rw[e];exact List.mem_map.2 ⟨x,hx,rfl⟩);rw[if_neg this];exact ih hx (by rename_i h2;exact h2.2)
theorem zkb:∀(l:ML κ)(k:κ)(v:Value),(mmod l k v).map (·.1)=l.map (·.1)/\(mmod l k v).map (·.2.2)=l.map (·.2.2)
 |[],_,_=>⟨rfl,rfl⟩
 |x::l,k,v=>by
  simp only[mmod];by_cases h:x.1=k
  ·simp[h]
  ·simp[h,zkb l k v]
theorem zof:∀(l:ML κ)(k:κ)(v:Value)(q:κ),mget (mmod l k v) q=if q=k/\(mget l k).isSome then some v else mget l q
 |[],k,v,q=>by simp[mmod,mget]
 |x::l,k,v,q=>by
  simp only[mmod,mget];by_cases h:x.1=k
  ·by_cases e:q=k
   ·subst e;simp[h,mget]
   ·have h3:¬k=q:=λh2=>e h2.symm;simp[h,mget,e,h3]
  ·by_cases e:x.1=q
   ·have h3:¬q=k:=λh2=>h (by rw[e,h2]);simp[mget,e,h3]
   ·simp only[h,if_false,mget,e,zof l k v q]
theorem zo1(l:ML κ)(x:κ×Value×Nat)(q:κ):mget (l++[x]) q=(mget l q).or (if x.1=q then some x.2.1 else none):=by
 induction l with
 |nil=>simp[mget]
 |cons y l ih=>
  simp only[List.cons_append,mget];by_cases e:y.1=q
  ·simp[e]
  ·simp only[e,if_false,ih]
theorem zjc(l:ML κ)(k:κ)(v:Value)(c:Nat)(q:κ):mget (zic l k v c) q=if q=k then some v else mget l q:=by
 unfold zic;cases h:mget l k with
 |none=>
  simp only[Option.isSome_none,Bool.false_eq_true,if_false,zo1];by_cases e:q=k
  ·subst e;simp[h]
  ·have:¬k=q:=λh2=>e h2.symm;simp[e,this]
 |some u=>simp only[Option.isSome_some,if_true,zof,h,and_true]
theorem MWF.put{l:ML κ}{c:Nat}(h:MWF l c)(k:κ)(v:Value):MWF (zic l k v c) (zjn l k c):=by
 unfold zic zjn;cases hk:mget l k with
 |none=>
  simp only[Option.isSome_none,Bool.false_eq_true,if_false];have hn:=(zbr l k).1 hk;refine⟨?_,?_,λx hx=>?_⟩
  ·rw[List.map_append,List.nodup_append];refine⟨h.keys,by simp,λa ha b hb=>?_⟩;simp at hb;subst hb;exactλe=>hn (e▸ha)
  ·rw[List.map_append,List.nodup_append];refine⟨h.born,by simp,λa ha b hb=>?_⟩;simp at hb;obtain⟨x,hx,rfl⟩:=List.mem_map.1 ha;have:=h.lt x hx;omega
  ·rcases List.mem_append.1 hx with hx|hx
   ·have:=h.lt x hx;omega
   ·simp at hx;subst hx;exact Nat.lt_succ_self _
 |some u=>simp only[Option.isSome_some,if_true];refine⟨by rw[(zkb l k v).1];exact h.keys,by rw[(zkb l k v).2];exact h.born,λx hx=>?_⟩;have:x.2.2∈(mmod l k v).map (·.2.2):=List.mem_map.2 ⟨x,hx,rfl⟩;rw[(zkb l k v).2]at this;obtain⟨y,hy,e⟩:=List.mem_map.1 this;rw[<-e];exact h.lt y hy
theorem zlt:∀(l:ML κ)(k:κ),(mdel l k).Sublist l
 |[],_=>List.Sublist.refl _
 |x::l,k=>by
  simp only[mdel];by_cases h:x.1=k
  ·rw[if_pos h];exact List.sublist_cons_self x l
  ·rw[if_neg h];exact(zlt l k).cons_cons x
theorem MWF.del{l:ML κ}{c:Nat}(h:MWF l c)(k:κ):MWF (mdel l k) c:=⟨((zlt l k).map _).nodup h.keys,((zlt l k).map _).nodup h.born,λx hx=>h.lt x ((zlt l k).subset hx)⟩
theorem zod{l:ML κ}{c:Nat}(h:MWF l c)(k q:κ):mget (mdel l k) q=if q=k then none else mget l q:=by
 have:=h.keys;clear h
 induction l with
 |nil=>simp[mdel,mget]
 |cons x l ih=>
  simp only[List.map_cons,List.nodup_cons]at this;simp only[mdel,mget];by_cases hx:x.1=k
  ·by_cases e:q=k
   ·subst e;simp only[hx,if_true];rw[<-hx];exact(zbr l _).2 this.1
   ·have:¬x.1=q:=λh2=>e (by rw[<-h2,hx]);rw[if_pos hx,if_neg e,if_neg this]
  ·by_cases e:x.1=q
   ·have h3:¬q=k:=λh2=>hx (by rw[e,h2]);simp[mget,e,h3]
   ·simp only[hx,if_false,mget,e,ih this.2]
theorem next_m{w:World}{ty:TypeId}{b it since last:Nat}{seen:Array Nat}{l:ML κ}{c:Nat}{K:Value->World->Prop}(hb:bk w b=some (MO emb l c))(hi:bk w it=some (.mapIter (some b) since seen last))(hlt:∀x∈l,x.2.2<since)(hsl:since<=last)
  (h0:(∀x∈l,x.2.2∈seen)->K (.tuple #[.bool false]) w)
  (h1:∀x∈l,x.2.2∉seen->∀w1,(w1=w\/w1=w.drew)->K (tup [.bool true,emb x.1,x.2.1]) (setb w1 it (.mapIter (some b) since (seen.push x.2.2) c))):
  st P (zqp (pt it 0) false ty) w K:=by
 have hmes:∀x∈(mes emb l).toList,∃y∈l,x=⟨emb y.1,y.2.1,y.2.2⟩:=λx hx=>by simp[mes]at hx;obtain⟨a,b,c,h,e⟩:=hx;exact⟨_,h,e.symm⟩
 have hold:∀x∈(mes emb l).toList,x.born<since:=λx hx=>by obtain⟨y,hy,rfl⟩:=hmes x hx;exact hlt y hy
 have hgb:(getObj b).run P w=.ok (.map (mes emb l) c) w:=MapKept.run_getObj_map hb;have hgi:(getObj it).run P w=.ok (.mapIter (some b) since seen last) w:=by have:w.heap[it]?=some (.mapIter (some b) since seen last):=hi;simp[getObj,Sem.run,this]
 have hset:∀(w1:World)(o':Obj),w1.heap=w.heap->(setObj it o').run P w1=.ok () (setb w1 it o'):=λw1 o' he=>by
  have:w1.heap[it]?=some (.mapIter (some b) since seen last):=by rw[he];exact hi
  simp[setObj,Sem.run,this,setb]
 have key:((∀x∈l,x.2.2∈seen)/\(Instr.next (pt it 0) false ty).run P w=.ok (.tuple #[.bool false]) w)\/
   ∃x∈l,x.2.2∉seen/\∃w1,(w1=w\/w1=w.drew)/\(Instr.next (pt it 0) false ty).run P w=.ok (.tuple #[.bool true,emb x.1,x.2.1]) (setb w1 it (.mapIter (some b) since (seen.push x.2.2) c)):=by
  simp only[Instr.next,Sem.run_bind,hgi,Result.andThen_ok,hgb,next_test_false seen (mes emb l) since last hold hsl,Bool.false_eq_true,if_false];have hL:∀x,x∈(Array.filter (λe=> !seen.contains e.born) (mes emb l))↔x∈mes emb l/\x.born∉seen:=λx=>by simp[Array.mem_filter]
  generalize Array.filter (λe=> !seen.contains e.born) (mes emb l)=L at hL⊢;have hmem:∀x∈L.toList,x.born<since:=λx hx=>hold x (by have:=((hL x).1 (by simpa using hx)).1;simpa using this);have e1:L.filter (λx=>decide (x.born<since))=L:=Array.filter_eq_self.2 (λx hx=>by simpa using hmem x (by simpa using hx));have e2:L.filter (λx=>decide (x.born>=since))=#[]:=by
   rw[Array.filter_eq_empty_iff];intro x hx;have:=hmem x (by simpa using hx);simp
   omega
  simp only[e1,e2,Array.append_empty];by_cases h0:L.size=0
  ·left;have:L=#[]:=Array.eq_empty_of_size_eq_zero h0;subst this;refine⟨λx hx=>?_,?_⟩
   ·have:=(hL ⟨emb x.1,x.2.1,x.2.2⟩);simp only[Array.not_mem_empty,false_iff,not_and,Decidable.not_not]at this;exact this (by simp only[mes,List.mem_toArray,List.mem_map];exact⟨x,hx,rfl⟩)
   ·simp[choose,Sem.run,Question.forced]
  ·right;have hne:L.isEmpty=false:=by simp[Array.isEmpty,h0]
   simp only[hne,Bool.false_eq_true,if_false,Array.empty_append,Array.size_map];have hch:∃(j:Nat)(w1:World),j<L.size/\(w1=w\/w1=w.drew)/\(choose (Question.mapNext L.size)).run P w=.ok j w1:=by
    by_cases hf:L.size<=1
    ·exact⟨0,w,by omega,.inl rfl,by simp[choose,Sem.run,Question.forced,hf]⟩
    ·exact⟨_,w.drew,Nat.mod_lt _ (by omega),.inr rfl,by simp only[choose,Sem.run,Question.forced,decide_eq_true_eq,hf,if_false,Question.cut];rfl⟩
   obtain⟨j,w1,hj,hal,hrun⟩:=hch;have hm:L[j]∈L:=Array.getElem_mem hj;obtain⟨m1,m2⟩:=(hL _).1 hm;obtain⟨y,hy,ey⟩:=hmes L[j] (by simpa using m1);rw[ey]at m2;refine⟨y,hy,m2,w1,hal,?_⟩;have hheap:w1.heap=w.heap:=by rcases hal with rfl|rfl<;>rfl
   simp only[hrun,Result.andThen_ok,Array.getElem?_map,Array.getElem?_eq_getElem hj,Option.map_some,Sem.run_bind,hset w1 _ hheap,ey,Sem.run_pure]
 rcases key with⟨k1,k2⟩|⟨x,hx,hs,w1,hw,k2⟩
 ·rw[zqp,zav (zbd k2)];exact h0 k1
 ·rw[zqp,zav (zbd k2)];exact h1 x hx hs w1 hw
end
theorem zg2{P:Program}{kt:TypeId}(h:P.underlying kt=some .string):KE P kt emS:=by
 refine⟨⟨_,h,λa b=>?_,λe n a=>?_⟩,λa=>?_⟩
 ·simp only[emS,S,Instr.sameNow,Option.some.injEq];rw[beq_toListBytes];simp
  by_cases e:a=b<;>simp[e]
 ·unfold Instr.checkKey;simp only[zau,zak h,Option.bind_some];rfl
 ·simp[emS,S,Instr.sameBits,beq_toListBytes]
theorem zpD{P:Program}{kt:TypeId}(h:P.underlying kt=some (.int .i64)):KE P kt emI:=by
 refine⟨⟨_,h,λa b=>?_,λe n a=>?_⟩,λa=>?_⟩
 ·simp only[emI,Instr.sameNow,if_true,Option.some.injEq];by_cases e:a=b<;>simp[e]
 ·unfold Instr.checkKey;simp only[zau,zak h,Option.bind_some];rfl
 ·simp[emI,Instr.sameBits]
section
def mlS(o:Option Obj):Option (ML (List UInt8)×Nat):=
 match o with
 |some (.map es c)=>(es.toList.mapM λ(e:MapEntry)=>match e.key with| .string s=>some (s.data.toList,e.val,e.born)|_=>none).map (·,c)
 |_=>none
def mlI(o:Option Obj):Option (ML Int×Nat):=
 match o with
 |some (.map es c)=>(es.toList.mapM λ(e:MapEntry)=>match e.key with| .int .i64 n=>some (n,e.val,e.born)|_=>none).map (·,c)
 |_=>none
theorem zlG{α β:Type}(f:α->Option β)(g:β->α)(h:∀b,f (g b)=some b):∀l:List β,(l.map g).mapM f=some l
 |[]=>rfl
 |b::l=>by simp[List.mapM_cons,h,zlG f g h l]
@[go_sem]theorem mlS_MO(l:ML (List UInt8))(c:Nat):mlS (some (MO emS l c))=some (l,c):=by simp only[mlS,MO,mes];rw[zlG _ (λx:List UInt8×Value×Nat=>(⟨emS x.1,x.2.1,x.2.2⟩:MapEntry)) (λb=>by simp[emS,S])];rfl
@[go_sem]theorem ztS(l:ML Int)(c:Nat):mlI (some (MO emI l c))=some (l,c):=by simp only[mlI,MO,mes];rw[zlG _ (λx:Int×Value×Nat=>(⟨emI x.1,x.2.1,x.2.2⟩:MapEntry)) (λb=>by simp[emI])];rfl
theorem zo8{o:Option Obj}{l:ML Int}{c:Nat}(h:mlI o=some (l,c)):o=some (MO emI l c):=by
 unfold mlI at h;split at h
 ·rename_i es c';rw[Option.map_eq_some_iff]at h;obtain⟨l',h1,h2⟩:=h;injection h2 with h2 h3;subst h2 h3;have:∀(es:List MapEntry)(l':ML Int),es.mapM (λ(e:MapEntry)=>match e.key with| .int .i64 n=>some (n,e.val,e.born)|_=>none)=some l'->es=l'.map λx=>(⟨emI x.1,x.2.1,x.2.2⟩:MapEntry):=by
   intro es
   induction es with
   |nil=>intro l' h;simp at h;subst h;rfl
   |cons e es ih=>
    intro l' h;rw[List.mapM_cons]at h;simp only[Option.bind_eq_bind,Option.bind_eq_some_iff,Option.pure_def,Option.some.injEq]at h;obtain⟨x,hx,r,hr,rfl⟩:=h;rw[ih r hr];split at hx
    ·rename_i s hs;injection hx with hx;subst hx;cases e;simp at hs;subst hs;simp
    ·cases hx
  have e:=this _ _ h1;simp only[MO,mes];rw[<-e]
 ·cases h
variable{P:Program}(w:World)
theorem luI{t kt et:TypeId}{z:Value}(ht:P.underlying t=some (.map kt et))(hk:P.underlying kt=some (.int .i64))(hz:rp P (zeroValue et)=some z)(K:Value->World->Prop)(b:Nat)(k:Int):
  st P (za3 t (.map (some b)) (.int .i64 k) true) w K=optE (mlI (bk w b)) (λq=>K (tup [(mget q.1 k).getD z,.bool (mget q.1 k).isSome]) w) (farK P (za3 t (.map (some b)) (.int .i64 k) true) w K):=by
 cases h:mlI (bk w b)with
 |none=>rfl
 |some q=>exact zn6 K ht (zpD hk) hz (zo8 h) k
theorem luI1_rd{t kt et:TypeId}{z:Value}(ht:P.underlying t=some (.map kt et))(hk:P.underlying kt=some (.int .i64))(hz:rp P (zeroValue et)=some z)(K:Value->Prop)(b:Nat)(k:Int):
  rd P (za3 t (.map (some b)) (.int .i64 k) false) w K=optE (mlI (bk w b)) (λq=>K ((mget q.1 k).getD z)) (farR P (za3 t (.map (some b)) (.int .i64 k) false) w K):=by
 cases h:mlI (bk w b)with
 |none=>rfl
 |some q=>exact zo9 K ht (zpD hk) hz (zo8 h) k
theorem upI{t kt et:TypeId}(ht:P.underlying t=some (.map kt et))(hk:P.underlying kt=some (.int .i64))(K:Value->World->Prop)(b:Nat)(k:Int)(v:Value):
  st P (zee t (.map (some b)) (.int .i64 k) v) w K=optE (mlI (bk w b)) (λq=>K undef (setb w b (MO emI (zic q.1 k v q.2) (zjn q.1 k q.2)))) (farK P (zee t (.map (some b)) (.int .i64 k) v) w K):=by
 cases h:mlI (bk w b)with
 |none=>rfl
 |some q=>exact zlv K ht (zpD hk) (zo8 h) k v
theorem mkI(t:TypeId)(K:Value->World->Prop):st P (zlF t none) w K=K (.map (some w.heap.size)) (w.alloc (MO emI [] 0)):=znh K t
end
end Go.X
end
section
namespace Go.X
open Go Go.RowKit Go.Lib
def rest(l:List UInt8)(i:Nat):List (List UInt8):=if i<=l.length then Pa.els (l.drop i)else[]
theorem zrj{l:List UInt8}{i j:Nat}(hi:i<=j)(hj:j<=l.length)(hno:∀k(hk:k<l.length),i<=k->k<j->l[k]≠47)(hend:j=l.length\/∃h:j<l.length,l[j]=47):
  rest l i=(l.drop i).take (j - i)::rest l (j+1):=by
 have e1:l.drop i=(l.drop i).take (j - i)++l.drop j:=by have h:=(List.take_append_drop (j - i) (l.drop i)).symm;rw[List.drop_drop,show i+(j - i)=j by omega]at h;exact h
 have hnot:47∉(l.drop i).take (j - i):=by intro hm;obtain⟨k,hk,e⟩:=List.getElem_of_mem hm;simp only[List.length_take,List.length_drop]at hk;rw[List.getElem_take,List.getElem_drop]at e;exact hno (i+k) (by omega) (by omega) (by omega) e
 have hh:l.drop j=[]\/(l.drop j).head?=some 47:=by
  rcases hend with h|⟨h,e⟩
  ·exact .inl (by rw[h];simp)
  ·right;rw[List.head?_drop,List.getElem?_eq_getElem h,e]
 have e2:=Pa.els_elem ((l.drop i).take (j - i)) (l.drop j) hnot hh;rw[<-e1]at e2;unfold rest;rw[if_pos (by omega),e2];congr 1;rcases hend with h|⟨h,e⟩
 ·subst h;rw[if_neg (by omega),List.drop_length];rfl
 ·rw[if_pos (by omega),List.drop_eq_getElem_cons h];rfl
theorem zsN{w:World}{B:Nat}{e:TypeId}{size n cap b:Nat}{xs:List Value}(h:w.ownsRow B e size (sl b 0 n cap) n xs){m:Nat}(hm:m<=n):w.ownsRow B e size (sl b 0 m cap) m (xs.take (m*size)):=by
 refine⟨?_,?_⟩
 ·rw[List.length_take,h.1];have:=Nat.mul_le_mul_right size hm;omega
 ·rcases h.2 with⟨h1,_⟩|⟨g,cap',cur,h1,h2,h3,h4,h5,h6,h7⟩
  ·cases h1
  ·injection h1 with e1 e2 e3;injection e1 with e1;injection e1 with e1;subst e1 e3;refine .inr ⟨_,_,cur,rfl,h2,h3,by omega,h5,h6,?_⟩;rw[<-h7,List.take_take,Nat.min_eq_left (Nat.mul_le_mul_right size hm)]
theorem zsI(ro:Bool)(st:List (List UInt8))(e:List UInt8):∀x∈Pa.cleanStep ro st e,x∈st\/(x=e/\e≠[46]):=by
 intro x hx;unfold Pa.cleanStep at hx;by_cases c1:e=[]\/e=[46]
 ·rw[if_pos c1]at hx;exact .inl hx
 rw[if_neg c1]at hx;have c2:e≠[46]:=λh=>c1 (.inr h);by_cases c3:e=[46,46]
 ·rw[if_pos c3]at hx;cases st with
  |nil=>
   cases ro with
   |true=>simp at hx
   |false=>simp at hx;exact .inr ⟨hx,c2⟩
  |cons y r=>
   simp only at hx;by_cases c4:y=[46,46]
   ·rw[if_pos c4]at hx;rcases List.mem_cons.1 hx with h|h
    ·exact .inr ⟨h,c2⟩
    ·exact .inl h
   ·rw[if_neg c4]at hx;exact .inl (List.mem_cons_of_mem _ hx)
 ·rw[if_neg c3]at hx;rcases List.mem_cons.1 hx with h|h
  ·exact .inr ⟨h,c2⟩
  ·exact .inl h
theorem zpN(ro:Bool):∀(es st:List (List UInt8)),∀x∈es.foldl (Pa.cleanStep ro) st,x∈st\/(x∈es/\x≠[46])
 |[],st,x,hx=>.inl hx
 |e::es,st,x,hx=>by
  rw[List.foldl_cons]at hx;rcases zpN ro es _ x hx with h|h
  ·rcases zsI ro st e x h with h|⟨h,h2⟩
   ·exact .inl h
   ·subst h;exact .inr ⟨List.mem_cons_self ..,h2⟩
  ·exact .inr ⟨List.mem_cons_of_mem _ h.1,h.2⟩
theorem zra:∀(l:List UInt8),∀x∈Pa.els l,x.length<=l.length
 |[],x,hx=>by simp[Pa.els]at hx;subst hx;simp
 |c::t,x,hx=>by
  have ih:=zra t;unfold Pa.els at hx;by_cases hc:c=47
  ·rw[if_pos hc]at hx;rcases List.mem_cons.1 hx with h|h
   ·subst h;simp
   ·have:=ih x h;simp only[List.length_cons];omega
  ·rw[if_neg hc]at hx;cases he:Pa.els t with
   |nil=>rw[he]at hx;simp at hx;subst hx;simp
   |cons e r=>
    rw[he]at hx ih;rcases List.mem_cons.1 hx with h|h
    ·subst h;have:=ih e (List.mem_cons_self ..);simp only[List.length_cons];omega
    ·have:=ih x (List.mem_cons_of_mem _ h);simp only[List.length_cons];omega
def jf(ro:Bool)(xs:List (List UInt8)):List UInt8:=if ro=true then xs.flatMap (47::·)else[47].intercalate xs
theorem zhv(x y:List UInt8)(r:List (List UInt8)):([47]:List UInt8).intercalate (x::y::r)=x++47::([47]:List UInt8).intercalate (y::r):=by simp[List.intercalate]
theorem zjd:∀(xs:List (List UInt8)),xs≠[]->xs.flatMap (47::·)=47::([47]:List UInt8).intercalate xs
 |[],h=>absurd rfl h
 |[x],_=>by simp[List.intercalate]
 |x::y::r,_=>by rw[List.flatMap_cons,zjd (y::r) (by simp),zhv];simp
theorem zlK(ro:Bool)(xs:List (List UInt8))(x:List UInt8):jf ro (xs++[x])=(if xs≠[]\/ro=true then jf ro xs++[47]else jf ro xs)++x:=by
 cases ro with
 |true=>simp[jf]
 |false=>
  by_cases h:xs=[]
  ·subst h;simp[jf,List.intercalate]
  ·simp only[jf,Bool.false_eq_true,if_false,or_false];rw[Pa.inter_snoc x xs h,if_pos h];simp
theorem zri{xs:List (List UInt8)}{i:Nat}(h:i<xs.length):xs.take (i+1)=xs.take i++[xs[i]]:=by rw[List.take_succ_eq_append_getElem h]
theorem zpT:∀(l:List UInt8),∀x∈Pa.els l,47∉x
 |[],x,hx=>by simp[Pa.els]at hx;subst hx;simp
 |c::t,x,hx=>by
  have ih:=zpT t;unfold Pa.els at hx;by_cases hc:c=47
  ·rw[if_pos hc]at hx;rcases List.mem_cons.1 hx with h|h
   ·subst h;simp
   ·exact ih x h
  ·rw[if_neg hc]at hx;cases he:Pa.els t with
   |nil=>rw[he]at hx;simp at hx;subst hx;simp;exactλh=>hc h.symm
   |cons e r=>
    rw[he]at hx ih;rcases List.mem_cons.1 hx with h|h
    ·subst h;have:=ih e (List.mem_cons_self ..);simp only[List.mem_cons,not_or];exact⟨λh=>hc h.symm,this⟩
    ·exact ih x (List.mem_cons_of_mem _ h)
def Gd(ro:Bool):List (List UInt8)->Prop
 |[]=>True
 |x::r=>x≠[]/\x≠[46]/\47∉x/\(x=[46,46]->ro=false/\∀y,r.head?=some y->y=[46,46])/\Gd ro r
theorem gd_step(ro:Bool)(st:List (List UInt8))(e:List UInt8)(h:Gd ro st)(he:47∉e):Gd ro (Pa.cleanStep ro st e):=by
 unfold Pa.cleanStep;by_cases c1:e=[]\/e=[46]
 ·rw[if_pos c1];exact h
 rw[if_neg c1];by_cases c3:e=[46,46]
 ·rw[if_pos c3];cases st with
  |nil=>
   cases ro with
   |true=>trivial
   |false=>exact⟨by simp[c3],by simp[c3],he,λ_=>⟨rfl,λy hy=>by cases hy⟩,trivial⟩
  |cons y r=>
   simp only
   by_cases c4:y=[46,46]
   ·rw[if_pos c4];exact⟨by simp[c3],by simp[c3],he,λ_=>⟨(h.2.2.2.1 c4).1,λz hz=>by cases hz;exact c4⟩,h⟩
   ·rw[if_neg c4];exact h.2.2.2.2
 ·rw[if_neg c3];exact⟨λq=>c1 (.inl q),λq=>c1 (.inr q),he,λq=>absurd q c3,h⟩
theorem zrx(ro:Bool):∀(es st:List (List UInt8)),Gd ro st->(∀e∈es,47∉e)->Gd ro (es.foldl (Pa.cleanStep ro) st)
 |[],st,h,_=>h
 |e::es,st,h,he=>zrx ro es _ (gd_step ro st e h (he e (List.mem_cons_self ..))) λx hx=>he x (List.mem_cons_of_mem _ hx)
theorem zro(ro:Bool):∀(st:List (List UInt8)),Gd ro st->st.reverse.foldl (Pa.cleanStep ro) []=st
 |[],_=>rfl
 |x::r,h=>by
  rw[List.reverse_cons,List.foldl_append,zro ro r h.2.2.2.2];show Pa.cleanStep ro r x=x::r;by_cases c:x=[46,46]
  ·obtain⟨h1,h2⟩:=h.2.2.2.1 c;subst c h1;cases r with
   |nil=>rfl
   |cons y r=>obtain rfl:=h2 y rfl;rfl
  ·exact Pa.step_elem ro r x h.1 h.2.1 c
theorem zsO:∀(x:List UInt8),47∉x->Pa.els x=[x]
 |x,h=>by have:=Pa.els_elem x [] h (.inl rfl);rw[List.append_nil]at this;rw[this];rfl
theorem zob:∀(xs:List (List UInt8)),(∀x∈xs,47∉x)->xs.flatMap Pa.els=xs
 |[],_=>rfl
 |x::r,h=>by rw[List.flatMap_cons,zsO x (h x (List.mem_cons_self ..)),zob r λy hy=>h y (List.mem_cons_of_mem _ hy)];rfl
theorem zq4{ro:Bool}:∀{st:List (List UInt8)},Gd ro st->∀x∈st,x≠[]/\47∉x
 |[],_,x,hx=>by cases hx
 |y::r,h,x,hx=>by
  rcases List.mem_cons.1 hx with rfl|hx
  ·exact⟨h.1,h.2.2.1⟩
  ·exact zq4 h.2.2.2.2 x hx
def zcW(l:List UInt8):List (List UInt8):=(Pa.els l).foldl (Pa.cleanStep (l.head?==some 47)) []
theorem zrc(l:List UInt8):∀x∈zcW l,x.length<=l.length/\x≠[46]:=by
 intro x hx;rcases zpN _ _ _ x hx with h|h
 ·cases h
 ·exact⟨zra l x h.1,h.2⟩
theorem zpJ(l:List UInt8):Gd (l.head?==some 47) (zcW l):=zrx _ _ _ trivial (zpT l)
theorem zrh(l:List UInt8):Pa.clean l=if(l.head?==some 47)=true then 47::jf false (zcW l).reverse else if zcW l=[]then[46]else jf false (zcW l).reverse:=by
 rw[Pa.clean_eq_cleanEls];by_cases hne:l=[]
 ·subst hne;rfl
 cases hro:(l.head?==some 47)with
 |true=>rw[Pa.cleanEls_abs l hne hro,if_pos rfl];unfold zcW;rw[hro];rfl
 |false=>
  rw[Pa.cleanEls_rel l hne hro];simp only[Bool.false_eq_true,if_false];have g:=zpJ l;have e:(Pa.els l).foldl (Pa.cleanStep false) []=zcW l:=by unfold zcW;rw[hro]
  rw[e];by_cases q:zcW l=[]
  ·rw[if_pos q,q];rfl
  ·rw[if_neg q];obtain⟨y,Y,hY⟩:∃y Y,(zcW l).reverse=y::Y:=by
    cases h:(zcW l).reverse with
    |nil=>exact absurd (List.reverse_eq_nil_iff.1 h) q
    |cons y Y=>exact⟨y,Y,rfl⟩
   have hy:=zq4 g y (by rw[<-List.mem_reverse,hY];simp);have hj:=Pa.J_head y Y hy.1;rw[<-hY]at hj;rw[if_neg hj.2];rfl
def norm(l:List UInt8):List UInt8:=if Pa.clean l=[46]\/Pa.clean l=[46,46]then[47]else Pa.clean l
theorem zrf(xs:List (List UInt8))(h:∀x∈xs,x≠[46]):([47]:List UInt8).intercalate xs≠[46]:=by
 match xs,h with
 |[],_=>simp[List.intercalate]
 |[x],h=>simpa[List.intercalate]using h x (by simp)
 |x::y::r,_=>
  rw[zhv];intro e;have:(47:UInt8)∈x++47::([47]:List UInt8).intercalate (y::r):=by simp
  rw[e]at this;simp at this
theorem zq2(l:List UInt8):norm l=if jf (l.head?==some 47) (zcW l).reverse=[]\/jf (l.head?==some 47) (zcW l).reverse=[46,46]then[47]else jf (l.head?==some 47) (zcW l).reverse:=by
 unfold norm;rw[Pa.clean_eq_cleanEls];by_cases hne:l=[]
 ·subst hne;rfl
 ·cases hro:(l.head?==some 47)with
  |true=>
   rw[Pa.cleanEls_abs l hne hro];have e:(Pa.els l).foldl (Pa.cleanStep true) []=zcW l:=by rw[zcW,hro]
   rw[e,if_neg (by simp)];simp only[jf,if_true];by_cases q:(zcW l).reverse=[]
   ·rw[q];rfl
   ·rw[zjd _ q,if_neg (by simp)]
  |false=>
   rw[Pa.cleanEls_rel l hne hro];have e:(Pa.els l).foldl (Pa.cleanStep false) []=zcW l:=by rw[zcW,hro]
   rw[e];simp only[jf,Bool.false_eq_true,if_false];have hd:=zrf (zcW l).reverse (λx hx=>(zrc l x (List.mem_reverse.1 hx)).2);generalize ([47]:List UInt8).intercalate (zcW l).reverse=z at hd⊢;by_cases q:z=[]
   ·subst q;rfl
   ·rw[if_neg q];simp[q,hd]
theorem zbH(l:List UInt8):(norm l).length<=l.length+1:=by
 unfold norm;split
 ·simp
 ·exact Pa.clean_length_le_succ l
end Go.X
end
section
namespace Go.X
open Go
abbrev Str:=List UInt8
def andI(x y:Int):Int:=(BitVec.ofInt 64 x&&&BitVec.ofInt 64 y).toInt
def orI(x y:Int):Int:=(BitVec.ofInt 64 x|||BitVec.ofInt 64 y).toInt
def zcq(x y:Int):Int:=(BitVec.ofInt 64 x&&&~~~BitVec.ofInt 64 y).toInt
theorem znl(x:BitVec 64):IntKind.i64.wrap (x.toNat:Int)=x.toInt:=by rw[BitVec.toInt_eq_toNat_cond];have:=x.isLt;simp only[IntKind.wrap];simp[IntKind.bits,IntKind.signed];split<;>omega
section
variable{P:Program}(K:Value->Prop)
@[go_sem high]theorem oandI(t:TypeId)(cx cy:Bool)(x y:Int):pu P (oBin .and t cx cy (.int .i64 x) (.int .i64 y)) K=K (.int .i64 (andI x y)):=zcU K (by simp only[binOp,Op.intBits];rw[if_neg (by simp),zhx];exact congrArg (λz=>some (Value.int .i64 z)) (znl _))
@[go_sem high]theorem oorI(t:TypeId)(cx cy:Bool)(x y:Int):pu P (oBin .or t cx cy (.int .i64 x) (.int .i64 y)) K=K (.int .i64 (orI x y)):=zcU K (by simp only[binOp,Op.intBits];rw[if_neg (by simp),zhx];exact congrArg (λz=>some (Value.int .i64 z)) (znl _))
@[go_sem high]theorem oandNotI(t:TypeId)(cx cy:Bool)(x y:Int):pu P (oBin .andNot t cx cy (.int .i64 x) (.int .i64 y)) K=K (.int .i64 (zcq x y)):=zcU K (by simp only[binOp,Op.intBits];rw[if_neg (by simp),zhx];exact congrArg (λz=>some (Value.int .i64 z)) (znl _))
end
namespace SM
structure Node where
 dir:Bool
 mode:Int
 data:Str
 time:Int
 name:Str
 deriving DecidableEq
structure Hnd where
 node:Nat
 pos:Int
 listed:Int
 cl:Bool
 ro:Bool
 deriving DecidableEq
structure Info where
 name:Str
 size:Int
 mode:Int
 dir:Bool
 time:Int
 deriving DecidableEq
structure Ans where
 e:Int
 n:Int
 off:Int
 data:Str
 names:List Str
 infos:List Info
 deriving DecidableEq
abbrev Ans.z:Ans:=⟨0,0,0,[],[],[]⟩
abbrev Ans.err(e:Int):Ans:=⟨e,0,0,[],[],[]⟩
structure Stp where
 op:Int
 name:Str
 other:Str
 flag:Int
 perm:Int
 h:Int
 data:Str
 off:Int
 wh:Int
 n:Int
 deriving DecidableEq
abbrev HM:=List (Int×Hnd)
def hget:HM->Int->Option Hnd
 |[],_=>none
 |x::l,k=>if x.1=k then some x.2 else hget l k
def hput:HM->Int->Hnd->HM
 |[],k,h=>[(k,h)]
 |x::l,k,h=>if x.1=k then(k,h)::l else x::hput l k h
theorem zbP(l:HM)(k:Int)(h:Hnd)(j:Int):hget (hput l k h) j=if j=k then some h else hget l j:=by
 induction l with
 |nil=>
  simp only[hput,hget];by_cases e:k=j
  ·rw[if_pos e,if_pos e.symm]
  ·rw[if_neg e,if_neg (λq=>e q.symm)]
 |cons x l ih=>
  simp only[hput];by_cases e:x.1=k
  ·rw[if_pos e];simp only[hget];by_cases e2:k=j
   ·rw[if_pos e2,if_pos e2.symm]
   ·rw[if_neg e2,if_neg (λq=>e2 q.symm),if_neg (λq=>e2 (by rw[<-e,q]))]
  ·rw[if_neg e];simp only[hget,ih];by_cases e2:x.1=j
   ·rw[if_pos e2,if_pos e2,if_neg (λq=>e (by rw[e2,q]))]
   ·rw[if_neg e2,if_neg e2]
structure Mem where
 names:List Str
 ats:List Nat
 nodes:List Node
 hs:HM
def zfr(l:List Str)(n:Str)(i:Nat):Nat×Bool:=
 match l with
 |[]=>(i,false)
 |x::l=>if Op.bytesLess x n=true then zfr l n (i+1)else(i,decide (x=n))
def zbj(l:List Str)(n:Str):Nat×Bool:=zfr l n 0
def Mem.find(m:Mem)(n:Str):Option Nat:=if(zbj m.names n).2 then some (m.ats.getD (zbj m.names n).1 0)else none
def Mem.put(m:Mem)(n:Str)(x:Nat):Mem:=
 let p:=zbj m.names n
 if p.2 then{m with ats:=m.ats.set p.1 x}
 else{m with names:=m.names.take p.1++n::m.names.drop p.1,ats:=m.ats.take p.1++x::m.ats.drop p.1}
def Mem.drop(m:Mem)(n:Str):Mem:=
 let p:=zbj m.names n
 if p.2 then{m with names:=m.names.take p.1++m.names.drop (p.1+1),ats:=m.ats.take p.1++m.ats.drop (p.1+1)}else m
def Mem.add(m:Mem)(n:Str)(x:Node):Mem:=Mem.put {m with nodes:=m.nodes++[{x with name:=n}]} n m.nodes.length
def ls(l:Str):Nat->Option Nat
 |0=>none
 |i+1=>if l.getD i 0=47 then some i else ls l i
def zbk(l:Str):Option Nat:=ls l l.length
def parent(l:Str):Str:=match zbk l with|some 0=>[47]|some i=>l.take i|none=>[47]
def base(l:Str):Str:=match zbk l with|some i=>l.drop (i+1)|none=>l
def below(n d:Str):Bool:=if d=[47]then decide (n≠[47])else decide (d.length<n.length)&&decide (n.take d.length=d)&&decide (n.getD d.length 0=47)
def Mem.children(m:Mem)(d:Str):List Str:=m.names.filter λn=>decide (n≠[47])&&decide (parent n=d)
theorem ls_lt{l:Str}:∀{i j:Nat},ls l i=some j->j<i
 |0,_,h=>by cases h
 |i+1,j,h=>by
  simp only[ls]at h;by_cases e:l.getD i 0=47
  ·rw[if_pos e]at h;injection h with h;omega
  ·rw[if_neg e]at h;have:=ls_lt h;omega
theorem zk9{l:Str}{i:Nat}(h:zbk l=some i):i<l.length:=ls_lt h
theorem zaZ(l:Str):(parent l).length<l.length\/parent l=[47]:=by
 unfold parent;split
 ·exact .inr rfl
 ·rename_i i hi;have:=zk9 hi;left;simp;omega
 ·exact .inr rfl
theorem zjm(l:Str):(parent l).length<=l.length+1:=by
 rcases zaZ l with h|h
 ·omega
 ·rw[h];simp
def Mem.parentsF(m:Mem)(n:Str)(perm:Int):Nat->Mem
 |0=>m
 |f+1=>
  match m.find (parent n)with
  |some _=>m
  |none=>(m.parentsF (parent n) perm f).add (parent n) ⟨true,orI 2147483648 perm,[],0,[]⟩
def Mem.parents(m:Mem)(n:Str)(perm:Int):Mem:=m.parentsF n perm (n.length+2)
theorem zqk(m:Mem)(n:Str)(x:Nat):(m.put n x).names.length<=m.names.length+1/\(m.put n x).nodes=m.nodes/\(m.ats.length=m.names.length->(m.put n x).ats.length=(m.put n x).names.length):=by
 unfold Mem.put;simp only
 split
 ·exact⟨Nat.le_succ _,rfl,λh=>by simpa using h⟩
 ·refine⟨?_,rfl,λh=>?_⟩
  ·simp;omega
  ·simp;omega
theorem zqi(m:Mem)(n:Str)(x:Node):(m.add n x).names.length<=m.names.length+1/\(m.add n x).nodes.length=m.nodes.length+1/\(m.ats.length=m.names.length->(m.add n x).ats.length=(m.add n x).names.length):=by obtain⟨h1,h2,h3⟩:=zqk {m with nodes:=m.nodes++[{x with name:=n}]} n m.nodes.length;exact⟨h1,by unfold Mem.add;rw[h2];simp,h3⟩
theorem zcN(m:Mem)(perm:Int):∀(f:Nat)(l:Str),(m.parentsF l perm f).names.length<=m.names.length+f/\(m.parentsF l perm f).nodes.length<=m.nodes.length+f/\(m.ats.length=m.names.length->(m.parentsF l perm f).ats.length=(m.parentsF l perm f).names.length)
 |0,l=>⟨Nat.le_refl _,Nat.le_refl _,id⟩
 |f+1,l=>by
  simp only[Mem.parentsF];split
  ·exact⟨by omega,by omega,id⟩
  ·obtain⟨h1,h2,h3⟩:=zcN m perm f (parent l);obtain⟨k1,k2,k3⟩:=zqi (m.parentsF (parent l) perm f) (parent l) ⟨true,orI 2147483648 perm,[],0,[]⟩;exact⟨by omega,by omega,λh=>k3 (h3 h)⟩
theorem zkw(m:Mem)(perm:Int)(hr:(m.find [47]).isSome=true):∀(f g:Nat)(l:Str),l.length+1<f->l.length+1<g->m.parentsF l perm f=m.parentsF l perm g
 |0,_,_,h,_=>by omega
 |_,0,_,_,h=>by omega
 |f+1,g+1,l,h1,h2=>by
  simp only[Mem.parentsF];cases hf:m.find (parent l)with
  |some x=>rfl
  |none=>
   have hp:parent l≠[47]:=λe=>by rw[e]at hf;rw[hf]at hr;cases hr
   have hl:=(zaZ l).resolve_right hp;simp only
   rw[zkw m perm hr f g (parent l) (by omega) (by omega)]
def Mem.info(m:Mem)(x:Nat):Info:=
 let n:=m.nodes.getD x ⟨false,0,[],0,[]⟩
 ⟨base n.name,if n.dir then 42 else n.data.length,n.mode,n.dir,n.time⟩
def zal:Int:=13631999
def Mem.node(m:Mem)(x:Nat):Node:=m.nodes.getD x ⟨false,0,[],0,[]⟩
def Mem.setNode(m:Mem)(x:Nat)(n:Node):Mem:={m with nodes:=m.nodes.set x n}
def Mem.setH(m:Mem)(k:Int)(h:Hnd):Mem:={m with hs:=hput m.hs k h}
def has(a b:Int):Bool:=decide (andI a b≠0)
def Mem.openS(m:Mem)(i:Int)(s:Stp):Mem×Ans:=
 let name:=norm s.name;let f:=m.find name
 if s.op=0 then
  let m1:=(m.parents name 0).add name ⟨false,268435456,[],0,[]⟩
  (m1.setH i ⟨(m.parents name 0).nodes.length,0,0,false,false⟩,Ans.z)
 else if s.op=1 then
  match f with
  |none=>(m,Ans.err 1)
  |some x=>(m.setH i ⟨x,0,0,false,true⟩,Ans.z)
 else
  if f.isSome&&has s.flag 128 then(m,Ans.err 2)
  else if f.isNone&& !has s.flag 64 then(m,Ans.err 1)
  else
   let m1:=if f.isNone then(m.parents name 0).add name ⟨false,andI s.perm zal,[],0,[]⟩else m
   let x:=match f with|some x=>x|none=>(m.parents name 0).nodes.length
   let at_:Int:=if has s.flag 1024 then(m1.node x).data.length else 0
   let m2:=if has s.flag 512&&has s.flag 3 then m1.setNode x {m1.node x with data:=[],time:=0}else m1
   (m2.setH i ⟨x,at_,0,false,decide (s.flag=0)⟩,Ans.z)
def Mem.dropAll(m:Mem)(ns:List Str):Mem:=ns.foldl (λm n=>m.drop n) m
def Mem.moved(m:Mem)(src dst:Str)(n:Str):Mem:=
 let x:=(m.find n).getD 0;let m1:=(m.drop n).put (dst++n.drop src.length) x
 m1.setNode x {m1.node x with name:=dst++n.drop src.length}
def Mem.renameS(m:Mem)(src dst:Str):Mem×Ans:=
 if src=dst then(m,Ans.z)
 else if(m.find src).isNone then(m,Ans.err 1)
 else
  let m1:=m.parents dst 0
  ((m1.names.filter λn=>decide (n=src)||below n src).foldl (λm n=>m.moved src dst n) m1,Ans.z)
def Mem.namesS(m:Mem)(s:Stp):Mem×Ans:=
 let name:=norm s.name
 if s.op=9/\name≠s.name then(m,Ans.err 1)
 else
  let f:=m.find name
  if s.op=3\/s.op=4 then
   if f.isSome&&decide (s.op=3)then(m,Ans.err 2)
   else if f.isNone then((m.parents name (andI s.perm zal)).add name ⟨true,orI 2147483648 (andI s.perm zal),[],0,[]⟩,Ans.z)
   else(m,Ans.z)
  else if s.op=6 then(m.dropAll (m.names.filter λn=>decide (n=name)||below n name),Ans.z)
  else if s.op=7 then m.renameS name (norm s.other)
  else
   match f with
   |none=>(m,Ans.err 1)
   |some x=>
    if s.op=5 then(m.drop name,Ans.z)
    else if s.op=8 then(m,{Ans.z with infos:=[m.info x]})
    else if s.op=9 then(m.setNode x {m.node x with mode:=orI (zcq (m.node x).mode zal) (andI s.perm zal)},Ans.z)
    else if s.op=11 then(m.setNode x {m.node x with time:=s.off},Ans.z)
    else(m,Ans.z)
def zaU(data:Str)(pos:Int)(n:Int):Str×Int:=
 if pos<0 then([],13)
 else if 0<max n 0/\pos=data.length then([],4)
 else if(data.length:Int)<pos then([],5)
 else((data.drop pos.toNat).take (max n 0).toNat,0)
def grown(data:Str)(n:Int):Str:=data++List.replicate (n.toNat - data.length) 0
def over(data:Str)(pos:Int)(b:Str):Str:=(grown data (pos+b.length)).take pos.toNat++b++(grown data (pos+b.length)).drop (pos.toNat+b.length)
def Mem.listS(m:Mem)(k:Int)(h:Hnd)(s:Stp):Mem×Ans:=
 let n:=m.node h.node
 if n.dir=false then(m,Ans.err 8)
 else
  let l0:=m.children n.name;let l1:=l0.drop (min h.listed l0.length).toNat;let e:Int:=if 0<s.n/\l1=[]then 4 else 0
  let l2:=if 0<s.n then l1.take (min s.n l1.length).toNat else l1
  let m1:=m.setH k {h with listed:=h.listed+l2.length}
  (m1,if s.op=20 then⟨e,0,0,[],l2.map base,[]⟩else⟨e,0,0,[],[],l2.map λx=>m.info ((m.find x).getD 0)⟩)
def Mem.fileS(m:Mem)(k:Int)(h:Hnd)(s:Stp):Mem×Ans:=
 let n:=m.node h.node
 if s.op=18 then
  let m1:=m.setH k {h with cl:=true}
  (if h.ro then m1 else m1.setNode h.node {n with time:=0},Ans.z)
 else if s.op=21 then(m,{Ans.z with infos:=[m.info h.node]})
 else if s.op=22 then(m,{Ans.z with names:=[n.name]})
 else if s.op=23 then(m,Ans.z)
 else if s.op=19\/s.op=20 then m.listS k h s
 else if h.cl then(m,Ans.err 3)
 else if s.op=12 then
  let r:=zaU n.data h.pos s.n
  (m.setH k {h with pos:=h.pos+r.1.length},⟨r.2,0,0,r.1,[],[]⟩)
 else if s.op=13 then
  let r:=zaU n.data s.off s.n
  (m,⟨r.2,0,0,r.1,[],[]⟩)
 else if s.op=16 then
  let p:Int:=if s.wh=0 then s.off else if s.wh=1 then h.pos+s.off else if s.wh=2 then n.data.length+s.off else h.pos
  (m.setH k {h with pos:=p},⟨0,0,p,[],[],[]⟩)
 else if h.ro then
  (if s.op=15 then m.setH k {h with pos:=s.off}else m,Ans.err 6)
 else if s.op=17/\s.off<0 then(m,Ans.err 7)
 else if s.op=14/\(h.pos<0\/1048576<h.pos)\/s.op≠14/\(s.off<0\/1048576<s.off)then(m,Ans.err 13)
 else if s.op=17 then(m.setNode h.node {n with data:=grown (n.data.take (min (n.data.length:Int) s.off).toNat) s.off,time:=0},Ans.z)
 else if s.op=14 then
  ((m.setNode h.node {n with data:=over n.data h.pos s.data,time:=0}).setH k {h with pos:=h.pos+s.data.length},⟨0,s.data.length,0,[],[],[]⟩)
 else if s.op=15 then
  ((m.setNode h.node {n with data:=over n.data s.off s.data,time:=0}).setH k {h with pos:=s.off+s.data.length},⟨0,s.data.length,0,[],[],[]⟩)
 else(m,⟨0,s.data.length,0,[],[],[]⟩)
def Mem.doS(m:Mem)(i:Int)(s:Stp):Mem×Ans:=
 if 0<=s.op/\s.op<=2 then m.openS i s
 else if 3<=s.op/\s.op<=11 then m.namesS s
 else
  match hget m.hs s.h with
  |none=>(m,Ans.err 13)
  |some h=>if s.op<12\/23<s.op then(m,Ans.err 13)else m.fileS s.h h s
def zbF(l:Str):Bool:=decide (l.length<=400)&& !(decide (2<(norm l).length)&&decide ((norm l).take 3=[46,46,47]))
def Mem.clearF(m:Mem)(n:Str):Nat->Bool
 |0=>true
 |f+1=>if n=[47]then true else
  match m.find (parent n)with
  |some x=>if(m.node x).dir=false then false else m.clearF (parent n) f
  |none=>m.clearF (parent n) f
def Mem.clear(m:Mem)(n:Str):Bool:=m.clearF n (n.length+2)
def Mem.isDir(m:Mem)(n:Str):Bool:=match m.find n with|some x=>(m.node x).dir|none=>false
def Mem.speaksOpen(m:Mem)(s:Stp):Bool:=
 let name:=norm s.name
 if zbF s.name=false then false
 else if s.op=0 then !m.isDir name&&m.clear name
 else if s.op=1 then true
 else decide (zcq s.flag 1731=0)&&((m.find name).isSome||decide (andI s.flag 64=0)||m.clear name)&& !(m.isDir name&&has s.flag 512)
def Mem.speaksNames(m:Mem)(s:Stp):Bool:=
 let name:=norm s.name
 if zbF s.name=false then false
 else if s.op=3\/s.op=4 then(m.find name).isSome||m.clear name
 else if s.op=5 then decide (name≠[47])&&decide (m.children name=[])
 else if s.op=6 then decide (name≠[47])
 else if s.op=7 then zbF s.other&&(decide (name=norm s.other)||(decide (name≠[47])&&decide (norm s.other≠[47])&& !below (norm s.other) name&& !m.isDir (norm s.other)&&m.clear (norm s.other)))
 else if s.op=10 then(m.find name).isSome&&decide (s.name=name)
 else if s.op=11 then decide (-1099511627776<=s.off)&&decide (s.off<=1099511627776)
 else true
def Mem.speaksFile(m:Mem)(h:Hnd)(s:Stp):Bool:=
 let n:=m.node h.node
 if s.op=19\/s.op=20 then !n.dir||(decide (m.find n.name=some h.node)&&decide (h.listed<=(m.children n.name).length))
 else if s.op=18\/s.op=21\/s.op=22\/s.op=23 then true
 else if n.dir||decide (4096<s.data.length)||decide (s.n<0)||decide (4096<s.n)||decide (1099511627776<s.off)||decide (s.off< -1099511627776)then false
 else if s.op=12 then h.cl||decide (0<=h.pos)
 else if s.op=13 then decide (0<=s.off)
 else if s.op=14 then decide (0<=h.pos)&&decide (h.pos<=4096)
 else if s.op=15 then decide (0<=s.off)&&decide (s.off<=4096)
 else if s.op=17 then decide (s.off<=4096)
 else if s.op=16 then decide (h.pos<2199023255552)&&decide (-2199023255552<h.pos)
 else true
def Mem.speaks(m:Mem)(s:Stp):Bool:=
 if 400<s.name.length\/400<s.other.length\/4096<s.data.length then false
 else if 0<=s.op/\s.op<=2 then m.speaksOpen s
 else if 3<=s.op/\s.op<=11 then m.speaksNames s
 else match hget m.hs s.h with|none=>true|some h=>m.speaksFile h s
end SM
end Go.X
end
section
namespace Go.Proofs.YtdljebgllipdjaaGreatDoor.X
open Go Go.X Go.Proofs Go.RowKit
theorem znt{α:Type}{cur xs:List α}{m j:Nat}(h:cur.take m=xs)(hj:j<m):cur[j]?=xs[j]?:=by rw[<-h,List.getElem?_take_of_lt hj]
theorem zj2{l:Str}{w:World}{K:Value->World->Prop}(hl:l.length<=140737488355328)(h:K (S (SM.parent l)) w):Cl P Fn.bu #[S l] w K:=by
 apply zlq;unfold zhX;refine zaa (λt w'=>w'=w/\SM.parent l=[47]) ?_ ?_
 ·rintro t e w1 ⟨rfl,e1⟩;simp(disch:=first|omega|(simp(disch:=first|omega|fail)only[go_sem]<;>omega)|fail)only[go_sem];rw[e1]at h;exact h
 ·rw[V.ai];simp(disch:=first|omega|(simp(disch:=first|omega|fail)only[go_sem]<;>omega)|fail)only[go_sem];refine zaA (λs w'=>w'=w/\∃i:Nat,s=[.int .i64 ((i:Int) - 1)]/\i<=l.length/\SM.ls l i=SM.ls l l.length) (λs w'=>((intOf (gs s 0))+1).toNat) ?_ ?_
  ·exact⟨rfl,l.length,rfl,Nat.le_refl _,rfl⟩
  ·rintro s u w1 ⟨rfl,i,rfl,hi,hs⟩;refine zaa (λt w'=>w'=w1/\1<i) ?_ ?_
   ·rintro t e w2 ⟨rfl,hi1⟩;obtain⟨j,rfl⟩:∃j,i=j+1:=⟨i - 1,by omega⟩;have ej:((j+1:Nat):Int) - 1=(j:Int):=by omega
    refine zaa (λt w'=>w'=w2/\l.getD j 0≠47) ?_ ?_
    ·rintro t e w3 ⟨rfl,hne⟩;simp(disch:=first|omega|(simp(disch:=first|omega|fail)only[go_sem,ej]<;>omega)|fail)only[go_sem,ej];refine⟨⟨trivial,j,rfl,by omega,?_⟩,?_⟩
     ·rw[<-hs];simp only[SM.ls];rw[if_neg hne]
     ·simp only[gs0,intOf];omega
    ·rw[gs0,ej,zoX _ _ _ _ _ U.string (by omega) (by omega)];rw[Int.toNat_natCast];by_cases hc:l.getD j 0=47
     ·have e1:((l.getD j 0).toNat:Int)=47:=by rw[hc];rfl
      rw[zel _ _ _ _ _ U.string (by omega) (by omega)];simp(disch:=first|omega|(simp(disch:=first|omega|fail)only[go_sem,e1,decide_true]<;>omega)|fail)only[go_sem,e1,decide_true];have e2:SM.parent l=l.take j:=by
       unfold SM.parent SM.zbk;rw[<-hs];simp only[SM.ls,if_pos hc];cases j with
       |zero=>omega
       |succ j=>rfl
      rw[e2]at h;exact h
     ·have e1:¬((l.getD j 0).toNat:Int)=47:=λe=>hc (UInt8.toNat_inj.1 (by rw[show(47:UInt8).toNat=47 from rfl];omega));simp(disch:=first|omega|(simp(disch:=first|omega|fail)only[go_sem,e1,decide_false]<;>omega)|fail)only[go_sem,e1,decide_false];exact⟨trivial,hc⟩
   ·rw[gs0];by_cases hi1:1<i
    ·simp(disch:=first|omega|(simp(disch:=first|omega|fail)only[go_sem]<;>omega)|fail)only[go_sem];exact⟨trivial,hi1⟩
    ·simp(disch:=first|omega|(simp(disch:=first|omega|fail)only[go_sem]<;>omega)|fail)only[go_sem];refine⟨trivial,?_⟩;unfold SM.parent SM.zbk;rw[<-hs];have:i=0\/i=1:=by omega
     rcases this with rfl|rfl
     ·rfl
     ·simp only[SM.ls];split<;>simp_all
theorem zmr{l:Str}{w:World}{K:Value->World->Prop}(hl:l.length<=140737488355328)(h:K (S (SM.base l)) w):Cl P Fn.cg #[S l] w K:=by
 apply zmF;unfold zjw;refine zaa (λt w'=>w'=w/\SM.base l=l) ?_ ?_
 ·rintro t e w1 ⟨rfl,e1⟩;simp(disch:=first|omega|(simp(disch:=first|omega|fail)only[go_sem]<;>omega)|fail)only[go_sem];rw[e1]at h;exact h
 ·rw[V.ai];simp(disch:=first|omega|(simp(disch:=first|omega|fail)only[go_sem]<;>omega)|fail)only[go_sem];refine zaA (λs w'=>w'=w/\∃i:Nat,s=[.int .i64 ((i:Int) - 1)]/\i<=l.length/\SM.ls l i=SM.ls l l.length) (λs w'=>((intOf (gs s 0))+1).toNat) ?_ ?_
  ·exact⟨rfl,l.length,rfl,Nat.le_refl _,rfl⟩
  ·rintro s u w1 ⟨rfl,i,rfl,hi,hs⟩;refine zaa (λt w'=>w'=w1/\0<i) ?_ ?_
   ·rintro t e w2 ⟨rfl,hi1⟩;obtain⟨j,rfl⟩:∃j,i=j+1:=⟨i - 1,by omega⟩;have ej:((j+1:Nat):Int) - 1=(j:Int):=by omega
    refine zaa (λt w'=>w'=w2/\l.getD j 0≠47) ?_ ?_
    ·rintro t e w3 ⟨rfl,hne⟩;simp(disch:=first|omega|(simp(disch:=first|omega|fail)only[go_sem,ej]<;>omega)|fail)only[go_sem,ej];refine⟨⟨trivial,j,rfl,by omega,?_⟩,?_⟩
     ·rw[<-hs];simp only[SM.ls];rw[if_neg hne]
     ·simp only[gs0,intOf];omega
    ·rw[gs0,ej,zoX _ _ _ _ _ U.string (by omega) (by omega)];rw[Int.toNat_natCast];by_cases hc:l.getD j 0=47
     ·have e1:((l.getD j 0).toNat:Int)=47:=by rw[hc];rfl
      simp(disch:=first|omega|(simp(disch:=first|omega|fail)only[go_sem,e1,decide_true]<;>omega)|fail)only[go_sem,e1,decide_true];rw[zg3 _ _ _ _ _ U.string (by omega) (by omega)];have e2:SM.base l=l.drop (j+1):=by unfold SM.base SM.zbk;rw[<-hs];simp only[SM.ls,if_pos hc]
      rw[e2]at h;exact h
     ·have e1:¬((l.getD j 0).toNat:Int)=47:=λe=>hc (UInt8.toNat_inj.1 (by rw[show(47:UInt8).toNat=47 from rfl];omega));simp(disch:=first|omega|(simp(disch:=first|omega|fail)only[go_sem,e1,decide_false]<;>omega)|fail)only[go_sem,e1,decide_false];exact⟨trivial,hc⟩
   ·rw[gs0];by_cases hi1:0<i
    ·simp(disch:=first|omega|(simp(disch:=first|omega|fail)only[go_sem]<;>omega)|fail)only[go_sem];exact⟨trivial,hi1⟩
    ·simp(disch:=first|omega|(simp(disch:=first|omega|fail)only[go_sem]<;>omega)|fail)only[go_sem];refine⟨trivial,?_⟩;have:i=0:=by omega
     subst this;unfold SM.base SM.zbk;rw[<-hs];rfl
theorem zg9{l d:Str}{w:World}{K:Value->World->Prop}(hl:l.length<=140737488355328)(hd:d.length<=140737488355328)(h:K (.bool (SM.below l d)) w):Cl P Fn.bR #[S l,S d] w K:=by
 apply zlZ;unfold ziN;unfold SM.below at h;refine zaa (λt w'=>w'=w/\d≠[47]) ?_ ?_
 ·rintro t e w1 ⟨rfl,e1⟩;rw[if_neg e1]at h;rw[V.ai,V.ai];by_cases c1:d.length<l.length
  ·have g1:(d.length:Int)<l.length:=by omega
   simp(disch:=first|omega|(simp(disch:=first|omega|fail)only[go_sem,g1,decide_true]<;>omega)|fail)only[go_sem,g1,decide_true];rw[zel _ _ _ _ _ U.string (by omega) (by omega),Int.toNat_natCast];by_cases c2:l.take d.length=d
   ·simp(disch:=first|omega|(simp(disch:=first|omega|fail)only[go_sem,c2,decide_true]<;>omega)|fail)only[go_sem,c2,decide_true];rw[zoX _ _ _ _ _ U.string (by omega) (by omega),Int.toNat_natCast];simp(disch:=first|omega|(simp(disch:=first|omega|fail)only[go_sem]<;>omega)|fail)only[go_sem];have e3:decide (((l.getD d.length 0).toNat:Int)=47)=decide (l.getD d.length 0=47):=decide_eq_decide.2 ⟨λe=>UInt8.toNat_inj.1 (by rw[show(47:UInt8).toNat=47 from rfl];omega),λe=>by rw[e];rfl⟩;rw[e3];simpa[c1,c2]using h
   ·simp(disch:=first|omega|(simp(disch:=first|omega|fail)only[go_sem,c2,decide_false]<;>omega)|fail)only[go_sem,c2,decide_false];simpa[c1,c2]using h
  ·have g1:¬(d.length:Int)<l.length:=by omega
   simp(disch:=first|omega|(simp(disch:=first|omega|fail)only[go_sem,g1,decide_false]<;>omega)|fail)only[go_sem,g1,decide_false];simpa[c1]using h
 ·by_cases c:d=[47]
  ·rw[if_pos c]at h;simp(disch:=first|omega|(simp(disch:=first|omega|fail)only[go_sem,c,decide_true]<;>omega)|fail)only[go_sem,c,decide_true];exact h
  ·simp(disch:=first|omega|(simp(disch:=first|omega|fail)only[go_sem,c,decide_false]<;>omega)|fail)only[go_sem,c,decide_false];exact⟨trivial,c⟩
end Go.Proofs.YtdljebgllipdjaaGreatDoor.X
end
section
namespace Go.X
open Go
section
variable{P:Program}{L:Value->Prop}{t te:TypeId}
theorem rp_eqPd{d:Nat}(h:P.underlying t=some (.pointer te))(a:Option Addr):rp P (Op.equalIn (d+1) t (.pointer a) (.pointer none))=some a.isNone:=by
 cases a with
 |none=>simp[Op.equalIn,zau,zak h]
 |some b=>simp[Op.equalIn,zau,zak h]
theorem ztR(h:P.underlying t=some (.pointer te))(a:Option Addr):rp P (Op.equal t (.pointer a) (.pointer none))=some a.isNone:=rp_eqPd h a
theorem zqw(h:P.underlying t=some (.pointer te))(cx cy:Bool)(a:Option Addr):pu P (oBin .eql t cx cy (.pointer a) (.pointer none)) L=L (.bool a.isNone):=
 zca (by
  rw[zau];have g:rp P (eqGuard .eql t (fl cx) (fl cy) (.pointer a) (.pointer none))=some ():=by unfold eqGuard;rfl
  rw[g];simp only[Option.bind_some];have e2:binOp .eql t (.pointer a) (.pointer none)=(do pure (.bool (<-Op.equal t (.pointer a) (.pointer none)))):=rfl;rw[e2,zau,ztR h];rfl)
theorem zn3(h:P.underlying t=some (.pointer te))(cx cy:Bool)(a:Option Addr):pu P (oBin .neq t cx cy (.pointer a) (.pointer none)) L=L (.bool a.isSome):=
 zca (by
  rw[zau];have g:rp P (eqGuard .neq t (fl cx) (fl cy) (.pointer a) (.pointer none))=some ():=by unfold eqGuard;rfl
  rw[g];simp only[Option.bind_some];have e2:binOp .neq t (.pointer a) (.pointer none)=(do pure (.bool (!(<-Op.equal t (.pointer a) (.pointer none))))):=rfl;rw[e2,zau,ztR h];cases a<;>rfl)
end
end Go.X
end
section
namespace Go.Proofs.YtdljebgllipdjaaGreatDoor.X
open Go Go.X Go.Proofs Go.RowKit
inductive Rl|no|mem|nms|ats|nds|hmp|hnd (k:Int)
 deriving DecidableEq
abbrev zbM(n:SM.Node)(v:Value):List Value:=[.bool n.dir,.int .i64 n.mode,v,.int .i64 n.time,S n.name]
abbrev hndC(h:SM.Hnd):List Value:=[.int .i64 h.node,.int .i64 h.pos,.int .i64 h.listed,.bool h.cl,.bool h.ro]
def zcS(ns:List SM.Node)(ds:List Value):List Value:=(List.zipWith zbM ns ds).flatten
structure MemX(w:World)(B p:Nat)(m:SM.Mem)(F:Fp)(vn va vd:Value)(q:Nat)(ds:List Value)(hl:ML Int)(c:Nat)(hb:Int->Nat)(ρ:Nat->Rl):Prop where
 own:∀b,F.own b↔ρ b≠ .no
 sub:∀b,F.own b->F.use b
 lt:∀b,F.use b->b<w.heap.size
 ge:∀b,F.own b->B<=b
 rp:ρ p=.mem
 bm:bk w p=some (CB [vn,va,vd,.map (some q)] T.aA)
 on:w.ownsRow B T.string 1 vn m.names.length (m.names.map S)
 rn:∀b,vn.ownBlock=some b->ρ b=.nms
 oa:w.ownsRow B T.int 1 va m.ats.length (m.ats.map λ(n:Nat)=>.int .i64 n)
 ra:∀b,va.ownBlock=some b->ρ b=.ats
 od:w.ownsRow B T.ag 5 vd m.nodes.length (zcS m.nodes ds)
 rd:∀b,vd.ownBlock=some b->ρ b=.nds
 dl:ds.length=m.nodes.length
 db:∀i(h1:i<ds.length)(h2:i<m.nodes.length),BS w ds[i] m.nodes[i].data/\∀b,ds[i].ownBlock=some b->F.use b/\ρ b=.no
 rq:ρ q=.hmp
 bq:bk w q=some (MO emI hl c)
 wf:MWF hl c
 hm:∀k,mget hl k=(SM.hget m.hs k).map λ_=>pt (hb k) 0
 bh:∀k h,SM.hget m.hs k=some h->ρ (hb k)=.hnd k/\bk w (hb k)=some (CB (hndC h) T.am)
def MemS(w:World)(B p:Nat)(m:SM.Mem)(F:Fp):Prop:=∃vn va vd q ds hl c hb ρ,MemX w B p m F vn va vd q ds hl c hb ρ
section
variable{w w':World}{B p:Nat}{m:SM.Mem}{F:Fp}{vn va vd:Value}{q:Nat}{ds:List Value}{hl:ML Int}{c:Nat}{hb:Int->Nat}{ρ:Nat->Rl}
theorem MemX.frame(h:MemX w B p m F vn va vd q ds hl c hb ρ){G:Nat->Prop}(k:Kp w w' G)(hG:∀b,F.use b->¬G b):MemX w' B p m F vn va vd q ds hl c hb ρ:=by
 have ol:∀b,ρ b≠ .no->b<w.heap.size/\¬G b:=λb hb=>by have:=h.sub b ((h.own b).2 hb);exact⟨h.lt b this,hG b this⟩
 refine⟨h.own,h.sub,λb hb=>Nat.lt_of_lt_of_le (h.lt b hb) k.size,h.ge,h.rp,?_,zbI h.on k λb hb=>?_,h.rn,zbI h.oa k λb hb=>?_,h.ra,zbI h.od k λb hb=>?_,h.rd,h.dl,λi h1 h2=>?_,h.rq,?_,h.wf,h.hm,λx y hx=>?_⟩
 ·obtain⟨l1,l2⟩:=ol p (by rw[h.rp];decide);rw[k.block p l1 l2];exact h.bm
 ·exact(ol b (by rw[h.rn b hb];decide)).2
 ·exact(ol b (by rw[h.ra b hb];decide)).2
 ·exact(ol b (by rw[h.rd b hb];decide)).2
 ·obtain⟨d1,d2⟩:=h.db i h1 h2;exact⟨zlc d1 k λb hb=>hG b (d2 b hb).1,d2⟩
 ·obtain⟨l1,l2⟩:=ol q (by rw[h.rq];decide);rw[k.block q l1 l2];exact h.bq
 ·obtain⟨h1,h2⟩:=h.bh x y hx;obtain⟨l1,l2⟩:=ol (hb x) (by rw[h1];exactλe=>by cases e);exact⟨h1,by rw[k.block _ l1 l2];exact h2⟩
theorem MemS.frame(h:MemS w B p m F){G:Nat->Prop}(k:Kp w w' G)(hG:∀b,F.use b->¬G b):MemS w' B p m F:=by obtain⟨vn,va,vd,q,ds,hl,c,hb,ρ,h⟩:=h;exact⟨vn,va,vd,q,ds,hl,c,hb,ρ,h.frame k hG⟩
theorem MemX.old(h:MemX w B p m F vn va vd q ds hl c hb ρ)(k:Below w.heap.size w w'):MemX w' B p m F vn va vd q ds hl c hb ρ:=h.frame (Kp.of_below k (λb=>w.heap.size<=b)) λb hb=>by have:=h.lt b hb;omega
theorem MemS.old(h:MemS w B p m F)(k:Below w.heap.size w w'):MemS w' B p m F:=by obtain⟨vn,va,vd,q,ds,hl,c,hb,ρ,h⟩:=h;exact⟨vn,va,vd,q,ds,hl,c,hb,ρ,h.old k⟩
theorem MemS.below(h:MemS w B p m F){G:Fp}(k:Tr w w' F G):Below B w w':=by
 obtain⟨vn,va,vd,q,ds,hl,c,hb,ρ,h⟩:=h;refine k.kp.below (λb hb hF=>?_) ?_
 ·have:=h.ge b hF;omega
 ·have h1:=h.sub p ((h.own p).2 (by rw[h.rp];decide));have h2:=h.lt p h1;have h3:=h.ge p ((h.own p).2 (by rw[h.rp];decide));omega
theorem MemS.lt(h:MemS w B p m F):∀b,F.use b->b<w.heap.size:=by obtain⟨vn,va,vd,q,ds,hl,c,hb,ρ,h⟩:=h;exact h.lt
theorem MemS.sub(h:MemS w B p m F):∀b,F.own b->F.use b:=by obtain⟨vn,va,vd,q,ds,hl,c,hb,ρ,h⟩:=h;exact h.sub
end
theorem zjg{w:World}{B n i:Nat}{v:Value}{l:List Str}(h:w.ownsRow B T.string 1 v n (l.map S))(hn:l.length=n)(hi:i<l.length):
  ∃g,v.ownBlock=some g/\g<w.heap.size/\(∀(k:IntKind)(M:Value->Prop),pu P (zaO T.aj v (.int k i)) M=M (pt g i))/\(∀w',bk w' g=bk w g->∀(L:Value->World->Prop),st P (zab T.string (pt g i)) w' L=L (S l[i]) w'):=by
 obtain⟨g,cur,h1,h2,h3,h4,h5,h6⟩:=zhw U.ae (by kernel_rfl) h (i:=i) (by omega);refine⟨g,h1,zaj h3,λk M=>by rw[h6,Nat.mul_one],λw' hw' L=>?_⟩;have e:cur[i]?=some (S l[i]):=by rw[znt h5 (by omega)];simp[hi]
 have e2:za1 (bk w' g) i=some (S l[i]):=by rw[hw',h3,zbe];exact e
 rw[M.ak _ _ _ _ (by rw[e2];rfl),e2];rfl
theorem ztz{w:World}{B n i:Nat}{v:Value}{l:List Nat}(h:w.ownsRow B T.int 1 v n (l.map λ(n:Nat)=>.int .i64 n))(hn:l.length=n)(hi:i<l.length):
  ∃g,v.ownBlock=some g/\g<w.heap.size/\(∀(k:IntKind)(M:Value->Prop),pu P (zaO T.aR v (.int k i)) M=M (pt g i))/\(∀w',bk w' g=bk w g->∀(L:Value->World->Prop),st P (zab T.int (pt g i)) w' L=L (.int .i64 l[i]) w'):=by
 obtain⟨g,cur,h1,h2,h3,h4,h5,h6⟩:=zhw U.au (by kernel_rfl) h (i:=i) (by omega);refine⟨g,h1,zaj h3,λk M=>by rw[h6,Nat.mul_one],λw' hw' L=>?_⟩;have e:cur[i]?=some (.int .i64 l[i]):=by rw[znt h5 (by omega)];simp[hi]
 have e2:za1 (bk w' g) i=some (.int .i64 l[i]):=by rw[hw',h3,zbe];exact e
 rw[M.cf _ _ _ _ (by rw[e2];rfl),e2];rfl
theorem zkH{w:World}{K:Value->World->Prop}{B p:Nat}{m:SM.Mem}{F:Fp}{l:Str}(h:MemS w B p m F)(hN:m.names.length<=1000000000)(hk:K (tup [.int .i64 (SM.zbj m.names l).1,.bool (SM.zbj m.names l).2]) w):Cl P Fn.bv #[pt p 0,S l] w K:=by
 obtain⟨vn,va,vd,q,ds,hl,c,hb,ρ,h⟩:=h;apply zll;unfold zh9;have bm:=h.bm;obtain⟨a,cap,ev⟩:=zan h.on;refine zaa (λt w'=>w'=w/\SM.zbj m.names l=(m.names.length,false)) ?_ ?_
 ·rintro t e w1 ⟨rfl,e1⟩;subst ev;simp(disch:=first|omega|(simp(disch:=first|omega|fail)only[go_sem,bm]<;>omega)|fail)only[go_sem,bm];rw[e1]at hk;exact hk
 ·subst ev;simp(disch:=first|omega|(simp(disch:=first|omega|fail)only[go_sem,bm]<;>omega)|fail)only[go_sem,bm];refine zaA (λs w'=>w'=w/\∃i:Nat,s=[.int .i64 i]/\i<=m.names.length/\SM.zfr (m.names.drop i) l i=SM.zbj m.names l) (λs w'=>(m.names.length - (intOf (gs s 0))).toNat) ?_ ?_
  ·exact⟨rfl,0,rfl,Nat.zero_le _,rfl⟩
  ·rintro s u w1 ⟨rfl,i,rfl,hi,hs⟩;rw[gs0,oLss];refine zaa (λt w'=>w'=w1/\i<m.names.length) ?_ ?_
   ·rintro t e w2 ⟨rfl,hi1⟩;rw[List.drop_eq_getElem_cons hi1]at hs;simp only[SM.zfr]at hs;refine zaa (λt w'=>w'=w2/\Op.bytesLess m.names[i] l=true) ?_ ?_
    ·rintro t e w3 ⟨rfl,hne⟩;simp(disch:=first|omega|(simp(disch:=first|omega|fail)only[go_sem]<;>omega)|fail)only[go_sem];rw[if_pos hne]at hs;refine⟨⟨trivial,i+1,rfl,by omega,hs⟩,?_⟩;simp only[gs0,intOf];omega
    ·obtain⟨g,g1,g2,g3,g4⟩:=zjg h.on rfl hi1;rw[g3,g4 w2 rfl];simp(disch:=first|omega|(simp(disch:=first|omega|fail)only[go_sem]<;>omega)|fail)only[go_sem];by_cases hc:Op.bytesLess m.names[i] l=true
     ·rw[hc];simp(disch:=first|omega|(simp(disch:=first|omega|fail)only[go_sem]<;>omega)|fail)only[go_sem];exact⟨trivial,trivial⟩
     ·rw[if_neg hc]at hs;have hc':Op.bytesLess m.names[i] l=false:=by simpa using hc
      rw[hc'];simp(disch:=first|omega|(simp(disch:=first|omega|fail)only[go_sem]<;>omega)|fail)only[go_sem];rw[<-hs]at hk;exact hk
   ·by_cases hi1:i<m.names.length
    ·simp(disch:=first|omega|(simp(disch:=first|omega|fail)only[go_sem]<;>omega)|fail)only[go_sem];exact⟨trivial,hi1⟩
    ·simp(disch:=first|omega|(simp(disch:=first|omega|fail)only[go_sem]<;>omega)|fail)only[go_sem];have:i=m.names.length:=by omega
     subst this;refine⟨trivial,?_⟩;rw[<-hs,List.drop_length];rfl
theorem zor:∀(l:List Str)(n:Str)(i:Nat),i<=(SM.zfr l n i).1/\(SM.zfr l n i).1<=i+l.length/\((SM.zfr l n i).2=true->(SM.zfr l n i).1<i+l.length)
 |[],n,i=>by simp[SM.zfr]
 |x::l,n,i=>by
  simp only[SM.zfr];split
  ·obtain⟨h1,h2,h3⟩:=zor l n (i+1);simp only[List.length_cons];exact⟨by omega,by omega,λh=>by have:=h3 h;omega⟩
  ·simp
theorem zlB(l:List Str)(n:Str):(SM.zbj l n).1<=l.length/\((SM.zbj l n).2=true->(SM.zbj l n).1<l.length):=by obtain⟨h1,h2,h3⟩:=zor l n 0;unfold SM.zbj;exact⟨by omega,λh=>by have:=h3 h;omega⟩
theorem zcC{w:World}{K:Value->World->Prop}{B p:Nat}{m:SM.Mem}{F:Fp}{l:Str}(h:MemS w B p m F)(hN:m.names.length<=1000000000)(hA:m.ats.length=m.names.length)(hk:K (tup [.int .i64 ((m.find l).getD 0:Nat),.bool (m.find l).isSome]) w):Cl P Fn.ai #[pt p 0,S l] w K:=by
 apply zl2;unfold ziu;rw[C.aB];refine zkH h hN ?_;obtain⟨vn,va,vd,q,ds,hl,c,hb,ρ,h⟩:=h;have bm:=h.bm;have hp:=zlB m.names l;unfold SM.Mem.find at hk;rw[zar,zaq];refine zaa (λt w'=>w'=w/\(SM.zbj m.names l).2=true) ?_ ?_
 ·rintro t e w1 ⟨rfl,e1⟩;rw[e1]at hk;have hlt:=hp.2 e1;obtain⟨g,g1,g2,g3,g4⟩:=ztz h.oa rfl (i:=(SM.zbj m.names l).1) (by omega);simp(disch:=first|omega|(simp(disch:=first|omega|fail)only[go_sem,bm,g3]<;>omega)|fail)only[go_sem,bm,g3];rw[g4 w1 rfl];simpa[show(SM.zbj m.names l).1<m.ats.length by omega]using hk
 ·cases e1:(SM.zbj m.names l).2 with
  |true=>simp(disch:=first|omega|(simp(disch:=first|omega|fail)only[go_sem]<;>omega)|fail)only[go_sem];exact⟨trivial,trivial⟩
  |false=>rw[e1]at hk;simp(disch:=first|omega|(simp(disch:=first|omega|fail)only[go_sem]<;>omega)|fail)only[go_sem];exact hk
section
variable{w w':World}{B p:Nat}{m:SM.Mem}{F:Fp}{vn va vd:Value}{q:Nat}{ds:List Value}{hl:ML Int}{c:Nat}{hb:Int->Nat}{ρ:Nat->Rl}
theorem MemX.in_(h:MemX w B p m F vn va vd q ds hl c hb ρ){b:Nat}(hb:ρ b≠ .no):b<w.heap.size:=h.lt b (h.sub b ((h.own b).2 hb))
structure Left(w':World)(B p:Nat)(m:SM.Mem)(F:Fp)(vn va vd:Value)(q:Nat)(ds:List Value)(hl:ML Int)(c:Nat)(hb:Int->Nat)(ρ:Nat->Rl)(R:Rl):Prop where
 lt:∀b,F.use b->b<w'.heap.size
 bm:R≠ .mem->bk w' p=some (CB [vn,va,vd,.map (some q)] T.aA)
 on:R≠ .nms->w'.ownsRow B T.string 1 vn m.names.length (m.names.map S)
 oa:R≠ .ats->w'.ownsRow B T.int 1 va m.ats.length (m.ats.map λ(n:Nat)=>.int .i64 n)
 od:R≠ .nds->w'.ownsRow B T.ag 5 vd m.nodes.length (zcS m.nodes ds)
 db:∀i(h1:i<ds.length)(h2:i<m.nodes.length),BS w' ds[i] m.nodes[i].data/\∀b,ds[i].ownBlock=some b->F.use b/\ρ b=.no
 bq:R≠ .hmp->bk w' q=some (MO emI hl c)
 bh:∀k h,SM.hget m.hs k=some h->R≠ .hnd k->bk w' (hb k)=some (CB (hndC h) T.am)
theorem MemX.only(h:MemX w B p m F vn va vd q ds hl c hb ρ){R:Rl}{G:Nat->Prop}(k:Kp w w' G)(hG:∀b,b<w.heap.size->G b->ρ b=R)(hR:R≠ .no):Left w' B p m F vn va vd q ds hl c hb ρ R:=by
 have ne:∀b,ρ b≠ .no->R≠ρ b->b<w.heap.size/\¬G b:=λb h1 h2=>⟨h.in_ h1,λhg=>h2 (hG b (h.in_ h1) hg).symm⟩;refine⟨λb hb=>Nat.lt_of_lt_of_le (h.lt b hb) k.size,λe=>?_,λe=>zbI h.on k λb hb=>?_,λe=>zbI h.oa k λb hb=>?_,λe=>zbI h.od k λb hb=>?_,λi h1 h2=>?_,λe=>?_,λx y hx e=>?_⟩
 ·obtain⟨l1,l2⟩:=ne p (by rw[h.rp];decide) (by rw[h.rp];exact e);rw[k.block p l1 l2];exact h.bm
 ·exact(ne b (by rw[h.rn b hb];decide) (by rw[h.rn b hb];exact e)).2
 ·exact(ne b (by rw[h.ra b hb];decide) (by rw[h.ra b hb];exact e)).2
 ·exact(ne b (by rw[h.rd b hb];decide) (by rw[h.rd b hb];exact e)).2
 ·obtain⟨d1,d2⟩:=h.db i h1 h2;exact⟨zlc d1 k λb hb hg=>hR (by rw[<-hG b (h.lt b (d2 b hb).1) hg];exact(d2 b hb).2),d2⟩
 ·obtain⟨l1,l2⟩:=ne q (by rw[h.rq];decide) (by rw[h.rq];exact e);rw[k.block q l1 l2];exact h.bq
 ·obtain⟨h1,h2⟩:=h.bh x y hx;obtain⟨l1,l2⟩:=ne (hb x) (by rw[h1];exactλe=>by cases e) (by rw[h1];exact e);rw[k.block _ l1 l2];exact h2
theorem MemX.tr(h:MemX w B p m F vn va vd q ds hl c hb ρ){R:Rl}{G:Nat->Prop}(k:Kp w w' G)(hG:∀b,b<w.heap.size->G b->ρ b=R)(hR:R≠ .no):Tr w w' F F:=⟨zkV k λb hb hg=>(h.own b).2 (by rw[hG b hb hg];exact hR),Fp.step_refl _ _⟩
theorem MemX.setA(h:MemX w B p m F vn va vd q ds hl c hb ρ){i x g:Nat}{cur:List Value}(hi:i<m.ats.length)(hg:va.ownBlock=some g)(hc:bk w g=some (CB cur T.int))(ht:cur.take (m.ats.length*1)=m.ats.map λ(n:Nat)=>.int .i64 n):
  MemX (setb w g (CB (cur.set i (.int .i64 x)) T.int)) B p {m with ats:=m.ats.set i x} F vn va vd q ds hl c hb ρ/\Tr w (setb w g (CB (cur.set i (.int .i64 x)) T.int)) F F:=by
 have rg:=h.ra g hg;have k:=Kp.setb w g (CB (cur.set i (.int .i64 x)) T.int);have hG:∀b,b<w.heap.size->b=g->ρ b=.ats:=λb _ e=>by rw[e];exact rg
 have l:=h.only k hG (by decide);refine⟨⟨h.own,h.sub,l.lt,h.ge,h.rp,l.bm (by decide),l.on (by decide),h.rn,?_,h.ra,l.od (by decide),h.rd,h.dl,l.db,h.rq,l.bq (by decide),h.wf,h.hm,λa b hx=>⟨(h.bh a b hx).1,l.bh a b hx (λe=>by cases e)⟩⟩,h.tr k hG (by decide)⟩;have o:=zjL h.oa hg hc (by simp) _ (rfl:CB (cur.set i (.int .i64 x)) T.int=_);have e:(cur.set i (.int .i64 x)).take (m.ats.length*1)=(m.ats.set i x).map λ(n:Nat)=>.int .i64 n:=by rw[List.take_set,ht,List.map_set]
 rw[e]at o;simpa using o
theorem MemX.setN(h:MemX w B p m F vn va vd q ds hl c hb ρ){w5:World}{v':Value}{names':List Str}(k:Kp w w5 λb=>vn.ownBlock=some b)(o:w5.ownsRow B T.string 1 v' names'.length (names'.map S))(a:v'.ownBlock=vn.ownBlock\/∀b,v'.ownBlock=some b->w.heap.size<=b):
  ∃F' ρ',MemX (setb w5 p (CB [v',va,vd,.map (some q)] T.aA)) B p {m with names:=names'} F' v' va vd q ds hl c hb ρ'/\Tr w (setb w5 p (CB [v',va,vd,.map (some q)] T.aA)) F F':=by
 have hG:∀b,b<w.heap.size->vn.ownBlock=some b->ρ b=.nms:=λb _ e=>h.rn b e;have l:=h.only k hG (by decide);have k2:=Kp.setb w5 p (CB [v',va,vd,.map (some q)] T.aA);have lp5:=Nat.lt_of_lt_of_le (h.in_ (b:=p) (by rw[h.rp];decide)) k.size;have vl:∀b,v'.ownBlock=some b->b<w5.heap.size:=λb hb=>(zaW o b hb).2;have ge':∀b,v'.ownBlock=some b->B<=b:=λb hb=>(zaW o b hb).1;have old:∀b,v'.ownBlock=some b->b<w.heap.size->ρ b=.nms:=λb e hb=>by
  rcases a with a|a
  ·exact h.rn b (by rw[<-a];exact e)
  ·have:=a b e;omega
 obtain⟨ρ',hρ⟩:∃ρ':Nat->Rl,ρ'=λb=>if v'.ownBlock=some b then .nms else ρ b:=⟨_,rfl⟩
 have r1:∀b,v'.ownBlock=some b->ρ' b=.nms:=λb e=>by rw[hρ];exact if_pos e
 have r2:∀b,b<w.heap.size->ρ' b=ρ b:=λb hb=>by
  rw[hρ];by_cases e:v'.ownBlock=some b
  ·simp only[e,if_true];exact(old b e hb).symm
  ·simp only[e,if_false]
 have up:∀b,F.use b->b<w.heap.size:=h.lt;have keep:∀b{R:Rl},ρ b=R->R≠ .no->ρ' b=R:=λb R e hn=>by rw[r2 b (h.in_ (by rw[e];exact hn))];exact e
 have ne:∀b,ρ b≠ .no->ρ b≠ .mem->b≠p:=λb _ h2 e=>h2 (by rw[e];exact h.rp);refine⟨⟨λb=>ρ' b≠ .no,λb=>F.use b\/v'.ownBlock=some b⟩,ρ',⟨λb=>Iff.rfl,λb hb=>?_,λb hb=>?_,λb hb=>?_,keep p h.rp (by decide),zap _ _ _ _ rfl lp5,zbI o k2 λb hb e=>?_,r1,zbI (l.oa (by decide)) k2 λb hb e=>?_,λb hb=>keep b (h.ra b hb) (by decide),zbI (l.od (by decide)) k2 λb hb e=>?_,λb hb=>keep b (h.rd b hb) (by decide),h.dl,λi h1 h2=>?_,keep q h.rq (by decide),?_,h.wf,h.hm,λx y hx=>⟨keep _ (h.bh x y hx).1 (λe=>by cases e),?_⟩⟩,?_⟩
 ·by_cases e:v'.ownBlock=some b
  ·exact .inr e
  ·left;refine h.sub b ((h.own b).2 λe2=>hb ?_);rw[hρ];simp only[e,if_false];exact e2
 ·show b<(setb w5 p _).heap.size;rw[sZb];rcases hb with hb|hb
  ·exact l.lt b hb
  ·exact vl b hb
 ·by_cases e:v'.ownBlock=some b
  ·exact ge' b e
  ·refine h.ge b ((h.own b).2 λe2=>hb ?_);rw[hρ];simp only[e,if_false];exact e2
 ·subst e;have h1:=r1 _ hb;rw[keep _ h.rp (by decide)]at h1;cases h1
 ·subst e;have:=h.ra _ hb;rw[h.rp]at this;cases this
 ·subst e;have:=h.rd _ hb;rw[h.rp]at this;cases this
 ·obtain⟨d1,d2⟩:=l.db i h1 h2;refine⟨zlc d1 k2 λb hb e=>?_,λb hb=>⟨.inl (d2 b hb).1,?_⟩⟩
  ·subst e;have:=(d2 _ hb).2;rw[h.rp]at this;cases this
  ·rw[r2 b (up b (d2 b hb).1)];exact(d2 b hb).2
 ·rw[zao _ _ _ _ (ne q (by rw[h.rq];decide) (by rw[h.rq];decide))];exact l.bq (by decide)
 ·have h1:=(h.bh x y hx).1;rw[zao _ _ _ _ (ne _ (by rw[h1];exactλe=>by cases e) (by rw[h1];exactλe=>by cases e))];exact l.bh x y hx (λe=>by cases e)
 ·refine⟨(zkV k λb hb hg=>(h.own b).2 (by rw[h.rn b hg];decide)).trans k2 λb hb e=>(h.own b).2 (by rw[e,h.rp];decide),λb hb=>⟨λx=>?_,λx=>?_⟩⟩
  ·have x':ρ' b≠ .no:=x;rw[r2 b hb]at x';exact(h.own b).2 x'
  ·rcases x with x|x
   ·exact x
   ·exact h.sub b ((h.own b).2 (by rw[old b x hb];decide))
theorem MemX.setAs(h:MemX w B p m F vn va vd q ds hl c hb ρ){w5:World}{v':Value}{ats':List Nat}(k:Kp w w5 λb=>va.ownBlock=some b)(o:w5.ownsRow B T.int 1 v' ats'.length (ats'.map λ(n:Nat)=>.int .i64 n))(a:v'.ownBlock=va.ownBlock\/∀b,v'.ownBlock=some b->w.heap.size<=b):
  ∃F' ρ',MemX (setb w5 p (CB [vn,v',vd,.map (some q)] T.aA)) B p {m with ats:=ats'} F' vn v' vd q ds hl c hb ρ'/\Tr w (setb w5 p (CB [vn,v',vd,.map (some q)] T.aA)) F F':=by
 have hG:∀b,b<w.heap.size->va.ownBlock=some b->ρ b=.ats:=λb _ e=>h.ra b e;have l:=h.only k hG (by decide);have k2:=Kp.setb w5 p (CB [vn,v',vd,.map (some q)] T.aA);have lp5:=Nat.lt_of_lt_of_le (h.in_ (b:=p) (by rw[h.rp];decide)) k.size;have vl:∀b,v'.ownBlock=some b->b<w5.heap.size:=λb hb=>(zaW o b hb).2;have ge':∀b,v'.ownBlock=some b->B<=b:=λb hb=>(zaW o b hb).1;have old:∀b,v'.ownBlock=some b->b<w.heap.size->ρ b=.ats:=λb e hb=>by
  rcases a with a|a
  ·exact h.ra b (by rw[<-a];exact e)
  ·have:=a b e;omega
 obtain⟨ρ',hρ⟩:∃ρ':Nat->Rl,ρ'=λb=>if v'.ownBlock=some b then .ats else ρ b:=⟨_,rfl⟩
 have r1:∀b,v'.ownBlock=some b->ρ' b=.ats:=λb e=>by rw[hρ];exact if_pos e
 have r2:∀b,b<w.heap.size->ρ' b=ρ b:=λb hb=>by
  rw[hρ];by_cases e:v'.ownBlock=some b
  ·simp only[e,if_true];exact(old b e hb).symm
  ·simp only[e,if_false]
 have up:∀b,F.use b->b<w.heap.size:=h.lt;have keep:∀b{R:Rl},ρ b=R->R≠ .no->ρ' b=R:=λb R e hn=>by rw[r2 b (h.in_ (by rw[e];exact hn))];exact e
 have ne:∀b,ρ b≠ .no->ρ b≠ .mem->b≠p:=λb _ h2 e=>h2 (by rw[e];exact h.rp);refine⟨⟨λb=>ρ' b≠ .no,λb=>F.use b\/v'.ownBlock=some b⟩,ρ',⟨λb=>Iff.rfl,λb hb=>?_,λb hb=>?_,λb hb=>?_,keep p h.rp (by decide),zap _ _ _ _ rfl lp5,zbI (l.on (by decide)) k2 λb hb e=>?_,λb hb=>keep b (h.rn b hb) (by decide),zbI o k2 λb hb e=>?_,r1,zbI (l.od (by decide)) k2 λb hb e=>?_,λb hb=>keep b (h.rd b hb) (by decide),h.dl,λi h1 h2=>?_,keep q h.rq (by decide),?_,h.wf,h.hm,λx y hx=>⟨keep _ (h.bh x y hx).1 (λe=>by cases e),?_⟩⟩,?_⟩
 ·by_cases e:v'.ownBlock=some b
  ·exact .inr e
  ·left;refine h.sub b ((h.own b).2 λe2=>hb ?_);rw[hρ];simp only[e,if_false];exact e2
 ·show b<(setb w5 p _).heap.size;rw[sZb];rcases hb with hb|hb
  ·exact l.lt b hb
  ·exact vl b hb
 ·by_cases e:v'.ownBlock=some b
  ·exact ge' b e
  ·refine h.ge b ((h.own b).2 λe2=>hb ?_);rw[hρ];simp only[e,if_false];exact e2
 ·subst e;have:=h.rn _ hb;rw[h.rp]at this;cases this
 ·subst e;have h1:=r1 _ hb;rw[keep _ h.rp (by decide)]at h1;cases h1
 ·subst e;have:=h.rd _ hb;rw[h.rp]at this;cases this
 ·obtain⟨d1,d2⟩:=l.db i h1 h2;refine⟨zlc d1 k2 λb hb e=>?_,λb hb=>⟨.inl (d2 b hb).1,?_⟩⟩
  ·subst e;have:=(d2 _ hb).2;rw[h.rp]at this;cases this
  ·rw[r2 b (up b (d2 b hb).1)];exact(d2 b hb).2
 ·rw[zao _ _ _ _ (ne q (by rw[h.rq];decide) (by rw[h.rq];decide))];exact l.bq (by decide)
 ·have h1:=(h.bh x y hx).1;rw[zao _ _ _ _ (ne _ (by rw[h1];exactλe=>by cases e) (by rw[h1];exactλe=>by cases e))];exact l.bh x y hx (λe=>by cases e)
 ·refine⟨(zkV k λb hb hg=>(h.own b).2 (by rw[h.ra b hg];decide)).trans k2 λb hb e=>(h.own b).2 (by rw[e,h.rp];decide),λb hb=>⟨λx=>?_,λx=>?_⟩⟩
  ·have x':ρ' b≠ .no:=x;rw[r2 b hb]at x';exact(h.own b).2 x'
  ·rcases x with x|x
   ·exact x
   ·exact h.sub b ((h.own b).2 (by rw[old b x hb];decide))
end
theorem zsi(l:List Str):∀u∈l.map S,u.oneCell'=true:=λu hu=>by obtain⟨x,_,rfl⟩:=List.mem_map.1 hu;rfl
theorem zsa(l:List Nat):∀u∈l.map (λ(n:Nat)=>Value.int .i64 n),u.oneCell'=true:=λu hu=>by obtain⟨x,_,rfl⟩:=List.mem_map.1 hu;rfl
theorem zrX:(P.info? T.string).map (λi=>(i.zero,i.size,i.bytes))=some (some (S []),1,16):=by kernel_rfl
theorem infoI:(P.info? T.int).map (λi=>(i.zero,i.size,i.bytes))=some (some (.int .i64 0),1,8):=by kernel_rfl
theorem zp4{w:World}{K:Value->World->Prop}{B p:Nat}{m:SM.Mem}{F:Fp}{l:Str}{x:Nat}(h:MemS w B p m F)(hN:m.names.length<=999999999)(hA:m.ats.length=m.names.length)
  (hk:∀w' F',MemS w' B p (m.put l x) F'->Tr w w' F F'->K (tup []) w'):Cl P Fn.cJ #[pt p 0,S l,.int .i64 x] w K:=by
 apply zmL;unfold zjz;rw[C.aB];refine zkH h (by omega) ?_;obtain⟨vn,va,vd,q,ds,hl,c,hb,ρ,h⟩:=h;have bm:=h.bm;obtain⟨hp1,hp2⟩:=zlB m.names l;unfold SM.Mem.put at hk;simp only at hk;rw[zar,zaq];generalize hpl:(SM.zbj m.names l).1=i at*;refine zaa (λt w'=>w'=w/\(SM.zbj m.names l).2=false) ?_ ?_
 ·rintro t e w1 ⟨rfl,e1⟩;simp only[e1,Bool.false_eq_true,if_false]at hk;obtain⟨vf,of_,bf,sf⟩:=zke U.ae (by kernel_rfl) h.on hp1;obtain⟨vb,rb,bb,sb⟩:=zkc U.ae (by kernel_rfl) h.on hp1;simp(disch:=first|omega|(simp(disch:=first|omega|fail)only[go_sem,bm,sf,sb]<;>omega)|fail)only[go_sem,bm,sf,sb];rw[zbc (z:=S []) _ _ U.ae (by kernel_rfl) rfl];have B3:Below w1.heap.size w1 (w1.drew.alloc (CB [S l] T.string)):=by repeat (first|exact Below.refl _ _|assumption|refine zag ?_ (by first|omega|(simp only[go_sem]<;>omega)) _|refine Below.alloc ?_ (by first|omega|(simp only[go_sem]<;>omega)) _|refine Below.drew ?_)
  have o3:(w1.drew.alloc (CB [S l] T.string)).ownsRow w1.heap.size T.string 1 (sl w1.heap.size 0 1 1) 1 [S l]:=⟨rfl,.inr ⟨w1.heap.size,1,#[S l],rfl,Nat.le_refl _,heap_alloc_new w1.drew _,Nat.le_refl _,by simp[maxLen],rfl,rfl⟩⟩;rw[show sl w1.drew.heap.size 0 1 1=sl w1.heap.size 0 1 1 from rfl];generalize w1.drew.alloc (CB [S l] T.string)=w3 at*;have h3:=h.old B3;have bm3:=h3.bm;simp(disch:=first|omega|(simp(disch:=first|omega|fail)only[go_sem,bm3]<;>omega)|fail)only[go_sem,bm3];refine⟨trivial,trivial,?_⟩;rw[Nat.mul_one]at rb;have z3:=B3.size;have dl:((m.names.map S).drop i).length=(m.names.length - i)*1:=by simp
  refine zbK (z:=S []) (size:=1) (bytes:=16) U.ae zrX rfl (by omega) o3 (rb.old B3) dl (λu hu=>zsi _ u (List.mem_of_mem_drop hu)) (by simp only[maxLen];omega) (by omega) (by omega) λv4 w4 o4 g4 a4=>?_;have B4:Below w1.heap.size w1 w4:=B3.trans (zhz o3 g4 (by omega));have h4:=h.old B4;have bm4:=h4.bm;simp(disch:=first|omega|(simp(disch:=first|omega|fail)only[go_sem,bm4]<;>omega)|fail)only[go_sem,bm4];refine⟨trivial,?_⟩;rw[Nat.mul_one]at of_;have z4:=B4.size;have e4:[S l]++(m.names.map S).drop i=(l::m.names.drop i).map S:=by simp
  rw[e4]at o4;have r4:RowS w4 v4 (1+(m.names.length - i)) ((l::m.names.drop i).map S):=by
   obtain⟨b5,cap5,cur5,rfl,q1,q2,q3,q4,q5,q6⟩:=zcV o4 (by omega);refine .inl ⟨b5,0,cap5,rfl,?_⟩;rw[q4];have hlen:((l::m.names.drop i).map S).length=1+(m.names.length - i):=by simp;omega
   simp only[zaY,hlen];rw[if_pos (by simp only[List.size_toArray];omega)];rw[Nat.mul_one]at q6;simpa using q6
  refine zbK (z:=S []) (size:=1) (bytes:=16) U.ae zrX rfl (by omega) (zbf of_ B4 (Nat.le_refl _)) r4 (by simp;omega) (zsi _) (by simp only[maxLen];omega) (by omega) (by have:=h.ge p ((h.own p).2 (by rw[h.rp];decide));have:=h4.in_ (b:=p) (by rw[h4.rp];decide);omega) λv5 w5 o5 g5 a5=>?_;have e5:(m.names.map S).take i++(l::m.names.drop i).map S=(m.names.take i++l::m.names.drop i).map S:=by simp
  rw[e5]at o5;have K5:Kp w4 w5 λb=>vn.ownBlock=some b:=by have:=Kp.of_grown g5;rw[bf]at this;exact this
  have lp:p<w1.heap.size:=h.in_ (by rw[h.rp];decide);have np:vn.ownBlock≠some p:=λe=>by have:=h.rn p e;rw[h.rp]at this;cases this
  have bm5:bk w5 p=some (CB [vn,va,vd,.map (some q)] T.aA):=by rw[K5.block p (by omega) np];exact bm4
  have one5:v5.oneCell'=true:=by obtain⟨_,_,rfl⟩:=zan o5;rfl
  obtain⟨F6,ρ6,h6,t6⟩:=h4.setN K5 (names':=m.names.take i++l::m.names.drop i) (by
   have:(m.names.take i++l::m.names.drop i).length=i+(1+(m.names.length - i)):=by simp;omega
   rw[this];exact o5) (by
   rcases a5 with a5|a5
   ·exact .inl (by rw[a5,bf])
   ·exact .inr λb hb=>by rw[a5]at hb;have:=Option.some.inj hb;omega)
  simp(disch:=first|omega|(simp(disch:=first|omega|fail)only[go_sem,bm5,one5]<;>omega)|fail)only[go_sem,bm5,one5];have T6:=Tr.before B4 t6;generalize setb w5 p (CB [v5,va,vd,.map (some q)] T.aA)=w6 at*;clear g5 g4 o5 o4 o3 r4 K5 bm5 t6;have bm6:=h6.bm;obtain⟨vf2,of2,bf2,sf2⟩:=zke U.au (by kernel_rfl) h6.oa (p:=i) (by show i<=m.ats.length;omega);obtain⟨vb2,rb2,bb2,sb2⟩:=zkc U.au (by kernel_rfl) h6.oa (p:=i) (by show i<=m.ats.length;omega);simp(disch:=first|omega|(simp(disch:=first|omega|fail)only[go_sem,bm6,sf2,sb2]<;>omega)|fail)only[go_sem,bm6,sf2,sb2];rw[zbc (z:=.int .i64 0) _ _ U.au (by kernel_rfl) rfl];have B7:Below w6.heap.size w6 (w6.drew.alloc (CB [.int .i64 x] T.int)):=by repeat (first|exact Below.refl _ _|assumption|refine zag ?_ (by first|omega|(simp only[go_sem]<;>omega)) _|refine Below.alloc ?_ (by first|omega|(simp only[go_sem]<;>omega)) _|refine Below.drew ?_)
  have o7:(w6.drew.alloc (CB [.int .i64 x] T.int)).ownsRow w6.heap.size T.int 1 (sl w6.heap.size 0 1 1) 1 [.int .i64 x]:=⟨rfl,.inr ⟨w6.heap.size,1,#[.int .i64 x],rfl,Nat.le_refl _,heap_alloc_new w6.drew _,Nat.le_refl _,by simp[maxLen],rfl,rfl⟩⟩;rw[show sl w6.drew.heap.size 0 1 1=sl w6.heap.size 0 1 1 from rfl];generalize w6.drew.alloc (CB [.int .i64 x] T.int)=w7 at*;have h7:=h6.old B7;have bm7:=h7.bm;simp(disch:=first|omega|(simp(disch:=first|omega|fail)only[go_sem,bm7]<;>omega)|fail)only[go_sem,bm7];refine⟨trivial,trivial,?_⟩;rw[Nat.mul_one]at rb2;have z7:=B7.size;refine zbK (z:=.int .i64 0) (size:=1) (bytes:=8) U.au infoI rfl (by omega) o7 (rb2.old B7) (by simp) (λu hu=>zsa _ u (List.mem_of_mem_drop hu)) (by show 1+(m.ats.length - i)<=maxLen;simp only[maxLen];omega) (by show(1+(m.ats.length - i))*8<=_;omega) (by omega) λv8 w8 o8 g8 a8=>?_;have B8:Below w6.heap.size w6 w8:=B7.trans (zhz o7 g8 (by omega));have h8:=h6.old B8;have bm8:=h8.bm;simp(disch:=first|omega|(simp(disch:=first|omega|fail)only[go_sem,bm8]<;>omega)|fail)only[go_sem,bm8];refine⟨trivial,?_⟩;rw[Nat.mul_one]at of2;have z8:=B8.size;have e8:[Value.int .i64 (x:Int)]++(m.ats.map λ(n:Nat)=>Value.int .i64 n).drop i=(x::m.ats.drop i).map λ(n:Nat)=>Value.int .i64 n:=by simp
  have o8':w8.ownsRow w6.heap.size T.int 1 v8 (1+(m.ats.length - i)) ((x::m.ats.drop i).map λ(n:Nat)=>Value.int .i64 n):=by rw[<-e8];exact o8
  have r8:RowS w8 v8 (1+(m.ats.length - i)) ((x::m.ats.drop i).map λ(n:Nat)=>Value.int .i64 n):=by
   obtain⟨b5,cap5,cur5,rfl,q1,q2,q3,q4,q5,q6⟩:=zcV o8' (by omega);refine .inl ⟨b5,0,cap5,rfl,?_⟩;rw[q4];have hlen:((x::m.ats.drop i).map λ(n:Nat)=>Value.int .i64 n).length=1+(m.ats.length - i):=by simp;omega
   simp only[zaY,hlen];rw[if_pos (by simp only[List.size_toArray];omega)];rw[Nat.mul_one]at q6;simpa using q6
  refine zbK (z:=.int .i64 0) (size:=1) (bytes:=8) U.au infoI rfl (by omega) (zbf of2 B8 (Nat.le_refl _)) r8 (by simp;omega) (zsa _) (by simp only[maxLen];omega) (by omega) (by have:=h6.ge p ((h6.own p).2 (by rw[h6.rp];decide));have:=h8.in_ (b:=p) (by rw[h8.rp];decide);omega) λv9 w9 o9 g9 a9=>?_;have e9:(m.ats.map λ(n:Nat)=>Value.int .i64 n).take i++(x::m.ats.drop i).map (λ(n:Nat)=>Value.int .i64 n)=(m.ats.take i++x::m.ats.drop i).map λ(n:Nat)=>Value.int .i64 n:=by simp
  have K9:Kp w8 w9 λb=>va.ownBlock=some b:=by have:=Kp.of_grown g9;rw[bf2]at this;exact this
  have lp6:p<w6.heap.size:=h6.in_ (by rw[h6.rp];decide);have np6:va.ownBlock≠some p:=λe=>by have:=h6.ra p e;rw[h6.rp]at this;cases this
  have bm9:bk w9 p=some (CB [v5,va,vd,.map (some q)] T.aA):=by rw[K9.block p (by omega) np6];exact bm8
  have one9:v9.oneCell'=true:=by obtain⟨_,_,rfl⟩:=zan o9;rfl
  obtain⟨F10,ρ10,h10,t10⟩:=h8.setAs K9 (ats':=m.ats.take i++x::m.ats.drop i) (by
   have:(m.ats.take i++x::m.ats.drop i).length=i+(1+(m.ats.length - i)):=by simp;omega
   rw[this,<-e9];exact o9) (by
   rcases a9 with a9|a9
   ·exact .inl (by rw[a9,bf2])
   ·exact .inr λb hb=>by rw[a9]at hb;have:=Option.some.inj hb;omega)
  simp(disch:=first|omega|(simp(disch:=first|omega|fail)only[go_sem,bm9,one9]<;>omega)|fail)only[go_sem,bm9,one9];exact hk _ _ ⟨_,_,_,_,_,_,_,_,_,h10⟩ (T6.trans (Tr.before B8 t10))
 ·cases e1:(SM.zbj m.names l).2 with
  |true=>
   have hlt:=hp2 e1;simp only[e1,if_true]at hk;obtain⟨g,cur,g1,g2,g3,g4,g5,g6⟩:=zhw U.au (by kernel_rfl) h.oa (i:=i) (by omega);rw[Nat.mul_one]at g6;have hcl:i<cur.length:=by omega
   simp(disch:=first|omega|(simp(disch:=first|omega|fail)only[go_sem,bm,g6,g3,hcl]<;>omega)|fail)only[go_sem,bm,g6,g3,hcl];obtain⟨h2,t2⟩:=h.setA (x:=x) (i:=i) (by omega) g1 g3 g5;exact hk _ _ ⟨_,_,_,_,_,_,_,_,_,h2⟩ t2
  |false=>simp(disch:=first|omega|(simp(disch:=first|omega|fail)only[go_sem]<;>omega)|fail)only[go_sem];exact⟨trivial,trivial⟩
theorem zl7{w:World}{K:Value->World->Prop}{B p:Nat}{m:SM.Mem}{F:Fp}{l:Str}(h:MemS w B p m F)(hN:m.names.length<=999999999)(hA:m.ats.length=m.names.length)
  (hk:∀w' F',MemS w' B p (m.drop l) F'->Tr w w' F F'->K (tup []) w'):Cl P Fn.aZ #[pt p 0,S l] w K:=by
 apply zmj;unfold ziw;rw[C.aB];refine zkH h (by omega) ?_;obtain⟨vn,va,vd,q,ds,hl,c,hb,ρ,h⟩:=h;have bm:=h.bm;obtain⟨hp1,hp2⟩:=zlB m.names l;unfold SM.Mem.drop at hk;simp only at hk;rw[zar,zaq];generalize hpl:(SM.zbj m.names l).1=i at*;cases e1:(SM.zbj m.names l).2 with
 |false=>simp only[e1,Bool.false_eq_true,if_false]at hk;simp(disch:=first|omega|(simp(disch:=first|omega|fail)only[go_sem]<;>omega)|fail)only[go_sem];exact hk _ _ ⟨_,_,_,_,_,_,_,_,_,h⟩ (Tr.refl _ _)
 |true=>
  have hlt:=hp2 e1;simp only[e1,if_true]at hk;obtain⟨vf,of_,bf,sf⟩:=zke U.ae (by kernel_rfl) h.on hp1;obtain⟨vb,rb,bb,sb⟩:=zkc U.ae (by kernel_rfl) h.on (p:=i+1) (by omega);have sb':∀(M:Value->Prop),pu P (zaE T.aj vn (some (.int .i64 ((i:Int)+1))) none none) M=M vb:=λM=>by rw[<-sb .i64 M];rfl
  simp(disch:=first|omega|(simp(disch:=first|omega|fail)only[go_sem,bm,sf,sb']<;>omega)|fail)only[go_sem,bm,sf,sb'];rw[Nat.mul_one]at rb of_;have B1:Below w.heap.size w w.drew:=by repeat (first|exact Below.refl _ _|assumption|refine zag ?_ (by first|omega|(simp only[go_sem]<;>omega)) _|refine Below.alloc ?_ (by first|omega|(simp only[go_sem]<;>omega)) _|refine Below.drew ?_)
  have lp:p<w.heap.size:=h.in_ (by rw[h.rp];decide);have gp:B<=p:=h.ge p ((h.own p).2 (by rw[h.rp];decide));refine zbK (z:=S []) (size:=1) (bytes:=16) U.ae zrX rfl (by omega) (zbf of_ B1 (Nat.le_refl _)) (rb.old B1) (by simp) (λu hu=>zsi _ u (List.mem_of_mem_drop hu)) (by simp only[maxLen];omega) (by omega) (by show B<=w.heap.size;omega) λv5 w5 o5 g5 a5=>?_;have e5:(m.names.map S).take i++(m.names.map S).drop (i+1)=(m.names.take i++m.names.drop (i+1)).map S:=by simp
  rw[e5]at o5;have K5:Kp w w5 λb=>vn.ownBlock=some b:=by have:=Kp.of_grown g5;rw[bf]at this;exact(Kp.drew w _).trans this λ_ _ h=>h
  have np:vn.ownBlock≠some p:=λe=>by have:=h.rn p e;rw[h.rp]at this;cases this
  have bm5:bk w5 p=some (CB [vn,va,vd,.map (some q)] T.aA):=by rw[K5.block p lp np];exact bm
  have one5:v5.oneCell'=true:=by obtain⟨_,_,rfl⟩:=zan o5;rfl
  obtain⟨F6,ρ6,h6,t6⟩:=h.setN K5 (names':=m.names.take i++m.names.drop (i+1)) (by
   have:(m.names.take i++m.names.drop (i+1)).length=i+(m.names.length - (i+1)):=by simp;omega
   rw[this];exact o5) (by
   rcases a5 with a5|a5
   ·exact .inl (by rw[a5,bf])
   ·exact .inr λb hb=>by rw[a5]at hb;have:=Option.some.inj hb;have e:w.drew.heap.size=w.heap.size:=rfl;omega)
  simp(disch:=first|omega|(simp(disch:=first|omega|fail)only[go_sem,bm5,one5]<;>omega)|fail)only[go_sem,bm5,one5];generalize setb w5 p (CB [v5,va,vd,.map (some q)] T.aA)=w6 at*;clear g5 o5 K5 bm5;have bm6:=h6.bm;obtain⟨vf2,of2,bf2,sf2⟩:=zke U.au (by kernel_rfl) h6.oa (p:=i) (by show i<=m.ats.length;omega);obtain⟨vb2,rb2,bb2,sb2⟩:=zkc U.au (by kernel_rfl) h6.oa (p:=i+1) (by show i+1<=m.ats.length;omega);have sb2':∀(M:Value->Prop),pu P (zaE T.aR va (some (.int .i64 ((i:Int)+1))) none none) M=M vb2:=λM=>by rw[<-sb2 .i64 M];rfl
  simp(disch:=first|omega|(simp(disch:=first|omega|fail)only[go_sem,bm6,sf2,sb2']<;>omega)|fail)only[go_sem,bm6,sf2,sb2'];rw[Nat.mul_one]at rb2 of2;have B7:Below w6.heap.size w6 w6.drew:=by repeat (first|exact Below.refl _ _|assumption|refine zag ?_ (by first|omega|(simp only[go_sem]<;>omega)) _|refine Below.alloc ?_ (by first|omega|(simp only[go_sem]<;>omega)) _|refine Below.drew ?_)
  have lp6:p<w6.heap.size:=h6.in_ (by rw[h6.rp];decide);refine zbK (z:=.int .i64 0) (size:=1) (bytes:=8) U.au infoI rfl (by omega) (zbf of2 B7 (Nat.le_refl _)) (rb2.old B7) (by simp) (λu hu=>zsa _ u (List.mem_of_mem_drop hu)) (by show i+(m.ats.length - (i+1))<=maxLen;simp only[maxLen];omega) (by show(i+(m.ats.length - (i+1)))*8<=_;omega) (by show B<=w6.heap.size;omega) λv9 w9 o9 g9 a9=>?_;have e9:(m.ats.map λ(n:Nat)=>Value.int .i64 n).take i++(m.ats.map λ(n:Nat)=>Value.int .i64 n).drop (i+1)=(m.ats.take i++m.ats.drop (i+1)).map λ(n:Nat)=>Value.int .i64 n:=by simp
  have K9:Kp w6 w9 λb=>va.ownBlock=some b:=by have:=Kp.of_grown g9;rw[bf2]at this;exact(Kp.drew w6 _).trans this λ_ _ h=>h
  have np6:va.ownBlock≠some p:=λe=>by have:=h6.ra p e;rw[h6.rp]at this;cases this
  have bm9:bk w9 p=some (CB [v5,va,vd,.map (some q)] T.aA):=by rw[K9.block p lp6 np6];exact bm6
  have one9:v9.oneCell'=true:=by obtain⟨_,_,rfl⟩:=zan o9;rfl
  obtain⟨F10,ρ10,h10,t10⟩:=h6.setAs K9 (ats':=m.ats.take i++m.ats.drop (i+1)) (by
   have:(m.ats.take i++m.ats.drop (i+1)).length=i+(m.ats.length - (i+1)):=by simp;omega
   rw[this,<-e9];exact o9) (by
   rcases a9 with a9|a9
   ·exact .inl (by rw[a9,bf2])
   ·exact .inr λb hb=>by rw[a9]at hb;have:=Option.some.inj hb;have e:w6.drew.heap.size=w6.heap.size:=rfl;omega)
  simp(disch:=first|omega|(simp(disch:=first|omega|fail)only[go_sem,bm9,one9]<;>omega)|fail)only[go_sem,bm9,one9];exact hk _ _ ⟨_,_,_,_,_,_,_,_,_,h10⟩ (t6.trans t10)
theorem zqP(ns:List SM.Node)(ds:List Value)(h:ds.length=ns.length):(zcS ns ds).length=ns.length*5:=by
 unfold zcS;have:∀(ns:List SM.Node)(ds:List Value),ds.length=ns.length->(List.zipWith zbM ns ds).flatten.length=ns.length*5:=by
  intro ns
  induction ns with
  |nil=>intro ds h;simp
  |cons n ns ih=>
   intro ds h;cases ds with
   |nil=>simp at h
   |cons d ds=>simp at h;simp[ih ds h];omega
 exact this ns ds h
theorem zpl(ns:List SM.Node)(ds:List Value)(h:ds.length=ns.length)(n:SM.Node)(d:Value):zcS (ns++[n]) (ds++[d])=zcS ns ds++zbM n d:=by unfold zcS;rw[List.zipWith_append h.symm];simp
theorem zoz(ns:List SM.Node)(ds:List Value)(h:ds.length=ns.length){i:Nat}(hi:i<ns.length):((zcS ns ds).drop (i*5)).take 5=zbM ns[i] (ds[i]'(by omega)):=by
 unfold zcS
 induction ns generalizing ds i with
 |nil=>simp at hi
 |cons n ns ih=>
  cases ds with
  |nil=>simp at h
  |cons d ds=>
   simp at h;cases i with
   |zero=>simp
   |succ i=>simp only[List.length_cons]at hi;have:=ih ds h (i:=i) (by omega);simp only[List.zipWith_cons_cons,List.flatten_cons,List.getElem_cons_succ];rw[<-this];congr 1;rw[show(i+1)*5=(zbM n d).length+i*5 by simp;omega,List.drop_append];simp
theorem zqO(ns:List SM.Node)(ds:List Value)(h:ds.length=ns.length){i:Nat}(hi:i<ns.length)(n:SM.Node)(d:Value):zcS (ns.set i n) (ds.set i d)=(zcS ns ds).take (i*5)++zbM n d++(zcS ns ds).drop (i*5+5):=by
 unfold zcS
 induction ns generalizing ds i with
 |nil=>simp at hi
 |cons a ns ih=>
  cases ds with
  |nil=>simp at h
  |cons e ds=>
   simp at h;cases i with
   |zero=>simp
   |succ i=>simp only[List.length_cons]at hi;have:=ih ds h (i:=i) (by omega);simp only[List.set_cons_succ,List.zipWith_cons_cons,List.flatten_cons];rw[this,show(i+1)*5=(zbM a e).length+i*5 by simp;omega,List.take_length_add_append,show(zbM a e).length+i*5+5=(zbM a e).length+(i*5+5) by omega,List.drop_length_add_append];simp only[List.append_assoc]
section
variable{w w':World}{B p:Nat}{m:SM.Mem}{F:Fp}{vn va vd:Value}{q:Nat}{ds:List Value}{hl:ML Int}{c:Nat}{hb:Int->Nat}{ρ:Nat->Rl}
theorem MemX.more(h:MemX w B p m F vn va vd q ds hl c hb ρ){U:Nat->Prop}(hU:∀b,U b->b<w.heap.size):MemX w B p m ⟨F.own,λb=>F.use b\/U b⟩ vn va vd q ds hl c hb ρ:=⟨h.own,λb hb=>.inl (h.sub b hb),λb hb=>hb.elim (h.lt b) (hU b),h.ge,h.rp,h.bm,h.on,h.rn,h.oa,h.ra,h.od,h.rd,h.dl,λi h1 h2=>⟨(h.db i h1 h2).1,λb hb=>⟨.inl ((h.db i h1 h2).2 b hb).1,((h.db i h1 h2).2 b hb).2⟩⟩,h.rq,h.bq,h.wf,h.hm,h.bh⟩
theorem MemX.setD(h:MemX w B p m F vn va vd q ds hl c hb ρ){w5:World}{v':Value}{nodes':List SM.Node}{ds':List Value}(k:Kp w w5 λb=>vd.ownBlock=some b)(o:w5.ownsRow B T.ag 5 v' nodes'.length (zcS nodes' ds'))(a:v'.ownBlock=vd.ownBlock\/∀b,v'.ownBlock=some b->w.heap.size<=b)
  (hd:ds'.length=nodes'.length) (hdb:∀i(h1:i<ds'.length)(h2:i<nodes'.length),BS w ds'[i] nodes'[i].data/\∀b,ds'[i].ownBlock=some b->F.use b/\ρ b=.no):
  ∃F' ρ',MemX (setb w5 p (CB [vn,va,v',.map (some q)] T.aA)) B p {m with nodes:=nodes'} F' vn va v' q ds' hl c hb ρ'/\Tr w (setb w5 p (CB [vn,va,v',.map (some q)] T.aA)) F F':=by
 have hG:∀b,b<w.heap.size->vd.ownBlock=some b->ρ b=.nds:=λb _ e=>h.rd b e;have l:=h.only k hG (by decide);have k2:=Kp.setb w5 p (CB [vn,va,v',.map (some q)] T.aA);have lp5:=Nat.lt_of_lt_of_le (h.in_ (b:=p) (by rw[h.rp];decide)) k.size;have vl:∀b,v'.ownBlock=some b->b<w5.heap.size:=λb hb=>(zaW o b hb).2;have ge':∀b,v'.ownBlock=some b->B<=b:=λb hb=>(zaW o b hb).1;have old:∀b,v'.ownBlock=some b->b<w.heap.size->ρ b=.nds:=λb e hb=>by
  rcases a with a|a
  ·exact h.rd b (by rw[<-a];exact e)
  ·have:=a b e;omega
 obtain⟨ρ',hρ⟩:∃ρ':Nat->Rl,ρ'=λb=>if v'.ownBlock=some b then .nds else ρ b:=⟨_,rfl⟩
 have r1:∀b,v'.ownBlock=some b->ρ' b=.nds:=λb e=>by rw[hρ];exact if_pos e
 have r2:∀b,b<w.heap.size->ρ' b=ρ b:=λb hb=>by
  rw[hρ];by_cases e:v'.ownBlock=some b
  ·simp only[e,if_true];exact(old b e hb).symm
  ·simp only[e,if_false]
 have up:∀b,F.use b->b<w.heap.size:=h.lt;have keep:∀b{R:Rl},ρ b=R->R≠ .no->ρ' b=R:=λb R e hn=>by rw[r2 b (h.in_ (by rw[e];exact hn))];exact e
 have ne:∀b,ρ b≠ .no->ρ b≠ .mem->b≠p:=λb _ h2 e=>h2 (by rw[e];exact h.rp);refine⟨⟨λb=>ρ' b≠ .no,λb=>F.use b\/v'.ownBlock=some b⟩,ρ',⟨λb=>Iff.rfl,λb hb=>?_,λb hb=>?_,λb hb=>?_,keep p h.rp (by decide),zap _ _ _ _ rfl lp5,zbI (l.on (by decide)) k2 λb hb e=>?_,λb hb=>keep b (h.rn b hb) (by decide),zbI (l.oa (by decide)) k2 λb hb e=>?_,λb hb=>keep b (h.ra b hb) (by decide),zbI o k2 λb hb e=>?_,r1,hd,λi h1 h2=>?_,keep q h.rq (by decide),?_,h.wf,h.hm,λx y hx=>⟨keep _ (h.bh x y hx).1 (λe=>by cases e),?_⟩⟩,?_⟩
 ·by_cases e:v'.ownBlock=some b
  ·exact .inr e
  ·left;refine h.sub b ((h.own b).2 λe2=>hb ?_);rw[hρ];simp only[e,if_false];exact e2
 ·show b<(setb w5 p _).heap.size;rw[sZb];rcases hb with hb|hb
  ·exact l.lt b hb
  ·exact vl b hb
 ·by_cases e:v'.ownBlock=some b
  ·exact ge' b e
  ·refine h.ge b ((h.own b).2 λe2=>hb ?_);rw[hρ];simp only[e,if_false];exact e2
 ·subst e;have:=h.rn _ hb;rw[h.rp]at this;cases this
 ·subst e;have:=h.ra _ hb;rw[h.rp]at this;cases this
 ·subst e;have h1:=r1 _ hb;rw[keep _ h.rp (by decide)]at h1;cases h1
 ·obtain⟨d1,d2⟩:=hdb i h1 h2;have d3:BS w5 ds'[i] nodes'[i].data:=zlc d1 k λb hb e=>by have:=(d2 b hb).2;rw[h.rd b e]at this;cases this
  refine⟨zlc d3 k2 λb hb e=>?_,λb hb=>⟨.inl (d2 b hb).1,?_⟩⟩
  ·subst e;have:=(d2 _ hb).2;rw[h.rp]at this;cases this
  ·rw[r2 b (up b (d2 b hb).1)];exact(d2 b hb).2
 ·rw[zao _ _ _ _ (ne q (by rw[h.rq];decide) (by rw[h.rq];decide))];exact l.bq (by decide)
 ·have h1:=(h.bh x y hx).1;rw[zao _ _ _ _ (ne _ (by rw[h1];exactλe=>by cases e) (by rw[h1];exactλe=>by cases e))];exact l.bh x y hx (λe=>by cases e)
 ·refine⟨(zkV k λb hb hg=>(h.own b).2 (by rw[h.rd b hg];decide)).trans k2 λb hb e=>(h.own b).2 (by rw[e,h.rp];decide),λb hb=>⟨λx=>?_,λx=>?_⟩⟩
  ·have x':ρ' b≠ .no:=x;rw[r2 b hb]at x';exact(h.own b).2 x'
  ·rcases x with x|x
   ·exact x
   ·exact h.sub b ((h.own b).2 (by rw[old b x hb];decide))
theorem MemX.turnD(h:MemX w B p m F vn va vd q ds hl c hb ρ){g:Nat}{cur cur':List Value}{nodes':List SM.Node}{ds':List Value}(hg:vd.ownBlock=some g)(hc:bk w g=some (CB cur T.ag))(hcl:cur'.length=cur.length)(hn:nodes'.length=m.nodes.length)(ht:cur'.take (m.nodes.length*5)=zcS nodes' ds')
  (hd:ds'.length=nodes'.length) (hdb:∀i(h1:i<ds'.length)(h2:i<nodes'.length),BS w ds'[i] nodes'[i].data/\∀b,ds'[i].ownBlock=some b->F.use b/\ρ b=.no):
  MemX (setb w g (CB cur' T.ag)) B p {m with nodes:=nodes'} F vn va vd q ds' hl c hb ρ/\Tr w (setb w g (CB cur' T.ag)) F F:=by
 have rg:=h.rd g hg;have k:=Kp.setb w g (CB cur' T.ag);have hG:∀b,b<w.heap.size->b=g->ρ b=.nds:=λb _ e=>by rw[e];exact rg
 have l:=h.only k hG (by decide);refine⟨⟨h.own,h.sub,l.lt,h.ge,h.rp,l.bm (by decide),l.on (by decide),h.rn,l.oa (by decide),h.ra,?_,h.rd,hd,λi h1 h2=>?_,h.rq,l.bq (by decide),h.wf,h.hm,λa b hx=>⟨(h.bh a b hx).1,l.bh a b hx (λe=>by cases e)⟩⟩,h.tr k hG (by decide)⟩
 ·have o:=zjL h.od hg hc hcl _ (rfl:CB cur' T.ag=_);rw[ht]at o;show World.ownsRow _ _ _ _ _ nodes'.length _;rw[hn];exact o
 ·obtain⟨d1,d2⟩:=hdb i h1 h2;exact⟨zlc d1 k λb hb e=>(by have:=(d2 b hb).2;rw[e,rg]at this;cases this),d2⟩
end
theorem infoN:(P.info? T.ag).map (λi=>(i.zero,i.size,i.bytes))=some (some (AG (zbM ⟨false,0,[],0,[]⟩ (.slice none 0 0))),5,64):=by kernel_rfl
theorem zt4:(P.info? T.ag).map (λi=>(i.zero,i.size))=some (some (AG (zbM ⟨false,0,[],0,[]⟩ (.slice none 0 0))),5):=by kernel_rfl
theorem ze0{w:World}{v:Value}{l:List UInt8}(h:BS w v l):v.oneCell'=true:=by obtain⟨a,c,rfl⟩:=zay h;rfl
theorem zlA{w:World}{K:Value->World->Prop}{B p:Nat}{m:SM.Mem}{F:Fp}{l:Str}{n:SM.Node}{dv:Value}(h:MemS w B p m F)(hN:m.names.length<=999999999)(hD:m.nodes.length<=999999999)(hA:m.ats.length=m.names.length)
  (hdv:BS w dv n.data) (hdu:∀b,dv.ownBlock=some b->F.use b/\¬F.own b)
  (hk:∀w' F',MemS w' B p (m.add l n) F'->Tr w w' F F'->K (.int .i64 (m.nodes.length:Nat)) w'):Cl P Fn.bF #[pt p 0,S l,AG (zbM n dv)] w K:=by
 obtain⟨vn,va,vd,q,ds,hl,c,hb,ρ,h⟩:=h;apply zmC;unfold zjy;have hdo:=ze0 hdv;rw[zcJ];have B1:Below w.heap.size w (setb (w.alloc (CB (zbM n dv) T.ag)) w.heap.size (CB (zbM {n with name:=l} dv) T.ag)):=by repeat (first|exact Below.refl _ _|assumption|refine zag ?_ (by first|omega|(simp only[go_sem]<;>omega)) _|refine Below.alloc ?_ (by first|omega|(simp only[go_sem]<;>omega)) _|refine Below.drew ?_)
 have bb:bk (setb (w.alloc (CB (zbM n dv) T.ag)) w.heap.size (CB (zbM {n with name:=l} dv) T.ag)) w.heap.size=some (CB (zbM {n with name:=l} dv) T.ag):=zap _ _ _ _ rfl (by simp only[go_sem];omega);simp(disch:=first|omega|(simp(disch:=first|omega|fail)only[go_sem]<;>omega)|fail)only[go_sem];generalize setb (w.alloc (CB (zbM n dv) T.ag)) w.heap.size (CB (zbM {n with name:=l} dv) T.ag)=w2 at*;have h2:=h.old B1;have bm2:=h2.bm;simp(disch:=first|omega|(simp(disch:=first|omega|fail)only[go_sem,bm2,bb]<;>omega)|fail)only[go_sem,bm2,bb];rw[zbg (size:=5) _ _ U.ao zt4 (by omega) (by omega) rfl];have z1:=B1.size;have lw2:w.heap.size<w2.heap.size:=zaj bb;have B3:Below w2.heap.size w2 (w2.drew.alloc (CB (zbM {n with name:=l} dv) T.ag)):=by repeat (first|exact Below.refl _ _|assumption|refine zag ?_ (by first|omega|(simp only[go_sem]<;>omega)) _|refine Below.alloc ?_ (by first|omega|(simp only[go_sem]<;>omega)) _|refine Below.drew ?_)
 have r3:zaY (bk (w2.drew.alloc (CB (zbM {n with name:=l} dv) T.ag)) w2.heap.size) 0 5=some (zbM {n with name:=l} dv):=by rw[zaf _ _ _ (by rfl)];rfl
 rw[show sl w2.drew.heap.size 0 1 1=sl w2.heap.size 0 1 1 from rfl];generalize w2.drew.alloc (CB (zbM {n with name:=l} dv) T.ag)=w3 at*;have h3:=h2.old B3;have bm3:=h3.bm;have z3:=B3.size;simp(disch:=first|omega|(simp(disch:=first|omega|fail)only[go_sem,bm3]<;>omega)|fail)only[go_sem,bm3];refine⟨trivial,?_⟩;have lp:p<w.heap.size:=h.in_ (by rw[h.rp];decide);have gp:B<=p:=h.ge p ((h.own p).2 (by rw[h.rp];decide));refine zbK (size:=5) (bytes:=64) (news:=zbM {n with name:=l} dv) U.ao infoN rfl (by omega) h3.od (.inl ⟨_,_,_,rfl,r3⟩) rfl (λu hu=>by simp at hu;rcases hu with rfl|rfl|rfl|rfl|rfl<;>first|exact hdo|rfl) (by simp only[maxLen];omega) (by omega) (by omega) λv5 w5 o5 g5 a5=>?_
 rw[<-zpl _ _ h.dl]at o5;have K5:Kp w3 w5 λb=>vd.ownBlock=some b:=Kp.of_grown g5;have np:vd.ownBlock≠some p:=λe=>by have:=h.rd p e;rw[h.rp]at this;cases this
 have bm5:bk w5 p=some (CB [vn,va,vd,.map (some q)] T.aA):=by rw[K5.block p (by omega) np];exact bm3
 have one5:v5.oneCell'=true:=by obtain⟨_,_,rfl⟩:=zan o5;rfl
 have B13:Below w.heap.size w w3:=B1.trans (B3.mono (by omega));obtain⟨F6,ρ6,h6,t6⟩:=h3.setD K5 (nodes':=m.nodes++[{n with name:=l}]) (ds':=ds++[dv]) (by
  have:(m.nodes++[{n with name:=l}]).length=m.nodes.length+1:=by simp
  rw[this];exact o5) (by
  rcases a5 with a5|a5
  ·exact .inl a5
  ·exact .inr λb hb=>by rw[a5]at hb;have:=Option.some.inj hb;omega) (by simp[h.dl]) (λi h1 h2=>by
  have hdl:=h.dl;by_cases hi:i<ds.length
  ·have hi2:i<m.nodes.length:=by omega
   rw[List.getElem_append_left hi,List.getElem_append_left hi2];obtain⟨d1,d2⟩:=h3.db i hi hi2;exact⟨d1,d2⟩
  ·have e1:i=ds.length:=by simp at h1;omega
   subst e1;have e2:(m.nodes++[{n with name:=l}])[ds.length]={n with name:=l}:=by simp[hdl]
   rw[e2];have e3:(ds++[dv])[ds.length]=dv:=by simp
   rw[e3];refine⟨zcs hdv B13 (Nat.le_refl _),λb hb=>⟨(hdu b hb).1,?_⟩⟩;have:=(hdu b hb).2;rw[h.own]at this;exact Decidable.not_not.1 this)
 obtain⟨av5,cap5,rfl⟩:=zan o5;simp(disch:=first|omega|(simp(disch:=first|omega|fail)only[go_sem,bm5,one5]<;>omega)|fail)only[go_sem,bm5,one5];have T6:=Tr.before B13 t6;generalize setb w5 p (CB [vn,va,.slice av5 (m.nodes.length+1) cap5,.map (some q)] T.aA)=w6 at*;have bm6:=h6.bm;simp(disch:=first|omega|(simp(disch:=first|omega|fail)only[go_sem,bm6]<;>omega)|fail)only[go_sem,bm6];have e6:(((m.nodes.length+1:Nat):Int) - 1)=(m.nodes.length:Nat):=by omega
 rw[e6];refine zp4 ⟨_,_,_,_,_,_,_,_,_,h6⟩ hN hA λw7 F7 h7 t7=>?_;have T7:=T6.trans t7;have h7':=h7;obtain⟨vn7,va7,vd7,q7,ds7,hl7,c7,hb7,ρ7,h7x⟩:=h7;have bm7:=h7x.bm;have ln7:((SM.Mem.put {m with nodes:=m.nodes++[{n with name:=l}]} l m.nodes.length).nodes).length=m.nodes.length+1:=by
  unfold SM.Mem.put;simp only
  split<;>simp
 obtain⟨av7,cap7,rfl⟩:=zan h7x.od;rw[ln7]at bm7;simp(disch:=first|omega|(simp(disch:=first|omega|fail)only[go_sem,bm7]<;>omega)|fail)only[go_sem,bm7];rw[e6];exact hk _ _ h7' T7
end Go.Proofs.YtdljebgllipdjaaGreatDoor.X
end
section
namespace Go.Proofs.YtdljebgllipdjaaGreatDoor.X
open Go Go.X Go.Proofs Go.RowKit Go.Lib
theorem zpf{v:Value}{n B:Nat}{xs:List Value}{l:List UInt8}{w:World}{K:Value->World->Prop}(hv:w.ownsRow B T.string 1 v n xs)(hn:n<=1000000000)(hB:B<=w.heap.size)
  (h:∀b c w',w'.ownsRow B T.string 1 (sl b 0 (n+1) c) (n+1) (xs++[S l])->Below B w w'->K (sl b 0 (n+1) c) w'):
  st P (zam T.aj 1 #[(0,S l)]) w λt31 w4=>st P (zac .append #[T.aj,T.aj] T.aj #[false,false] #[v,t31]) w4 K:=by
 rw[zbc (z:=S []) _ _ U.ae (by kernel_rfl) rfl];have hb:Below w.heap.size w (w.alloc (CB [S l] T.string)):=(Below.refl _ _).alloc (Nat.le_refl _) _;refine zo5 (size:=1) (bytes:=16) (z:=S []) (news:=[S l]) _ _ U.ae (by kernel_rfl) rfl (by omega) (zbf hv hb (Nat.le_refl _)) rfl ?_ (λu hu=>by simp only[List.mem_singleton]at hu;subst hu;rfl) (by simp only[maxLen];omega) (by omega) (by simp only[go_sem];omega) λv' w' g1 g2=>?_
 ·rw[zaf _ _ _ rfl];rfl
 ·obtain⟨b,cap,cur,rfl,_⟩:=zcV g1 (by omega);exact h _ _ _ g1 ((hb.mono hB).trans g2)
theorem zb8{l:List UInt8}{w:World}{K:Value->World->Prop}(hl:l.length<=400)(h:∀w',Below w.heap.size w w'->K (S (norm l)) w'):Cl P Fn.ay #[S l] w K:=by
 apply zmB;unfold zjB;have hro:∀(L:Value->World->Prop),L (.bool (l.head?==some 47)) w.drew->
   (gd (.bool (decide ((l.length:Int)>0))) true w.drew (λK1=>K1 (S l) w.drew) λt16 w1=>
    gd (.bool (decide ((l.length:Int)>0))) true w1 (λK2=>pu P (oIdx T.string t16 (.int .i64 0)) λv=>K2 v w1) λt17 w2=>
    gd (.bool (decide ((l.length:Int)>0))) true w2 (λK3=>pu P (oBin .eql T.aJ false true t17 (.int .u8 47)) λv=>K3 v w2) λt18 w3=>
    pu P (zaD (.bool (decide ((l.length:Int)>0))) t18 (.bool false)) λt19=>L t19 w3):=by
  intro L hL;cases l with
  |nil=>
   have g:¬((([]:List UInt8).length:Int)>0):=by simp
   simp(disch:=first|omega|(simp(disch:=first|omega|fail)only[go_sem]<;>omega)|fail)only[go_sem];exact hL
  |cons c r=>
   have g:(((c::r).length:Int)>0):=by simp only[List.length_cons];omega
   have ix:∀(L:Value->Prop),pu P (oIdx T.string (S (c::r)) (.int .i64 0)) L=L (.int .u8 c.toNat):=λL=>zoX L T.string (c::r) .i64 0 U.string (by omega) g;simp(disch:=first|omega|(simp(disch:=first|omega|fail)only[go_sem,ix]<;>omega)|fail)only[go_sem,ix];have e:decide ((c.toNat:Int)=47)=((c::r).head?==some 47):=by
    by_cases q:c=47
    ·subst q;rfl
    ·have q2:¬(c.toNat:Int)=47:=λx=>q (UInt8.toNat_inj.1 (by rw[show(47:UInt8).toNat=47 from rfl];omega));simp[q,q2]
   rw[e];exact hL
 rw[V.ai];rw[oGtr];refine hro _ ?_;generalize hroo:(l.head?==some 47)=ro;rw[zbJ (n:=1) _ _ U.ae (by kernel_rfl)];refine zaa (λt w'=>∃b cap st,t=[sl b 0 st.length cap]/\w'.ownsRow w.heap.size T.string 1 (sl b 0 st.length cap) st.length (st.reverse.map S)/\Below w.heap.size w w'/\st=zcW l/\st.length<=1000) ?_ ?_
 ·rintro t e w1 ⟨b,cap,st,rfl,hv,B1,hst,hle⟩;have hlen:∀x∈st.reverse,x.length<=400:=λx hx=>by have:=(zrc l x (by rw[<-hst];exact List.mem_reverse.1 hx)).1;omega
  have hnl:=zq2 l;rw[hroo,<-hst]at hnl;have hrl:st.reverse.length=st.length:=List.length_reverse;generalize st.reverse=xs at hlen hnl hrl hv;refine zaa (λt w'=>t=[S (jf ro xs)]/\Below w.heap.size w w') ?_ ?_
  ·rintro t e w2 ⟨rfl,B2⟩;refine zaa (λt w'=>t=[]/\w'=w2/\norm l=jf ro xs) ?_ ?_
   ·rintro t e w3 ⟨rfl,rfl,hn⟩;have:=h _ B2;rw[hn]at this;exact this
   ·have hk:=h _ B2;rw[hnl]at hk;by_cases c1:jf ro xs=[]
    ·rw[if_pos (.inl c1)]at hk;simp(disch:=first|omega|(simp(disch:=first|omega|fail)only[go_sem,c1,decide_true]<;>omega)|fail)only[go_sem,c1,decide_true];exact hk
    by_cases c2:jf ro xs=[46,46]
    ·rw[if_pos (.inr c2)]at hk;have n1:decide (([46,46]:List UInt8)=[])=false:=rfl;simp(disch:=first|omega|(simp(disch:=first|omega|fail)only[go_sem,c2,n1,decide_true]<;>omega)|fail)only[go_sem,c2,n1,decide_true];exact hk
    ·have e1:norm l=jf ro xs:=by rw[hnl,if_neg (by simp[c1,c2])]
     simp(disch:=first|omega|(simp(disch:=first|omega|fail)only[go_sem,c1,c2,decide_false]<;>omega)|fail)only[go_sem,c1,c2,decide_false];exact⟨trivial,trivial,e1⟩
  ·simp(disch:=first|omega|(simp(disch:=first|omega|fail)only[go_sem]<;>omega)|fail)only[go_sem];refine zaA (λt w'=>w'=w1/\∃i:Nat,t=[S (jf ro (xs.take i)),.int .i64 i]/\i<=xs.length/\(jf ro (xs.take i)).length<=i*401) (λt _=>xs.length - (RowKit.intOf (gs t 1)).toNat) ⟨rfl,0,?_,by omega,?_⟩ ?_
   ·cases ro<;>rfl
   ·cases ro<;>simp[jf,List.intercalate]
   rintro t e w2 ⟨rfl,i,rfl,hi,hjl⟩;by_cases g:(i:Int)<st.length
   ·have hix:i<xs.length:=by omega
    simp(disch:=first|omega|(simp(disch:=first|omega|fail)only[go_sem]<;>omega)|fail)only[go_sem];refine zaa (λt w'=>t=[]/\w'=w2) ?_ ⟨rfl,rfl⟩;rintro t e w3 ⟨rfl,rfl⟩;have hxl:=hlen xs[i] (List.getElem_mem hix);have hsn:=zlK ro (xs.take i) xs[i];rw[<-zri hix]at hsn;have hlen2:(jf ro (xs.take (i+1))).length<=(i+1)*401:=by rw[hsn];split<;>simp only[List.length_append,List.length_cons,List.length_nil]<;>omega
    refine zaa (λt w'=>w'=w3/\t=[S (jf ro (xs.take (i+1)))]) ?_ ?_
    ·rintro t e w4 ⟨rfl,rfl⟩;simp(disch:=first|omega|(simp(disch:=first|omega|fail)only[go_sem]<;>omega)|fail)only[go_sem];refine⟨⟨trivial,i+1,rfl,by omega,hlen2⟩,?_⟩;simp only[RowKit.intOf];omega
    ·have ix:∀(L:Value->Prop),pu P (zaO T.aj (sl b 0 st.length cap) (.int .i64 i)) L=L (pt b i):=λL=>by rw[zgg (size:=1) L U.ae (by kernel_rfl) (by omega) (by omega)];rw[show 0+(i:Int).toNat*1=i by omega]
     have cell:za1 (bk w3 b) i=some (S xs[i]):=by
      obtain⟨b',cap',cur,e1,q1,q2,q3,q4,q5,q6⟩:=zcV hv (by omega);injection e1 with e1 e2 e3;injection e1 with e1;injection e1 with e1;subst e1 e3;rw[q4,zbe];have h7:(cur.take (st.length*1))[i]?=some (S xs[i]):=by rw[q6];simp[hix]
      rwa[List.getElem?_take_of_lt (by omega)]at h7
     simp(disch:=first|omega|(simp(disch:=first|omega|fail)only[go_sem,ix,cell]<;>omega)|fail)only[go_sem,ix,cell];have i0:(xs.take i≠[])↔0<i:=by rw[Ne,List.take_eq_nil_iff,not_or];refine⟨λh=>by omega,λh=>⟨by omega,λh2=>by rw[h2]at hix;simp at hix⟩⟩
     refine zaa (λt w'=>w'=w3/\t=[S (if List.take i xs≠[]\/ro=true then jf ro (List.take i xs)++[47]else jf ro (List.take i xs))]) ?_ ?_
     ·rintro t e w4 ⟨rfl,rfl⟩;have hq:(if List.take i xs≠[]\/ro=true then jf ro (List.take i xs)++[47]else jf ro (List.take i xs)).length<=i*401+1:=by
       split
       ·simp only[List.length_append,List.length_cons,List.length_nil];omega
       ·omega
      rw[gs0,zoW _ T.string _ _ _ _ (by omega),<-hsn];exact⟨rfl,rfl⟩
     ·by_cases q:(0:Int)<i
      ·have hc:List.take i xs≠[]\/ro=true:=.inl (i0.2 (by omega));rw[if_pos hc];simp(disch:=first|omega|(simp(disch:=first|omega|fail)only[go_sem]<;>omega)|fail)only[go_sem];rw[zoW _ T.string _ _ _ _ (by simp only[List.length_cons,List.length_nil];omega)];exact⟨trivial,rfl⟩
      ·cases ro with
       |true=>rw[if_pos (.inr rfl)];simp(disch:=first|omega|(simp(disch:=first|omega|fail)only[go_sem]<;>omega)|fail)only[go_sem];rw[zoW _ T.string _ _ _ _ (by simp only[List.length_cons,List.length_nil];omega)];exact⟨trivial,rfl⟩
       |false=>
        have hc:¬(List.take i xs≠[]\/false=true):=by rw[i0];simp;omega
        rw[if_neg hc];simp(disch:=first|omega|(simp(disch:=first|omega|fail)only[go_sem]<;>omega)|fail)only[go_sem];exact⟨trivial,trivial⟩
   ·have e1:i=xs.length:=by omega
    subst e1;simp(disch:=first|omega|(simp(disch:=first|omega|fail)only[go_sem]<;>omega)|fail)only[go_sem];refine zaa (λ_ _=>False) (λ_ _ _ h=>h.elim) ?_;rw[List.take_length];exact⟨rfl,B1⟩
 ·refine zaA (λt w'=>∃b cap st,∃i:Nat,t=[sl b 0 st.length cap,.int .i64 i]/\w'.ownsRow w.heap.size T.string 1 (sl b 0 st.length cap) st.length (st.reverse.map S)/\Below w.heap.size w w'/\st.length<=i/\i<=l.length+1/\(ro=true->∀x∈st,x≠[46,46])/\(rest l i).foldl (Pa.cleanStep ro) st=zcW l)
   (λt _=>l.length+2 - (RowKit.intOf (gs t 1)).toNat) ⟨w.heap.size,0,[],0,rfl,?_,((Below.refl _ _).drew).alloc (Nat.le_refl _) _,by simp,by omega,(λ_ x hx=>by cases hx),?_⟩ ?_
  ·refine⟨rfl,.inr ⟨_,_,#[],rfl,Nat.le_refl _,zaf w.drew _ _ rfl,by simp,by simp[maxLen],by simp,by simp⟩⟩
  ·rw[rest,if_pos (by omega),List.drop_zero,zcW,hroo]
  rintro t e w1 ⟨b,cap,st,i,rfl,hv,B1,hsi,hi,hdd,hst⟩;by_cases g:(i:Int)<l.length
  ·simp(disch:=first|omega|(simp(disch:=first|omega|fail)only[go_sem]<;>omega)|fail)only[go_sem];refine zaa (λt w'=>t=[]/\w'=w1) ?_ ⟨rfl,rfl⟩;rintro t e w2 ⟨rfl,rfl⟩;refine zaa (λt w'=>w'=w2/\∃j:Nat,t=[.int .i64 j]/\i<=j/\j<=l.length/\(∀k(hk:k<l.length),i<=k->k<j->l[k]≠47)/\(j=l.length\/∃h:j<l.length,l[j]=47)) ?_ ?_
   ·rintro t e w3 ⟨rfl,j,rfl,hij,hjl,hno,hend⟩;have hstep:=zrj hij hjl hno hend;have hmove:∀(st':List (List UInt8)),st'=Pa.cleanStep ro st ((l.drop i).take (j - i))->(rest l (j+1)).foldl (Pa.cleanStep ro) st'=zcW l:=λst' h'=>by rw[<-hst,hstep,List.foldl_cons,h']
    refine zaa (λt w'=>∃b cap st',t=[sl b 0 st'.length cap]/\w'.ownsRow w.heap.size T.string 1 (sl b 0 st'.length cap) st'.length (st'.reverse.map S)/\Below w.heap.size w w'/\st'.length<=st.length+1/\(ro=true->∀x∈st',x≠[46,46])/\st'=Pa.cleanStep ro st ((l.drop i).take (j - i))) ?_ ?_
    ·rintro t e w4 ⟨b',cap',st',rfl,hv',B4,hle',hdd',hst'⟩;simp(disch:=first|omega|(simp(disch:=first|omega|fail)only[go_sem]<;>omega)|fail)only[go_sem];refine⟨⟨b',cap',st',j+1,rfl,hv',B4,by omega,by omega,hdd',hmove st' hst'⟩,?_⟩;simp only[RowKit.intOf];omega
    ·have sx:∀(L:Value->Prop),pu P (zaE T.string (S l) (some (.int .i64 i)) (some (.int .i64 j)) none) L=L (S ((l.drop i).take (j - i))):=λL=>by rw[zq8 L T.string l .i64 .i64 i j U.string (by omega) (by omega) (by omega)];rw[show(i:Int).toNat=i by omega,show(j:Int).toNat=j by omega]
     rw[gs0,sx];generalize ((l.drop i).take (j - i))=el at*;by_cases c1:el=[]
     ·simp(disch:=first|omega|(simp(disch:=first|omega|fail)only[go_sem,c1,decide_true]<;>omega)|fail)only[go_sem,c1,decide_true];exact⟨b,cap,st,rfl,hv,B1,by omega,hdd,by simp[Pa.cleanStep,c1]⟩
     by_cases c2:el=[46]
     ·have e1:decide (([46]:List UInt8)=[])=false:=rfl;simp(disch:=first|omega|(simp(disch:=first|omega|fail)only[go_sem,c2,e1,decide_true]<;>omega)|fail)only[go_sem,c2,e1,decide_true];exact⟨b,cap,st,rfl,hv,B1,by omega,hdd,by simp[Pa.cleanStep,c2]⟩
     by_cases c3:el=[46,46]
     ·have n1:decide (([46,46]:List UInt8)=[])=false:=rfl;have n2:decide (([46,46]:List UInt8)=[46])=false:=rfl;have n3:(([46,46]:List UInt8)≠[46,46])=False:=by simp
      subst c3;have push:∀(w4:World),w4=w3->(ro=false)->Pa.cleanStep ro st [46,46]=[46,46]::st->X.st P (zam T.aj 1 #[(0,S [46,46])]) w4 λt53 w22=>X.st P (zac .append #[T.aj,T.aj] T.aj #[false,false] #[sl b 0 st.length cap,t53]) w22 λt54 w23=>
        ∃b cap st',[t54]=[sl b 0 st'.length cap]/\w23.ownsRow w.heap.size T.string 1 (sl b 0 st'.length cap) st'.length (List.map S st'.reverse)/\Below w.heap.size w w23/\st'.length<=st.length+1/\(ro=true->∀(x:List UInt8),x∈st'->x≠[46,46])/\st'=Pa.cleanStep ro st [46,46]:=by
       rintro w4 rfl hr hc;refine zpf hv (by omega) B1.size λb' c' w' g1 g2=>?_;refine⟨b',c',[46,46]::st,rfl,by simpa using g1,B1.trans g2,by simp,?_,hc.symm⟩;intro h;rw[hr]at h;cases h
      cases st with
      |nil=>
       have z:¬((0:Int)<(([]:List (List UInt8)).length:Int)):=by simp
       cases ro with
       |true=>simp(disch:=first|omega|(simp(disch:=first|omega|fail)only[go_sem,n1,n2,n3,decide_false]<;>omega)|fail)only[go_sem,n1,n2,n3,decide_false];exact⟨b,cap,[],rfl,hv,B1,by omega,λ_=>hdd rfl,rfl⟩
       |false=>simp(disch:=first|omega|(simp(disch:=first|omega|fail)only[go_sem,n1,n2,n3,decide_false]<;>omega)|fail)only[go_sem,n1,n2,n3,decide_false];exact push _ rfl rfl rfl
      |cons x r=>
       have z:((0:Int)<((x::r).length:Int)):=by simp only[List.length_cons];omega
       obtain⟨b',cap',cur,e1,q1,q2,q3,q4,q5,q6⟩:=zcV hv (by simp);injection e1 with e1 e2 e3;injection e1 with e1;injection e1 with e1;subst e1 e3;have ix:∀(L:Value->Prop),pu P (zaO T.aj (sl b 0 (x::r).length cap) (.int .i64 (((x::r).length:Int) - 1))) L=L (pt b r.length):=λL=>by rw[zgg (size:=1) L U.ae (by kernel_rfl) (by omega) (by omega)];rw[show 0+(((x::r).length:Int) - 1).toNat*1=r.length by simp only[List.length_cons];omega]
       have cell:za1 (bk w3 b) r.length=some (S x):=by
        rw[q4,zbe];have h7:(cur.take ((x::r).length*1))[r.length]?=some (S x):=by rw[q6];simp
        rwa[List.getElem?_take_of_lt (by simp)]at h7
       by_cases c4:x=[46,46]
       ·have hr:ro=false:=by
         cases ro with
         |false=>rfl
         |true=>exact absurd c4 (hdd rfl x (by simp))
        subst hr;have n4:(x≠[46,46])=False:=by simp[c4]
        simp(disch:=first|omega|(simp(disch:=first|omega|fail)only[go_sem,n1,n2,n3,n4,decide_false,ix,cell]<;>omega)|fail)only[go_sem,n1,n2,n3,n4,decide_false,ix,cell];exact push _ rfl rfl (by simp[Pa.cleanStep,c4])
       ·have n4:(x≠[46,46])=True:=by simp[c4]
        simp(disch:=first|omega|(simp(disch:=first|omega|fail)only[go_sem,n1,n2,n3,n4,decide_false,decide_true,ix,cell]<;>omega)|fail)only[go_sem,n1,n2,n3,n4,decide_false,decide_true,ix,cell];rw[zeK (size:=1) _ U.ae (by kernel_rfl) (by omega) (by omega)];rw[show(((x::r).length:Int) - 1).toNat=r.length by simp only[List.length_cons];omega];have hv2:=zsN hv (show r.length<=(x::r).length by simp);refine⟨b,cap,r,rfl,by simpa using hv2,B1,by simp only[List.length_cons];omega,λh y hy=>hdd h y (List.mem_cons_of_mem _ hy),by simp[Pa.cleanStep,c4]⟩
     ·simp(disch:=first|omega|(simp(disch:=first|omega|fail)only[go_sem,c1,c2,c3,decide_false]<;>omega)|fail)only[go_sem,c1,c2,c3,decide_false];refine zpf hv (by omega) B1.size λb' c' w' g1 g2=>?_;refine⟨b',c',el::st,rfl,by simpa using g1,B1.trans g2,by simp,?_,by simp[Pa.cleanStep,c1,c2,c3]⟩;intro h x hx;rcases List.mem_cons.1 hx with rfl|hx
      ·exact c3
      ·exact hdd h x hx
   ·refine zaA (λt w'=>w'=w2/\∃j:Nat,t=[.int .i64 j]/\i<=j/\j<=l.length/\(∀k(hk:k<l.length),i<=k->k<j->l[k]≠47)) (λt _=>l.length - (RowKit.intOf (gs t 0)).toNat) ⟨rfl,i,rfl,by omega,by omega,λk _ h1 h2=>by omega⟩ ?_;rintro t e w3 ⟨rfl,j,rfl,hij,hjl,hno⟩;by_cases q:(j:Int)<l.length
    ·have hj:j<l.length:=by omega
     have ix:∀(L:Value->Prop),pu P (oIdx T.string (S l) (.int .i64 j)) L=L (.int .u8 l[j].toNat):=λL=>by rw[zoX L T.string l .i64 j U.string (by omega) q];rw[show(j:Int).toNat=j by omega];simp[List.getD,hj]
     by_cases q2:l[j]=47
     ·have q3:¬((l[j].toNat:Int)≠47):=by rw[q2];decide
      refine zaa (λ_ _=>False) (λ_ _ _ h=>h.elim) ?_;simp(disch:=first|omega|(simp(disch:=first|omega|fail)only[go_sem,ix]<;>omega)|fail)only[go_sem,ix];exact⟨trivial,j,rfl,hij,hjl,hno,.inr ⟨hj,q2⟩⟩
     ·have q3:(l[j].toNat:Int)≠47:=λx=>q2 (UInt8.toNat_inj.1 (by rw[show(47:UInt8).toNat=47 from rfl];omega));refine zaa (λt w'=>t=[]/\w'=w3) ?_ ?_
      ·rintro t e w4 ⟨rfl,rfl⟩;simp(disch:=first|omega|(simp(disch:=first|omega|fail)only[go_sem]<;>omega)|fail)only[go_sem];refine⟨⟨trivial,j+1,rfl,by omega,by omega,?_⟩,?_⟩
       ·intro k hk h1 h2;by_cases ek:k=j
        ·subst ek;exact q2
        ·exact hno k hk h1 (by omega)
       ·simp only[RowKit.intOf];omega
      ·simp(disch:=first|omega|(simp(disch:=first|omega|fail)only[go_sem,ix]<;>omega)|fail)only[go_sem,ix];exact⟨trivial,trivial⟩
    ·refine zaa (λ_ _=>False) (λ_ _ _ h=>h.elim) ?_;simp(disch:=first|omega|(simp(disch:=first|omega|fail)only[go_sem]<;>omega)|fail)only[go_sem];exact⟨trivial,j,rfl,hij,hjl,hno,.inl (by omega)⟩
  ·simp(disch:=first|omega|(simp(disch:=first|omega|fail)only[go_sem]<;>omega)|fail)only[go_sem];refine zaa (λ_ _=>False) (λ_ _ _ h=>h.elim) ?_;refine⟨b,cap,st,rfl,hv,B1,?_,by omega⟩;rw[<-hst];unfold rest;by_cases q:i<=l.length
   ·rw[if_pos q,List.drop_eq_nil_of_le (by omega)];simp[Pa.els,Pa.cleanStep]
   ·rw[if_neg q];rfl
end Go.Proofs.YtdljebgllipdjaaGreatDoor.X
end
section
namespace Go.Proofs.YtdljebgllipdjaaGreatDoor.X
open Go Go.X Go.Proofs Go.RowKit
theorem zb0(w:World):BS w (.slice none 0 0) []:=.inl ⟨rfl,_,_,rfl⟩
theorem znz{B p:Nat}{m:SM.Mem}{perm:Int}(hr:(m.find [47]).isSome=true)(hA:m.ats.length=m.names.length):∀(f:Nat)(l:Str){w:World}{K:Value->World->Prop}{F:Fp},l.length+1<f->f<=1000->m.names.length<=999990000->m.nodes.length<=999990000->MemS w B p m F->
  (∀w' F',MemS w' B p (m.parentsF l perm f) F'->Tr w w' F F'->K (tup []) w')->Cl P Fn.ap #[pt p 0,S l,.int .i64 perm] w K:=by
 intro f
 induction f with
 |zero=>intro l w K F hf;omega
 |succ f ih=>
  intro l w K F hf hf2 hN hD h hk;apply zkh;unfold zgN;rw[C.aO];refine zj2 (by omega) ?_;rw[C.aj];refine zcC h (by omega) hA ?_;simp only[SM.Mem.parentsF]at hk;rw[zar,zaq];cases hfd:m.find (SM.parent l)with
  |some x=>rw[hfd]at hk;simp(disch:=first|omega|(simp(disch:=first|omega|fail)only[go_sem,Option.isSome_some]<;>omega)|fail)only[go_sem,Option.isSome_some];exact hk _ _ h (Tr.refl _ _)
  |none=>
   rw[hfd]at hk;simp only at hk;have hp:SM.parent l≠[47]:=λe=>by rw[e]at hfd;rw[hfd]at hr;cases hr
   have hlt:=(SM.zaZ l).resolve_right hp;simp(disch:=first|omega|(simp(disch:=first|omega|fail)only[go_sem,Option.isSome_none]<;>omega)|fail)only[go_sem,Option.isSome_none];refine ih (SM.parent l) (by omega) (by omega) hN hD h λw1 F1 h1 t1=>?_;obtain⟨l1,l2,l3⟩:=SM.zcN m perm f (SM.parent l);refine zlA (n:=⟨true,orI 2147483648 perm,[],0,[]⟩) (dv:=.slice none 0 0) h1 (by omega) (by omega) (l3 hA) (zb0 _) (λb hb=>by cases hb) λw2 F2 h2 t2=>?_;exact hk _ _ h2 (t1.trans t2)
theorem zgz{w:World}{K:Value->World->Prop}{B p:Nat}{m:SM.Mem}{F:Fp}{l:Str}{perm:Int}(h:MemS w B p m F)(hr:(m.find [47]).isSome=true)(hA:m.ats.length=m.names.length)(hl:l.length<=900)(hN:m.names.length<=999990000)(hD:m.nodes.length<=999990000)
  (hk:∀w' F',MemS w' B p (m.parents l perm) F'->Tr w w' F F'->K (tup []) w'):Cl P Fn.ap #[pt p 0,S l,.int .i64 perm] w K:=
 znz hr hA (l.length+2) l (by omega) (by omega) hN hD h hk
theorem zhF{w:World}{K:Value->World->Prop}{B p:Nat}{m:SM.Mem}{F:Fp}{d:Str}(h:MemS w B p m F)(hN:m.names.length<=999999999)(hL:∀x∈m.names,x.length<=140737488355328)
  (hk:∀w' v,w'.ownsRow w.heap.size T.string 1 v (m.children d).length ((m.children d).map S)->Below w.heap.size w w'->K v w'):Cl P Fn.aH #[pt p 0,S d] w K:=by
 apply zjR;unfold zfX;rw[zbJ (n:=1) _ _ U.ae (by kernel_rfl)];have B1:Below w.heap.size w (w.alloc (CB [] T.string)):=by repeat (first|exact Below.refl _ _|assumption|refine zag ?_ (by first|omega|(simp only[go_sem]<;>omega)) _|refine Below.alloc ?_ (by first|omega|(simp only[go_sem]<;>omega)) _|refine Below.drew ?_)
 have o1:(w.alloc (CB [] T.string)).ownsRow w.heap.size T.string 1 (sl w.heap.size 0 0 0) 0 []:=⟨rfl,.inr ⟨w.heap.size,0,#[],rfl,Nat.le_refl _,heap_alloc_new w _,Nat.le_refl _,by simp[maxLen],rfl,rfl⟩⟩;generalize w.alloc (CB [] T.string)=w1 at*;obtain⟨vn,va,vd,q,ds,hl,c,hb,ρ,h⟩:=h;have h1:=h.old B1;have bm1:=h1.bm;have z1:=B1.size;refine zaa (λt w'=>∃v,t=[v]/\w'.ownsRow w.heap.size T.string 1 v (m.children d).length ((m.children d).map S)/\Below w.heap.size w w') ?_ ?_
 ·rintro t e w2 ⟨v,rfl,o2,B2⟩;exact hk _ _ o2 B2
 ·obtain⟨a,cap,ev⟩:=zan h1.on;subst ev;simp(disch:=first|omega|(simp(disch:=first|omega|fail)only[go_sem,bm1]<;>omega)|fail)only[go_sem,bm1];refine zaA (λs w'=>∃v,∃i:Nat,s=[v,.int .i64 i]/\i<=m.names.length/\w'.ownsRow w.heap.size T.string 1 v (SM.Mem.children {m with names:=m.names.take i} d).length ((SM.Mem.children {m with names:=m.names.take i} d).map S)/\Below w.heap.size w w') (λs w'=>(m.names.length - (intOf (gs s 1))).toNat) ?_ ?_
  ·exact⟨_,0,rfl,Nat.zero_le _,o1,B1⟩
  ·rintro s u w2 ⟨v,i,rfl,hi,o2,B2⟩;rw[gs1,oLss];refine zaa (λt w'=>w'=w2/\i<m.names.length) ?_ ?_
   ·rintro t e w3 ⟨rfl,hi1⟩;have h3:=h.old B2;obtain⟨g,g1,g2,g3,g4⟩:=zjg h1.on rfl hi1;obtain⟨g',g1',g2',g3',g4'⟩:=zjg h3.on rfl hi1;have lx:=hL m.names[i] (List.getElem_mem hi1);have ect:SM.Mem.children {m with names:=m.names.take (i+1)} d=SM.Mem.children {m with names:=m.names.take i} d++(if m.names[i]≠[47]/\SM.parent m.names[i]=d then[m.names[i]]else[]):=by
     unfold SM.Mem.children;simp only[List.take_succ_eq_append_getElem hi1,List.filter_append];congr 1;by_cases c1:m.names[i]=[47]
     ·simp[c1]
     ·by_cases c2:SM.parent m.names[i]=d<;>simp[c1,c2]
    have clen:(SM.Mem.children {m with names:=m.names.take i} d).length<=i:=by unfold SM.Mem.children;refine Nat.le_trans (List.length_filter_le _ _) ?_;simp only[List.length_take];omega
    refine zaa (λt w'=>∃v,t=[v]/\w'.ownsRow w.heap.size T.string 1 v (SM.Mem.children {m with names:=m.names.take (i+1)} d).length ((SM.Mem.children {m with names:=m.names.take (i+1)} d).map S)/\Below w.heap.size w w') ?_ ?_
    ·rintro t e w4 ⟨v4,rfl,o4,B4⟩;simp(disch:=first|omega|(simp(disch:=first|omega|fail)only[go_sem]<;>omega)|fail)only[go_sem];refine⟨⟨v4,i+1,rfl,by omega,o4,B4⟩,?_⟩;simp only[gs1,intOf];omega
    ·rw[g3,show pt g i=pt g' i by rw[Option.some.inj (g1.symm.trans g1')],g4' w3 rfl];have fin:¬(m.names[i]≠[47]/\SM.parent m.names[i]=d)->w3.ownsRow w.heap.size T.string 1 v (SM.Mem.children {m with names:=m.names.take (i+1)} d).length ((SM.Mem.children {m with names:=m.names.take (i+1)} d).map S):=λhn=>by rw[ect,if_neg hn,List.append_nil];exact o2
     by_cases c1:m.names[i]=[47]
     ·simp(disch:=first|omega|(simp(disch:=first|omega|fail)only[go_sem,c1,decide_true,decide_false,ne_eq,not_true_eq_false]<;>omega)|fail)only[go_sem,c1,decide_true,decide_false,ne_eq,not_true_eq_false];exact⟨_,rfl,fin λx=>x.1 c1,B2⟩
     ·simp(disch:=first|omega|(simp(disch:=first|omega|fail)only[go_sem,c1,decide_true,not_false_eq_true,ne_eq]<;>omega)|fail)only[go_sem,c1,decide_true,not_false_eq_true,ne_eq];refine zj2 lx ?_;by_cases c2:SM.parent m.names[i]=d
      ·simp(disch:=first|omega|(simp(disch:=first|omega|fail)only[go_sem,c2,decide_true]<;>omega)|fail)only[go_sem,c2,decide_true];refine zpf o2 (by omega) B2.size λb c w5 o5 B5=>?_;refine⟨_,rfl,?_,B2.trans B5⟩;rw[ect,if_pos ⟨c1,c2⟩];simpa using o5
      ·simp(disch:=first|omega|(simp(disch:=first|omega|fail)only[go_sem,c2,decide_false]<;>omega)|fail)only[go_sem,c2,decide_false];exact⟨_,rfl,fin λx=>c2 x.2,B2⟩
   ·by_cases hi1:i<m.names.length
    ·simp(disch:=first|omega|(simp(disch:=first|omega|fail)only[go_sem]<;>omega)|fail)only[go_sem];exact⟨trivial,hi1⟩
    ·simp(disch:=first|omega|(simp(disch:=first|omega|fail)only[go_sem]<;>omega)|fail)only[go_sem];have:i=m.names.length:=by omega
     subst this;rw[List.take_length]at o2;exact⟨v,rfl,o2,B2⟩
end Go.Proofs.YtdljebgllipdjaaGreatDoor.X
end
