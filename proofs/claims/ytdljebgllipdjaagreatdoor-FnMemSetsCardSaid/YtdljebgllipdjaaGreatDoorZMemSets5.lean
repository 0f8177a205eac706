/- What the claim needs of the texts on it, laid together. No condition. -/
import Derived.Test.YtdljebgllipdjaaGreatDoorZMemSets4
set_option linter.unusedVariables false
set_option linter.unusedSimpArgs false
set_option linter.unusedSectionVars false
set_option maxRecDepth 100000
section
namespace Go.Proofs.YtdljebgllipdjaaGreatDoor.X
open Go Go.X Go.Proofs Go.RowKit
section
variable{w:World}{L:Value->World->Prop}
theorem put1{tB tE:TypeId}{z:Value}{bytes:Nat}(h2:P.underlying tB=some (.slice tE))(hi:(P.info? tE).map (λi=>(i.zero,i.size,i.bytes))=some (some z,1,bytes))(hz:z.cells.size=1)(hb:bytes<=1000){B n:Nat}{v:Value}{xs:List Value}{x:Value}(hx:x.oneCell'=true)
  (o:w.ownsRow B tE 1 v n xs) (hn:n<=2000000) (hB:B<=w.heap.size) (hk:∀v' w',w'.ownsRow B tE 1 v' (n+1) (xs++[x])->Kp w w' (λk=>v.ownBlock=some k)->(∀k,v'.ownBlock=some k->v.ownBlock=some k\/w.heap.size<=k)->L v' w'):
  st P (zam tB 1 #[(0,x)]) w λt w1=>st P (zac .append #[tB,tB] tB #[false,false] #[v,t]) w1 L:=by
 have hi2:(P.info? tE).map (λi=>(i.zero,i.size))=some (some z,1):=by
  cases hq:P.info? tE with
  |none=>rw[hq]at hi;cases hi
  |some i=>rw[hq]at hi;simp only[Option.map_some,Option.some.injEq,Prod.mk.injEq]at hi⊢;exact⟨hi.1,hi.2.1⟩
 rw[zbc (z:=z) _ _ h2 hi2 hx];have B3:Below w.heap.size w (w.alloc (CB [x] tE)):=by repeat (first|exact Below.refl _ _|assumption|refine zag ?_ (by first|omega|(simp only[go_sem]<;>omega)) _|refine Below.alloc ?_ (by first|omega|(simp only[go_sem]<;>omega)) _|refine Below.drew ?_)
 have r3:zaY (bk (w.alloc (CB [x] tE)) w.heap.size) 0 1=some [x]:=by rw[zaf _ _ _ rfl];rfl
 have z3:(w.alloc (CB [x] tE)).heap.size=w.heap.size+1:=by simp only[go_sem]
 generalize w.alloc (CB [x] tE)=w1 at*;have o1:=zbf o B3 (Nat.le_refl _);have hmul:(n+1)*bytes<=2000001*1000:=Nat.mul_le_mul (by omega) hb;refine zbK (z:=z) (size:=1) (bytes:=bytes) (m:=1) (news:=[x]) h2 hi hz (by omega) o1 (.inl ⟨_,_,_,rfl,r3⟩) rfl (λu hu=>by simp at hu;subst hu;exact hx) (by simp only[maxLen];omega) (by omega) (by omega) λv4 w4 o4 g4 l4=>?_;refine hk v4 w4 o4 ((Kp.of_below B3 _).trans (Kp.of_grown g4) λ_ _ h=>h) λk hk=>?_;rcases l4 with h|h
 ·exact .inl (by rw[<-h];exact hk)
 ·rw[hk]at h;injection h with h;exact .inr (by omega)
end
theorem zfS{w:World}{B n size:Nat}{e:TypeId}{v:Value}{xs:List Value}(h:w.ownsRow B e size v n xs){g:Nat}(hg:v.ownBlock=some g):∃cur,bk w g=some (CB cur e):=by
 rcases h.2 with⟨rfl,_⟩|⟨g',cap,cur,rfl,h1,h2,h3,h4,h5,h6⟩
 ·cases hg
 ·injection hg with hg;subst hg;exact⟨cur.toList,by unfold bk;rw[h2]⟩
section
variable{w:World}{K:Value->World->Prop}
theorem zlS{B n:Nat}{v:Value}{xs:List (List UInt8)}(o:w.ownsRow B T.string 1 v n (xs.map S)){i:Nat}(hi:i<xs.length)(hn:xs.length=n):
  ∃g cur,v.ownBlock=some g/\bk w g=some (CB cur T.string)/\i<cur.length/\cur.take n=xs.map S/\cur[i]?=some (S xs[i])/\∀(k:IntKind)(M:Value->Prop),pu P (zaO T.aj v (.int k i)) M=M (pt g i):=by
 obtain⟨g,cur,g1,g2,g3,g4,g5,g6⟩:=zhw U.ae (by kernel_rfl) o (i:=i) (by omega);rw[Nat.mul_one]at g4 g5 g6;refine⟨g,cur,g1,g3,by omega,g5,?_,g6⟩;rw[<-List.getElem?_take_of_lt (show i<n by omega),g5,List.getElem?_map,List.getElem?_eq_getElem hi];rfl
theorem zp9{B n g i:Nat}{v:Value}{xs:List (List UInt8)}{cur:List Value}(o:w.ownsRow B T.string 1 v n (xs.map S))(hg:v.ownBlock=some g)(hb:bk w g=some (CB cur T.string))(hc:cur.take n=xs.map S)(y:List UInt8):
  (setb w g (CB (cur.set i (S y)) T.string)).ownsRow B T.string 1 v n ((xs.set i y).map S):=by
 have q:=zjL o hg hb (by simp) _ (rfl:CB (cur.set i (S y)) T.string=_);rw[Nat.mul_one,List.take_set,hc,<-List.map_set]at q;exact q
theorem zpk{B n:Nat}{v:Value}{xs:List (List UInt8)}(o:w.ownsRow B T.string 1 v n (xs.map S))(hn:xs.length=n)(h1000:n<=1000000)
  (hk:∀(ys:List (List UInt8))w',w'.ownsRow B T.string 1 v n (ys.map S)->ys.Perm xs->ys.Pairwise LE8->Kp w w' (λg=>v.ownBlock=some g)->K (tup []) w'):Cl P Fn.dg #[v] w K:=by
 apply zmO;unfold zjv;obtain⟨a,cap,ev⟩:=zan o;refine zaA (λt w'=>∃(i:Nat)(ys:List (List UInt8)),t=[.int .i64 i]/\i<=n+1/\(1<=i)/\w'.ownsRow B T.string 1 v n (ys.map S)/\ys.Perm xs/\(ys.take i).Pairwise LE8/\Kp w w' (λg=>v.ownBlock=some g)) (λt _=>n+2 - (RowKit.intOf (gs t 0)).toNat) ⟨1,xs,rfl,by omega,by omega,o,List.Perm.refl _,?_,Kp.refl _ _⟩ ?_
 ·match xs with
  |[]=>exact List.Pairwise.nil
  |[x]=>simp
  |x::y::r=>simp
 rintro t e w1 ⟨i,ys,rfl,hi,hi1,o1,pm,srt,k1⟩;have hys:ys.length=n:=by rw[pm.length_eq];exact hn
 refine zaa (λt w'=>t=[]/\w'=w1/\i<n) ?_ ?_;rotate_left
 ·rw[ev,V.ae];by_cases g:(i:Int)<n
  ·simp(disch:=first|omega|(simp(disch:=first|omega|fail)only[go_sem]<;>omega)|fail)only[go_sem];exact⟨trivial,trivial,by omega⟩
  ·simp(disch:=first|omega|(simp(disch:=first|omega|fail)only[go_sem]<;>omega)|fail)only[go_sem];rw[List.take_of_length_le (by omega)]at srt;exact hk ys w1 o1 pm srt k1
 rintro t e w2 ⟨rfl,rfl,hin⟩;refine zaa (λt w'=>t=[]/\∃zs:List (List UInt8),w'.ownsRow B T.string 1 v n (zs.map S)/\zs.Perm xs/\(zs.take (i+1)).Pairwise LE8/\Kp w w' (λg=>v.ownBlock=some g)) ?_ ?_
 ·rintro t e w3 ⟨rfl,zs,q1,q2,q3,q4⟩;simp(disch:=first|omega|(simp(disch:=first|omega|fail)only[go_sem]<;>omega)|fail)only[go_sem];refine⟨⟨i+1,zs,by simp,by omega,by omega,q1,q2,q3,q4⟩,?_⟩;simp only[RowKit.intOf];omega
 have hi2:i<ys.length:=by omega
 refine zaA (λt w'=>∃(p m q:List (List UInt8))(x:List UInt8),t=[.int .i64 p.length]/\p.length+m.length=i/\w'.ownsRow B T.string 1 v n ((p++x::(m++q)).map S)/\(p++x::(m++q)).Perm xs/\Mid p x m/\Kp w w' (λg=>v.ownBlock=some g)) (λt _=>(RowKit.intOf (gs t 0)).toNat) ⟨ys.take i,[],ys.drop (i+1),ys[i],by simp;omega,by simp;omega,?_,?_,Mid.start srt _,k1⟩ ?_
 ·rw[List.nil_append,<-List.drop_eq_getElem_cons hi2,List.take_append_drop];exact o1
 ·rw[List.nil_append,<-List.drop_eq_getElem_cons hi2,List.take_append_drop];exact pm
 rintro t e w3 ⟨p,m,q,x,rfl,hpm,o3,pm3,mid,k3⟩;have hln:(p++x::(m++q)).length=n:=by rw[pm3.length_eq];exact hn
 rcases List.eq_nil_or_concat p with rfl|⟨p',a',rfl⟩
 ·simp(disch:=first|omega|(simp(disch:=first|omega|fail)only[go_sem,List.length_nil]<;>omega)|fail)only[go_sem,List.length_nil];refine zaa (λ_ _=>False) (λ_ _ _ h=>h.elim) ?_;refine⟨trivial,_,o3,pm3,?_,k3.trans (Kp.drew _ _) λ_ _ h=>h⟩;have:=mid.done0;simp only[List.length_nil,Nat.zero_add]at hpm;rw[List.nil_append,List.take_succ_cons,List.take_left' hpm];exact this
 ·rw[List.concat_eq_append]at*;obtain⟨j,hj⟩:∃j,j=p'.length:=⟨_,rfl⟩;have hpl:(p'++[a']).length=j+1:=by simp[hj]
  rw[hpl]at hpm⊢;obtain⟨zs,hzs⟩:∃zs,zs=p'++[a']++x::(m++q):=⟨_,rfl⟩;rw[<-hzs]at o3 pm3 hln;have kd:=k3.trans (Kp.drew w3 λg=>v.ownBlock=some g) λ_ _ h=>h;have o3':w3.drew.ownsRow B T.string 1 v n (zs.map S):=o3;generalize w3.drew=w4 at*;have ex:zs[j+1]?=some x:=by rw[hzs,List.getElem?_append_right (by omega),hpl];simp
  have ea:zs[j]?=some a':=by rw[hzs,List.append_assoc,List.getElem?_append_right (by omega),hj];simp
  have lx:j+1<zs.length:=by rw[hzs];simp;omega
  have ex':zs[j+1]=x:=by rw[List.getElem?_eq_getElem lx]at ex;exact Option.some.inj ex
  have ea':zs[j]=a':=by rw[List.getElem?_eq_getElem (by omega)]at ea;exact Option.some.inj ea
  obtain⟨g,cur,g1,g2,g3,g4,g5,g6⟩:=zlS o3' lx hln;obtain⟨g',cur',h1,h2,h3,h4,h5,h6⟩:=zlS o3' (show j<zs.length by omega) hln;obtain rfl:g'=g:=by rw[g1]at h1;exact(Option.some.inj h1).symm
  obtain rfl:cur'=cur:=by rw[g2]at h2;injection h2 with h2;injection h2 with h2;exact(List.toArray_inj h2).symm
  rw[ex']at g5;rw[ea']at h5;have cx:za1 (bk w4 g') (j+1)=some (S x):=by rw[g2];exact(zbe _ _ _).trans g5
  have ca:za1 (bk w4 g') j=some (S a'):=by rw[g2];exact(zbe _ _ _).trans h5
  have g6':∀M:Value->Prop,pu P (zaO T.aj v (.int .i64 ((j:Int)+1))) M=M (pt g' (j+1)):=λM=>g6 .i64 M;have h6':∀M:Value->Prop,pu P (zaO T.aj v (.int .i64 (j:Int))) M=M (pt g' j):=λM=>h6 .i64 M;have sub1:((j+1:Nat):Int)=(j:Int)+1:=by omega
  rw[sub1];have sub2:(j:Int)+1 - 1=j:=by omega
  refine zaa (λt w'=>w'=w4/\x<a') ?_ ?_
  ·rintro t e w5 ⟨rfl,hlt⟩;simp(disch:=first|omega|(simp(disch:=first|omega|fail)only[go_sem,sub2,g6',h6',cx,ca]<;>omega)|fail)only[go_sem,sub2,g6',h6',cx,ca];have o5:w5.drew.ownsRow B T.string 1 v n (zs.map S):=o3';have b5:bk w5.drew g'=some (CB cur' T.string):=g2;have kd5:=kd.trans (Kp.drew w5 λg=>v.ownBlock=some g) λ_ _ h=>h;generalize w5.drew=w6 at*;have q1:=zp9 (i:=j+1) o5 g1 b5 g4 a';have l6:g'<w6.heap.size:=zaj b5;have b7:bk (setb w6 g' (CB (cur'.set (j+1) (S a')) T.string)) g'=some (CB (cur'.set (j+1) (S a')) T.string):=zap _ _ _ _ rfl l6;have t7:(cur'.set (j+1) (S a')).take n=(zs.set (j+1) a').map S:=by rw[List.take_set,g4,List.map_set]
   have q2:=zp9 (i:=j) q1 g1 b7 t7 x;have h3':j<(cur'.set (j+1) (S a')).length:=by rw[List.length_set];exact h3
   have ez:(zs.set (j+1) a').set j x=p'++x::(a'::m++q):=by rw[hzs,hj,List.append_assoc,List.set_append_right _ _ (by omega),show p'.length+1 - p'.length=1 by omega,List.set_append_right _ _ (by omega),Nat.sub_self];rfl
   simp(disch:=first|omega|(simp(disch:=first|omega|fail)only[go_sem,b5,g3]<;>omega)|fail)only[go_sem,b5,g3];obtain⟨cu,ecu⟩:∃cu,cu=cur'.set (j+1) (S a'):=⟨_,rfl⟩;rw[<-ecu]at b7 h3' q2⊢;obtain⟨w7,e7⟩:∃w7,w7=setb w6 g' (CB cu T.string):=⟨_,rfl⟩;rw[<-e7]at b7 q2⊢;rw[e7]at q2⊢;rw[ez]at q2;refine⟨⟨p',a'::m,q,x,by rw[hj],by simp only[List.length_cons];omega,q2,?_,mid.step hlt,(kd5.trans (Kp.setb _ _ _) λk _ e=>by rw[e];exact g1).trans (Kp.setb _ _ _) λk _ e=>by rw[e];exact g1⟩,?_⟩
   ·refine List.Perm.trans ?_ pm3;rw[hzs,List.append_assoc];exact List.Perm.append_left _ (List.Perm.swap _ _ _)
   ·simp only[RowKit.intOf];omega
  ·simp(disch:=first|omega|(simp(disch:=first|omega|fail)only[go_sem,sub2,g6',h6',cx,ca,SM.zqW]<;>omega)|fail)only[go_sem,sub2,g6',h6',cx,ca,SM.zqW];by_cases c:x<a'
   ·simp(disch:=first|omega|(simp(disch:=first|omega|fail)only[go_sem,c,decide_true]<;>omega)|fail)only[go_sem,c,decide_true];exact⟨trivial,trivial⟩
   ·simp(disch:=first|omega|(simp(disch:=first|omega|fail)only[go_sem,c,decide_false]<;>omega)|fail)only[go_sem,c,decide_false];refine⟨trivial,zs,o3',pm3,?_,kd⟩;have:=mid.done c;have el:(p'++[a']++x::m).length=i+1:=by simp;omega
    rw[hzs,show p'++[a']++x::(m++q)=(p'++[a']++x::m)++q by simp,List.take_left' el];exact this
end
theorem zoI{ys:List (List UInt8)}(h:ys.Pairwise LE8)(hn:ys.Nodup):ys.Pairwise (·<·):=by
 refine(List.Pairwise.and h hn).imp λ{a b} hab=>?_;rcases Decidable.em (a<b)with q|q
 ·exact q
 ·exact absurd (List.le_antisymm (List.not_lt.1 hab.1) (List.not_lt.1 q)) hab.2
theorem zss{w:World}{mb g:Nat}{M:ML (List UInt8)}{c:Nat}{t:TypeId}(hb:bk w mb=some (MO emS M c))(h:∃cur,bk w g=some (CB cur t)):g≠mb:=λe=>by obtain⟨cur,h⟩:=h;rw[e,hb]at h;cases h
theorem zd2{α:Type}[DecidableEq α]:∀(a b:List α),a.Nodup->(∀x∈a,x∈b)->a.length<=b.length
 |[],b,_,_=>Nat.zero_le _
 |x::a,b,hn,hs=>by
  rw[List.nodup_cons]at hn;have hx:=hs x (List.mem_cons_self ..);have:=zd2 a (b.erase x) hn.2 λy hy=>by have hyb:=hs y (List.mem_cons_of_mem _ hy);have hne:y≠x:=λe=>hn.1 (e▸hy);exact(List.mem_erase_of_ne hne).2 hyb
  rw[List.length_erase_of_mem hx]at this;have:0<b.length:=List.length_pos_of_mem hx;simp only[List.length_cons];omega
section
variable{w:World}{K:Value->World->Prop}
theorem zi4{mb:Nat}{M:ML (List UInt8)}{c:Nat}(hb:bk w mb=some (MO emS M c))(wf:MWF M c)(hM:M.length<=1000000)
  (hk:∀w' v(ys:List (List UInt8)),w'.ownsRow w.heap.size T.string 1 v ys.length (ys.map S)->ys.Pairwise (·<·)->ys.length=M.length->(∀k,k∈ys↔(mget M k).isSome=true)->Below w.heap.size w w'->K v w'):Cl P Fn.bO #[.map (some mb)] w K:=by
 apply zmi;unfold ziy;have hmem:∀k,k∈M.map (·.1)↔(mget M k).isSome=true:=λk=>by
  have:=zbr M k;cases hq:mget M k with
  |none=>rw[hq]at this;simpa using this
  |some p=>rw[hq]at this;simpa using this
 refine zaa (λt w'=>∃v,∃ks:List (List UInt8),t=[v]/\w'.ownsRow w.heap.size T.string 1 v ks.length (ks.map S)/\ks.Perm (M.map (·.1))/\Below w.heap.size w w') ?_ ?_
 ·rintro t e w1 ⟨v,ks,rfl,o1,pm,B1⟩;have hkl:ks.length=M.length:=by rw[pm.length_eq,List.length_map]
  rw[gs0,C.bE];refine zpk o1 rfl (by omega) λys w2 o2 p2 s2 k2=>?_;have hyl:ys.length=ks.length:=p2.length_eq;have hym:∀k,k∈ys↔(mget M k).isSome=true:=λk=>by rw[p2.mem_iff,pm.mem_iff];exact hmem k
  have hnd:ys.Nodup:=(p2.trans pm).nodup_iff.2 wf.keys;have B2:Below w.heap.size w w2:=B1.trans (k2.below (λk hk e=>by have:=zaW o1 k e;omega) B1.size);exact hk w2 v ys (by rw[hyl];exact o2) (zoI s2 hnd) (by omega) hym B2
 rw[zpG _ U.af hb];have rg:=Rg.start w hb wf;have B1:Below w.heap.size w (w.alloc (.mapIter (some mb) c #[] c)):=by repeat (first|exact Below.refl _ _|assumption|refine zag ?_ (by first|omega|(simp only[go_sem]<;>omega)) _|refine Below.alloc ?_ (by first|omega|(simp only[go_sem]<;>omega)) _|refine Below.drew ?_)
 have lmb:=zaj hb;obtain⟨it,hit⟩:∃it,it=w.heap.size:=⟨_,rfl⟩;rw[<-hit]at rg;rw[show pt w.heap.size 0=pt it 0 by rw[hit]];generalize w.alloc (.mapIter (some mb) c #[] c)=w1 at*;refine zaA (λt w'=>∃v,∃vis rest:ML (List UInt8),t=[v]/\w'.ownsRow w.heap.size T.string 1 v vis.length ((vis.map (·.1)).map S)/\Rg emS w' mb it M c vis rest/\Below w.heap.size w w') (λt _=>match gs t 0 with| .slice _ n _=>M.length - n|_=>0) ⟨_,[],M,rfl,zfC _ _ _ _,rg,B1⟩ ?_;rintro t e w2 ⟨v,vis,rest,rfl,o2,rg2,B2⟩;have z2:=B2.size;have hpl:=rg2.pm.length_eq;rw[List.length_append]at hpl;refine rg2.next ?_ ?_
 ·rintro rfl hvm;simp(disch:=first|omega|(simp(disch:=first|omega|fail)only[go_sem]<;>omega)|fail)only[go_sem];refine zaa (λ_ _=>False) (λ_ _ _ h=>h.elim) ?_;exact⟨v,vis.map (·.1),rfl,by rw[List.length_map];exact o2,hvm.map _,B2⟩
 ·intro x rest' w3 rg3 hx hr k3 en;simp(disch:=first|omega|(simp(disch:=first|omega|fail)only[go_sem]<;>omega)|fail)only[go_sem];refine zaa (λt w'=>t=[]/\w'=w3) ?_ ⟨rfl,rfl⟩;rintro t e w4 ⟨rfl,rfl⟩;rw[en,zar];have o4:=zbQ o2 k3 λk hk e=>by subst e;obtain⟨cur,hc⟩:=zfS o2 hk;obtain⟨seen,hi,_⟩:=rg2.hi;rw[hc]at hi;cases hi
  have B4:Below w.heap.size w w4:=B2.trans (k3.below (λk hk e=>by omega) z2);have z4:=B4.size;refine put1 (z:=S []) (bytes:=16) U.ae (by kernel_rfl) rfl (by omega) rfl o4 (by omega) z4 λv5 w5 o5 k5 n5=>?_;have nb:¬v.ownBlock=some mb:=λe=>zss rg3.hb (zfS o4 e) rfl;have ni:¬v.ownBlock=some it:=λe=>by obtain⟨cur,hc⟩:=zfS o4 e;obtain⟨seen,hi,_⟩:=rg3.hi;rw[hc]at hi;cases hi
  obtain⟨a5,c5,e5⟩:=zan o5;obtain⟨a2,c2,e2⟩:=zan o2;refine⟨⟨v5,vis++[x],rest',rfl,by simpa using o5,rg3.kp k5 nb ni,B4.trans (k5.below (λk hk e=>by have:=zaW o4 k e;omega) z4)⟩,?_⟩;rw[e5,e2];show M.length - (vis.length+1)<M.length - vis.length;omega
end
end Go.Proofs.YtdljebgllipdjaaGreatDoor.X
end
section
namespace Go.Proofs.YtdljebgllipdjaaGreatDoor.X
open Go Go.X Go.Proofs Go.RowKit Go.X.PM Go.Lib
section
variable{w w' w0:World}{F0:Fp}{K:Value->World->Prop}{B p mb:Nat}{s:PM.St}{rep:Nat->Rep}{se:Nat->Nat×Nat}
 {m:SM.Mem} {ps:List Nat} {hp:Int->Nat} {E:PM.Ex} {X:Option Str}
theorem PT.rebase(h:PT w0 F0 w B p s mb rep se):PT w (fpOf p mb s rep) w B p s mb rep se:=PT.start h.pf h.sn
theorem PT.join{w1:World}{s1:PM.St}{rep1:Nat->Rep}(h:PT w0 F0 w B p s mb rep se)(h1:PT w (fpOf p mb s rep) w1 B p s1 mb rep1 se):PT w0 F0 w1 B p s1 mb rep1 se:=⟨h1.pf,h.tr.trans h1.tr,h1.sn⟩
theorem zjt{l q:Str}(hl:l.length<=1000000)(hq:q.length<=1000000)(hk:K (.bool (decide (l.take q.length=q))) w):Cl P Fn.bj #[S l,S q] w K:=by
 apply zjS;unfold zf9;rw[C.aL];apply zhG;unfold zdG;by_cases c:(q.length:Int)<=l.length
 ·have sx:∀L:Value->Prop,pu P (zaE T.string (S l) none (some (.int .i64 q.length)) none) L=L (S (l.take q.length)):=λL=>by rw[zel L T.string l .i64 q.length U.string (by omega) (by omega),Int.toNat_natCast]
  simp(disch:=first|omega|(simp(disch:=first|omega|fail)only[go_sem,sx]<;>omega)|fail)only[go_sem,sx];exact hk
 ·have e:decide (l.take q.length=q)=false:=decide_eq_false λe=>by have:=congrArg List.length e;rw[List.length_take]at this;omega
  rw[e]at hk;simp(disch:=first|omega|(simp(disch:=first|omega|fail)only[go_sem]<;>omega)|fail)only[go_sem];exact hk
theorem zoJ{n d:Str}(hd:d≠[47]):decide (n.take (d++[47]).length=d++[47])=SM.below n d:=by
 rw[Bool.eq_iff_iff,decide_eq_true_eq,SM.zaz hd];constructor
 ·intro e;refine⟨n.drop (d++[47]).length,?_⟩;have:=(List.take_append_drop (d++[47]).length n).symm;rw[e]at this;rw[this];simp
 ·rintro⟨r,rfl⟩;rw[show d++47::r=(d++[47])++r by simp,List.take_left'];rfl
theorem zoC{l:Str}{e x:Nat}{ne nx:PM.Nd}{kk:Str->Option Nat}(h:PT w0 F0 w B p s mb rep se)(hl:l.length<=50000)(hg:s.g (norm l)=some e)(he:s.nd e=some ne)(hnl:ne.n.name.length<=50000)(hx:s.g (norm (Pa.clean (SM.dirP ne.n.name)))=some x)(hnx:s.nd x=some nx)(hkk:nx.kids=some kk)
  (hk:∀w',PT w0 F0 w' B p (s.setNd x ⟨nx.n,some (zb9 kk ne.n.name none)⟩) mb rep se->K .nilIface w'):Cl P Fn.af #[pt p 0,S l] w K:=by
 apply za2;unfold zaP;rw[C.af];refine zbV h (by omega) λw1 h1=>?_;rw[hg,zar,zaq];refine zaa (λt w'=>w'=w1) ?_ ?_;rotate_left
 ·simp only[Option.isSome_some,if_true];rw[zdc Tryz.underlying116];simp(disch:=first|omega|(simp(disch:=first|omega|fail)only[go_sem]<;>omega)|fail)only[go_sem]
 rintro t ee w2 rfl;rw[C.ai];refine zdC h1 he (by omega) λw3 h3=>?_;rw[hx];refine zaa (λt w'=>w'=w3) ?_ ?_;rotate_left
 ·rw[znG];simp(disch:=first|omega|(simp(disch:=first|omega|fail)only[go_sem]<;>omega)|fail)only[go_sem]
 rintro t ee w4 rfl;rw[C.aN];exact zmc h3 hnx hkk he λw5 h5=>hk w5 h5
theorem ztG{l:Str}(h:PT w0 F0 w B p s mb rep se)(hl:l.length<=50000)(hg:s.g (norm l)=none)
  (hk:∀w',PT w0 F0 w' B p s mb rep se->K (er (se G.ab)) w'):Cl P Fn.af #[pt p 0,S l] w K:=by
 apply za2;unfold zaP;rw[C.af];refine zbV h (by omega) λw1 h1=>?_;rw[hg,zar,zaq];refine zaa (λ_ _=>False) (λ_ _ _ h=>h.elim) ?_;simp only[Option.isSome_none,Bool.false_eq_true,if_false];rw[zje Tryz.underlying116,cd_t];exact hk w1 h1
theorem zkM{l:Str}{y:Nat}(h:PT w0 F0 w B p s mb rep se)(r:PM.Rel s m ps hp [] none)(hkl:SM.Kept l)(h47:l≠[47])(hl:l.length<=50000)(hf:m.find l=some y)
  (hk:∀w' s',PT w0 F0 w' B p s' mb rep se->PM.Rel s' m ps hp [] (some l)->PM.zqZ s' m ps l->s'.hs=s.hs->s'.g=s.g->K .nilIface w'):Cl P Fn.af #[pt p 0,S l] w K:=by
 obtain⟨k,g,hnd⟩:=Rel.node r hf rfl;have hnm:=r.mi.nm _ _ hf;obtain⟨x,hx,hdx⟩:=SM.zb6 (r.mi.cl l y hf h47 (λe=>by cases e));obtain⟨k2,g2,_⟩:=Rel.node r hx rfl;obtain⟨kk,k1,r1,nk1⟩:=r.unreg h47 hx hdx;refine zoC h hl (by rw[(SM.zc8 hkl).1];exact g) hnd (by show(m.node y).name.length<=_;rw[hnm];exact hl) (x:=pt' ps x) ?_ k1 rfl λw1 h1=>?_
 ·show s.g (norm (Pa.clean (SM.dirP (m.node y).name)))=_;rw[hnm,SM.zky hkl];exact g2
 ·rw[show((⟨m.node y,k⟩:PM.Nd).n.name)=l from hnm]at h1;exact hk w1 _ h1 r1 nk1 rfl rfl
theorem zps{l:Str}(h:FsT w0 F0 w B p m hp se)(hn:SM.zbF l=true)(h47:norm l≠[47])(hch:m.children (norm l)=[])
  (h0:m.find (norm l)=none->∀w' x,FsI w0 F0 w' B p m hp se->PE w' w0.heap.size x [114,101,109,111,118,101] (se G.ab)->K x w')
  (h1:(m.find (norm l)).isSome=true->∀w',FsI w0 F0 w' B p (m.drop (norm l)) hp se->K .nilIface w'):Cl P Fn.aE #[pt p 0,S l] w K:=by
 have hl:=zfV hn;have hkn:=SM.zeW hn;have hnl:=zbH l;apply zhH;unfold zdF;rw[C.ae];refine zaR (by omega) λw1 B1=>?_;generalize norm l=n at*;have hB1:=h.old B1;refine zaa (λt w'=>(m.find n).isSome=true/\FsI w0 F0 w' B p (m.drop n) hp se) ?_ ?_
 ·rintro t e w2 ⟨hs,h2⟩;exact h1 hs w2 h2
 rw[C.ab];refine zcd hB1 λw2 s mb rep ps h2 r2=>?_;rw[h2.pf.look,zar,zaq];have gg:=r2.g n;rw[show eg ([]:PM.Ex) n=none from rfl,Option.none_or]at gg;have z0:=h2.tr.kp.size;rw[gg];cases hf:m.find n with
 |none=>simp only[Option.map_none,Option.isSome_none,cd_f];refine zfy (by simp[sents]) h2.sn [114,101,109,111,118,101] n λw3 x B3 hx=>?_;exact h0 hf w3 x ⟨s,mb,rep,ps,h2.old B3,r2⟩ (hx.lo z0)
 |some y=>
  simp only[Option.map_some,Option.isSome_some,cd_t];rw[C.ah];refine zkM h2 r2 hkn h47 (by omega) hf λw3 s3 h3 r3 nk3 e1 e2=>?_;refine zaa (λt w'=>w'=w3) ?_ ?_;rotate_left
  ·rw[zdc Tryz.underlying116];simp(disch:=first|omega|(simp(disch:=first|omega|fail)only[go_sem]<;>omega)|fail)only[go_sem]
  rintro t e w4 rfl;rw[C.ab];refine zaF h3.pf ?_;refine h3.del n λv w5 h5=>?_;obtain⟨d1,d2,d3⟩:=SM.zku r3.mi.wf n;obtain⟨n1,n2⟩:=SM.zcp m n;have nochild:∀q x,m.find q=some x->q≠[47]->SM.parent q=n->False:=λq x hq h1 h2=>by have:=(SM.zi6 r3.mi.wf n q).2 ⟨⟨x,hq⟩,h1,h2⟩;rw[hch]at this;cases this
  refine⟨trivial,s3.putG n none,mb,rep,ps,h5,r3.dropD nk3 (D:=λq=>q=n) d1 d2 n1 n2 (λe=>h47 e.symm) (λq x hq h1 h2=>absurd h2 (λe=>nochild q x hq h1 e)) rfl (λq x hq h1 h2=>.inl h2) (λq=>rfl) rfl rfl⟩
theorem zmH{l:Str}(h:FsT w0 F0 w B p m hp se)(hn:SM.zbF l=true)(h47:norm l≠[47])(hnn:m.names.length<=900000)(hnl:∀q∈m.names,q.length<=900000)
  (hk:∀w',FsI w0 F0 w' B p (m.dropAll (m.names.filter λn=>decide (n=norm l)||SM.below n (norm l))) hp se->K .nilIface w'):Cl P Fn.aA #[pt p 0,S l] w K:=by
 have hl:=zfV hn;have hkn:=SM.zeW hn;have hnl':=zbH l;apply zgd;unfold zcT;rw[C.ae];refine zaR (by omega) λw1 B1=>?_;generalize norm l=n at*;have hB1:=h.old B1
 --what is done first:out of the directory
 have start:∀(L:Value->World->Prop),(∀v w' s mb rep ps,PT w0 F0 w' B p s mb rep se->PM.Rel s m ps hp [] (some n)->PM.zqZ s m ps n->L v w')->Cl P Fn.af #[pt p 0,S n] w1 L:=by
  intro L hL;rcases hB1 with⟨s,mb,rep,ps,h2,r2⟩|h2
  ·cases hf:m.find n with
   |some y=>exact zkM h2 r2 hkn h47 (by omega) hf λw3 s3 h3 r3 nk _ _=>hL _ w3 s3 mb rep ps h3 r3 nk
   |none=>have gg:=r2.g n;rw[show eg ([]:PM.Ex) n=none from rfl,Option.none_or,hf]at gg;exact ztG h2 (by omega) (by rw[(SM.zc8 hkn).1];exact gg) λw3 h3=>hL _ w3 s mb rep ps h3 (r2.noreg hf).1 (r2.noreg hf).2
  ·apply za2;unfold zaP;rw[C.af];apply zcl;unfold zbo;rw[C.ae];refine zaR (by omega) λw2 B2=>?_;rw[C.ab];refine zcd (hp:=hp) ((show FsT w0 F0 w1 B p m hp se from .inr h2).old B2) λw3 s mb rep ps h3 r3=>?_;rw[(SM.zc8 hkn).1,h3.pf.look,zar,zaq];have hf:m.find n=none:=by have hm0:=h2.m0;subst hm0;have wf:SM.Wf SM0:=⟨by simp[SM0],rfl,by simp[SM0]⟩;exact(SM.zco wf n).2 (by simpa[SM0]using h47)
   have gg:=r3.g n;rw[show eg ([]:PM.Ex) n=none from rfl,Option.none_or,hf]at gg;rw[gg];simp only[Option.map_none,Option.isSome_none,cd_f];have hd:=h3.old (Below.refl _ w3).drew;obtain⟨q,t,e1⟩:=hd.sn.at_ G.ab (by simp[sents]);simp(disch:=first|omega|(simp(disch:=first|omega|fail)only[go_sem,e1]<;>omega)|fail)only[go_sem,e1];refine zaa (λ_ _=>False) (λ_ _ _ h=>h.elim) ?_;rw[zje Tryz.underlying116,cd_t];exact hL _ _ s mb rep ps hd (r3.noreg hf).1 (r3.noreg hf).2
 rw[C.ah];refine start _ λv0 w2 s mb rep ps h2 r2 nk2=>?_;have hd47:SM.below [47] n=false:=by rw[Bool.eq_false_iff];intro h;obtain⟨r,e⟩:=(SM.zaz h47).1 h;have:=congrArg List.length e;have:0<n.length:=List.length_pos_iff.2 (SM.zb5 hkn);simp at*;omega
 obtain⟨D,hD⟩:∃D:Str->Bool,D=λq=>decide (q=n)||SM.below q n:=⟨_,rfl⟩;have Dn:D n=true:=by rw[hD];simp
 have D47:¬D [47]=true:=by rw[hD];simp[hd47,Ne.symm h47]
 have Dup:∀q x,m.find q=some x->q≠[47]->(D q=true↔q=n\/D (SM.parent q)=true):=λq x hq hq47=>by have bs:=SM.zcO (r2.mi.kp q x hq) hq47 hkn h47;rw[hD];simp only[Bool.or_eq_true,decide_eq_true_eq];rw[bs]
 refine zaa (λt w'=>FsI w0 F0 w' B p (m.dropAll (m.names.filter λq=>decide (q=n)||SM.below q n)) hp se) ?_ ?_
 ·rintro t e w3 h3;exact hk w3 h3
 rw[C.ab];refine zaF h2.pf ?_;obtain⟨M,c,m1,m2,m3⟩:=h2.pf.map;have gsome:∀q,(s.g q).isSome=true↔q∈m.names:=λq=>by
  have gg:=r2.g q;rw[show eg ([]:PM.Ex) q=none from rfl,Option.none_or]at gg;rw[gg,Option.isSome_map];have:=SM.zco r2.mi.wf q;cases e:m.find q with
  |none=>rw[e]at this;simpa using this.1 rfl
  |some x=>exact⟨λ_=>(SM.zbO r2.mi.wf e).1,λ_=>rfl⟩
 have mkeys:∀k,(mget M k).isSome=true↔k∈m.names:=λk=>by rw[m3,Option.isSome_map];exact gsome k
 have hMl:M.length<=m.names.length:=by
  have:=zd2 (M.map (·.1)) m.names m2.keys λk hkm=>by
   rw[<-mkeys];have:=zbr M k;cases e:mget M k with
   |none=>exact absurd hkm (this.1 e)
   |some v=>rfl
  rwa[List.length_map]at this
 rw[C.aF];refine zi4 m1 m2 (by omega) λw3 v ys oy srt ylen ymem B3=>?_;have h3:=h2.old B3;obtain⟨av,cv,ev⟩:=zan oy;have nown:∀b,v.ownBlock=some b->¬Own p mb s rep b:=λb hb ho=>by have:=(zaW oy b hb).1;have:=(h2.pf.lt b ho).2;omega
 rw[ev,V.ae,<-ev];refine zaA (λt w'=>∃i:Nat,∃g,t=[.int .i64 i]/\i<=ys.length/\PT w0 F0 w' B p {s with g:=g} mb rep se/\(∀q,g q=if q∈ys.take i/\D q=true then none else s.g q)/\w'.ownsRow w2.heap.size T.string 1 v ys.length (ys.map S)) (λt _=>ys.length - (RowKit.intOf (gs t 0)).toNat) ⟨0,s.g,rfl,by omega,h3,λq=>by simp,oy⟩ ?_;rintro t e w4 ⟨i,g,rfl,hi,h4,hg,o4⟩;by_cases gl:(i:Int)<ys.length
 ·have hix:i<ys.length:=by omega
  simp(disch:=first|omega|(simp(disch:=first|omega|fail)only[go_sem]<;>omega)|fail)only[go_sem];refine zaa (λt w'=>t=[]/\w'=w4) ?_ ⟨rfl,rfl⟩;rintro t e w5 ⟨rfl,rfl⟩;obtain⟨gb,cur,g1,g2,g3,g4,g5,g6⟩:=zlS o4 hix rfl;have cx:za1 (bk w5 gb) i=some (S ys[i]):=by rw[g2];exact(zbe _ _ _).trans g5
  have hyn:ys[i]∈m.names:=by rw[<-mkeys,<-ymem];exact List.getElem_mem hix
  have hyl:=hnl _ hyn;have tk:∀q,q∈ys.take (i+1)↔q∈ys.take i\/q=ys[i]:=λq=>by rw[List.take_succ_eq_append_getElem hix,List.mem_append,List.mem_singleton]
  obtain⟨y,hy⟩:∃y,y=ys[i]:=⟨_,rfl⟩;rw[<-hy]at cx tk hyl;have sx:∀L:Value->Prop,pu P (oBin .add T.string false true (S n) (S [47])) L=L (S (n++[47])):=λL=>zoW _ T.string _ _ _ _ (by simp;omega);refine zaa (λt w'=>∃g,PT w0 F0 w' B p {s with g:=g} mb rep se/\(∀q,g q=if q∈ys.take (i+1)/\D q=true then none else s.g q)/\w'.ownsRow w2.heap.size T.string 1 v ys.length (ys.map S)) ?_ ?_
  ·rintro t e w6 ⟨g',h6,hg6,o6⟩;refine⟨⟨i+1,g',rfl,by omega,h6,hg6,o6⟩,?_⟩;simp only[RowKit.intOf];omega
  ·have del:D y=true->st P (zah Fn.ab #[pt p 0]) w5 λt30 w14=>st P (zac .delete #[T.ai,T.string] T.aU #[false,false] #[t30,S y]) w14 λ_ w15=>∃g,PT w0 F0 w15 B p {s with g:=g} mb rep se/\(∀q,g q=if q∈ys.take (i+1)/\D q=true then none else s.g q)/\w15.ownsRow w2.heap.size T.string 1 v ys.length (ys.map S):=λhDy=>by
    rw[C.ab];refine zaF h4.pf ?_;refine h4.rebase.del y λv' w6 h6=>⟨λq=>if q=y then none else g q,h4.join h6,λq=>?_,zbQ o4 h6.tr.kp λb hb=>nown b hb⟩;show(if q=y then none else g q)=_;by_cases cq:q=y
    ·rw[if_pos cq,if_pos ⟨(tk q).2 (.inr cq),by rw[cq];exact hDy⟩]
    ·rw[if_neg cq,hg];by_cases cc:q∈ys.take i/\D q=true
     ·rw[if_pos cc,if_pos ⟨(tk q).2 (.inl cc.1),cc.2⟩]
     ·rw[if_neg cc,if_neg (λh=>cc ⟨((tk q).1 h.1).resolve_right cq,h.2⟩)]
   have keep:D y=false->∃g,PT w0 F0 w5 B p {s with g:=g} mb rep se/\(∀q,g q=if q∈ys.take (i+1)/\D q=true then none else s.g q)/\w5.ownsRow w2.heap.size T.string 1 v ys.length (ys.map S):=λhDy=>by
    refine⟨g,h4,λq=>?_,o4⟩;rw[hg];by_cases cq:q=y
    ·rw[if_neg (λh=>by rw[cq,hDy]at h;cases h.2),if_neg (λh=>by rw[cq,hDy]at h;cases h.2)]
    ·by_cases cc:q∈ys.take i/\D q=true
     ·rw[if_pos cc,if_pos ⟨(tk q).2 (.inl cc.1),cc.2⟩]
     ·rw[if_neg cc,if_neg (λh=>cc ⟨((tk q).1 h.1).resolve_right cq,h.2⟩)]
   by_cases cy:y=n
   ·have hDy:D y=true:=by rw[cy];exact Dn
    have q:=del hDy;rw[C.ab]at q;simp(disch:=first|omega|(simp(disch:=first|omega|fail)only[go_sem,g6,cx,decide_eq_true cy]<;>omega)|fail)only[go_sem,g6,cx,decide_eq_true cy];exact q
   ·have hDy:D y=SM.below y n:=by rw[hD];simp[cy]
    simp(disch:=first|omega|(simp(disch:=first|omega|fail)only[go_sem,g6,cx,decide_eq_false cy,sx]<;>omega)|fail)only[go_sem,g6,cx,decide_eq_false cy,sx];refine zjt (by omega) (by simp;omega) ?_;rw[zoJ h47,<-hDy];cases hb:D y with
    |true=>have q:=del hb;rw[C.ab]at q;simp(disch:=first|omega|(simp(disch:=first|omega|fail)only[go_sem]<;>omega)|fail)only[go_sem];exact q
    |false=>simp(disch:=first|omega|(simp(disch:=first|omega|fail)only[go_sem]<;>omega)|fail)only[go_sem];exact keep hb
 ·have e1:i=ys.length:=by omega
  subst e1;simp(disch:=first|omega|(simp(disch:=first|omega|fail)only[go_sem]<;>omega)|fail)only[go_sem];refine zaa (λ_ _=>False) (λ_ _ _ h=>h.elim) ?_;rw[List.take_length]at hg;obtain⟨d1,d2,d3,d4⟩:=SM.zj5 (m.names.filter λq=>decide (q=n)||SM.below q n) r2.mi.wf;have memF:∀q,q∈(m.names.filter λq=>decide (q=n)||SM.below q n)↔q∈m.names/\D q=true:=λq=>by rw[List.mem_filter,hD]
  refine⟨{s with g:=g},mb,rep,ps,h4,r2.dropD nk2 (D:=λq=>D q=true) d1 (λq=>?_) d3 d4 D47 (λq x hq h1 h2=>(Dup q x hq h1).2 (.inr h2)) Dn (λq x hq h1 h2=>(Dup q x hq h1).1 h2) (λq=>?_) rfl rfl⟩
  ·rw[d2];by_cases cc:D q=true
   ·rw[if_pos cc];by_cases cm:q∈m.names
    ·rw[if_pos ((memF q).2 ⟨cm,cc⟩)]
    ·rw[if_neg (λh=>cm ((memF q).1 h).1),(SM.zco r2.mi.wf q).2 cm]
   ·rw[if_neg cc,if_neg (λh=>cc ((memF q).1 h).2)]
  ·show g q=_;rw[hg];by_cases cc:D q=true
   ·rw[if_pos cc];by_cases cm:q∈ys
    ·rw[if_pos ⟨cm,cc⟩]
    ·rw[if_neg (λh=>cm h.1)];have:¬(s.g q).isSome=true:=λh=>cm ((ymem q).2 ((mkeys q).2 ((gsome q).1 h)));cases e:s.g q with
     |none=>rfl
     |some v=>rw[e]at this;exact absurd rfl this
   ·rw[if_neg cc,if_neg (λh=>cc h.2)]
end
def fxOf(n:PM.Nd)(r:Rep)(h:PM.Hd)(u g:Int):FX:=⟨n.n.data,h.pos,h.cl,h.ro,h.listed,n.n.name,mdV n.kids r.kb,n.n.dir,n.n.mode,n.n.time,u,g⟩
section
variable{w w' w0:World}{F0:Fp}{K:Value->World->Prop}{B p mb:Nat}{s:PM.St}{rep:Nat->Rep}{se:Nat->Nat×Nat}
 {m:SM.Mem} {ps:List Nat} {hp:Int->Nat} {E:PM.Ex} {X:Option Str}
theorem PF.file(h:PF w B p s mb rep){f:Nat}{hd:PM.Hd}{n:PM.Nd}(hf:s.hs f=some hd)(hn:s.nd hd.d=some n):∃u g,FH w B f hd.d (rep hd.d).v (fxOf n (rep hd.d) hd u g):=by
 obtain⟨q1,q2⟩:=h.hand f hd hf;have N:=h.node _ _ hn;obtain⟨u,g,hb⟩:=N.bd;refine⟨u,g,q1,N.hd,zc5 q2 hb (zjo (by decide)),q2,hb,zsl _ _,N.own,λe=>?_,λe=>?_⟩
 ·obtain⟨l,e'⟩:=h.vTy hn e;exact zc5 e' q2 (zjo (by decide)) rfl
 ·obtain⟨l,e'⟩:=h.vTy hn e;exact zc5 e' hb (zjo (by decide)) rfl
theorem PT.fileDone(h:PT w0 F0 w B p s mb rep se){f:Nat}{hd:PM.Hd}{n:PM.Nd}(hf:s.hs f=some hd)(hn:s.nd hd.d=some n){v':Value}{x:FX}(H:FH w' B f hd.d v' x)(k:Kp w w' (Of f hd.d (rep hd.d).v))(ok:zmM w (rep hd.d).v v')(hmd:x.md=mdV n.kids (rep hd.d).kb):
  PT w0 F0 w' B p ((s.setNd hd.d ⟨⟨x.dir,x.mode,x.bytes,x.mt,x.nm⟩,n.kids⟩).setH f ⟨hd.d,x.pos,x.rdc,x.cl,x.ro⟩) mb (λe=>if e=hd.d then⟨v',(rep hd.d).kb⟩else rep e) se:=by
 have P:=h.pf;obtain⟨q1,q2⟩:=P.hand f hd hf;have N:=P.node _ _ hn;obtain⟨u0,g0,hb⟩:=N.bd;obtain⟨M0,c0,m1,m2,m3⟩:=P.map;obtain⟨d,ed⟩:∃d,d=hd.d:=⟨_,rfl⟩;rw[<-ed]at hn H k ok hmd N hb⊢;have vt:∀b,(rep d).v.ownBlock=some b->∃l,bk w b=some (CB l T.aJ):=λb hb=>P.vTy hn hb;have notOf:∀b,b<w.heap.size->b≠f->b≠d->(rep d).v.ownBlock≠some b->bk w' b=bk w b:=λb h1 h2 h3 h4=>k.block b h1 λq=>by
  rcases q with q|q|q
  ·exact h2 q
  ·exact h3 q
  ·exact h4 q
 have offM:∀{b:Nat}{K:ML Str}{c:Nat},bk w b=some (MO emS K c)->bk w' b=bk w b:=λ{b K c} e=>notOf b (zaj e) (λq=>zc5 e q2 (λz=>zjr z.symm) q) (λq=>zc5 e hb (λz=>zjr z.symm) q) (λq=>by obtain⟨l,e'⟩:=vt b q;exact zc5 e e' (λz=>zjr z.symm) rfl)
 have offC:∀{b t:Nat}{l:List Value},bk w b=some (CB l t)->t≠T.aJ->b≠f->b≠d->bk w' b=bk w b:=λ{b t l} e ht h1 h2=>notOf b (zaj e) h1 h2 λq=>by obtain⟨l',e'⟩:=vt b q;exact zc5 e e' (zjo ht) rfl
 have np:p≠f/\p≠d:=⟨zc5 P.bp q2 (zjo (by decide)),zc5 P.bp hb (zjo (by decide))⟩;have cs:∀e ne,((s.setNd d ⟨⟨x.dir,x.mode,x.bytes,x.mt,x.nm⟩,n.kids⟩).setH f ⟨d,x.pos,x.rdc,x.cl,x.ro⟩).nd e=some ne->(e=d/\ne=⟨⟨x.dir,x.mode,x.bytes,x.mt,x.nm⟩,n.kids⟩)\/(e≠d/\s.nd e=some ne):=λe ne he=>by
  simp only[St.setNd,St.setH]at he;by_cases c:e=d
  ·rw[if_pos c]at he;injection he with he;exact .inl ⟨c,he.symm⟩
  ·rw[if_neg c]at he;exact .inr ⟨c,he⟩
 have ltv:∀e ne b,s.nd e=some ne->(rep e).v.ownBlock=some b->b<w.heap.size:=λe ne b he hb=>(P.lt b (.inr (.inr (.inl ⟨e,ne,he,.inr (.inl hb)⟩)))).2;refine⟨⟨P.hp,(offC P.bp (by decide) np.1 np.2).trans P.bp,P.hm,⟨M0,c0,(offM m1).trans m1,m2,m3⟩,λe ne he=>?_,λf' hh hf'=>?_,λe e' ne ne' b he he' h1 h2=>?_,λe e' ne ne' he he' k1 k2 h3=>?_,λe ne he hk=>?_⟩,h.tr.trans ⟨zkV k λb _ q=>?_,λb hb=>?_⟩,h.sn.below (k.below (λb hb q=>?_) P.le)⟩
 ·rcases cs e ne he with⟨rfl,rfl⟩|⟨c,he⟩
  ·simp only[if_pos];refine⟨N.hd,⟨x.uid,x.gid,?_⟩,H.own,λkk hkk=>?_⟩
   ·have:=H.bd;rw[hmd]at this;exact this
   ·obtain⟨z1,K,c,z2,z3⟩:=N.kid kk hkk;exact⟨z1,K,c,(offM z2).trans z2,z3⟩
  ·simp only[if_neg c];have N':=P.node e ne he;obtain⟨u,g,hb'⟩:=N'.bd;refine⟨N'.hd,⟨u,g,(offC hb' (by decide) (zc5 hb' q2 (zjo (by decide))) c).trans hb'⟩,zbQ N'.own k λb hb2 q=>?_,λkk hkk=>?_⟩
   ·obtain⟨l,e'⟩:=P.vTy he hb2;rcases q with q|q|q
    ·exact zc5 e' q2 (zjo (by decide)) q
    ·exact zc5 e' hb (zjo (by decide)) q
    ·exact c (P.sv e d ne n b he hn hb2 q)
   ·obtain⟨z1,K,c,z2,z3⟩:=N'.kid kk hkk;exact⟨z1,K,c,(offM z2).trans z2,z3⟩
 ·simp only[St.setH]at hf';by_cases c:f'=f
  ·rw[if_pos c]at hf';injection hf' with hf';rw[<-hf',c];exact⟨q1,H.bf⟩
  ·rw[if_neg c]at hf';obtain⟨z1,z2⟩:=P.hand f' hh hf';exact⟨z1,(offC z2 (by decide) c (zc5 z2 hb (zjo (by decide)))).trans z2⟩
 ·try simp only at h1 h2
  rcases cs e ne he with⟨c,_⟩|⟨c,he⟩
  ·rcases cs e' ne' he' with⟨c',_⟩|⟨c',he'⟩
   ·rw[c,c']
   ·rw[if_pos c]at h1;rw[if_neg c']at h2;rcases ok with q|q
    ·rw[q]at h1;rw[c];exact P.sv d e' n ne' b hn he' h1 h2
    ·have:=q b h1;have:=ltv e' ne' b he' h2;omega
  ·rcases cs e' ne' he' with⟨c',_⟩|⟨c',he'⟩
   ·rw[if_neg c]at h1;rw[if_pos c']at h2;rcases ok with q|q
    ·rw[q]at h2;rw[c'];exact P.sv e d ne n b he hn h1 h2
    ·have:=q b h2;have:=ltv e ne b he h1;omega
   ·rw[if_neg c]at h1;rw[if_neg c']at h2;exact P.sv e e' ne ne' b he he' h1 h2
 ·try simp only at h3
  have e1:∀e ne,((s.setNd d ⟨⟨x.dir,x.mode,x.bytes,x.mt,x.nm⟩,n.kids⟩).setH f ⟨d,x.pos,x.rdc,x.cl,x.ro⟩).nd e=some ne->(∃no,s.nd e=some no/\no.kids=ne.kids)/\(if e=d then(⟨v',(rep d).kb⟩:Rep)else rep e).kb=(rep e).kb:=λe ne he=>by
   rcases cs e ne he with⟨c,q⟩|⟨c,he⟩
   ·refine⟨⟨n,by rw[c];exact hn,by rw[q]⟩,by rw[if_pos c,c]⟩
   ·exact⟨⟨ne,he,rfl⟩,by rw[if_neg c]⟩
  obtain⟨⟨no,a1,a2⟩,a3⟩:=e1 e ne he;obtain⟨⟨no',b1,b2⟩,b3⟩:=e1 e' ne' he';rw[a3,b3]at h3;exact P.sk e e' no no' a1 b1 (by rw[a2];exact k1) (by rw[b2];exact k2) h3
 ·try simp only
  rcases cs e ne he with⟨c,q⟩|⟨c,he⟩
  ·rw[if_pos c];exact P.km d n hn (by rw[q]at hk;exact hk)
  ·rw[if_neg c];exact P.km e ne he hk
 ·rcases q with q|q|q
  ·exact .inr (.inr (.inr ⟨hd,by rw[q];exact hf⟩))
  ·exact .inr (.inr (.inl ⟨d,n,hn,.inl q⟩))
  ·exact .inr (.inr (.inl ⟨d,n,hn,.inr (.inl q)⟩))
 ·have key:Own p mb ((s.setNd d ⟨⟨x.dir,x.mode,x.bytes,x.mt,x.nm⟩,n.kids⟩).setH f ⟨d,x.pos,x.rdc,x.cl,x.ro⟩) (λe=>if e=d then⟨v',(rep d).kb⟩else rep e) b->Own p mb s rep b:=by
   rintro(q|q|⟨e,ne,he,q⟩|⟨hh,q⟩)
   ·exact .inl q
   ·exact .inr (.inl q)
   ·simp only at q;rcases cs e ne he with⟨c,q'⟩|⟨c,he⟩
    ·rw[if_pos c]at q;refine .inr (.inr (.inl ⟨d,n,hn,?_⟩));rcases q with q|q|q
     ·exact .inl (by rw[q,c])
     ·rcases ok with z|z
      ·rw[z]at q;exact .inr (.inl q)
      ·have:=z b q;omega
     ·rw[q']at q;exact .inr (.inr q)
    ·rw[if_neg c]at q;exact .inr (.inr (.inl ⟨e,ne,he,q⟩))
   ·simp only[St.setH]at q;by_cases c:b=f
    ·exact .inr (.inr (.inr ⟨hd,by rw[c];exact hf⟩))
    ·rw[if_neg c]at q;exact .inr (.inr (.inr ⟨hh,q⟩))
  exact⟨key,key⟩
 ·have lf:=H.hf;have ld:=H.hd;rcases q with q|q|q
  ·omega
  ·omega
  ·have:=(zeS N.own b q).1;omega
theorem Rel.otherH(r:PM.Rel s m ps hp E X){f:Nat}(h:PM.Hd)(hf:∀k a,SM.hget m.hs k=some a->hp k≠f):PM.Rel (s.setH f h) m ps hp E X:=by refine⟨r.mi,r.len,r.inj,r.g,r.nd,r.ex,r.exd,r.exn,⟨λj h' hh=>?_,r.hs.inj⟩⟩;obtain⟨q1,p',hp',q2⟩:=r.hs.at_ j h' hh;refine⟨q1,p',hp',?_⟩;simp only[St.setH];rw[if_neg (hf j h' hh)];exact q2
theorem FileR.step{f:Nat}{h:SM.Hnd}(r:FileR w0 F0 w B p m hp se f h):
  ∃d v md u g,FH w B f d v ⟨(m.node h.node).data,h.pos,h.cl,h.ro,h.listed,(m.node h.node).name,md,(m.node h.node).dir,(m.node h.node).mode,(m.node h.node).time,u,g⟩/\Sn w B se/\
   ∀w' v'(x:FX),FH w' B f d v' x->Kp w w' (Of f d v)->zmM w v v'->x.md=md->x.nm=(m.node h.node).name->x.dir=(m.node h.node).dir->x.cl=false->
    FileR w0 F0 w' B p (m.setNode h.node ⟨x.dir,x.mode,x.bytes,x.mt,x.nm⟩) hp se f ⟨h.node,x.pos,x.rdc,x.cl,x.ro⟩:=by
 obtain⟨s,mb,rep,ps,h1,r1,q1,⟨q2,q3⟩,q4⟩:=r;obtain⟨k,hnd,_⟩:=r1.nd h.node q2;obtain⟨u,g,H⟩:=h1.pf.file q1 hnd;refine⟨_,_,_,u,g,H,h1.sn,λw' v' x H' k' ok e1 e2 e3 e4=>?_⟩;have h2:=h1.fileDone q1 hnd H' k' ok e1;have r2:=r1.setNode (n:=⟨x.dir,x.mode,x.bytes,x.mt,x.nm⟩) q2 hnd e2 e3;have r3:=Rel.otherH r2 (f:=f) ⟨pt' ps h.node,x.pos,x.rdc,x.cl,x.ro⟩ q4;refine⟨_,mb,_,ps,h2,r3,by simp[St.setH],⟨?_,e4⟩,q4⟩;rw[(SM.za5 m h.node _).2.2.1];exact q2
end
theorem zpp(m:SM.Mem)(l:Str)(a b:SM.Node):(m.add l a).setNode m.nodes.length {b with name:=l}=m.add l b:=by
 unfold SM.Mem.add SM.Mem.setNode SM.Mem.put;simp only
 split<;>simp
section
variable{w w' w0:World}{F0:Fp}{K:Value->World->Prop}{B p mb:Nat}{s:PM.St}{rep:Nat->Rep}{se:Nat->Nat×Nat}
 {m:SM.Mem} {ps:List Nat} {hp:Int->Nat} {E:PM.Ex} {X:Option Str}
theorem zmI(sn:Sn w B se)(hk:K (.bool false) w):Cl P Fn.cC #[.nilIface] w K:=by
 apply ziK;unfold zgb;refine zaa (λt w'=>t=[.nilIface]/\w'=w) ?_ ?_
 ·rintro t e w1 ⟨rfl,rfl⟩;have eqN:∀(g:Nat)(L:Value->World->Prop),st P (oBin .eql T.aB false false .nilIface (er (se g))) w1 L=L (.bool false) w1:=λg L=>zrw Tryz.underlying116 w1 _ _;rw[gs0,sn.load (by simp[sents]),eqN];simp only[gdf_f];rw[sn.load (by simp[sents]),eqN];simp(disch:=first|omega|(simp(disch:=first|omega|fail)only[go_sem]<;>omega)|fail)only[go_sem];exact hk
 ·rw[zmW U.ak (by kernel_rfl)];simp(disch:=first|omega|(simp(disch:=first|omega|fail)only[go_sem]<;>omega)|fail)only[go_sem];exact⟨trivial,trivial⟩
theorem ziJ{C:Nat}{x:Value}{op:Str}(sn:Sn w B se)(hx:PE w C x op (se G.ab))(hk:K (.bool true) w):Cl P Fn.cC #[x] w K:=by
 obtain⟨pb,nm,rfl,hp,hC⟩:=hx;apply ziK;unfold zgb;refine zaa (λt w'=>t=[er (se G.ab)]/\w'=w) ?_ ?_
 ·rintro t e w1 ⟨rfl,rfl⟩;rw[gs0,sn.load (by simp[sents]),sn.eql (by simp[sents]) (by simp[sents]),decide_eq_true rfl];simp(disch:=first|omega|(simp(disch:=first|omega|fail)only[go_sem]<;>omega)|fail)only[go_sem];exact hk
 ·rw[zjK U.ak];simp(disch:=first|omega|(simp(disch:=first|omega|fail)only[go_sem,hp]<;>omega)|fail)only[go_sem,hp];exact⟨trivial,trivial⟩
def trn(fl:Int)(x:Nat)(m:SM.Mem):SM.Mem:=if(SM.has fl 512&&SM.has fl 3)=true then m.setNode x {m.node x with data:=[],time:=0}else m
def chm(cb:Bool)(pv:Int)(x:Nat)(m:SM.Mem):SM.Mem:=if cb=true then m.setNode x {m.node x with mode:=pv}else m
theorem zma(fl:Int){c:Nat}(hc:c<2^63):decide (andI fl (c:Int)>0)=SM.has fl c:=by have:=(zg0 fl hc).1;unfold SM.has;refine decide_eq_decide.2 ⟨λh=>by omega,λh=>by omega⟩
theorem FileR.lt{f:Nat}{h:SM.Hnd}(r:FileR w0 F0 w B p m hp se f h):h.node<m.nodes.length:=by obtain⟨s,mb,rep,ps,h1,r1,q1,⟨q2,q3⟩,q4⟩:=r;exact q2
theorem zrz{cb:Bool}{fl pv:Int}{l:Str}{f x:Nat}{u:Env}(r:FileR w0 F0 w B p m hp se f ⟨x,0,0,false,false⟩)(hx:m.find (norm l)=some x)(hl:l.length<=100000)(hb:(m.node x).data.length<=281474976710)
  (hk:∀w' f',FileR w0 F0 w' B p (chm cb pv x (trn fl x m)) hp se f' ⟨x,if SM.has fl 1024=true then((m.node x).data.length:Int)else 0,0,false,decide (fl=0)⟩->K (tup [pt f' 0,.nilIface]) w'):
  za8 K (pt p 0) (S l) (.int .u32 pv) (.int .i64 fl) [.bool cb,pt f 0,.nilIface] u w:=by
 unfold za8;have a1024:=zma fl (c:=1024) (by decide);have a512:=zma fl (c:=512) (by decide);have a3:=zma fl (c:=3) (by decide);have n1024:((1024:Nat):Int)=1024:=rfl;have n512:((512:Nat):Int)=512:=rfl;have n3:((3:Nat):Int)=3:=rfl;rw[n1024]at a1024;rw[n512]at a512;rw[n3]at a3;refine zaa (λt w'=>w'=w) ?_ ?_;rotate_left
 ·rw[show gs [Value.bool cb,pt f 0,Value.nilIface] 2=.nilIface from rfl,zdc Tryz.underlying116];simp(disch:=first|omega|(simp(disch:=first|omega|fail)only[go_sem]<;>omega)|fail)only[go_sem]
 rintro t e w1 rfl;unfold zcF;refine zaa (λt w'=>∃f',t=[pt f' 0]/\FileR w0 F0 w' B p m hp se f' ⟨x,0,0,false,decide (fl=0)⟩) ?_ ?_;rotate_left
 ·by_cases c0:fl=0
  ·rw[decide_eq_true c0];obtain⟨s,mb,rep,ps,h1,r1,q1,⟨q2,q3⟩,q4⟩:=r;obtain⟨hB,hbk⟩:=h1.pf.hand f _ q1;simp(disch:=first|omega|(simp(disch:=first|omega|fail)only[go_sem,decide_eq_true c0,hbk]<;>omega)|fail)only[go_sem,decide_eq_true c0,hbk];apply ziq;unfold zfN;simp(disch:=first|omega|(simp(disch:=first|omega|fail)only[go_sem]<;>omega)|fail)only[go_sem];have B3:Below w1.heap.size w1 (w1.alloc (CB (handC ⟨pt' ps x,0,0,false,false⟩) T.ao)):=by repeat (first|exact Below.refl _ _|assumption|refine zag ?_ (by first|omega|(simp only[go_sem]<;>omega)) _|refine Below.alloc ?_ (by first|omega|(simp only[go_sem]<;>omega)) _|refine Below.drew ?_)
   have h4:=h1.old B3;refine zib h4 λf2 w3 hf2 _ h5=>?_;exact⟨f2,rfl,zly h4 r1 hf2 q2 h5⟩
  ·rw[decide_eq_false c0];simp(disch:=first|omega|(simp(disch:=first|omega|fail)only[go_sem,decide_eq_false c0]<;>omega)|fail)only[go_sem,decide_eq_false c0];exact⟨f,rfl,r⟩
 rintro t e w2 ⟨f2,rfl,r2⟩;unfold zcE;obtain⟨at_,hat⟩:∃a:Int,a=if SM.has fl 1024=true then((m.node x).data.length:Int)else 0:=⟨_,rfl⟩
 rw[<-hat]at hk;refine zaa (λt w'=>FileR w0 F0 w' B p m hp se f2 ⟨x,at_,0,false,decide (fl=0)⟩) ?_ ?_;rotate_left
 ·simp(disch:=first|omega|(simp(disch:=first|omega|fail)only[go_sem]<;>omega)|fail)only[go_sem];rw[a1024];cases ha:SM.has fl 1024 with
  |false=>rw[ha]at hat;rw[hat];simp only[cd_f];exact r2
  |true=>
   rw[ha]at hat;rw[cd_t];unfold zcG;obtain⟨d,v,md,ug,gg,H,sn,fin⟩:=r2.step;rw[gs0,C.bn];refine zrZ H rfl ⟨by omega,by omega⟩ ⟨by simp only;omega,by simp only;omega⟩ (by simp only;omega) λw3 H3 K3=>?_;have r3:=fin w3 v _ H3 K3 (.inl rfl) rfl rfl rfl rfl;rw[zar,zaq,zdc Tryz.underlying116];simp only[cd_f];have e1:m.setNode x ⟨(m.node x).dir,(m.node x).mode,(m.node x).data,(m.node x).time,(m.node x).name⟩=m:=zi0 r2.lt;have e2:ziQ ⟨(m.node x).data,0,false,decide (fl=0),0,(m.node x).name,md,(m.node x).dir,(m.node x).mode,(m.node x).time,ug,gg⟩ 0 2=at_:=by rw[hat];simp[ziQ]
   rw[e2]at r3;simp only at r3;rw[e1]at r3;exact r3
 rintro t e w3 r3;unfold zcH;refine zaa (λt w'=>FileR w0 F0 w' B p (trn fl x m) hp se f2 ⟨x,at_,0,false,decide (fl=0)⟩) ?_ ?_;rotate_left
 ·unfold trn;simp(disch:=first|omega|(simp(disch:=first|omega|fail)only[go_sem]<;>omega)|fail)only[go_sem];rw[a512];cases h5:SM.has fl 512 with
  |false=>simp(disch:=first|omega|(simp(disch:=first|omega|fail)only[go_sem,Bool.false_and,Bool.false_eq_true,if_false]<;>omega)|fail)only[go_sem,Bool.false_and,Bool.false_eq_true,if_false];exact r3
  |true=>
   simp(disch:=first|omega|(simp(disch:=first|omega|fail)only[go_sem]<;>omega)|fail)only[go_sem];rw[a3];cases h3:SM.has fl 3 with
   |false=>simp(disch:=first|omega|(simp(disch:=first|omega|fail)only[go_sem,Bool.and_false,Bool.false_eq_true,if_false]<;>omega)|fail)only[go_sem,Bool.and_false,Bool.false_eq_true,if_false];exact r3
   |true=>
    have hf0:¬fl=0:=λe=>by rw[e]at h3;revert h3;decide
    rw[decide_eq_false hf0]at r3;simp(disch:=first|omega|(simp(disch:=first|omega|fail)only[go_sem,Bool.and_self,if_true]<;>omega)|fail)only[go_sem,Bool.and_self,if_true];unfold zcI;obtain⟨d,v,md,ug,gg,H,sn,fin⟩:=r3.step;rw[gs0,C.aS];refine zos H sn (by omega) hb λw4 v4 y H4 K4 O4 E4=>?_;have et:trR ⟨(m.node x).data,at_,false,false,0,(m.node x).name,md,(m.node x).dir,(m.node x).mode,(m.node x).time,ug,gg⟩ 0=(⟨[],at_,false,false,0,(m.node x).name,md,(m.node x).dir,(m.node x).mode,0,ug,gg⟩,0):=by unfold trR;simp only[Bool.false_eq_true,if_false];rw[if_neg (by omega),if_neg (by omega)];simp
    simp only at H4 E4;rw[et]at H4 E4;have r4:=fin w4 v4 _ H4 K4 O4 rfl rfl rfl rfl;rcases E4.nil_iff with⟨_,ey⟩|⟨ey,_⟩
    ·rw[ey,zdc Tryz.underlying116];simp only[cd_f];rw[decide_eq_false hf0];exact r4
    ·exact absurd rfl ey
 rintro t e w4 r4;unfold zcy;refine zaa (λt w'=>cb=false/\w'=w4) ?_ ?_
 ·rintro t e w5 ⟨hcb,rfl⟩;unfold zcA;rw[hcb]at hk;exact hk _ f2 r4
 ·rw[gs0,gs0];cases cb with
  |false=>rw[cd_f];exact⟨rfl,rfl⟩
  |true=>
   rw[cd_t,C.ak];have lt4:=r4.lt;obtain⟨s,mb,rep,ps,h1,r1,q1,⟨q2,q3⟩,q4⟩:=r4;have hfx:(trn fl x m).find (norm l)=some x:=by
    unfold trn;split
    ·rw[SM.zhs (SM.za5 _ _ _).1 (SM.za5 _ _ _).2.1];exact hx
    ·exact hx
   refine ze3 h1 r1 hl hfx λw5 s5 rep5 h5 r5 hh=>?_;refine hk w5 f2 ⟨s5,mb,rep5,ps,h5,r5,by rw[hh];exact q1,⟨?_,rfl⟩,λk a e=>q4 k a e⟩;show x<(SM.Mem.setNode _ _ _).nodes.length;rw[(SM.za5 _ _ _).2.2.1];exact lt4
theorem znp{l:Str}{fl pm:Int}(h:FsT w0 F0 w B p m hp se)(hn:SM.zbF l=true)(hr:m.isDir [47]=true)(hc:m.find (norm l)=none->SM.has fl 64=true->m.clear (norm l)=true)(hb:∀x,x<m.nodes.length->(m.node x).data.length<=281474976710)
  (h0:(m.find (norm l)).isSome=true->SM.has fl 128=true->∀w' x,FsI w0 F0 w' B p m hp se->PE w' w0.heap.size x [111,112,101,110] (se G.ah)->K (tup [.pointer none,x]) w')
  (h1:m.find (norm l)=none->SM.has fl 64=false->∀w' x,FsI w0 F0 w' B p m hp se->PE w' w0.heap.size x [111,112,101,110] (se G.ab)->K (tup [.pointer none,x]) w')
  (h2:∀x,m.find (norm l)=some x->SM.has fl 128=false->∀w' f,FileR w0 F0 w' B p (trn fl x m) hp se f ⟨x,if SM.has fl 1024=true then((m.node x).data.length:Int)else 0,0,false,decide (fl=0)⟩->K (tup [pt f 0,.nilIface]) w')
  (h3:m.find (norm l)=none->SM.has fl 64=true->∀w' f,FileR w0 F0 w' B p (trn fl (m.parents (norm l) 0).nodes.length ((m.parents (norm l) 0).add (norm l) ⟨false,andI pm SM.zal,[],0,[]⟩)) hp se f ⟨(m.parents (norm l) 0).nodes.length,0,0,false,decide (fl=0)⟩->K (tup [pt f 0,.nilIface]) w'):
  Cl P Fn.aT #[pt p 0,S l,.int .i64 fl,.int .u32 (IntKind.u32.wrap pm)] w K:=by
 have hl:=zfV hn;have hkn:=SM.zeW hn;apply zgV;unfold zc2;have ew:=znf pm (c:=13631999) (by decide);have hw1:0<=IntKind.u32.wrap pm:=by rw[zjJ];omega
 have hw2:IntKind.u32.wrap pm<=4294967295:=by rw[zjJ];omega
 have eA:∀L:Value->Prop,pu P (oBin .and T.aN false true (.int .u32 (IntKind.u32.wrap pm)) (.int .u32 13631999)) L=L (.int .u32 (andI pm SM.zal)):=λL=>by rw[zls _ _ _ _ _ _ hw1 hw2 (by omega) (by omega)];exact congrArg (λz=>L (.int .u32 z)) ew
 rw[eA];generalize andI pm SM.zal=pv at*;have a128:=zma fl (c:=128) (by decide);have a64:=zma fl (c:=64) (by decide);have n128:((128:Nat):Int)=128:=rfl;have n64:((64:Nat):Int)=64:=rfl;rw[n128]at a128;rw[n64]at a64;rw[C.aH];refine zpq h (by omega) (λhf w1 x hi hx=>?_) λx w1 f hf hr1=>?_
 ·rw[zar,zaq];refine zaa (λt w'=>w'=w1) ?_ ?_;rotate_left
  ·obtain⟨pb,nm,rfl,_⟩:=hx;rw[zlu Tryz.underlying116];simp(disch:=first|omega|(simp(disch:=first|omega|fail)only[go_sem]<;>omega)|fail)only[go_sem]
  rintro t e w2 rfl;unfold zby;have sn:=hi.sn;cases h64:SM.has fl 64 with
  |false=>
   refine zaa (λt w'=>t=[.bool false,.pointer none,x]/\w'=w2) ?_ ?_
   ·rintro t e w3 ⟨rfl,rfl⟩;unfold za8;refine zaa (λ_ _=>False) (λ_ _ _ h=>h.elim) ?_;have hk:=h1 hf h64 w3 x hi hx;obtain⟨pb,nm,rfl,_⟩:=hx;rw[show gs [Value.bool false,.pointer none,Value.iface T.aD (pt pb 0)] 2=Value.iface T.aD (pt pb 0)from rfl,zje Tryz.underlying116,cd_t];exact hk
   ·rw[C.aG];refine ziJ sn hx ?_;simp(disch:=first|omega|(simp(disch:=first|omega|fail)only[go_sem]<;>omega)|fail)only[go_sem];rw[a64,h64];simp(disch:=first|omega|(simp(disch:=first|omega|fail)only[go_sem]<;>omega)|fail)only[go_sem];exact⟨trivial,trivial⟩
  |true=>
   have hcl:=hc hf h64;have nd:m.isDir (norm l)=false:=by unfold SM.Mem.isDir;rw[hf]
   refine zaa (λt w'=>∃f,t=[.bool true,pt f 0,.nilIface]/\FileR w0 F0 w' B p ((m.parents (norm l) 0).add (norm l) ⟨false,268435456,[],0,[]⟩) hp se f ⟨(m.parents (norm l) 0).nodes.length,0,0,false,false⟩) ?_ ?_
   ·rintro t e w3 ⟨f,rfl,r3⟩;obtain⟨s,mb,rep,ps,q1,q2⟩:=hi;have h47:norm l≠[47]:=λe=>by rw[e,hr]at nd;cases nd
    have wf:=(q2.mi.parents 0 (norm l).length (norm l) (Nat.le_refl _) hkn h47 hcl).1.wf;obtain⟨a1,a2,a3,a4,a5,a6⟩:=SM.zeF wf (norm l) ⟨false,268435456,[],0,[]⟩;obtain⟨n1,n2⟩:=SM.zfw wf (norm l) ⟨false,268435456,[],0,[]⟩;generalize hMM:(m.parents (norm l) 0)=MM at*;have hd0:((MM.add (norm l) ⟨false,268435456,[],0,[]⟩).node MM.nodes.length).data=[]:=by rw[n2]
    refine zrz (fl:=fl) (pv:=pv) r3 (by rw[a2,if_pos rfl]) (by omega) (by rw[hd0];simp) λw4 f4 r4=>?_;rw[hd0]at r4;have ep:(if SM.has fl 1024=true then((([]:Str).length:Nat):Int)else 0)=0:=by split<;>rfl
    rw[ep]at r4;have em:chm true pv MM.nodes.length (trn fl MM.nodes.length (MM.add (norm l) ⟨false,268435456,[],0,[]⟩))=trn fl MM.nodes.length (MM.add (norm l) ⟨false,pv,[],0,[]⟩):=by
     have e1:∀a b:SM.Node,(MM.add (norm l) a).setNode MM.nodes.length {b with name:=norm l}=MM.add (norm l) b:=λa b=>zpp MM (norm l) a b;have n2':=(SM.zfw wf (norm l) ⟨false,pv,[],0,[]⟩).2;unfold chm trn;rw[if_pos rfl];split
     ·rw[n2,n2'];have e2:=e1 ⟨false,268435456,[],0,[]⟩ ⟨false,268435456,[],0,[]⟩;have e3:=e1 ⟨false,pv,[],0,[]⟩ ⟨false,pv,[],0,[]⟩;simp only at e2 e3⊢;rw[e2,e3,n2];exact e1 ⟨false,268435456,[],0,[]⟩ ⟨false,pv,[],0,[]⟩
     ·rw[n2];exact e1 ⟨false,268435456,[],0,[]⟩ ⟨false,pv,[],0,[]⟩
    rw[em]at r4;exact h3 hf h64 w4 f4 r4
   ·rw[C.aG];refine ziJ sn hx ?_;simp(disch:=first|omega|(simp(disch:=first|omega|fail)only[go_sem]<;>omega)|fail)only[go_sem];rw[a64,h64];simp(disch:=first|omega|(simp(disch:=first|omega|fail)only[go_sem]<;>omega)|fail)only[go_sem];refine zml (.inl hi) hn hr nd hcl λw3 f3 r3=>?_;simp(disch:=first|omega|(simp(disch:=first|omega|fail)only[go_sem]<;>omega)|fail)only[go_sem];exact⟨f3,rfl,r3⟩
 ·rw[zar,zaq];cases h128:SM.has fl 128 with
  |true=>
   refine zaa (λ_ _=>False) (λ_ _ _ h=>h.elim) ?_;rw[zjG Tryz.underlying116];simp(disch:=first|omega|(simp(disch:=first|omega|fail)only[go_sem]<;>omega)|fail)only[go_sem];rw[a128,h128];simp(disch:=first|omega|(simp(disch:=first|omega|fail)only[go_sem]<;>omega)|fail)only[go_sem];unfold zcw;have rd:=hr1.old (Below.refl _ w1).drew;have hs:(m.find (norm l)).isSome=true:=by rw[hf];rfl
   refine zm2 (by simp[sents]) rd.I.sn [111,112,101,110] l λw3 x B3 hx=>?_;have z0:w0.heap.size<=w1.heap.size:=by obtain⟨s,mb,rep,ps,q1,_⟩:=hr1;exact q1.tr.kp.size
   exact h0 hs h128 w3 x (rd.I.old B3) (hx.lo z0)
  |false=>
   refine zaa (λt w'=>w'=w1) ?_ ?_;rotate_left
   ·rw[zjG Tryz.underlying116];simp(disch:=first|omega|(simp(disch:=first|omega|fail)only[go_sem]<;>omega)|fail)only[go_sem];rw[a128,h128];simp(disch:=first|omega|(simp(disch:=first|omega|fail)only[go_sem]<;>omega)|fail)only[go_sem]
   rintro t e w2 rfl;unfold zby;refine zaa (λt w'=>t=[.bool false,pt f 0,.nilIface]/\w'=w2) ?_ ?_;rotate_left
   ·rw[C.aG];refine zmI hr1.I.sn ?_;simp(disch:=first|omega|(simp(disch:=first|omega|fail)only[go_sem]<;>omega)|fail)only[go_sem];exact⟨trivial,trivial⟩
   rintro t e w3 ⟨rfl,rfl⟩;refine zrz (fl:=fl) (pv:=pv) hr1 hf (by omega) (hb x hr1.lt) λw4 f4 r4=>?_;exact h2 x hf h128 w4 f4 r4
end
end Go.Proofs.YtdljebgllipdjaaGreatDoor.X
end
section
namespace Go.X
open Go Go.RowKit Go.Lib
namespace SM
theorem ztN{α:Type}{motive:List α->Prop}(h0:motive [])(h1:∀l x,motive l->motive (l++[x]))(l:List α):motive l:=by
 have:∀l:List α,motive l.reverse:=by
  intro l
  induction l with
  |nil=>exact h0
  |cons a r ih=>rw[List.reverse_cons];exact h1 _ _ ih
 have:=this l.reverse;rwa[List.reverse_reverse]at this
def At(d q:Str):Prop:=q=d\/below q d=true
instance(d q:Str):Decidable (At d q):=by unfold At;infer_instance
theorem zhr{d q:Str}(hd:d≠[47]):At d q↔∃r,(r=[]\/∃t,r=47::t)/\q=d++r:=by
 unfold At;rw[zaz hd];constructor
 ·rintro(rfl|⟨r,rfl⟩)
  ·exact⟨[],.inl rfl,by simp⟩
  ·exact⟨47::r,.inr ⟨r,rfl⟩,rfl⟩
 ·rintro⟨r,rfl|⟨t,rfl⟩,rfl⟩
  ·left;simp
  ·right;exact⟨t,rfl⟩
def mvN(src dst q:Str):Str:=dst++q.drop src.length
theorem zhq{src dst q:Str}(hs:src≠[47])(hd:dst≠[47])(h:At src q):At dst (mvN src dst q)/\mvN dst src (mvN src dst q)=q:=by obtain⟨r,hr,rfl⟩:=(zhr hs).1 h;unfold mvN;rw[List.drop_left];refine⟨(zhr hd).2 ⟨r,hr,rfl⟩,?_⟩;rw[List.drop_left]
theorem zbT(src dst:Str):mvN src dst src=dst:=by unfold mvN;rw[List.drop_length,List.append_nil]
theorem zsy{A x:Str}(hA:Kept A)(hr:A≠[47])(hx:El x):Kept (A++47::x):=by
 rcases hA with rfl|⟨ro,xs,h0,h,rfl⟩
 ·exact absurd rfl hr
 ·refine .inr ⟨ro,xs++[x],by simp,λy hy=>?_,?_⟩
  ·rcases List.mem_append.1 hy with q|q
   ·exact h y q
   ·simp at q;rw[q];exact hx
  ·rw[zlK,if_pos (.inl h0)];simp
theorem zpv{A x:Str}(h0:A≠[])(hx:47∉x):parent (A++47::x)=A:=by
 unfold parent;rw[zcM _ _ hx];have:0<A.length:=List.length_pos_iff.2 h0;obtain⟨n,hn⟩:∃n,A.length=n+1:=⟨A.length - 1,by omega⟩;rw[hn];simp only
 rw[<-hn,List.take_left'];rfl
theorem zhM{src dst q:Str}(hs:Kept src)(hs47:src≠[47])(hd:Kept dst)(hd47:dst≠[47])(hq:Kept q)(hb:below q src=true):At src (parent q)/\parent (mvN src dst q)=mvN src dst (parent q)/\q≠[47]/\∃x,El x/\mvN src dst q=mvN src dst (parent q)++47::x/\q=parent q++47::x:=by
 have hq47:q≠[47]:=λe=>by rw[e]at hb;obtain⟨r,e⟩:=(zaz hs47).1 hb;have:=congrArg List.length e;have:0<src.length:=List.length_pos_iff.2 (zb5 hs);simp at*;omega
 have hp:At src (parent q):=(zcO hq hq47 hs hs47).1 hb;obtain⟨x,hx,c⟩:=zkR hq hq47;have key:q=parent q++47::x:=by
  rcases c with⟨e,p⟩|⟨e,p⟩|⟨_,_,_,e⟩
  ·rw[p]at hp;rcases hp with h|h
   ·exact absurd h.symm hs47
   ·obtain⟨r,e⟩:=(zaz hs47).1 h;have:=congrArg List.length e;have:0<src.length:=List.length_pos_iff.2 (zb5 hs);simp at*;omega
  ·rw[p]at hp;rcases hp with h|h
   ·exact absurd h.symm hs47
   ·obtain⟨r,e⟩:=(zaz hs47).1 h;have:=congrArg List.length e;have:0<src.length:=List.length_pos_iff.2 (zb5 hs);simp at*;omega
  ·exact e
 obtain⟨r,hr,er⟩:=(zhr hs47).1 hp;have e2:mvN src dst q=mvN src dst (parent q)++47::x:=by
  have e3:mvN src dst (parent q)=dst++r:=by rw[er];unfold mvN;rw[List.drop_left]
  rw[e3];unfold mvN;rw[key,er,List.append_assoc,List.drop_left,List.append_assoc]
 refine⟨hp,?_,hq47,x,hx,e2,key⟩;rw[e2];refine zpv ?_ hx.2.1;unfold mvN;simp[zb5 hd]
theorem znV{src dst:Str}(hs:Kept src)(hs47:src≠[47])(hd:Kept dst)(hd47:dst≠[47]):∀(k:Nat)(q:Str),q.length<=k->Kept q->At src q->Kept (mvN src dst q)
 |0,q,hl,hq,_=>absurd (List.length_eq_zero_iff.1 (by omega)) (zb5 hq)
 |k+1,q,hl,hq,h=>by
  rcases h with rfl|hb
  ·rw[zbT];exact hd
  ·obtain⟨h1,h2,h3,x,hx,h4,h5⟩:=zhM hs hs47 hd hd47 hq hb;rw[h4];have hl2:(parent q).length<q.length:=by have:=congrArg List.length h5;simp at this;omega
   have ih:=znV hs hs47 hd hd47 k (parent q) (by omega) (zdj hq) h1;refine zsy ih (λe=>?_) hx;have e1:=congrArg List.length e;unfold mvN at e1;have:0<dst.length:=List.length_pos_iff.2 (zb5 hd);have hdl:dst.length=1:=by simp at e1;omega
   have e2:mvN src dst (parent q)=dst:=by unfold mvN;have:((parent q).drop src.length)=[]:=List.length_eq_zero_iff.1 (by simp at e1⊢;omega);rw[this,List.append_nil]
   rw[e2]at e;exact hd47 e
theorem zcn{m:Mem}(h:Wf m)(q:Str):q∈m.names↔(m.find q).isSome=true:=by
 have:=zco h q;cases e:m.find q with
 |none=>rw[e]at this;simpa using this.1 rfl
 |some x=>exact⟨λ_=>rfl,λ_=>(zbO h e).1⟩
theorem mem_ext{m m':Mem}(h:Wf m)(h':Wf m')(hf:∀q,m.find q=m'.find q)(hn:m.nodes=m'.nodes)(hh:m.hs=m'.hs):m=m':=by
 have hnames:m.names=m'.names:=zfs (lt:=λa b:Str=>a<b) (λa=>List.lt_irrefl a) (λa b c=>List.lt_trans) _ _ h.srt h'.srt λq=>by rw[zcn h,zcn h',hf]
 have hats:m.ats=m'.ats:=by
  refine List.ext_getElem (by rw[h.la,h'.la,hnames]) λi h1 h2=>?_;have l1:i<m.names.length:=by rw[<-h.la];exact h1
  have l2:i<m'.names.length:=by rw[<-h'.la];exact h2
  have e1:(m.names[i],m.ats[i])∈m.al:=by
   unfold Mem.al;have:(m.names.zip m.ats)[i]'(by simp;omega)=(m.names[i],m.ats[i]):=by simp
   rw[<-this];exact List.getElem_mem _
  have e2:(m'.names[i],m'.ats[i])∈m'.al:=by
   unfold Mem.al;have:(m'.names.zip m'.ats)[i]'(by simp;omega)=(m'.names[i],m'.ats[i]):=by simp
   rw[<-this];exact List.getElem_mem _
  have f1:=(zcL h _ _).2 e1;have f2:=(zcL h' _ _).2 e2;have en:m.names[i]=m'.names[i]:=by simp only[hnames]
  rw[en,hf,f2]at f1;injection f1 with f1;exact f1.symm
 cases m;cases m';simp only at hnames hats hn hh;subst hnames hats hn hh;rfl
structure Mvd(src dst:Str)(L:List Str)(m M:Mem):Prop where
 wf:Wf M
 find:∀q,M.find q=if At dst q/\mvN dst src q∈L then m.find (mvN dst src q)else if q∈L then none else m.find q
 len:M.nodes.length=m.nodes.length
 node:∀x,M.node x={m.node x with name:=if(m.node x).name∈L/\m.find (m.node x).name=some x then mvN src dst (m.node x).name else(m.node x).name}
 hs:M.hs=m.hs
theorem znd{m:Mem}{X:Option Str}{src dst:Str}(h:MI m X)(hs:src≠[47])(hd:dst≠[47])(dj:∀q,At dst q->¬At src q)(L:List Str):L.Nodup->(∀c∈L,At src c/\c∈m.names)->Mvd src dst L m (L.foldl (λm n=>m.moved src dst n) m):=by
 induction L using ztN with
 |h0=>intro _ _;exact⟨h.wf,λq=>by simp,rfl,λx=>by simp,rfl⟩
 |h1 L c ih=>
  intro hn hc;rw[List.nodup_append]at hn;obtain⟨hn1,_,hn2⟩:=hn;have hcL:c∉L:=λhm=>hn2 c hm c (by simp) rfl;have M:=ih hn1 λd hd=>hc d (by simp[hd]);obtain⟨hat,hcn⟩:=hc c (by simp);rw[List.foldl_append];simp only[List.foldl_cons,List.foldl_nil];obtain⟨mm,hmm⟩:∃mm,mm=L.foldl (λm n=>m.moved src dst n) m:=⟨_,rfl⟩;rw[<-hmm]at M⊢;obtain⟨y,hy⟩:∃y,m.find c=some y:=by
   have:=(zcn h.wf c).1 hcn;cases e:m.find c with
   |none=>rw[e]at this;cases this
   |some y=>exact⟨y,rfl⟩
  have nd:¬At dst c:=λe=>dj c e hat;have fc:mm.find c=some y:=by rw[M.find,if_neg (λe=>nd e.1),if_neg hcL];exact hy
  have hym:=h.nm c y hy;obtain⟨a1,a2,a3,a4,a5⟩:=zi7 M.wf src dst (n:=c) ((zbO M.wf fc).1);have yl:y<mm.nodes.length:=M.wf.find_lt fc;obtain⟨v1,v2⟩:=zhq hs hd hat;have inv:∀k,At dst k->mvN dst src k=c->k=mvN src dst c:=λk hk e=>by rw[<-e];exact(zhq hd hs hk).2.symm
  refine⟨a1,λk=>?_,a5.trans M.len,λz=>?_,?_⟩
  ·rw[a2];have hmv:dst++c.drop src.length=mvN src dst c:=rfl;rw[hmv];by_cases k1:k=mvN src dst c
   ·rw[if_pos k1,fc,if_pos ⟨by rw[k1];exact v1,by rw[k1,v2];simp⟩,k1,v2,hy]
   ·rw[if_neg k1];by_cases k2:k=c
    ·rw[if_pos k2,if_neg (λe=>nd (by rw[<-k2];exact e.1)),if_pos (by rw[k2];simp)]
    ·rw[if_neg k2,M.find];by_cases k3:At dst k/\mvN dst src k∈L
     ·rw[if_pos k3,if_pos ⟨k3.1,by simp[k3.2]⟩]
     ·have k3':¬(At dst k/\mvN dst src k∈L++[c]):=λe=>by
       rcases List.mem_append.1 e.2 with q|q
       ·exact k3 ⟨e.1,q⟩
       ·simp at q;exact k1 (inv k e.1 q)
      rw[if_neg k3,if_neg k3'];by_cases k4:k∈L
      ·rw[if_pos k4,if_pos (by simp[k4])]
      ·rw[if_neg k4,if_neg (by simp[k4,k2])]
  ·have ex:mm.moved src dst c=((mm.drop c).put (mvN src dst c) y).setNode y {((mm.drop c).put (mvN src dst c) y).node y with name:=mvN src dst c}:=by unfold Mem.moved;rw[fc];rfl
   have pn:∀z,((mm.drop c).put (mvN src dst c) y).node z=mm.node z:=λz=>by unfold Mem.node;rw[(zeV _ _ _).1,(zcp _ _).1]
   rw[ex,zgQ _ _ _ (by rw[(zeV _ _ _).1,(zcp _ _).1];exact yl),pn,pn];by_cases z1:z=y
   ·rw[if_pos z1,z1,M.node y,hym];rw[if_neg (λe=>hcL e.1),if_pos ⟨by simp,hy⟩]
   ·rw[if_neg z1,M.node z];have:((m.node z).name∈L/\m.find (m.node z).name=some z)↔((m.node z).name∈L++[c]/\m.find (m.node z).name=some z):=by
     constructor
     ·exactλe=>⟨by simp[e.1],e.2⟩
     ·rintro⟨e1,e2⟩;refine⟨?_,e2⟩;rcases List.mem_append.1 e1 with q|q
      ·exact q
      ·simp at q;rw[q,hy]at e2;injection e2 with e2;exact absurd e2.symm z1
    simp only[this]
  ·unfold Mem.moved;simp only
   show(SM.Mem.setNode _ _ _).hs=m.hs;rw[(za5 _ _ _).2.2.2,(zeV _ _ _).2,(zcp _ _).2,M.hs]
end SM
namespace PM
open SM (At mvN)
structure MvC(m:SM.Mem)(src dst:Str):Prop where
 ks:SM.Kept src
 kd:SM.Kept dst
 s47:src≠[47]
 d47:dst≠[47]
 dj:∀q,At dst q->¬At src q
 nb:∀q,SM.below q dst=true->m.find q=none
 nd:m.isDir dst=false
def nodeM(m:SM.Mem)(src dst:Str)(L:List Str)(x:Nat):SM.Node:={m.node x with name:=if(m.node x).name∈L/\m.find (m.node x).name=some x then mvN src dst (m.node x).name else(m.node x).name}
def KS(m:SM.Mem)(src dst:Str)(L:List Str)(ps:List Nat)(x:Nat)(k:Option (Str->Option Nat)):Prop:=((m.node x).dir=false/\k=none)\/((m.node x).dir=true/\∃kk,k=some kk/\(m.find (m.node x).name=some x->∀q,kk q=if At dst q/\q≠dst/\mvN dst src q∈L/\SM.parent (mvN dst src q)=(m.node x).name then(m.find (mvN dst src q)).map (pt' ps)else if q∈L then none else if q≠[47]/\SM.parent q=(m.node x).name then(m.find q).map (pt' ps)else none))
structure RS(s:St)(m:SM.Mem)(ps:List Nat)(hp:Int->Nat)(src dst:Str)(L:List Str):Prop where
 g:∀q,s.g q=if At dst q/\mvN dst src q∈L then(m.find (mvN dst src q)).map (pt' ps)else(m.find q).map (pt' ps)
 nd:∀x,x<m.nodes.length->∃k,s.nd (pt' ps x)=some ⟨nodeM m src dst L x,k⟩/\KS m src dst L ps x k
 hs:Hs s m ps hp
variable{s:St}{m:SM.Mem}{ps:List Nat}{hp:Int->Nat}{E:Ex}{X:Option Str}{src dst:Str}
theorem RS.start(r:Rel s m ps hp [] (some src))(nk:zqZ s m ps src)(C:MvC m src dst){y:Nat}(hy:m.find src=some y):
  ∃k,s.nd (pt' ps y)=some ⟨m.node y,k⟩/\RS ((s.setNd (pt' ps y) ⟨{m.node y with name:=dst},k⟩).putG dst (some (pt' ps y))) m ps hp src dst [src]:=by
 have ly:=r.lt hy;have len:=r.len;have hym:=r.mi.nm _ _ hy;obtain⟨k,k1,k2⟩:=r.nd y ly;have only:∀q,(At dst q/\mvN dst src q∈[src])↔q=dst:=λq=>by
  constructor
  ·rintro⟨h1,h2⟩;simp only[List.mem_singleton]at h2;have:=(SM.zhq C.d47 C.s47 h1).2;rw[h2,SM.zbT]at this;exact this.symm
  ·rintro rfl;exact⟨.inl rfl,by rw[SM.zbT];simp⟩
 have kidsOk:∀x k,x<m.nodes.length->s.nd (pt' ps x)=some ⟨m.node x,k⟩->zla m (some src) ps x k->KS m src dst [src] ps x k:=λx k hx hnd q=>by
  rcases q with q|⟨d1,kk,e1,q3⟩
  ·exact .inl q
  ·refine .inr ⟨d1,kk,e1,λhf q=>?_⟩;rw[if_neg (λh=>h.2.1 ((only q).1 ⟨h.1,h.2.2.1⟩))];by_cases c:q=src
   ·rw[if_pos (by simp[c]),c];exact nk x kk hx (by rw[hnd,e1]) hf
   ·rw[if_neg (by simp[c]),q3 hf q (λh=>absurd (by injection h with h;exact h.symm) c)]
 refine⟨k,k1,λq=>?_,λx hx=>?_,⟨r.hs.at_,r.hs.inj⟩⟩
 ·simp only[St.putG,St.setNd];by_cases c:q=dst
  ·rw[if_pos c,if_pos ((only q).2 c),c,SM.zbT,hy];rfl
  ·rw[if_neg c,if_neg (λh=>c ((only q).1 h))];have:=r.g q;rw[show eg ([]:Ex) q=none from rfl,Option.none_or]at this;exact this
 ·obtain⟨k',q1,q2⟩:=r.nd x hx;simp only[St.putG,St.setNd];by_cases c:x=y
  ·subst c;refine⟨k,?_,kidsOk x k hx k1 k2⟩;rw[if_pos rfl];unfold nodeM;rw[hym,if_pos ⟨by simp,hy⟩,SM.zbT]
  ·refine⟨k',?_,kidsOk x k' hx q1 q2⟩;rw[if_neg (λe=>c (zkz r.inj (by rw[len];exact hx) (by rw[len];exact ly) e)),q1];unfold nodeM;rw[if_neg];rintro⟨e1,e2⟩;simp only[List.mem_singleton]at e1;rw[e1,hy]at e2;injection e2 with e2;exact c e2.symm
theorem RS.next{L:List Str}(mi:SM.MI m X)(len:ps.length=m.nodes.length)(inj:ps.Nodup)(C:MvC m src dst)(r:RS s m ps hp src dst L)(hL:∀c∈L,At src c){c:Str}{x y:Nat}(hc:SM.below c src=true)(hcL:c∉L)(hpL:SM.parent c∈L)(hx:m.find (SM.parent c)=some x)(hdx:(m.node x).dir=true)(hy:m.find c=some y):
  s.g c=some (pt' ps y)/\s.g (SM.parent c)=some (pt' ps x)/\(nodeM m src dst L y).name=c/\
  ∃ky kk,s.nd (pt' ps y)=some ⟨nodeM m src dst L y,ky⟩/\s.nd (pt' ps x)=some ⟨nodeM m src dst L x,some kk⟩/\pt' ps x≠pt' ps y/\mvN src dst (SM.parent c)≠mvN src dst c/\
   (At dst (mvN src dst (SM.parent c))/\mvN dst src (mvN src dst (SM.parent c))=SM.parent c)/\
   RS ((((s.setNd (pt' ps x) ⟨nodeM m src dst L x,some (zb9 kk c none)⟩).setNd (pt' ps y) ⟨{nodeM m src dst L y with name:=mvN src dst c},ky⟩).putG (mvN src dst c) (some (pt' ps y))).setNd (pt' ps x) ⟨nodeM m src dst L x,some (zb9 (zb9 kk c none) (mvN src dst c) (some (pt' ps y)))⟩) m ps hp src dst (L++[c]):=by
 have hcat:At src c:=.inr hc;have hpat:=hL _ hpL;have lx:=mi.wf.find_lt hx;have ly:=mi.wf.find_lt hy;have hym:=mi.nm _ _ hy;have hxm:=mi.nm _ _ hx;have hck:=mi.kp _ _ hy;obtain⟨_,ep,c47,_⟩:=SM.zhM C.ks C.s47 C.kd C.d47 hck hc;have hpc:SM.parent c≠c:=λe=>by
  rcases SM.zaZ c with q|q
  ·rw[e]at q;omega
  ·exact c47 (by rw[<-e];exact q)
 have hxy:x≠y:=λe=>by rw[e,hym]at hxm;exact hpc hxm.symm
 have npt:pt' ps x≠pt' ps y:=λe=>hxy (zkz inj (by rw[len];exact lx) (by rw[len];exact ly) e);have ndst:¬At dst c:=λe=>C.dj c e hcat;have ndstp:¬At dst (SM.parent c):=λe=>C.dj _ e hpat;obtain⟨v1,v2⟩:=SM.zhq C.s47 C.d47 hcat;obtain⟨vp1,vp2⟩:=SM.zhq C.s47 C.d47 hpat;have inv:∀k,At dst k->mvN dst src k=c->k=mvN src dst c:=λk hk e=>by rw[<-e];exact(SM.zhq C.d47 C.s47 hk).2.symm
 have mLc:∀k,At dst k->k≠mvN src dst c->(mvN dst src k∈L++[c]↔mvN dst src k∈L):=λk hk hn=>by rw[List.mem_append,List.mem_singleton];exact⟨λh=>h.resolve_right λe=>hn (inv k hk e),.inl⟩
 have nmL:mvN src dst c∉L++[c]:=λh=>by
  rcases List.mem_append.1 h with q|q
  ·exact C.dj _ v1 (hL _ q)
  ·simp only[List.mem_singleton]at q;exact ndst (by rw[<-q];exact v1)
 have hne:mvN src dst c≠dst:=λe=>by
  rw[e,SM.zbT]at v2;rcases hcat with h|h
  ·rw[h]at hc;obtain⟨t,e⟩:=(SM.zaz C.s47).1 hc;have:=congrArg List.length e;simp at this
  ·rw[<-v2]at hc;obtain⟨t,e⟩:=(SM.zaz C.s47).1 hc;have:=congrArg List.length e;simp at this
 obtain⟨ky,ky1,ky2⟩:=r.nd y ly;obtain⟨kx,kx1,kx2⟩:=r.nd x lx;rcases kx2 with⟨q,_⟩|⟨_,kk,rfl,kk3⟩
 ·rw[hdx]at q;cases q
 have kk3:=kk3 (by rw[hxm];exact hx);have nmx:nodeM m src dst (L++[c]) x=nodeM m src dst L x:=by
  unfold nodeM;rw[hxm];have:(SM.parent c∈L++[c]/\m.find (SM.parent c)=some x)↔(SM.parent c∈L/\m.find (SM.parent c)=some x):=by rw[List.mem_append,List.mem_singleton];exact⟨λh=>⟨h.1.resolve_right hpc,h.2⟩,λh=>⟨.inl h.1,h.2⟩⟩
  simp only[this]
 have nmz:∀z,z≠y->nodeM m src dst (L++[c]) z=nodeM m src dst L z:=λz hz=>by
  unfold nodeM;have:((m.node z).name∈L++[c]/\m.find (m.node z).name=some z)↔((m.node z).name∈L/\m.find (m.node z).name=some z):=by rw[List.mem_append,List.mem_singleton];refine⟨λh=>⟨h.1.resolve_right λe=>?_,h.2⟩,λh=>⟨.inl h.1,h.2⟩⟩;have:=h.2;rw[e,hy]at this;injection this with this;exact hz this.symm
  simp only[this]
 have nmy:nodeM m src dst (L++[c]) y={nodeM m src dst L y with name:=mvN src dst c}:=by unfold nodeM;rw[hym,if_pos ⟨by simp,hy⟩]
 have nyc:(nodeM m src dst L y).name=c:=by
  unfold nodeM;rw[hym];simp only
  rw[if_neg (λh=>hcL h.1)]
 have ksz:∀z k,z≠x->z<m.nodes.length->KS m src dst L ps z k->KS m src dst (L++[c]) ps z k:=λz k hz lz q=>by
  rcases q with q|⟨d1,kz,e1,q3⟩
  ·exact .inl q
  ·refine .inr ⟨d1,kz,e1,λhf q=>?_⟩;have npz:SM.parent c≠(m.node z).name:=λe=>by rw[<-e,hx]at hf;injection hf with hf;exact hz hf.symm
   rw[q3 hf q];by_cases q1:q=mvN src dst c
   ·have a1:¬(At dst q/\q≠dst/\mvN dst src q∈L/\SM.parent (mvN dst src q)=(m.node z).name):=λh=>by rw[q1,v2]at h;exact hcL h.2.2.1
    have a2:¬(At dst q/\q≠dst/\mvN dst src q∈L++[c]/\SM.parent (mvN dst src q)=(m.node z).name):=λh=>by rw[q1,v2]at h;exact npz h.2.2.2
    have b1:q∉L++[c]:=by rw[q1];exact nmL
    have b2:q∉L:=λh=>b1 (by simp[h]);rw[if_neg a1,if_neg a2,if_neg b1,if_neg b2]
   ·have a:(At dst q/\q≠dst/\mvN dst src q∈L++[c]/\SM.parent (mvN dst src q)=(m.node z).name)↔(At dst q/\q≠dst/\mvN dst src q∈L/\SM.parent (mvN dst src q)=(m.node z).name):=⟨λh=>⟨h.1,h.2.1,(mLc q h.1 q1).1 h.2.2.1,h.2.2.2⟩,λh=>⟨h.1,h.2.1,(mLc q h.1 q1).2 h.2.2.1,h.2.2.2⟩⟩
    by_cases A:At dst q/\q≠dst/\mvN dst src q∈L/\SM.parent (mvN dst src q)=(m.node z).name
    ·rw[if_pos A,if_pos (a.2 A)]
    ·rw[if_neg A,if_neg (λh=>A (a.1 h))];by_cases b:q∈L
     ·rw[if_pos b,if_pos (by simp[b])]
     ·rw[if_neg b];by_cases q2:q=c
      ·rw[if_pos (c:=q∈L++[c]) (by simp[q2]),if_neg (λh=>npz (by rw[<-q2];exact h.2))]
      ·rw[if_neg (c:=q∈L++[c]) (by simp[b,q2])]
 refine⟨?_,?_,nyc,ky,kk,ky1,kx1,npt,λe=>?_,⟨vp1,vp2⟩,λq=>?_,λz lz=>?_,⟨r.hs.at_,r.hs.inj⟩⟩
 ·rw[r.g,if_neg (λh=>ndst h.1),hy];rfl
 ·rw[r.g,if_neg (λh=>ndstp h.1),hx];rfl
 ·rw[e,v2]at vp2;exact hpc vp2.symm
 ·simp only[St.putG,St.setNd];by_cases q1:q=mvN src dst c
  ·rw[if_pos q1,if_pos ⟨by rw[q1];exact v1,by rw[q1,v2];simp⟩,q1,v2,hy];rfl
  ·rw[if_neg q1,r.g];by_cases A:At dst q/\mvN dst src q∈L
   ·rw[if_pos A,if_pos ⟨A.1,by simp[A.2]⟩]
   ·rw[if_neg A,if_neg (λh=>A ⟨h.1,(mLc q h.1 q1).1 h.2⟩)]
 ·simp only[St.putG,St.setNd];by_cases zx:z=x
  ·subst zx;refine⟨some (zb9 (zb9 kk c none) (mvN src dst c) (some (pt' ps y))),by rw[if_pos rfl,nmx],.inr ⟨hdx,_,rfl,λ_ q=>?_⟩⟩;simp only[zb9];by_cases q1:q=mvN src dst c
   ·rw[if_pos q1,if_pos ⟨by rw[q1];exact v1,by rw[q1];exact hne,by rw[q1,v2];simp,by rw[q1,v2,hxm]⟩,q1,v2,hy];rfl
   ·rw[if_neg q1];have a:(At dst q/\q≠dst/\mvN dst src q∈L++[c]/\SM.parent (mvN dst src q)=(m.node z).name)↔(At dst q/\q≠dst/\mvN dst src q∈L/\SM.parent (mvN dst src q)=(m.node z).name):=⟨λh=>⟨h.1,h.2.1,(mLc q h.1 q1).1 h.2.2.1,h.2.2.2⟩,λh=>⟨h.1,h.2.1,(mLc q h.1 q1).2 h.2.2.1,h.2.2.2⟩⟩
    by_cases q2:q=c
    ·have A:¬(At dst q/\q≠dst/\mvN dst src q∈L++[c]/\SM.parent (mvN dst src q)=(m.node z).name):=λh=>ndst (by rw[<-q2];exact h.1);rw[if_pos q2,if_neg A,if_pos (by simp[q2])]
    ·rw[if_neg q2,kk3 q];by_cases A:At dst q/\q≠dst/\mvN dst src q∈L/\SM.parent (mvN dst src q)=(m.node z).name
     ·rw[if_pos A,if_pos (a.2 A)]
     ·rw[if_neg A,if_neg (λh=>A (a.1 h))];by_cases b:q∈L
      ·rw[if_pos b,if_pos (by simp[b])]
      ·rw[if_neg b,if_neg (c:=q∈L++[c]) (by simp[b,q2])]
  ·rw[if_neg (λe=>zx (zkz inj (by rw[len];exact lz) (by rw[len];exact lx) e))];by_cases zy:z=y
   ·subst zy;rw[if_pos rfl];exact⟨ky,by rw[nmy],ksz z ky zx lz ky2⟩
   ·rw[if_neg (λe=>zy (zkz inj (by rw[len];exact lz) (by rw[len];exact ly) e)),if_neg (λe=>zx (zkz inj (by rw[len];exact lz) (by rw[len];exact lx) e))];obtain⟨kz,z1,z2⟩:=r.nd z lz;exact⟨kz,by rw[z1,nmz z zy],ksz z kz zx lz z2⟩
end PM
end Go.X
end
section
namespace Go.X
open Go Go.RowKit Go.Lib
namespace PM
open SM (At mvN)
variable{s s':St}{m M:SM.Mem}{ps:List Nat}{hp:Int->Nat}{E:Ex}{X:Option Str}{src dst:Str}{L:List Str}
theorem MvC.par(C:MvC m src dst)(mi:SM.MI m X){q:Str}{x:Nat}(h:m.find q=some x)(hd:(m.node x).dir=true):¬At dst q:=by
 rintro(e|e)
 ·have:=C.nd;rw[<-e]at this;unfold SM.Mem.isDir at this;rw[h]at this;simp only[hd]at this;cases this
 ·rw[C.nb q e]at h;cases h
theorem RS.done(mi:SM.MI m (some src))(len:ps.length=m.nodes.length)(inj:ps.Nodup)(C:MvC m src dst)(r:RS s m ps hp src dst L)(hM:SM.Mvd src dst L m M)(hL:∀q,q∈L↔At src q/\q∈m.names)(hs0:(m.find src).isSome=true)
  (s1:∀q,s'.g q=if q∈L then none else s.g q) (s2:s'.hs=s.hs) (s3:s'.nd=s.nd):Rel s' M ps hp [] (some dst):=by
 have wf:=mi.wf;have node:∀x,M.node x=nodeM m src dst L x:=hM.node;have dirM:∀x,(M.node x).dir=(m.node x).dir:=λx=>by rw[node];rfl
 have inL:∀{q x},m.find q=some x->At src q->q∈L:=λ{q x} h ha=>(hL q).2 ⟨ha,(SM.zbO wf h).1⟩;have atL:∀{q},q∈L->At src q:=λ{q} h=>((hL q).1 h).1;have n47:([47]:Str)∉L/\¬At dst [47]:=by
  have key:∀d:Str,SM.Kept d->d≠[47]->¬At d [47]:=λd hk hd h=>by obtain⟨r,_,e⟩:=(SM.zhr hd).1 h;have e1:=congrArg List.length e;have:0<d.length:=List.length_pos_iff.2 (SM.zb5 hk);simp at e1;have hr:r=[]:=List.length_eq_zero_iff.1 (by omega);rw[hr,List.append_nil]at e;exact hd e.symm
  exact⟨λh=>key src C.ks C.s47 (atL h),key dst C.kd C.d47⟩
 have f47:M.find [47]=m.find [47]:=by rw[hM.find,if_neg (λh=>n47.2 h.1),if_neg n47.1]
 --a name of the new tree is a moved one,or an old one
 have two:∀q x,M.find q=some x->(At dst q/\mvN dst src q∈L/\m.find (mvN dst src q)=some x)\/(¬(At dst q/\mvN dst src q∈L)/\q∉L/\m.find q=some x):=λq x e=>by
  rw[hM.find]at e;by_cases A:At dst q/\mvN dst src q∈L
  ·rw[if_pos A]at e;exact .inl ⟨A.1,A.2,e⟩
  ·rw[if_neg A]at e;by_cases b:q∈L
   ·rw[if_pos b]at e;cases e
   ·rw[if_neg b]at e;exact .inr ⟨A,b,e⟩
 have back:∀q,At dst q->mvN src dst (mvN dst src q)=q/\At src (mvN dst src q):=λq h=>⟨(SM.zhq C.d47 C.s47 h).2,(SM.zhq C.d47 C.s47 h).1⟩;have nmM:∀x,(M.node x).name=if(m.node x).name∈L/\m.find (m.node x).name=some x then mvN src dst (m.node x).name else(m.node x).name:=λx=>by rw[node];rfl
 have keptM:∀q x,M.find q=some x->SM.Kept q:=λq x e=>by
  rcases two q x e with⟨h1,h2,h3⟩|⟨h1,h2,h3⟩
  ·have hk:=mi.kp _ _ h3;have:=SM.znV C.ks C.s47 C.kd C.d47 _ _ (Nat.le_refl _) hk (atL h2);rw[(back q h1).1]at this;exact this
  ·exact mi.kp _ _ h3
 have moved:∀{c x},m.find c=some x->At src c->M.find (mvN src dst c)=some x:=λ{c x} h ha=>by obtain⟨v1,v2⟩:=SM.zhq C.s47 C.d47 ha;rw[hM.find,v2,if_pos ⟨v1,inL h ha⟩,h]
 have stay:∀{q x},m.find q=some x->¬At src q->¬At dst q->M.find q=some x:=λ{q x} h h1 h2=>by rw[hM.find,if_neg (λe=>h2 e.1),if_neg (λe=>h1 (atL e)),h]
 have clM:∀q x,M.find q=some x->q≠[47]->q≠dst->M.isDir (SM.parent q)=true:=λq x e h47 hqd=>by
  rcases two q x e with⟨h1,h2,h3⟩|⟨h1,h2,h3⟩
  ·have hcs:mvN dst src q≠src:=λe=>by have:=(back q h1).1;rw[e,SM.zbT]at this;exact hqd this.symm
   have hcb:SM.below (mvN dst src q) src=true:=(atL h2).resolve_left hcs;obtain⟨z1,z2,z3,_⟩:=SM.zhM C.ks C.s47 C.kd C.d47 (mi.kp _ _ h3) hcb;rw[(back q h1).1]at z2;obtain⟨y,y1,y2⟩:=SM.zb6 (mi.cl _ _ h3 z3 (λe=>hcs (by injection e with e;exact e.symm)));rw[z2];exact SM.zgR (moved y1 z1) (by rw[dirM];exact y2)
  ·have hqs:q≠src:=λe=>h2 (by rw[e]at h3⊢;exact inL h3 (.inl rfl));obtain⟨y,y1,y2⟩:=SM.zb6 (mi.cl _ _ h3 h47 (λe=>hqs (by injection e with e;exact e.symm)));have np:¬At src (SM.parent q):=λh=>h2 (inL h3 (.inr ((SM.zcO (mi.kp _ _ h3) h47 C.ks C.s47).2 h)));exact SM.zgR (stay y1 np (C.par mi y1 y2)) (by rw[dirM];exact y2)
 refine⟨⟨hM.wf,?_,λq x e=>?_,λq x e h1 h2=>clM q x e h1 λe=>h2 (by rw[e]),keptM⟩,by rw[hM.len];exact len,inj,λq=>?_,λx hx=>?_,λe he=>(by cases he),List.nodup_nil,List.nodup_nil,⟨λj h e=>?_,λj j' h h' e e'=>r.hs.inj j j' h h' (by rw[<-hM.hs];exact e) (by rw[<-hM.hs];exact e')⟩⟩
 ·obtain⟨y,y1,y2⟩:=SM.zb6 mi.rt;exact SM.zgR (by rw[f47];exact y1) (by rw[dirM];exact y2)
 ·rcases two q x e with⟨h1,h2,h3⟩|⟨h1,h2,h3⟩
  ·rw[nmM,mi.nm _ _ h3,if_pos ⟨h2,h3⟩,(back q h1).1]
  ·rw[nmM,mi.nm _ _ h3,if_neg (λh=>h2 h.1)]
 ·rw[show eg ([]:Ex) q=none from rfl,Option.none_or,s1,hM.find,r.g];by_cases A:At dst q/\mvN dst src q∈L
  ·rw[if_pos A,if_pos A,if_neg (λh=>C.dj q A.1 (atL h))]
  ·rw[if_neg A,if_neg A];by_cases b:q∈L
   ·rw[if_pos b,if_pos b];rfl
   ·rw[if_neg b,if_neg b]
 ·rw[hM.len]at hx;obtain⟨k,q1,q2⟩:=r.nd x hx;refine⟨k,by rw[s3,node];exact q1,?_⟩;unfold zla;rw[dirM];rcases q2 with q2|⟨d1,kk,e1,q3⟩
  ·exact .inl q2
  ·refine .inr ⟨d1,kk,e1,λhf q hq=>?_⟩;rcases two _ x hf with⟨h1,h2,h3⟩|⟨h1,h2,h3⟩
   ·--a directory that was moved
    have hn:(m.node x).name=mvN dst src (M.node x).name:=mi.nm _ _ h3;have hfx:m.find (m.node x).name=some x:=by rw[hn];exact h3
    have hnL:(m.node x).name∈L:=by rw[hn];exact h2
    have hnM:(M.node x).name=mvN src dst (m.node x).name:=by rw[hn,(back _ h1).1]
    have hat:=atL hnL;obtain⟨v1,v2⟩:=SM.zhq C.s47 C.d47 hat;rw[q3 hfx q];have third:(if q∈L then none else if q≠[47]/\SM.parent q=(m.node x).name then(m.find q).map (pt' ps)else none)=none:=by
     by_cases b:q∈L
     ·rw[if_pos b]
     ·rw[if_neg b];by_cases c:q≠[47]/\SM.parent q=(m.node x).name
      ·rw[if_pos c];cases ef:m.find q with
       |none=>rfl
       |some z=>exact absurd (inL ef (.inr ((SM.zcO (mi.kp _ _ ef) c.1 C.ks C.s47).2 (by rw[c.2];exact hat)))) b
      ·rw[if_neg c]
    rw[third];cases eM:M.find q with
    |none=>
     have rhs:(if q≠[47]/\SM.parent q=(M.node x).name then Option.map (pt' ps) none else none)=none:=by split<;>rfl
     rw[rhs];by_cases A:At dst q/\q≠dst/\mvN dst src q∈L/\SM.parent (mvN dst src q)=(m.node x).name
     ·rw[if_pos A];have:=hM.find q;rw[eM,if_pos ⟨A.1,A.2.2.1⟩]at this;rw[<-this];rfl
     ·rw[if_neg A]
    |some z=>
     rcases two q z eM with⟨a1,a2,a3⟩|⟨a1,a2,a3⟩
     ·have hc:=atL a2;by_cases cs:mvN dst src q=src
      ·--q is dst
       have hqd:q=dst:=by have:=(back q a1).1;rw[cs,SM.zbT]at this;exact this.symm
       rw[if_neg (λh=>h.2.1 hqd)];rw[if_neg];rintro⟨b1,b2⟩;exact hq (by rw[hqd]) b2
      ·have hcb:SM.below (mvN dst src q) src=true:=hc.resolve_left cs;obtain⟨z1,z2,z3,_⟩:=SM.zhM C.ks C.s47 C.kd C.d47 (mi.kp _ _ a3) hcb;rw[(back q a1).1]at z2;have hqd:q≠dst:=λe=>cs (by rw[e];exact SM.zbT dst src);have hq47:q≠[47]:=λe=>n47.2 (by rw[<-e];exact a1);have iff1:SM.parent (mvN dst src q)=(m.node x).name↔SM.parent q=(M.node x).name:=by
        rw[z2,hnM];constructor
        ·intro e;rw[e]
        ·intro e;have e2:=congrArg (mvN dst src) e;rw[(SM.zhq C.s47 C.d47 z1).2,v2]at e2;exact e2
       by_cases A:SM.parent (mvN dst src q)=(m.node x).name
       ·rw[if_pos ⟨a1,hqd,a2,A⟩,if_pos ⟨hq47,iff1.1 A⟩,a3]
       ·rw[if_neg (λh=>A h.2.2.2),if_neg (λh=>A (iff1.2 h.2))]
     ·rw[if_neg (λh=>a1 ⟨h.1,h.2.2.1⟩),if_neg];rintro⟨b1,b2⟩;rw[hnM]at b2;have hb:SM.below q dst=true:=(SM.zcO (keptM q z eM) b1 C.kd C.d47).2 (by rw[b2];exact v1);rw[C.nb q hb]at a3;cases a3
   ·--a directory that stays
    have hn:(m.node x).name=(M.node x).name:=mi.nm _ _ h3;have hfx:m.find (m.node x).name=some x:=by rw[hn];exact h3
    have hnL:(m.node x).name∉L:=by rw[hn];exact h2
    have ndx:¬At dst (m.node x).name:=C.par mi hfx d1;have nsx:¬At src (m.node x).name:=λh=>hnL (inL hfx h);rw[<-hn]at hq⊢;rw[q3 hfx q];have nA:¬(At dst q/\q≠dst/\mvN dst src q∈L/\SM.parent (mvN dst src q)=(m.node x).name):=by
     rintro⟨a1,a2,a3,a4⟩;have hc:=atL a3;have hcs:mvN dst src q≠src:=λe=>by have:=(back q a1).1;rw[e,SM.zbT]at this;exact a2 this.symm
     have hck:SM.Kept (mvN dst src q):=by
      have:=((hL _).1 a3).2;rw[SM.zcn wf]at this;cases e:m.find (mvN dst src q)with
      |none=>rw[e]at this;cases this
      |some z=>exact mi.kp _ _ e
     obtain⟨z1,_⟩:=SM.zhM C.ks C.s47 C.kd C.d47 hck (hc.resolve_left hcs);rw[a4]at z1;exact nsx z1
    rw[if_neg nA];by_cases b:q∈L
    ·have hno:M.find q=none:=by rw[hM.find,if_neg (λh=>C.dj q h.1 (atL b)),if_pos b]
     rw[if_pos b,hno];split<;>rfl
    ·rw[if_neg b];by_cases c:q≠[47]/\SM.parent q=(m.node x).name
     ·rw[if_pos c,if_pos c,hM.find];have hqd:q≠dst:=λe=>hq (by rw[e]) c.2;have nq:¬(At dst q/\mvN dst src q∈L):=by
       rintro⟨a1,a2⟩;have hcs:mvN dst src q≠src:=λe=>by have:=(back q a1).1;rw[e,SM.zbT]at this;exact hqd this.symm
       have hck:SM.Kept (mvN dst src q):=by
        have:=((hL _).1 a2).2;rw[SM.zcn wf]at this;cases e:m.find (mvN dst src q)with
        |none=>rw[e]at this;cases this
        |some z=>exact mi.kp _ _ e
       obtain⟨z1,z2,_⟩:=SM.zhM C.ks C.s47 C.kd C.d47 hck ((atL a2).resolve_left hcs);rw[(back q a1).1,c.2]at z2;exact ndx (by rw[z2];exact(SM.zhq C.s47 C.d47 z1).1)
      rw[if_neg nq,if_neg b]
     ·rw[if_neg c,if_neg c]
 ·rw[hM.hs]at e;obtain⟨q1,q2⟩:=r.hs.at_ j h e;exact⟨by rw[hM.len];exact q1,by rw[s2];exact q2⟩
theorem zoT{m:SM.Mem}(mi:SM.MI m X)(C:MvC m src dst){q:Str}(hq:SM.Kept q)(h:SM.below dst q=true\/q=[47]):¬At src q/\¬At dst q:=by
 rcases h with h|h
 ·have hq47:q≠[47]\/q=[47]:=(Decidable.em (q=[47])).symm;rcases hq47 with h47|h47
  ·obtain⟨t,e⟩:=(SM.zaz h47).1 h;refine⟨λha=>?_,λha=>?_⟩
   ·obtain⟨r,hr,e2⟩:=(SM.zhr C.s47).1 ha;refine C.dj dst (.inl rfl) ((SM.zhr C.s47).2 ⟨r++47::t,?_,by rw[e,e2];simp⟩);rcases hr with rfl|⟨u,rfl⟩
    ·exact .inr ⟨t,rfl⟩
    ·exact .inr ⟨u++47::t,rfl⟩
   ·obtain⟨r,hr,e2⟩:=(SM.zhr C.d47).1 ha;have:=congrArg List.length e;rw[e2]at this;simp at this
  ·rw[h47];have key:∀d:Str,SM.Kept d->d≠[47]->¬At d [47]:=λd hk hd h=>by obtain⟨r,_,e⟩:=(SM.zhr hd).1 h;have e1:=congrArg List.length e;have:0<d.length:=List.length_pos_iff.2 (SM.zb5 hk);simp at e1;have hr:r=[]:=List.length_eq_zero_iff.1 (by omega);rw[hr,List.append_nil]at e;exact hd e.symm
   exact⟨key src C.ks C.s47,key dst C.kd C.d47⟩
 ·rw[h];have key:∀d:Str,SM.Kept d->d≠[47]->¬At d [47]:=λd hk hd h=>by obtain⟨r,_,e⟩:=(SM.zhr hd).1 h;have e1:=congrArg List.length e;have:0<d.length:=List.length_pos_iff.2 (SM.zb5 hk);simp at e1;have hr:r=[]:=List.length_eq_zero_iff.1 (by omega);rw[hr,List.append_nil]at e;exact hd e.symm
  exact⟨key src C.ks C.s47,key dst C.kd C.d47⟩
theorem mvd_add{m M:SM.Mem}(wf:SM.Wf m)(hM:SM.Mvd src dst L m M)(hL:∀q∈L,At src q){l:Str}{n:SM.Node}(h1:¬At src l)(h2:¬At dst l)(s47:src≠[47])(d47:dst≠[47]):SM.Mvd src dst L (m.add l n) (M.add l n):=by
 obtain⟨a1,a2,a3,a4,a5,a6⟩:=SM.zeF wf l n;obtain⟨b1,b2,b3,b4,b5,b6⟩:=SM.zeF hM.wf l n;obtain⟨n1,n2⟩:=SM.zfw wf l n;obtain⟨p1,p2⟩:=SM.zfw hM.wf l n;have hlL:l∉L:=λh=>h1 (hL l h);refine⟨b1,λq=>?_,by rw[SM.zi8 hM.wf,SM.zi8 wf,hM.len],λx=>?_,by rw[b5,a5,hM.hs]⟩
 ·rw[b2];by_cases c:q=l
  ·rw[if_pos c,c,if_neg (λh=>h2 h.1),if_neg hlL,a2,if_pos rfl,hM.len]
  ·rw[if_neg c,hM.find];by_cases A:At dst q/\mvN dst src q∈L
   ·rw[if_pos A,if_pos A,a2,if_neg (λe=>hlL (by rw[<-e];exact A.2))]
   ·rw[if_neg A,if_neg A];by_cases b:q∈L
    ·rw[if_pos b,if_pos b]
    ·rw[if_neg b,if_neg b,a2,if_neg c]
 ·by_cases c:x<m.nodes.length
  ·rw[p1 x (by rw[hM.len];exact c),n1 x c,hM.node x];have:((m.node x).name∈L/\m.find (m.node x).name=some x)↔((m.node x).name∈L/\(m.add l n).find (m.node x).name=some x):=by
    constructor
    ·rintro⟨e1,e2⟩;exact⟨e1,by rw[a2,if_neg (λe=>hlL (by rw[<-e];exact e1))];exact e2⟩
    ·rintro⟨e1,e2⟩;rw[a2,if_neg (λe=>hlL (by rw[<-e];exact e1))]at e2;exact⟨e1,e2⟩
   simp only[this]
  ·by_cases c2:x=m.nodes.length
   ·subst c2;rw[n2];have e:=p2;rw[hM.len]at e;rw[e];simp only
    rw[if_neg (λh=>hlL h.1)]
   ·have e1:(m.add l n).node x=⟨false,0,[],0,[]⟩:=by unfold SM.Mem.node;rw[List.getD_eq_getElem?_getD,List.getElem?_eq_none (by rw[SM.zi8 wf];omega)];rfl
    have e2:(M.add l n).node x=⟨false,0,[],0,[]⟩:=by unfold SM.Mem.node;rw[List.getD_eq_getElem?_getD,List.getElem?_eq_none (by rw[SM.zi8 hM.wf,hM.len];omega)];rfl
    rw[e1,e2];simp only
    rw[if_neg];rintro⟨q1,q2⟩;have:=hL _ q1;obtain⟨r,hr,e3⟩:=(SM.zhr s47).1 this;have e4:=congrArg List.length e3;simp at e4;have:src=[]:=List.length_eq_zero_iff.1 (by omega);have hr0:r=[]:=List.length_eq_zero_iff.1 (by omega);have lt:=a1.find_lt q2;rw[SM.zi8 wf]at lt;omega
theorem zpy{m M:SM.Mem}(mi:SM.MI m X)(C:MvC m src dst)(hM:SM.Mvd src dst L m M)(hL:∀q∈L,At src q)(perm:Int):∀(k:Nat)(l:Str),l.length<=k->SM.Kept l->(l=dst\/SM.below dst l=true)->m.clear l=true->SM.Mvd src dst L (m.parents l perm) (M.parents l perm):=by
 intro k
 induction k with
 |zero=>intro l hl hk;exact absurd (List.length_eq_zero_iff.1 (by omega)) (SM.zb5 hk)
 |succ k ih=>
  intro l hl hk hb hc;have hkp:=SM.zdj hk;by_cases l47:l=[47]
  ·have e1:∀mm:SM.Mem,(mm.find [47]).isSome=true->mm.parents [47] perm=mm:=λmm h=>by
    cases e:mm.find [47]with
    |none=>rw[e]at h;cases h
    |some x=>exact SM.zbN (l:=[47]) (show mm.find (SM.parent [47])=some x from e)
   obtain⟨n1,n2⟩:=zoT mi C (q:=[47]) (.inl rfl) (.inr rfl);have f47:M.find [47]=m.find [47]:=by rw[hM.find,if_neg (λh=>n2 h.1),if_neg (λh=>n1 (hL _ h))]
   rw[l47,e1 m mi.root,e1 M (by rw[f47];exact mi.root)];exact hM
  have hpb:SM.below dst (SM.parent l)=true\/SM.parent l=[47]:=by
   by_cases p47:SM.parent l=[47]
   ·exact .inr p47
   ·left;have st:SM.below l (SM.parent l)=true:=(SM.zcO hk l47 hkp p47).2 (.inl rfl);rcases hb with rfl|hb
    ·exact st
    ·obtain⟨t,e⟩:=(SM.zaz l47).1 hb;obtain⟨u,e2⟩:=(SM.zaz p47).1 st;exact(SM.zaz p47).2 ⟨u++47::t,by rw[e,show l++47::t=(SM.parent l++47::u)++47::t by rw[<-e2]];simp⟩
  obtain⟨n1,n2⟩:=zoT mi C hkp hpb;have fp:M.find (SM.parent l)=m.find (SM.parent l):=by rw[hM.find,if_neg (λh=>n2 h.1),if_neg (λh=>n1 (hL _ h))]
  obtain⟨c1,c2⟩:=SM.zdt hc l47;cases e:m.find (SM.parent l)with
  |some x=>rw[SM.zbN e,SM.zbN (by rw[fp];exact e)];exact hM
  |none=>
   have p47:SM.parent l≠[47]:=λq=>by have:=mi.root;rw[q]at e;rw[e]at this;cases this
   have hlt:=(SM.zaZ l).resolve_right p47;obtain⟨m1,m2⟩:=zoT mi C (q:=[47]) (.inl rfl) (.inr rfl);have f47:M.find [47]=m.find [47]:=by rw[hM.find,if_neg (λh=>m2 h.1),if_neg (λh=>m1 (hL _ h))]
   rw[SM.zeG (m:=m) (l:=l) mi.root e,SM.zeG (m:=M) (l:=l) (by rw[f47];exact mi.root) (by rw[fp];exact e)];have I:=ih (SM.parent l) (by omega) hkp (.inr (hpb.resolve_right p47)) c2;exact mvd_add (mi.parents perm (k+1) (SM.parent l) (by omega) hkp p47 c2).1.wf I hL n1 n2 C.s47 C.d47
theorem zqY{m M M':SM.Mem}(h:SM.Mvd src dst L m M)(h':SM.Mvd src dst L m M'):M=M':=by refine SM.mem_ext h.wf h'.wf (λq=>by rw[h.find,h'.find]) ?_ (by rw[h.hs,h'.hs]);refine List.ext_getElem (by rw[h.len,h'.len]) λi h1 h2=>?_;rw[<-SM.zkS h1,<-SM.zkS h2,h.node,h'.node]
end PM
end Go.X
end
section
namespace Go.X
section
variable{α:Type}{lt:α->α->Prop}
structure MidG(lt:α->α->Prop)(p:List α)(x:α)(m:List α):Prop where
 srt:(p++m).Pairwise λa b=>¬lt b a
 low:∀y∈m,¬lt y x
theorem MidG.start{p:List α}(h:p.Pairwise λa b=>¬lt b a)(x:α):MidG lt p x []:=⟨by simpa using h,λy hy=>by cases hy⟩
theorem MidG.step(asy:∀a b,lt a b->¬lt b a){p:List α}{a x:α}{m:List α}(h:MidG lt (p++[a]) x m)(hx:lt x a):MidG lt p x (a::m):=
 ⟨by have:=h.srt;simpa using this,λy hy=>by
  rcases List.mem_cons.1 hy with q|q
  ·subst q;exact asy _ _ hx
  ·exact h.low y q⟩
theorem MidG.done0{x:α}{m:List α}(h:MidG lt [] x m):(x::m).Pairwise λa b=>¬lt b a:=List.pairwise_cons.2 ⟨h.low,by have:=h.srt;simpa using this⟩
theorem MidG.done(nt:∀x y a,lt x y->lt x a\/lt a y){p:List α}{a x:α}{m:List α}(h:MidG lt (p++[a]) x m)(hx:¬lt x a):(p++[a]++x::m).Pairwise λa b=>¬lt b a:=by
 have s:=List.pairwise_append.1 h.srt;refine List.pairwise_append.2 ⟨s.1,List.pairwise_cons.2 ⟨h.low,s.2.1⟩,λy hy z hz=>?_⟩;rcases List.mem_cons.1 hz with q|q
 ·subst q;rcases List.mem_append.1 hy with r|r
  ·have ya:=(List.pairwise_append.1 s.1).2.2 y r a (by simp);intro hzy;rcases nt _ _ a hzy with t|t
   ·exact hx t
   ·exact ya t
  ·simp at r;subst r;exact hx
 ·exact s.2.2 y hy z q
end
end Go.X
end
section
namespace Go.Proofs.YtdljebgllipdjaaGreatDoor.X
open Go Go.X Go.Proofs Go.RowKit Go.X.PM Go.Lib
def cnt(l:Str):Nat:=l.count 47
section
variable{w w' w0:World}{F0:Fp}{K:Value->World->Prop}{B p mb:Nat}{s:PM.St}{rep:Nat->Rep}{se:Nat->Nat×Nat}
 {m:SM.Mem} {ps:List Nat} {hp:Int->Nat} {E:PM.Ex} {X:Option Str}
theorem zqg{l:Str}(hl:l.length<=1000000)(hk:∀w',(w'=w\/Below w.heap.size w w')->K (.int .i64 (cnt l)) w'):Cl P Fn.cB #[S l] w K:=by
 apply zlX;unfold ziV;refine zaa (λt w'=>t=[.int .i64 (cnt l)]/\w'=w) ?_ ?_
 ·rintro t e w1 ⟨rfl,rfl⟩;exact hk _ (.inl rfl)
 refine zaA (λt w'=>w'=w/\∃i:Nat,t=[.int .i64 (cnt (l.take i)),.int .i64 i]/\i<=l.length) (λt _=>l.length - (RowKit.intOf (gs t 1)).toNat) ⟨rfl,0,by simp[cnt],by omega⟩ ?_;rintro t e w1 ⟨rfl,i,rfl,hi⟩;have hcl:cnt (l.take i)<=i:=by unfold cnt;exact Nat.le_trans List.count_le_length (by simp;omega)
 by_cases g:(i:Int)<l.length
 ·have hix:i<l.length:=by omega
  have ix:∀(L:Value->Prop),pu P (oIdx T.string (S l) (.int .i64 i)) L=L (.int .u8 l[i].toNat):=λL=>by rw[zoX L T.string l .i64 i U.string (by omega) g];rw[show(i:Int).toNat=i by omega];simp[List.getD,hix]
  refine zaa (λt w'=>t=[]/\w'=w1) ?_ ?_;rotate_left
  ·simp(disch:=first|omega|(simp(disch:=first|omega|fail)only[go_sem]<;>omega)|fail)only[go_sem];exact⟨trivial,trivial⟩
  rintro t e w2 ⟨rfl,rfl⟩;have tk:cnt (l.take (i+1))=cnt (l.take i)+if l[i]=47 then 1 else 0:=by
   unfold cnt;rw[List.take_succ_eq_append_getElem hix,List.count_append,List.count_singleton];congr 1;by_cases c:l[i]=47
   ·simp[c]
   ·simp[c]
  refine zaa (λt w'=>t=[.int .i64 (cnt (l.take (i+1)))]/\w'=w2) ?_ ?_
  ·rintro t e w3 ⟨rfl,rfl⟩;simp(disch:=first|omega|(simp(disch:=first|omega|fail)only[go_sem]<;>omega)|fail)only[go_sem];refine⟨⟨trivial,i+1,rfl,by omega⟩,?_⟩;simp only[RowKit.intOf];omega
  ·by_cases c:l[i]=47
   ·have e1:(l[i].toNat:Int)=47:=by rw[c];rfl
    rw[tk,if_pos c];simp(disch:=first|omega|(simp(disch:=first|omega|fail)only[go_sem,ix,e1,decide_true]<;>omega)|fail)only[go_sem,ix,e1,decide_true];exact⟨rfl,trivial⟩
   ·have e1:¬(l[i].toNat:Int)=47:=λe=>c (UInt8.toNat_inj.1 (by rw[show(47:UInt8).toNat=47 from rfl];omega));rw[tk,if_neg c];simp(disch:=first|omega|(simp(disch:=first|omega|fail)only[go_sem,ix,e1,decide_false]<;>omega)|fail)only[go_sem,ix,e1,decide_false];exact⟨trivial,trivial⟩
 ·have e1:i=l.length:=by omega
  subst e1;refine zaa (λ_ _=>False) (λ_ _ _ h=>h.elim) ?_;simp(disch:=first|omega|(simp(disch:=first|omega|fail)only[go_sem]<;>omega)|fail)only[go_sem];rw[List.take_length];exact⟨rfl,trivial⟩
theorem zt5{tB tE:TypeId}{z:Value}{bytes:Nat}(h2:P.underlying tB=some (.slice tE))(hi:(P.info? tE).map (λi=>(i.zero,i.size,i.bytes))=some (some z,1,bytes))(hz:z.cells=#[z])(n:Nat)(hn:bytes*n<=281474976710656)(hn2:n<=281474976710656){L:Value->World->Prop}
  (hL:∀v w',w'.ownsRow w.heap.size tE 1 v 0 []->Below w.heap.size w w'->L v w'):st P (zdx tB (.int .i64 0) (.int .i64 n)) w L:=by
 obtain⟨i,hi',hzz⟩:=Option.map_eq_some_iff.1 hi;simp only[Prod.mk.injEq]at hzz;obtain⟨hz',hs,hb⟩:=hzz;have hb':(i.bytes:Int)*(n:Int)<=281474976710656:=by
  have h:((i.bytes*n:Nat):Int)<=281474976710656:=by rw[hb];omega
  rwa[Int.natCast_mul]at h
 have h:=run_make (P:=P) w tB tE i z h2 hi' hz' .i64 .i64 0 n (by omega) (by omega) hb' (by omega);simp only[Int.toNat_natCast,hs,Nat.mul_one,hz]at h;have e:=zav (K:=L) (zbd h);rw[show st P (zdx tB (.int .i64 0) (.int .i64 n)) w L=_ from e];refine hL _ _ ⟨rfl,.inr ⟨_,n,madeCells #[z] n,rfl,Nat.le_refl _,zaf w _ _ rfl,Nat.zero_le _,by simp only[maxLen];omega,by simp[size_madeCells],by simp⟩⟩ ?_;exact Below.alloc (Below.refl _ _) (Nat.le_refl _) _
theorem zmq{B n:Nat}{v:Value}{xs:List Nat}(o:w.ownsRow B T.af 1 v n (xs.map ptV)){i:Nat}(hi:i<xs.length)(hn:xs.length=n):
  ∃g cur,v.ownBlock=some g/\bk w g=some (CB cur T.af)/\i<cur.length/\cur.take n=xs.map ptV/\cur[i]?=some (pt xs[i] 0)/\∀(k:IntKind)(M:Value->Prop),pu P (zaO T.aq v (.int k i)) M=M (pt g i):=by
 obtain⟨g,cur,g1,g2,g3,g4,g5,g6⟩:=zhw U.ah (by kernel_rfl) o (i:=i) (by omega);rw[Nat.mul_one]at g4 g5 g6;refine⟨g,cur,g1,g3,by omega,g5,?_,g6⟩;rw[<-List.getElem?_take_of_lt (show i<n by omega),g5,List.getElem?_map,List.getElem?_eq_getElem hi];rfl
theorem zlC{B n g i:Nat}{v:Value}{xs:List Nat}{cur:List Value}(o:w.ownsRow B T.af 1 v n (xs.map ptV))(hg:v.ownBlock=some g)(hb:bk w g=some (CB cur T.af))(hc:cur.take n=xs.map ptV)(y:Nat):
  (setb w g (CB (cur.set i (pt y 0)) T.af)).ownsRow B T.af 1 v n ((xs.set i y).map ptV):=by
 have q:=zjL o hg hb (by simp) _ (rfl:CB (cur.set i (pt y 0)) T.af=_);rw[Nat.mul_one,List.take_set,hc,show pt y 0=ptV y from rfl,<-List.map_set]at q;exact q
def zmP(s:PM.St)(d:Nat):Nat:=match s.nd d with|some n=>cnt n.n.name|none=>0
def gAt(s:PM.St)(q:Str):Nat:=(s.g q).getD 0
theorem znv{l:Str}{Ns:List Str}(h:PT w0 F0 w B p s mb rep se)(h47:l≠[47])(hl:l.length<=900000)(hN:Ns.length<=900000)(hNs:∀q,(s.g q).isSome=true->q∈Ns/\q.length<=900000)
  (hnd:∀q d,s.g q=some d->∃n,s.nd d=some n/\n.n.name.length<=900000)
  (hk:∀v(qs:List Str)w',w'.ownsRow w.heap.size T.af 1 v qs.length ((qs.map (gAt s)).map ptV)->qs.length<=900000->qs.Nodup->(∀q,q∈qs↔SM.below q l=true/\(s.g q).isSome=true)->qs.Pairwise (λa b=>¬zmP s (gAt s b)<zmP s (gAt s a))->Below w.heap.size w w'->K v w'):Cl P Fn.aw #[pt p 0,S l] w K:=by
 apply zed;unfold zbR;rw[C.ab];refine zaF h.pf ?_;obtain⟨M,c,m1,m2,m3⟩:=h.pf.map;have mkeys:∀k,(mget M k).isSome=(s.g k).isSome:=λk=>by rw[m3,Option.isSome_map]
 have hMl:M.length<=900000:=by
  have:=zd2 (M.map (·.1)) Ns m2.keys λk hkm=>by
   refine(hNs k ?_).1;rw[<-mkeys];have:=zbr M k;cases e:mget M k with
   |none=>exact absurd hkm (this.1 e)
   |some v=>rfl
  rw[List.length_map]at this;omega
 rw[zrp _ U.af m1];refine zt5 (z:=.pointer none) (bytes:=8) U.ah (by kernel_rfl) rfl M.length (by omega) (by omega) λv0 w3 o3 B3=>?_;have z3:=B3.size;have lmb:=(h.pf.lt mb (.inr (.inl rfl))).2;have m13:=(zax B3 lmb).trans m1;refine zaa (λt w'=>∃v,∃qs:List Str,t=[v]/\w'.ownsRow w.heap.size T.af 1 v qs.length ((qs.map (gAt s)).map ptV)/\qs.Nodup/\(∀q,q∈qs↔SM.below q l=true/\(s.g q).isSome=true)/\qs.length<=900000/\Below w.heap.size w w') ?_ ?_
 ·rintro t e w4 ⟨v,qs,rfl,o4,nq,mq,lq,B4⟩;unfold zbz;refine zaa (λt w'=>∃zs:List Str,w'.ownsRow w.heap.size T.af 1 v qs.length ((zs.map (gAt s)).map ptV)/\zs.Perm qs/\zs.Pairwise (λa b=>¬zmP s (gAt s b)<zmP s (gAt s a))/\Below w.heap.size w w') ?_ ?_
  ·rintro t e w5 ⟨zs,o5,pm,srt,B5⟩;unfold zbS;rw[gs0];have hzl:=pm.length_eq;rw[<-hzl]at o5;exact hk v zs w5 o5 (by omega) (pm.nodup_iff.2 nq) (λq=>by rw[pm.mem_iff];exact mq q) srt B5
  ·have all:∀zs:List Str,zs.Perm qs->∀q∈zs,∃n,s.nd (gAt s q)=some n/\n.n.name.length<=900000/\zmP s (gAt s q)=cnt n.n.name:=λzs pm q hq=>by
    have:=(mq q).1 (pm.mem_iff.1 hq);obtain⟨d,hd⟩:=Option.isSome_iff_exists.1 this.2;obtain⟨n,n1,n2⟩:=hnd q d hd;have e:gAt s q=d:=by unfold gAt;rw[hd];rfl
    rw[e];refine⟨n,n1,n2,?_⟩;unfold zmP;rw[n1]
   obtain⟨κ,hκ⟩:∃κ:Str->Nat,κ=λq=>zmP s (gAt s q):=⟨_,rfl⟩;have eκ:∀q,zmP s (gAt s q)=κ q:=λq=>by rw[hκ]
   simp only[eκ];obtain⟨n,hn⟩:∃n,n=qs.length:=⟨_,rfl⟩;rw[<-hn]at o4 lq⊢;rw[gs0];obtain⟨a,cap,ev⟩:=zan o4;refine zaA (λt w'=>∃(i:Nat)(ys:List Str),t=[.int .i64 i]/\i<=n+1/\1<=i/\w'.ownsRow w.heap.size T.af 1 v n ((ys.map (gAt s)).map ptV)/\ys.Perm qs/\(ys.take i).Pairwise (λa b=>¬κ b<κ a)/\Below w.heap.size w w') (λt _=>n+2 - (RowKit.intOf (gs t 0)).toNat) ⟨1,qs,rfl,by omega,by omega,o4,List.Perm.refl _,?_,B4⟩ ?_
   ·match qs with
    |[]=>exact List.Pairwise.nil
    |[x]=>simp
    |x::y::r=>simp
   rintro t e w1 ⟨i,ys,rfl,hi,hi1,o1,pm,srt,B1⟩;have hys:ys.length=n:=by rw[pm.length_eq];exact hn.symm
   refine zaa (λt w'=>t=[]/\w'=w1/\i<n) ?_ ?_;rotate_left
   ·rw[ev,V.ab,<-ev];by_cases g:(i:Int)<n
    ·simp(disch:=first|omega|(simp(disch:=first|omega|fail)only[go_sem]<;>omega)|fail)only[go_sem];exact⟨trivial,trivial,by omega⟩
    ·simp(disch:=first|omega|(simp(disch:=first|omega|fail)only[go_sem]<;>omega)|fail)only[go_sem];rw[List.take_of_length_le (by omega)]at srt;exact⟨ys,o1,pm,srt,B1⟩
   rintro t e w2 ⟨rfl,rfl,hin⟩;unfold zbD;refine zaa (λt w'=>t=[]/\∃zs:List Str,w'.ownsRow w.heap.size T.af 1 v n ((zs.map (gAt s)).map ptV)/\zs.Perm qs/\(zs.take (i+1)).Pairwise (λa b=>¬κ b<κ a)/\Below w.heap.size w w') ?_ ?_
   ·rintro t e w3 ⟨rfl,zs,q1,q2,q3,q4⟩;unfold zas;simp(disch:=first|omega|(simp(disch:=first|omega|fail)only[go_sem]<;>omega)|fail)only[go_sem];refine⟨⟨i+1,zs,by simp,by omega,by omega,q1,q2,q3,q4⟩,?_⟩;simp only[RowKit.intOf];omega
   have hi2:i<ys.length:=by omega
   rw[gs0];refine zaA (λt w'=>∃(p m q:List Str)(x:Str),t=[.int .i64 p.length]/\p.length+m.length=i/\w'.ownsRow w.heap.size T.af 1 v n (((p++x::(m++q)).map (gAt s)).map ptV)/\(p++x::(m++q)).Perm qs/\MidG (λa b=>κ a<κ b) p x m/\Below w.heap.size w w') (λt _=>(RowKit.intOf (gs t 0)).toNat) ⟨ys.take i,[],ys.drop (i+1),ys[i],by simp;omega,by simp;omega,?_,?_,MidG.start srt _,B1⟩ ?_
   ·rw[List.nil_append,<-List.drop_eq_getElem_cons hi2,List.take_append_drop];exact o1
   ·rw[List.nil_append,<-List.drop_eq_getElem_cons hi2,List.take_append_drop];exact pm
   rintro t e w3 ⟨p',m',q,x,rfl,hpm,o3,pm3,mid,B3'⟩;have hln:(p'++x::(m'++q)).length=n:=by rw[pm3.length_eq];exact hn.symm
   have asy:∀a b:Str,κ a<κ b->¬κ b<κ a:=λa b h=>by omega
   have nt:∀x y a:Str,κ x<κ y->κ x<κ a\/κ a<κ y:=λx y a h=>by omega
   rcases List.eq_nil_or_concat p' with rfl|⟨p1,a',rfl⟩
   ·simp(disch:=first|omega|(simp(disch:=first|omega|fail)only[go_sem,List.length_nil]<;>omega)|fail)only[go_sem,List.length_nil];refine zaa (λ_ _=>False) (λ_ _ _ h=>h.elim) ?_;refine⟨(λe=>by cases e),(λe=>by cases e),trivial,_,o3,pm3,?_,B3'.drew⟩;have:=mid.done0;simp only[List.length_nil,Nat.zero_add]at hpm;rw[List.nil_append,List.take_succ_cons,List.take_left' hpm];exact this
   ·rw[List.concat_eq_append]at*;obtain⟨j,hj⟩:∃j,j=p1.length:=⟨_,rfl⟩;have hpl:(p1++[a']).length=j+1:=by simp[hj]
    rw[hpl]at hpm⊢;obtain⟨zs,hzs⟩:∃zs,zs=p1++[a']++x::(m'++q):=⟨_,rfl⟩;rw[<-hzs]at o3 pm3 hln;have o3':w3.drew.ownsRow w.heap.size T.af 1 v n ((zs.map (gAt s)).map ptV):=o3;have B4:=B3'.drew;generalize w3.drew=w4 at*;have ex:zs[j+1]?=some x:=by rw[hzs,List.getElem?_append_right (by omega),hpl];simp
    have ea:zs[j]?=some a':=by rw[hzs,List.append_assoc,List.getElem?_append_right (by omega),hj];simp
    have lx:j+1<zs.length:=by rw[hzs];simp;omega
    have ex':zs[j+1]=x:=by rw[List.getElem?_eq_getElem lx]at ex;exact Option.some.inj ex
    have ea':zs[j]=a':=by rw[List.getElem?_eq_getElem (by omega)]at ea;exact Option.some.inj ea
    obtain⟨nx,x1,x2,x3⟩:=all zs pm3 x (by rw[<-ex'];exact List.getElem_mem _);obtain⟨na,a1,a2,a3⟩:=all zs pm3 a' (by rw[<-ea'];exact List.getElem_mem _);rw[eκ]at x3 a3;have lm:j+1<(zs.map (gAt s)).length:=by rw[List.length_map];exact lx
    obtain⟨g,cur,g1,g2,g3,g4,g5,g6⟩:=zmq o3' lm (by rw[List.length_map];exact hln);obtain⟨g',cur',h1,h2,h3,h4,h5,h6⟩:=zmq o3' (show j<(zs.map (gAt s)).length by omega) (by rw[List.length_map];exact hln);obtain rfl:g'=g:=by rw[g1]at h1;exact(Option.some.inj h1).symm
    obtain rfl:cur'=cur:=by rw[g2]at h2;injection h2 with h2;injection h2 with h2;exact(List.toArray_inj h2).symm
    rw[List.getElem_map,ex']at g5;rw[List.getElem_map,ea']at h5;have cx:za1 (bk w4 g') (j+1)=some (pt (gAt s x) 0):=by rw[g2];exact(zbe _ _ _).trans g5
    have ca:za1 (bk w4 g') j=some (pt (gAt s a') 0):=by rw[g2];exact(zbe _ _ _).trans h5
    have g6':∀M:Value->Prop,pu P (zaO T.aq v (.int .i64 ((j:Int)+1))) M=M (pt g' (j+1)):=λM=>g6 .i64 M;have h6':∀M:Value->Prop,pu P (zaO T.aq v (.int .i64 (j:Int))) M=M (pt g' j):=λM=>h6 .i64 M;have sub1:((j+1:Nat):Int)=(j:Int)+1:=by omega
    rw[sub1];have sub2:(j:Int)+1 - 1=j:=by omega
    refine zaa (λt w'=>Below w4.heap.size w4 w'/\κ x<κ a') ?_ ?_
    ·rintro t e w5 ⟨B5,hlt⟩;unfold zbC;have z4:=B4.size;have o5:w5.drew.ownsRow w.heap.size T.af 1 v n ((zs.map (gAt s)).map ptV):=zbf o3' B5.drew (Nat.le_refl _);have b5:bk w5.drew g'=some (CB cur' T.af):=(zax B5 (zaj g2)).trans g2;have kd5:Below w.heap.size w w5.drew:=(B4.trans (B5.mono z4)).drew;have b50:bk w5 g'=some (CB cur' T.af):=b5;have cx5:za1 (bk w5 g') (j+1)=some (pt (gAt s x) 0):=by rw[b50];exact(zbe _ _ _).trans g5
     have ca5:za1 (bk w5 g') j=some (pt (gAt s a') 0):=by rw[b50];exact(zbe _ _ _).trans h5
     simp(disch:=first|omega|(simp(disch:=first|omega|fail)only[go_sem,sub2,g6',h6',cx5,ca5]<;>omega)|fail)only[go_sem,sub2,g6',h6',cx5,ca5];generalize w5.drew=w6 at*;have q1:=zlC (i:=j+1) o5 g1 b5 g4 (gAt s a');have l6:g'<w6.heap.size:=zaj b5;have b7:bk (setb w6 g' (CB (cur'.set (j+1) (pt (gAt s a') 0)) T.af)) g'=some (CB (cur'.set (j+1) (pt (gAt s a') 0)) T.af):=zap _ _ _ _ rfl l6;have t7:(cur'.set (j+1) (pt (gAt s a') 0)).take n=((zs.map (gAt s)).set (j+1) (gAt s a')).map ptV:=by rw[List.take_set,g4,List.map_set]
     have q2:=zlC (i:=j) q1 g1 b7 t7 (gAt s x);have h3':j<(cur'.set (j+1) (pt (gAt s a') 0)).length:=by rw[List.length_set];exact h3
     have ez:(zs.set (j+1) a').set j x=p1++x::(a'::m'++q):=by rw[hzs,hj,List.append_assoc,List.set_append_right _ _ (by omega),show p1.length+1 - p1.length=1 by omega,List.set_append_right _ _ (by omega),Nat.sub_self];rfl
     simp(disch:=first|omega|(simp(disch:=first|omega|fail)only[go_sem,b5,g3]<;>omega)|fail)only[go_sem,b5,g3];obtain⟨cu,ecu⟩:∃cu,cu=cur'.set (j+1) (pt (gAt s a') 0):=⟨_,rfl⟩;rw[<-ecu]at b7 h3' q2⊢;obtain⟨w7,e7⟩:∃w7,w7=setb w6 g' (CB cu T.af):=⟨_,rfl⟩;rw[<-e7]at b7 q2⊢;rw[e7]at q2⊢;rw[<-List.map_set,<-List.map_set,ez]at q2;have own:=(zaW o3' g' g1).1;refine⟨⟨p1,a'::m',q,x,by rw[hj],by simp only[List.length_cons];omega,q2,?_,mid.step asy hlt,?_⟩,?_⟩
     ·refine List.Perm.trans ?_ pm3;rw[hzs,List.append_assoc];exact List.Perm.append_left _ (List.Perm.swap _ _ _)
     ·refine(kd5.trans ((Kp.setb w6 g' (CB cu T.af)).below (λk hk e=>by omega) kd5.size)).trans ((Kp.setb _ _ _).below (λk hk e=>by omega) ?_);exact Nat.le_trans kd5.size (Kp.setb w6 g' (CB cu T.af)).size
     ·simp only[RowKit.intOf];omega
    ·have hx0:=h.old B4;simp(disch:=first|omega|(simp(disch:=first|omega|fail)only[go_sem,sub2,g6',h6',cx,ca]<;>omega)|fail)only[go_sem,sub2,g6',h6',cx,ca];refine zcz hx0.pf x1 ?_;have toB:∀{u},(u=w4\/Below w4.heap.size w4 u)->Below w4.heap.size w4 u:=λh=>h.elim (λe=>by rw[e];exact Below.refl _ _) id;refine⟨λ_=>?_,zqg (by omega) λw5 hw5=>⟨λ_=>?_,?_⟩⟩
     ·simp(disch:=first|omega|(simp(disch:=first|omega|fail)only[go_sem,ca]<;>omega)|fail)only[go_sem,ca]
     ·have ca5:za1 (bk w5 g') j=some (pt (gAt s a') 0):=by rw[zax (toB hw5) (zaj g2)];exact ca
      simp(disch:=first|omega|(simp(disch:=first|omega|fail)only[go_sem,ca5]<;>omega)|fail)only[go_sem,ca5]
     have hw5:=toB hw5;refine zcz (hx0.old hw5).pf a1 (zqg (by omega) λw6 hw6=>?_);have hw6:Below w4.heap.size w4 w6:=hw6.elim (λe=>by rw[e];exact hw5) λh=>hw5.trans (h.mono hw5.size);rw[<-x3,<-a3];have hc1:(κ x:Int)<κ a'↔κ x<κ a':=by omega
     by_cases c:κ x<κ a'
     ·have c':=hc1.2 c;simp(disch:=first|omega|(simp(disch:=first|omega|fail)only[go_sem]<;>omega)|fail)only[go_sem];exact⟨hw6,c⟩
     ·have c':¬(κ x:Int)<κ a':=λe=>c (hc1.1 e);simp(disch:=first|omega|(simp(disch:=first|omega|fail)only[go_sem]<;>omega)|fail)only[go_sem];have hz4:=B4.size;refine⟨trivial,zs,zbf o3' hw6 (Nat.le_refl _),pm3,?_,B4.trans (hw6.mono hz4)⟩;have:=mid.done nt c;have el:(p1++[a']++x::m').length=i+1:=by simp;omega
      rw[hzs,show p1++[a']++x::(m'++q)=(p1++[a']++x::m')++q by simp,List.take_left' el];exact this
 ·rw[C.aF];refine zi4 m13 m2 (by omega) λw4 vn ks on srt klen kmem B4=>?_;obtain⟨an,cn,en⟩:=zan on;rw[en,V.ae,<-en];have o4:=zbf o3 B4 (Nat.le_refl _);have B04:=B3.trans (B4.mono z3);refine zaA (λt w'=>∃i:Nat,∃v,t=[v,.int .i64 i]/\i<=ks.length/\w'.ownsRow w.heap.size T.af 1 v ((ks.take i).filter λq=>SM.below q l).length ((((ks.take i).filter λq=>SM.below q l).map (gAt s)).map ptV)/\w'.ownsRow w3.heap.size T.string 1 vn ks.length (ks.map S)/\Below w.heap.size w w') (λt _=>ks.length - (RowKit.intOf (gs t 1)).toNat) ⟨0,v0,rfl,by omega,o4,on,B04⟩ ?_;rintro t e w5 ⟨i,v,rfl,hi,o5,on5,B5⟩;by_cases gl:(i:Int)<ks.length
  ·have hix:i<ks.length:=by omega
   obtain⟨gb,cur,g1,g2,g3,g4,g5,g6⟩:=zlS on5 hix rfl;have cx:za1 (bk w5 gb) i=some (S ks[i]):=by rw[g2];exact(zbe _ _ _).trans g5
   have hyn:(s.g ks[i]).isSome=true:=by rw[<-mkeys,<-kmem];exact List.getElem_mem hix
   have hyl:=(hNs _ hyn).2;have tk:((ks.take (i+1)).filter λq=>SM.below q l)=((ks.take i).filter λq=>SM.below q l)++if SM.below ks[i] l=true then[ks[i]]else[]:=by rw[List.take_succ_eq_append_getElem hix,List.filter_append];congr 1;cases hb:SM.below ks[i] l<;>simp[hb]
   have flen:((ks.take i).filter λq=>SM.below q l).length<=i:=Nat.le_trans (List.length_filter_le _ _) (by rw[List.length_take];omega);obtain⟨y,hy⟩:∃y,y=ks[i]:=⟨_,rfl⟩;rw[<-hy]at cx tk hyl hyn;obtain⟨qs,hqs⟩:∃qs,qs=(ks.take i).filter λq=>SM.below q l:=⟨_,rfl⟩;rw[<-hqs]at o5 tk flen;have sx:∀L:Value->Prop,pu P (oBin .add T.string false true (S l) (S [47])) L=L (S (l++[47])):=λL=>zoW _ T.string _ _ _ _ (by simp;omega);simp(disch:=first|omega|(simp(disch:=first|omega|fail)only[go_sem]<;>omega)|fail)only[go_sem];refine zaa (λt w'=>t=[]/\w'=w5) ?_ ⟨rfl,rfl⟩;rintro t e w6 ⟨rfl,rfl⟩;unfold zbA;refine zaa (λt w'=>∃v',t=[v']/\w'.ownsRow w.heap.size T.af 1 v' ((ks.take (i+1)).filter λq=>SM.below q l).length ((((ks.take (i+1)).filter λq=>SM.below q l).map (gAt s)).map ptV)/\w'.ownsRow w3.heap.size T.string 1 vn ks.length (ks.map S)/\Below w.heap.size w w') ?_ ?_
   ·rintro t e w7 ⟨v',rfl,o7,on7,B7⟩;unfold zdL;simp(disch:=first|omega|(simp(disch:=first|omega|fail)only[go_sem]<;>omega)|fail)only[go_sem];refine⟨⟨i+1,v',rfl,by omega,o7,on7,B7⟩,?_⟩;simp only[RowKit.intOf];omega
   ·rw[tk];simp(disch:=first|omega|(simp(disch:=first|omega|fail)only[go_sem,g6,cx,sx]<;>omega)|fail)only[go_sem,g6,cx,sx];refine zjt (by omega) (by simp;omega) ?_;rw[zoJ h47];cases hb:SM.below y l with
    |true=>
     rw[cd_t];unfold zbE;have h6:=h.old B5;rw[h6.pf.look1];obtain⟨d,hd⟩:=Option.isSome_iff_exists.1 hyn;have z5:=B5.size;rw[hd,gs0];refine put1 (z:=.pointer none) (bytes:=8) U.ah (by kernel_rfl) rfl (by omega) (x:=pt d 0) rfl o5 (by omega) z5 λv7 w7 o7 k7 n7=>?_;refine⟨v7,rfl,?_,zbQ on5 k7 λk hk e=>?_,B5.trans (k7.below (λk hk e=>by have:=zaW o5 k e;omega) z5)⟩
     ·rw[if_pos rfl];simp only[List.map_append,List.map_cons,List.map_nil,List.length_append,List.length_cons,List.length_nil,gAt,hd];exact o7
     ·obtain⟨c1,h1⟩:=zfS on5 hk;obtain⟨c2,h2⟩:=zfS o5 e;rw[h1]at h2;injection h2 with h2;injection h2 with _ h2;exact absurd h2 (by decide)
    |false=>simp(disch:=first|omega|(simp(disch:=first|omega|fail)only[go_sem]<;>omega)|fail)only[go_sem];rw[if_neg (by simp),List.append_nil];exact⟨v,rfl,o5,on5,B5⟩
  ·have e1:i=ks.length:=by omega
   subst e1;simp(disch:=first|omega|(simp(disch:=first|omega|fail)only[go_sem]<;>omega)|fail)only[go_sem];refine zaa (λ_ _=>False) (λ_ _ _ h=>h.elim) ?_;rw[List.take_length]at o5;refine⟨v,_,rfl,o5,?_,λq=>?_,?_,B5⟩
   ·have nd:ks.Nodup:=srt.imp λh e=>by rw[e]at h;exact List.lt_irrefl _ h
    exact nd.filter _
   ·rw[List.mem_filter,kmem,mkeys];exact And.comm
   ·refine Nat.le_trans (List.length_filter_le _ _) (by omega)
end
end Go.Proofs.YtdljebgllipdjaaGreatDoor.X
end
section
namespace Go.Proofs.YtdljebgllipdjaaGreatDoor.X
open Go Go.X Go.Proofs Go.RowKit Go.X.PM Go.Lib
open Go.X.SM (At mvN)
section
variable{w w' w0:World}{F0:Fp}{K:Value->World->Prop}{B p mb:Nat}{s:PM.St}{rep:Nat->Rep}{se:Nat->Nat×Nat}
 {m:SM.Mem} {ps:List Nat} {hp:Int->Nat} {E:PM.Ex} {X:Option Str}
theorem PT.other{S:Nat->Prop}(h:PT w0 F0 w B p s mb rep se)(k:Kp w w' S)(hS:∀b,Own p mb s rep b->¬S b)(lo:∀b,S b->w0.heap.size<=b/\B<=b):PT w0 F0 w' B p s mb rep se:=⟨h.pf.kp k hS,⟨h.tr.kp.trans k λx hx hs=>absurd (lo x hs).1 (by omega),h.tr.st⟩,h.sn.below (k.below (λb hb hs=>absurd (lo b hs).2 (by omega)) h.pf.le)⟩
theorem PT.not{w1:World}{s1:PM.St}{rep1:Nat->Rep}(h1:PT w (fpOf p mb s rep) w1 B p s1 mb rep1 se){b:Nat}(hb:b<w.heap.size)(hn:¬Own p mb s rep b):¬Own p mb s1 rep1 b:=λh=>hn ((h1.tr.st b hb).1 h)
theorem zmN{src dst r:Str}(h1:(src++r).length<=1000000)(h2:dst.length<=1000000)(hk:∀w',Below w.heap.size w w'->K (S (dst++r)) w'):Cl P Fn.aV #[S (src++r),S src,S dst] w K:=by
 apply zjp;unfold zfm;rw[C.bo];apply zl8;unfold ziT;have hl:src.length+r.length<=1000000:=by simpa using h1
 refine zaa (λ_ _=>False) (λ_ _ _ h=>h.elim) ?_;refine zaA (λt w'=>t=[.int .i64 0]/\w'=w) (λt _=>0) ⟨rfl,rfl⟩ ?_;rintro t e w1 ⟨rfl,rfl⟩;have le:(src.length:Int)<=(src++r).length:=by rw[List.length_append];omega
 have z0:(0:Int)+src.length=src.length:=by omega
 have sx:∀L:Value->Prop,pu P (zaE T.string (S (src++r)) (some (.int .i64 0)) (some (.int .i64 src.length)) none) L=L (S src):=λL=>by rw[zq8 L T.string (src++r) .i64 .i64 0 src.length U.string (by omega) (by omega) le];simp
 have sy:∀L:Value->Prop,pu P (zaE T.string (S (src++r)) none (some (.int .i64 0)) none) L=L (S []):=λL=>by rw[zel L T.string (src++r) .i64 0 U.string (by omega) (by simp;omega)];rfl
 have sz:∀L:Value->Prop,pu P (zaE T.string (S (src++r)) (some (.int .i64 src.length)) none none) L=L (S r):=λL=>by rw[zg3 L T.string (src++r) .i64 src.length U.string (by omega) le];simp
 have sa:∀L:Value->Prop,pu P (oBin .add T.string false false (S []) (S dst)) L=L (S dst):=λL=>zoW _ T.string _ _ _ _ (by simp only[List.length_nil];omega);have sb:∀L:Value->Prop,pu P (oBin .add T.string false false (S dst) (S r)) L=L (S (dst++r)):=λL=>zoW _ T.string _ _ _ _ (by omega);refine zaa (λt w'=>t=[]/\w'=w1) ?_ ?_;rotate_left
 ·simp(disch:=first|omega|(simp(disch:=first|omega|fail)only[go_sem]<;>omega)|fail)only[go_sem];exact⟨trivial,trivial⟩
 rintro t e w2 ⟨rfl,rfl⟩;refine zaa (λ_ _=>False) (λ_ _ _ h=>h.elim) ?_;simp(disch:=first|omega|(simp(disch:=first|omega|fail)only[go_sem,z0,sx,decide_true]<;>omega)|fail)only[go_sem,z0,sx,decide_true];refine zaa (λt w'=>w'=w2) ?_ ?_
 ·rintro t e w3 rfl;simp(disch:=first|omega|(simp(disch:=first|omega|fail)only[go_sem,z0,sy,sz,sa,sb]<;>omega)|fail)only[go_sem,z0,sy,sz,sa,sb];exact hk _ (Below.refl _ _).drew
 ·simp(disch:=first|omega|(simp(disch:=first|omega|fail)only[go_sem]<;>omega)|fail)only[go_sem]
theorem regHere{pv:Int}{f x:Nat}{nf nx:PM.Nd}{kk:Str->Option Nat}(h:PT w0 F0 w B p s mb rep se)(hf:s.nd f=some nf)(hl:nf.n.name.length<=90000)(hx:s.g (norm (Pa.clean (SM.dirP nf.n.name)))=some x)(hnx:s.nd x=some nx)(hkk:nx.kids=some kk)
  (hk:∀w',PT w0 F0 w' B p (s.setNd x ⟨nx.n,some (zb9 kk nf.n.name (some f))⟩) mb rep se->K (tup []) w'):Cl P Fn.ae #[pt p 0,pt f 0,.int .u32 pv] w K:=by
 apply za4;unfold zaS;refine zaa (λt w'=>w'=w) ?_ ?_;rotate_left
 ·rw[zqw U.ag];simp(disch:=first|omega|(simp(disch:=first|omega|fail)only[go_sem,Option.isNone_some]<;>omega)|fail)only[go_sem,Option.isNone_some]
 rintro t e w1 rfl;rw[C.ai];refine zdC h hf hl λw2 h2=>?_;rw[hx];refine zaa (λt w'=>t=[pt x 0]/\PT w0 F0 w' B p s mb rep se) ?_ ?_
 ·rintro t e w3 ⟨rfl,h3⟩;rw[gs0,C.ao];refine ziW h3.pf hnx hkk ?_;rw[C.aw];exact zkN h3 hnx hkk hf λw4 h4=>hk w4 h4
 ·rw[znG];simp(disch:=first|omega|(simp(disch:=first|omega|fail)only[go_sem]<;>omega)|fail)only[go_sem];exact⟨rfl,h2⟩
theorem zoo{src dst:Str}(h:PT w0 F0 w B p s mb rep se)(mi:SM.MI m (some src))(len:ps.length=m.nodes.length)(inj:ps.Nodup)(CM:MvC m src dst)(r:RS s m ps hp src dst [src])(hs0:(m.find src).isSome=true)(hN:m.names.length<=400000)(hNl:∀q∈m.names,q.length<=40000)(hsl:src.length<=1000)(hdl:dst.length<=1000)
  (hk:∀w' s' rep' qs g',PT w0 F0 w' B p {s' with g:=g'} mb rep' se->RS s' m ps hp src dst (src::qs)->qs.Nodup->(∀q,q∈qs↔SM.below q src=true/\q∈m.names)->(∀q,g' q=if q∈qs then none else s'.g q)->K .nilIface w'):Cl P Fn.ak #[pt p 0,S src,S dst] w K:=by
 have g0:∀q,s.g q=if q=dst then(m.find src).map (pt' ps)else(m.find q).map (pt' ps):=λq=>by
  rw[r.g];by_cases c:q=dst
  ·rw[if_pos c,c,if_pos ⟨.inl rfl,by rw[SM.zbT];simp⟩,SM.zbT]
  ·rw[if_neg c,if_neg];rintro⟨h1,h2⟩;simp only[List.mem_singleton]at h2;have:=(SM.zhq CM.d47 CM.s47 h1).2;rw[h2,SM.zbT]at this;exact c this.symm
 have bd:∀q,SM.below q src=true->q≠dst:=λq hb e=>CM.dj q (.inl e) (.inr hb);have fsome:∀q,(m.find q).isSome=true↔q∈m.names:=λq=>(SM.zcn mi.wf q).symm;have gb:∀q,SM.below q src=true->s.g q=(m.find q).map (pt' ps):=λq hb=>by rw[g0,if_neg (bd q hb)]
 apply zdv;unfold zbB;rw[C.au];have ndl:∀q x,m.find q=some x->(nodeM m src dst [src] x).name.length<=900000:=λq x hx=>by
  have e:=mi.nm q x hx;have l:=hNl q ((fsome q).1 (by rw[hx];rfl));unfold nodeM;rw[e];simp only
  split
  ·unfold mvN;rw[List.length_append,List.length_drop];omega
  ·omega
 refine znv (Ns:=dst::m.names) h CM.s47 (by omega) (by simp;omega) (λq hq=>?_) (λq d hq=>?_) λv17 qs w1 o1 ln nq mq0 srt0 B1=>?_
 ·rw[g0]at hq;by_cases c:q=dst
  ·exact⟨by simp[c],by rw[c];omega⟩
  ·rw[if_neg c,Option.isSome_map]at hq;have:=(fsome q).1 hq;exact⟨by simp[this],by have:=hNl q this;omega⟩
 ·have:∃q' x,m.find q'=some x/\d=pt' ps x:=by
   rw[g0]at hq;by_cases c:q=dst
   ·rw[if_pos c]at hq;obtain⟨x,hx,e⟩:=Option.map_eq_some_iff.1 hq;exact⟨_,x,hx,e.symm⟩
   ·rw[if_neg c]at hq;obtain⟨x,hx,e⟩:=Option.map_eq_some_iff.1 hq;exact⟨_,x,hx,e.symm⟩
  obtain⟨q',x,hx,rfl⟩:=this;obtain⟨k,k1,_⟩:=r.nd x (mi.wf.find_lt hx);exact⟨_,k1,ndl q' x hx⟩
 have mq:∀q,q∈qs↔SM.below q src=true/\q∈m.names:=λq=>by
  rw[mq0];constructor
  ·rintro⟨h1,h2⟩;rw[gb q h1,Option.isSome_map]at h2;exact⟨h1,(fsome q).1 h2⟩
  ·rintro⟨h1,h2⟩;rw[gb q h1,Option.isSome_map];exact⟨h1,(fsome q).2 h2⟩
 have ne_src:∀q,SM.below q src=true->q≠src:=λq hb e=>by rw[e]at hb;obtain⟨t,e⟩:=(SM.zaz CM.s47).1 hb;have:=congrArg List.length e;simp at this
 have find:∀q∈qs,∃x,m.find q=some x/\gAt s q=pt' ps x/\zmP s (gAt s q)=cnt q:=λq hq=>by
  obtain⟨h1,h2⟩:=(mq q).1 hq;obtain⟨x,hx⟩:=Option.isSome_iff_exists.1 ((fsome q).2 h2);have e:gAt s q=pt' ps x:=by unfold gAt;rw[gb q h1,hx];rfl
  refine⟨x,hx,e,?_⟩;obtain⟨k,k1,_⟩:=r.nd x (mi.wf.find_lt hx);unfold zmP;rw[e,k1];simp only[nodeM,mi.nm q x hx];rw[if_neg (λh=>ne_src q h1 (by simpa using h.1))]
 have srt:qs.Pairwise λa b=>¬cnt b<cnt a:=srt0.imp_of_mem λ{a b} ha hb hh=>by obtain⟨_,_,_,e1⟩:=find a ha;obtain⟨_,_,_,e2⟩:=find b hb;rw[e1,e2]at hh;exact hh
 have h1:=h.old B1;obtain⟨a17,c17,e17⟩:=zan o1;rw[e17,V.ab,<-e17];refine zt5 (z:=S []) (bytes:=16) U.ae (by kernel_rfl) rfl qs.length (by omega) (by omega) λv0 w2 o2 B2=>?_;have h2:=h1.old B2;have z1:=B1.size;have z2:=B2.size;have z0:=h.tr.kp.size;have hBw:=h.pf.le;have o12:=zbf o1 B2 (Nat.le_refl _);have fresh:∀b,w.heap.size<=b->¬Own p mb s rep b:=λb hb ho=>by have:=(h.pf.lt b ho).2;omega
 refine zaa (λt w'=>∃v s' rep',t=[v]/\PT w0 F0 w' B p s' mb rep' se/\RS s' m ps hp src dst (src::qs)/\w'.ownsRow w1.heap.size T.string 1 v qs.length (qs.map S)/\∀b,v.ownBlock=some b->¬Own p mb s' rep' b) ?_ ?_
 ·rintro t e w3 ⟨v,s3,rep3,rfl,h3,r3,o3,n3⟩;refine zaa (λt w'=>∃g',PT w0 F0 w' B p {s3 with g:=g'} mb rep3 se/\∀q,g' q=if q∈qs then none else s3.g q) ?_ ?_
  ·rintro t e w4 ⟨g',h4,hg⟩;exact hk w4 s3 rep3 qs g' h4 r3 nq mq hg
  obtain⟨av,cv,ev⟩:=zan o3;rw[gs0,ev,V.ae,<-ev];refine zaA (λt w'=>∃i:Nat,∃g,t=[.int .i64 i]/\i<=qs.length/\PT w0 F0 w' B p {s3 with g:=g} mb rep3 se/\(∀q,g q=if q∈qs.take i then none else s3.g q)/\w'.ownsRow w1.heap.size T.string 1 v qs.length (qs.map S)) (λt _=>qs.length - (RowKit.intOf (gs t 0)).toNat) ⟨0,s3.g,rfl,by omega,h3,λq=>by simp,o3⟩ ?_;rintro t e w4 ⟨i,g,rfl,hi,h4,hg,o4⟩;by_cases gl:(i:Int)<qs.length
  ·have hix:i<qs.length:=by omega
   simp(disch:=first|omega|(simp(disch:=first|omega|fail)only[go_sem]<;>omega)|fail)only[go_sem];refine zaa (λt w'=>t=[]/\w'=w4) ?_ ⟨rfl,rfl⟩;rintro t e w5 ⟨rfl,rfl⟩;obtain⟨gb,cur,g1,g2,g3,g4,g5,g6⟩:=zlS o4 hix rfl;have cx:za1 (bk w5 gb) i=some (S qs[i]):=by rw[g2];exact(zbe _ _ _).trans g5
   have tk:∀q,q∈qs.take (i+1)↔q∈qs.take i\/q=qs[i]:=λq=>by rw[List.take_succ_eq_append_getElem hix,List.mem_append,List.mem_singleton]
   obtain⟨y,hy⟩:∃y,y=qs[i]:=⟨_,rfl⟩;rw[<-hy]at cx tk;simp(disch:=first|omega|(simp(disch:=first|omega|fail)only[go_sem,g6,cx]<;>omega)|fail)only[go_sem,g6,cx];refine zaF h4.pf ?_;refine h4.rebase.del y λv' w6 h6=>?_;refine⟨⟨i+1,λq=>if q=y then none else g q,rfl,by omega,h4.join h6,λq=>?_,zbQ o4 h6.tr.kp λb hb=>n3 b hb⟩,?_⟩
   ·show(if q=y then none else g q)=_;by_cases cq:q=y
    ·rw[if_pos cq,if_pos ((tk q).2 (.inr cq))]
    ·rw[if_neg cq,hg];by_cases cc:q∈qs.take i
     ·rw[if_pos cc,if_pos ((tk q).2 (.inl cc))]
     ·rw[if_neg cc,if_neg (λh=>cc (((tk q).1 h).resolve_right cq))]
   ·simp only[RowKit.intOf];omega
  ·have e1:i=qs.length:=by omega
   subst e1;simp(disch:=first|omega|(simp(disch:=first|omega|fail)only[go_sem]<;>omega)|fail)only[go_sem];refine zaa (λ_ _=>False) (λ_ _ _ h=>h.elim) ?_;rw[List.take_length]at hg;exact⟨g,h4,hg⟩
 ·rw[e17,V.ab,<-e17];refine zaA (λt w'=>∃i:Nat,∃v s' rep',t=[v,.int .i64 i]/\i<=qs.length/\w1.heap.size<=w'.heap.size/\PT w0 F0 w' B p s' mb rep' se/\RS s' m ps hp src dst (src::qs.take i)/\w'.ownsRow w.heap.size T.af 1 v17 qs.length ((qs.map (gAt s)).map ptV)/\(∀b,v17.ownBlock=some b->¬Own p mb s' rep' b)/\w'.ownsRow w1.heap.size T.string 1 v i ((qs.take i).map S)/\∀b,v.ownBlock=some b->¬Own p mb s' rep' b) (λt _=>qs.length - (RowKit.intOf (gs t 1)).toNat) ⟨0,v0,s,rep,rfl,by omega,z2,h2,by rw[List.take_zero];exact r,o12,λb hb=>fresh b (zaW o12 b hb).1,o2,λb hb=>fresh b (by have:=(zaW o2 b hb).1;omega)⟩ ?_;rintro t e w3 ⟨i,v,s3,rep3,rfl,hi,z3,h3,r3,o17,n17,o3,n3⟩;by_cases gl:(i:Int)<qs.length
  ·have hix:i<qs.length:=by omega
   simp(disch:=first|omega|(simp(disch:=first|omega|fail)only[go_sem]<;>omega)|fail)only[go_sem];refine zaa (λt w'=>t=[]/\w'=w3) ?_ ⟨rfl,rfl⟩;rintro t e w4 ⟨rfl,rfl⟩;refine zaa (λt w'=>∃v s' rep',t=[v]/\w1.heap.size<=w'.heap.size/\PT w0 F0 w' B p s' mb rep' se/\RS s' m ps hp src dst (src::qs.take (i+1))/\w'.ownsRow w.heap.size T.af 1 v17 qs.length ((qs.map (gAt s)).map ptV)/\(∀b,v17.ownBlock=some b->¬Own p mb s' rep' b)/\w'.ownsRow w1.heap.size T.string 1 v (i+1) ((qs.take (i+1)).map S)/\∀b,v.ownBlock=some b->¬Own p mb s' rep' b) ?_ ?_
   ·rintro t e w5 ⟨v5,s5,rep5,rfl,z5,h5,r5,o5,n5,o6,n6⟩;simp(disch:=first|omega|(simp(disch:=first|omega|fail)only[go_sem]<;>omega)|fail)only[go_sem];refine⟨⟨i+1,v5,s5,rep5,rfl,by omega,z5,h5,r5,o5,n5,o6,n6⟩,?_⟩;simp only[RowKit.intOf];omega
   ·obtain⟨c,hc⟩:∃c,c=qs[i]:=⟨_,rfl⟩;have hcq:c∈qs:=by rw[hc];exact List.getElem_mem hix
    obtain⟨hcb,hcn⟩:=(mq c).1 hcq;obtain⟨y,hy,gy,_⟩:=find c hcq;have hck:=mi.kp c y hy;obtain⟨hpat,ep,c47,xx,hxx,em,ec⟩:=SM.zhM CM.ks CM.s47 CM.kd CM.d47 hck hcb;obtain⟨x,hx,hdx⟩:=SM.zb6 (mi.cl c y hy c47 (λe=>ne_src c hcb (by injection e with e;exact e.symm)));have hcnt:cnt c=cnt (SM.parent c)+1:=by have h0:List.count 47 xx=0:=List.count_eq_zero.2 hxx.2.1;have e:=congrArg cnt ec;unfold cnt at e⊢;rw[List.count_append,List.count_cons,h0]at e;simpa using e
    have hpL:SM.parent c∈src::qs.take i:=by
     rcases hpat with e|e
     ·rw[e];simp
     ·refine List.mem_cons_of_mem _ ?_;have hpq:SM.parent c∈qs:=(mq _).2 ⟨e,(fsome _).1 (by rw[hx];rfl)⟩;obtain⟨j,hj,ej⟩:=List.getElem_of_mem hpq;have ji:j<i:=by
       rcases Nat.lt_trichotomy j i with q|q|q
       ·exact q
       ·subst q;rw[<-hc]at ej;rw[<-ej]at hcnt;omega
       ·have:=List.pairwise_iff_getElem.1 srt i j hix hj q;rw[ej,<-hc]at this;omega
      rw[<-ej,List.mem_take_iff_getElem];exact⟨j,by omega,rfl⟩
    have hcL:c∉src::qs.take i:=λhm=>by
     rcases List.mem_cons.1 hm with q|q
     ·exact ne_src c hcb q
     ·obtain⟨j,hj,ej⟩:=List.mem_take_iff_getElem.1 q;rw[hc]at ej;have:=(List.getElem_inj nq).1 ej;omega
    have hL:∀q∈src::qs.take i,At src q:=λq hq=>by
     rcases List.mem_cons.1 hq with e|e
     ·exact .inl e
     ·exact .inr ((mq q).1 (List.mem_of_mem_take e)).1
    obtain⟨n1,n2,nn,ky,kk,k1,k2,npt,nmv,natp,rn⟩:=RS.next mi len inj CM r3 hL hcb hcL hpL hx hdx hy;have hmk:=SM.znV CM.ks CM.s47 CM.kd CM.d47 c.length c (Nat.le_refl _) hck (.inr hcb);have hcl:=hNl c hcn;obtain⟨rr,_,ecr⟩:=(SM.zhr CM.s47).1 (show At src c from .inr hcb);have emr:mvN src dst c=dst++rr:=by rw[ecr];unfold mvN;rw[List.drop_left]
    have hml:(mvN src dst c).length<=41000:=by have:=congrArg List.length ecr;rw[emr];simp only[List.length_append]at this⊢;omega
    have hL2:src::qs.take (i+1)=(src::qs.take i)++[c]:=by rw[hc,List.take_succ_eq_append_getElem hix];rfl
    obtain⟨gb,cur,g1,g2,g3,g4,g5,g6⟩:=zmq o17 (i:=i) (by rw[List.length_map];exact hix) (by rw[List.length_map]);rw[List.getElem_map,<-hc,gy]at g5;have cx:za1 (bk w4 gb) i=some (pt (pt' ps y) 0):=by rw[g2];exact(zbe _ _ _).trans g5
    simp(disch:=first|omega|(simp(disch:=first|omega|fail)only[go_sem,g6,cx]<;>omega)|fail)only[go_sem,g6,cx];have hb:=h3.rebase;refine zcz hb.pf k1 ?_;rw[show(⟨nodeM m src dst (src::qs.take i) y,ky⟩:PM.Nd).n.name=c from nn];have zr:∀(u:World)(L:Value->World->Prop),(∀u',Below u.heap.size u u'->L (S (mvN src dst c)) u')->Cl P Fn.aV #[S c,S src,S dst] u L:=λu L hL=>by have:=zmN (w:=u) (K:=L) (src:=src) (dst:=dst) (r:=rr) (by rw[<-ecr];omega) (by omega) (λu' B=>by rw[<-emr];exact hL u' B);rw[<-ecr]at this;exact this
    refine zr _ _ λw5 B5=>?_;have hb5:=hb.old B5;refine zcz hb5.pf k1 ?_;rw[show(⟨nodeM m src dst (src::qs.take i) y,ky⟩:PM.Nd).n.name=c from nn];refine zoC hb5 (by omega) (by rw[(SM.zc8 hck).1];exact n1) k1 (by rw[show(⟨nodeM m src dst (src::qs.take i) y,ky⟩:PM.Nd).n.name=c from nn];omega) (x:=pt' ps x) (by rw[show(⟨nodeM m src dst (src::qs.take i) y,ky⟩:PM.Nd).n.name=c from nn,SM.zky hck];exact n2) k2 rfl λw6 h6=>?_;rw[show(⟨nodeM m src dst (src::qs.take i) y,ky⟩:PM.Nd).n.name=c from nn]at h6;refine zaa (λt w'=>w'=w6) ?_ ?_;rotate_left
    ·rw[zdc Tryz.underlying116];simp(disch:=first|omega|(simp(disch:=first|omega|fail)only[go_sem]<;>omega)|fail)only[go_sem]
    rintro t e w6' rfl;obtain⟨s6,hs6⟩:∃s6,s6=s3.setNd (pt' ps x) ⟨nodeM m src dst (src::qs.take i) x,some (zb9 kk c none)⟩:=⟨_,rfl⟩;rw[<-hs6]at h6 rn;have k16:s6.nd (pt' ps y)=some ⟨nodeM m src dst (src::qs.take i) y,ky⟩:=by rw[hs6];simp only[St.setNd];rw[if_neg (Ne.symm npt)];exact k1
    have k26:s6.nd (pt' ps x)=some ⟨nodeM m src dst (src::qs.take i) x,some (zb9 kk c none)⟩:=by rw[hs6];simp[St.setNd]
    have H6:=h3.join h6;have z4:=h3.tr.kp.size;have z6:=H6.tr.kp.size;have o6:=zbQ o3 h6.tr.kp n3;have nv6:∀b,v.ownBlock=some b->¬Own p mb s6 rep3 b:=λb hv=>h6.not (zaW o3 b hv).2 (n3 b hv);have lv:∀b,v.ownBlock=some b->w1.heap.size<=b:=λb hv=>(zaW o3 b hv).1;have o176:=zbQ o17 h6.tr.kp n17;have nv17:∀b,v17.ownBlock=some b->¬Own p mb s6 rep3 b:=λb hv=>h6.not (zaW o17 b hv).2 (n17 b hv);have hw16:w1.heap.size<=w6'.heap.size:=Nat.le_trans z3 h6.tr.kp.size;refine zcz h6.pf k16 ?_;rw[show(⟨nodeM m src dst (src::qs.take i) y,ky⟩:PM.Nd).n.name=c from nn];refine put1 (z:=S []) (bytes:=16) U.ae (by kernel_rfl) rfl (by omega) (x:=S c) rfl o6 (by omega) hw16 λv7 w7 o7 k7 nw7=>?_;have H7:=H6.other k7 (λb ho hv=>nv6 b hv ho) (λb hv=>by have:=lv b hv;omega);have hb7:=H7.rebase;refine ziM hb7 k16 λw8 h8=>?_;refine zaF h8.pf ?_;refine h8.put (mvN src dst c) (pt' ps y) λw9 h9=>?_;refine regHere h9 (f:=pt' ps y) (x:=pt' ps x) (nf:=⟨{nodeM m src dst (src::qs.take i) y with name:=mvN src dst c},ky⟩) (nx:=⟨nodeM m src dst (src::qs.take i) x,some (zb9 kk c none)⟩) (by simp[St.putG,St.setNd]) (by show(mvN src dst c).length<=_;omega) ?_ ?_ rfl λw10 h10=>?_
    ·show(if norm (Pa.clean (SM.dirP (mvN src dst c)))=mvN src dst c then some (pt' ps y)else s6.g _)=_;rw[SM.zky hmk,ep,if_neg nmv,hs6];show s3.g _=_;rw[r3.g,if_pos ⟨natp.1,by rw[natp.2];exact hpL⟩,natp.2,hx];rfl
    ·show(if pt' ps x=pt' ps y then _ else s6.nd (pt' ps x))=_;rw[if_neg npt,k26]
    ·have z7:=k7.size;have z10:=h10.tr.kp.size;have o177:=zbQ o176 k7 λb h17 hv=>by obtain⟨c1,e1⟩:=zfS o176 h17;obtain⟨c2,e2⟩:=zfS o6 hv;rw[e1]at e2;injection e2 with e2;injection e2 with _ e2;exact absurd e2 (by decide)
     have nv7:∀b,v7.ownBlock=some b->¬Own p mb s6 rep3 b:=λb hv=>by
      rcases nw7 b hv with q|q
      ·exact nv6 b q
      ·intro ho;have:=(H6.pf.lt b ho).2;omega
     rw[hL2];refine⟨v7,_,rep3,rfl,by omega,H7.join h10,rn,zbQ o177 h10.tr.kp nv17,λb hb=>h10.not (zaW o177 b hb).2 (nv17 b hb),?_,λb hb=>h10.not (zaW o7 b hb).2 (nv7 b hb)⟩;have e7:(qs.take (i+1)).map S=(qs.take i).map S++[S c]:=by rw[hc,List.take_succ_eq_append_getElem hix,List.map_append];rfl
     rw[e7];exact zbQ o7 h10.tr.kp nv7
  ·have e1:i=qs.length:=by omega
   subst e1;simp(disch:=first|omega|(simp(disch:=first|omega|fail)only[go_sem]<;>omega)|fail)only[go_sem];refine zaa (λ_ _=>False) (λ_ _ _ h=>h.elim) ?_;rw[List.take_length]at o3 r3;exact⟨v,s3,rep3,rfl,h3,r3,o3,n3⟩
end
end Go.Proofs.YtdljebgllipdjaaGreatDoor.X
end
section
namespace Go.X
open Go Go.RowKit Go.Lib
namespace PM
open SM (At mvN)
theorem zjE{d:Str}(hk:SM.Kept d)(h:d≠[47]):SM.below [47] d=false:=by rw[Bool.eq_false_iff];intro hb;obtain⟨r,e⟩:=(SM.zaz h).1 hb;have:=congrArg List.length e;have:0<d.length:=List.length_pos_iff.2 (SM.zb5 hk);simp at*;omega
theorem zhN{m:SM.Mem}(mi:SM.MI m none){d:Str}(hk:SM.Kept d)(h47:d≠[47])(hd:m.isDir d=false):∀(k:Nat)(q:Str),q.length<=k->SM.below q d=true->m.find q=none
 |0,q,hl,hb=>by have:q=[]:=List.length_eq_zero_iff.1 (by omega);obtain⟨r,e⟩:=(SM.zaz h47).1 hb;rw[this]at e;simp at e
 |k+1,q,hl,hb=>by
  cases e:m.find q with
  |none=>rfl
  |some x=>
   exfalso;have hq47:q≠[47]:=λe=>by rw[e,zjE hk h47]at hb;cases hb
   have hkq:=mi.kp q x e;have hdir:=mi.cl q x e hq47 (λe=>by cases e);rcases(SM.zcO hkq hq47 hk h47).1 hb with h|h
   ·rw[h,hd]at hdir;cases hdir
   ·have hp47:SM.parent q≠[47]:=λe=>by rw[e,zjE hk h47]at h;cases h
    have:=zhN mi hk h47 hd k (SM.parent q) (by have:=(SM.zaZ q).resolve_right hp47;omega) h;unfold SM.Mem.isDir at hdir;rw[this]at hdir;cases hdir
theorem mvc_of{m:SM.Mem}(mi:SM.MI m none){src dst:Str}(ks:SM.Kept src)(kd:SM.Kept dst)(ne:src≠dst)(s47:src≠[47])(d47:dst≠[47])(nb:SM.below dst src=false)(nd:m.isDir dst=false)(hs:(m.find src).isSome=true):MvC m src dst:=by
 refine⟨ks,kd,s47,d47,λq h1 h2=>?_,λq h=>zhN mi kd d47 nd q.length q (Nat.le_refl _) h,nd⟩;obtain⟨r1,hr1,e1⟩:=(SM.zhr d47).1 h1;obtain⟨r2,hr2,e2⟩:=(SM.zhr s47).1 h2;rw[e1]at e2;rcases List.append_eq_append_iff.1 e2 with⟨a,a1,a2⟩|⟨a,a1,a2⟩
 ·cases a with
  |nil=>exact ne (by simpa using a1)
  |cons c a=>
   rcases hr1 with rfl|⟨t,rfl⟩
   ·cases a2
   ·injection a2 with c1 _;have hb:SM.below src dst=true:=(SM.zaz d47).2 ⟨a,by rw[a1,<-c1]⟩;rw[zhN mi kd d47 nd src.length src (Nat.le_refl _) hb]at hs;cases hs
 ·cases a with
  |nil=>exact ne (by simpa using a1.symm)
  |cons c a=>
   rcases hr2 with rfl|⟨t,rfl⟩
   ·cases a2
   ·injection a2 with c1 _;have hb:SM.below dst src=true:=(SM.zaz s47).2 ⟨a,by rw[a1,<-c1]⟩;rw[nb]at hb;cases hb
theorem zpx{m:SM.Mem}{X:Option Str}(mi:SM.MI m X)(perm:Int):∀(k:Nat)(l:Str),l.length<=k->SM.Kept l->l≠[47]->m.clear l=true->∀q x,(m.parents l perm).find q=some x->m.find q=some x\/SM.below l q=true:=by
 intro k
 induction k with
 |zero=>intro l hl hk;exact absurd (List.length_eq_zero_iff.1 (by omega)) (SM.zb5 hk)
 |succ k ih=>
  intro l hl hk l47 hc q x hq;obtain⟨c1,c2⟩:=SM.zdt hc l47;have hkp:=SM.zdj hk;cases e:m.find (SM.parent l)with
  |some y=>rw[SM.zbN e]at hq;exact .inl hq
  |none=>
   have p47:SM.parent l≠[47]:=λq=>by have:=mi.root;rw[q]at e;rw[e]at this;cases this
   have hlt:=(SM.zaZ l).resolve_right p47;have st:SM.below l (SM.parent l)=true:=(SM.zcO hk l47 hkp p47).2 (.inl rfl);rw[SM.zeG mi.root e]at hq;have wf:=(mi.parents perm (k+1) (SM.parent l) (by omega) hkp p47 c2).1.wf;rw[(SM.zeF wf _ _).2.1]at hq;by_cases c:q=SM.parent l
   ·exact .inr (by rw[c];exact st)
   ·rw[if_neg c]at hq;rcases ih (SM.parent l) (by omega) hkp p47 c2 q x hq with h|h
    ·exact .inl h
    ·right;by_cases q47:q=[47]
     ·rw[q47]at h⊢;unfold SM.below at h⊢;simp only[if_true]at h⊢
      first|exact h|simpa using l47
     ·obtain⟨t,e1⟩:=(SM.zaz q47).1 h;obtain⟨u,e2⟩:=(SM.zaz p47).1 st;exact(SM.zaz q47).2 ⟨t++47::u,by rw[e2,e1];simp⟩
theorem ztO{m:SM.Mem}{l:Str}(h1:∀x,m.find (SM.parent l)=some x->(m.node x).dir=true)(h2:m.clear (SM.parent l)=true):m.clear l=true:=by
 have hs:m.clear (SM.parent l)=m.clearF (SM.parent l) (l.length+1):=by
  unfold SM.Mem.clear;have:=SM.zjm l;rcases SM.zaZ l with q|q
  ·exact SM.zex m _ _ _ (by omega) (by omega)
  ·rw[q];simp[SM.Mem.clearF]
 rw[hs]at h2;unfold SM.Mem.clear;simp only[SM.Mem.clearF];split
 ·rfl
 ·cases e:m.find (SM.parent l)with
  |none=>exact h2
  |some x=>
   simp only
   rw[if_neg (by rw[h1 x e];simp)];exact h2
theorem zsC{m M:SM.Mem}{src dst:Str}{L:List Str}{X:Option Str}(mi:SM.MI m X)(C:MvC m src dst)(hM:SM.Mvd src dst L m M)(hL:∀q∈L,At src q):∀(k:Nat)(l:Str),l.length<=k->SM.Kept l->(l=dst\/SM.below dst l=true)->m.clear l=true->M.clear l=true:=by
 intro k
 induction k with
 |zero=>intro l hl hk;exact absurd (List.length_eq_zero_iff.1 (by omega)) (SM.zb5 hk)
 |succ k ih=>
  intro l hl hk hb hc;have hkp:=SM.zdj hk;by_cases l47:l=[47]
  ·rw[l47];exact SM.zkP M
  have hpb:SM.below dst (SM.parent l)=true\/SM.parent l=[47]:=by
   by_cases p47:SM.parent l=[47]
   ·exact .inr p47
   ·left;have st:SM.below l (SM.parent l)=true:=(SM.zcO hk l47 hkp p47).2 (.inl rfl);rcases hb with rfl|hb
    ·exact st
    ·obtain⟨t,e⟩:=(SM.zaz l47).1 hb;obtain⟨u,e2⟩:=(SM.zaz p47).1 st;exact(SM.zaz p47).2 ⟨u++47::t,by rw[e,show l++47::t=(SM.parent l++47::u)++47::t by rw[<-e2]];simp⟩
  obtain⟨n1,n2⟩:=zoT mi C hkp hpb;have fp:M.find (SM.parent l)=m.find (SM.parent l):=by rw[hM.find,if_neg (λh=>n2 h.1),if_neg (λh=>n1 (hL _ h))]
  obtain⟨c1,c2⟩:=SM.zdt hc l47;refine ztO (λx hx=>?_) ?_
  ·rw[fp]at hx;rw[hM.node];exact c1 x hx
  ·by_cases p47:SM.parent l=[47]
   ·rw[p47];exact SM.zkP M
   ·have hlt:=(SM.zaZ l).resolve_right p47;exact ih (SM.parent l) (by omega) hkp (.inr (hpb.resolve_right p47)) c2
theorem zsB{m M:SM.Mem}{src dst:Str}{L L':List Str}(h:SM.Mvd src dst L m M)(hL:∀q,q∈L↔q∈L'):SM.Mvd src dst L' m M:=⟨h.wf,λq=>by rw[h.find];simp only[hL],h.len,λx=>by rw[h.node];simp only[hL],h.hs⟩
theorem zpw{m M:SM.Mem}{X:Option Str}(mi:SM.MI m X){src dst:Str}{qs:List Str}(C:MvC m src dst)(ne:src≠dst)(hs:(m.find src).isSome=true)(hc:m.clear dst=true)(h:SM.Mvd src dst (src::qs) m M)(hq:∀q,q∈qs↔SM.below q src=true/\q∈m.names):m.renameS src dst=(M.parents dst 0,SM.Ans.z):=by
 unfold SM.Mem.renameS;have hn:¬(m.find src).isNone=true:=by
  cases e:m.find src with
  |none=>rw[e]at hs;cases hs
  |some x=>simp
 rw[if_neg ne,if_neg hn];simp only
 obtain⟨p1,p2,p3,p4⟩:=mi.parents 0 dst.length dst (Nat.le_refl _) C.kd C.d47 hc;have pn:=zpx mi 0 dst.length dst (Nat.le_refl _) C.kd C.d47 hc;have atL:∀q∈src::qs,At src q:=λq hm=>by
  rcases List.mem_cons.1 hm with e|e
  ·exact .inl e
  ·exact .inr ((hq q).1 e).1
 have mem:∀q,q∈((m.parents dst 0).names.filter λn=>decide (n=src)||SM.below n src)↔q∈src::qs:=λq=>by
  rw[List.mem_filter,SM.zcn p1.wf];simp only[Bool.or_eq_true,decide_eq_true_eq];constructor
  ·rintro⟨h1,h2⟩;obtain⟨x,hx⟩:=Option.isSome_iff_exists.1 h1;rcases pn q x hx with h3|h3
   ·rcases h2 with rfl|h2
    ·simp
    ·exact List.mem_cons_of_mem _ ((hq q).2 ⟨h2,(SM.zcn mi.wf q).2 (by rw[h3];rfl)⟩)
   ·exact absurd h2 (zoT mi C (by
     rcases pn q x hx with h4|_
     ·exact mi.kp q x h4
     ·exact p1.kp q x hx) (.inl h3)).1
  ·intro hm;refine⟨?_,atL q hm⟩;have:(m.find q).isSome=true:=by
    rcases List.mem_cons.1 hm with e|e
    ·rw[e];exact hs
    ·exact(SM.zcn mi.wf q).1 ((hq q).1 e).2
   obtain⟨x,hx⟩:=Option.isSome_iff_exists.1 this;rw[(p4 q x hx).1];rfl
 have srt:=p1.wf.srt;have nd:(m.parents dst 0).names.Nodup:=srt.imp λh e=>by rw[e]at h;exact List.lt_irrefl _ h
 have f:=SM.znd p1 C.s47 C.d47 C.dj ((m.parents dst 0).names.filter λn=>decide (n=src)||SM.below n src) (nd.filter _) λc hcm=>⟨atL c ((mem c).1 hcm),(List.mem_filter.1 hcm).1⟩;have g:=zpy mi C h atL 0 dst.length dst (Nat.le_refl _) C.kd (.inl rfl) hc;rw[zqY (zsB f mem) g]
end PM
end Go.X
end
section
namespace Go.Proofs.YtdljebgllipdjaaGreatDoor.X
open Go Go.X Go.Proofs Go.RowKit Go.X.PM Go.Lib
open Go.X.SM (At mvN)
section
variable{w w' w0:World}{F0:Fp}{K:Value->World->Prop}{B p mb:Nat}{s:PM.St}{rep:Nat->Rep}{se:Nat->Nat×Nat}
 {m:SM.Mem} {ps:List Nat} {hp:Int->Nat} {E:PM.Ex} {X:Option Str}
theorem regMove{pv:Int}(hpv:0<=pv/\pv<=4294967295)(hpm:orI 2147483648 pv=dirM pv){l:Str}{y:Nat}(h:PT w0 F0 w B p s mb rep se)(r:PM.Rel s m ps hp [] (some l))(hk:SM.Kept l)(hl:l≠[47])(h900:l.length<=900)(hc:m.clear l=true)(hy:m.find l=some y)
  (hK:∀w' s' rep' ps',PT w0 F0 w' B p s' mb rep' se->PM.Rel s' (m.parents l pv) ps' hp [] none->s'.hs=s.hs->K (tup []) w'):
  Cl P Fn.ae #[pt p 0,pt (pt' ps y) 0,.int .u32 pv] w K:=by
 apply za4;unfold zaS;have ly:=r.lt hy;have hym:=r.mi.nm _ _ hy;obtain⟨k,hf,_⟩:=r.nd y ly;obtain⟨c1,c2⟩:=SM.zdt hc hl;have hkp:=SM.zdj hk;have hkd:=SM.zky hk;have gp:=r.g (SM.parent l);rw[show eg ([]:PM.Ex) (SM.parent l)=none from rfl,Option.none_or]at gp;obtain⟨p1,p2,p3,p4⟩:=r.mi.parents pv l.length l (Nat.le_refl _) hk hl hc;refine zaa (λt w'=>w'=w) ?_ ?_;rotate_left
 ·rw[zqw U.ag];simp(disch:=first|omega|(simp(disch:=first|omega|fail)only[go_sem,Option.isNone_some]<;>omega)|fail)only[go_sem,Option.isNone_some]
 rintro t e w1 rfl;rw[C.ai];refine zdC h hf (by show(m.node y).name.length<=_;rw[hym];omega) λw2 h2=>?_;rw[show((⟨m.node y,k⟩:PM.Nd).n.name)=l from hym,hkd];refine zaa (λt w'=>∃s1 rep1 ps1 x,t=[pt (pt' ps1 x) 0]/\PT w0 F0 w' B p s1 mb rep1 se/\PM.Rel s1 (m.parents l pv) ps1 hp [] (some l)/\(m.parents l pv).find (SM.parent l)=some x/\s1.hs=s.hs/\pt' ps1 y=pt' ps y) ?_ ?_
 ·rintro t e w3 ⟨s1,rep1,ps1,x,rfl,h3,r3,hx,hhs,epy⟩;have hdx:((m.parents l pv).node x).dir=true:=by obtain⟨y,e1,e2⟩:=SM.zb6 p2;rw[hx]at e1;injection e1 with e1;rw[e1];exact e2
  obtain⟨q1,q2⟩:=p4 l y hy;obtain⟨kk,k1,r4⟩:=r3.join hl hx hdx q1;obtain⟨ky,hf3,_⟩:=r3.nd y (r3.lt q1);rw[epy]at hf3 r4;rw[gs0,C.ao];refine ziW h3.pf k1 rfl ?_;rw[C.aw];refine zkN h3 k1 rfl hf3 λw4 h4=>?_;have en:((⟨(m.parents l pv).node y,ky⟩:PM.Nd).n.name)=l:=by rw[q2];exact hym
  rw[en]at h4;exact hK w4 _ _ _ h4 r4 hhs
 ·cases hfp:m.find (SM.parent l)with
  |some x=>rw[hfp]at gp;rw[gp];simp only[Option.map_some];rw[znG];simp(disch:=first|omega|(simp(disch:=first|omega|fail)only[go_sem]<;>omega)|fail)only[go_sem];rw[SM.zbN hfp];exact⟨s,rep,ps,x,rfl,h2,r,hfp,rfl,rfl⟩
  |none=>
   rw[hfp]at gp;rw[gp];simp only[Option.map_none];rw[zrU];have hp47:SM.parent l≠[47]:=λq=>by have:=r.mi.root;rw[<-q,hfp]at this;cases this
   have hlt:=(SM.zaZ l).resolve_right hp47;rw[cd_t,C.aq];refine zcz h2.pf hf ?_;rw[show((⟨m.node y,k⟩:PM.Nd).n.name)=l from hym,C.aD];refine zg4 (by omega) λw3 B3=>?_;have h3:=h2.old B3;rw[(SM.zc8 hk).2,C.bX];refine zqh (by omega) λw4 B4=>?_;have h4:=h3.old B4;have hpdl:(Pa.clean (SM.dirP l)).length<=1000:=by
    have:=Pa.clean_length_le_succ (SM.dirP l);have hd:(SM.dirP l).length<=l.length:=by
     unfold SM.dirP;split
     ·rw[List.length_take];omega
     ·simp
    omega
   generalize hpd:Pa.clean (SM.dirP l)=pd at*;rw[C.am];apply zb7;unfold zbi;rw[C.ae];refine zaR (by omega) λw5 B5=>?_;have h5:=h4.old B5;rw[hkd,C.ab];refine zaF h5.pf ?_;rw[h5.pf.look,gp];rw[zar,zaq];refine zaa (λt w'=>∃s1 rep1 ps1,PT w0 F0 w' B p s1 mb rep1 se/\PM.Rel s1 (m.parents l pv) ps1 hp [] (some l)/\s1.hs=s.hs/\pt' ps1 y=pt' ps y) ?_ ?_
   ·rintro t e w6 ⟨s1,rep1,ps1,h6,r6,hhs,epy⟩;refine zaa (λt w'=>w'=w6) ?_ ?_
    ·rintro t e w7 rfl;rw[C.af];refine zbV h6 (by omega) λw8 h8=>?_;rw[hkd];obtain⟨x,e1,e2⟩:=SM.zb6 p2;have g8:=r6.g (SM.parent l);rw[show eg ([]:PM.Ex) (SM.parent l)=none from rfl,Option.none_or,e1]at g8;simp only[Option.map_some]at g8;rw[g8,zar,zaq];simp only[Option.isSome_some,if_true];rw[zdc Tryz.underlying116];simp(disch:=first|omega|(simp(disch:=first|omega|fail)only[go_sem]<;>omega)|fail)only[go_sem];exact⟨s1,rep1,ps1,x,rfl,h8,r6,e1,hhs,epy⟩
    ·rw[show tup [Value.nilIface]=Value.nilIface from rfl,zdc Tryz.underlying116];simp(disch:=first|omega|(simp(disch:=first|omega|fail)only[go_sem]<;>omega)|fail)only[go_sem]
   ·simp(disch:=first|omega|(simp(disch:=first|omega|fail)only[go_sem,Option.map_none,Option.isSome_none]<;>omega)|fail)only[go_sem,Option.map_none,Option.isSome_none];refine zeI h5 λd rd w6 hd0 h6=>?_;refine zeR h6 (n:=⟨⟨true,0,[],0,SM.parent l⟩,some λ_=>none⟩) (by simp[St.setNd]) λw7 h7=>?_;rw[zqc]at h7;refine zaF h7.pf ?_;refine h7.put (SM.parent l) d λw8 h8=>?_;have r8:=r.push (l:=SM.parent l) ⟨true,orI 2147483648 pv,[],0,[]⟩ hd0 (by simp);have e8:(⟨{(⟨true,orI 2147483648 pv,[],0,[]⟩:SM.Node)with name:=SM.parent l},kz true⟩:PM.Nd)=⟨⟨true,dirM pv,[],0,SM.parent l⟩,some λ_=>none⟩:=by rw[hpm];rfl
    simp only at r8;rw[show kz true=some λ_=>none from rfl]at e8 r8;rw[hpm]at r8;have hpl:SM.parent l≠l:=λe=>by rw[e]at hlt;omega
    refine zns hpv hpm (SM.parent l).length (Nat.le_refl _) h8 r8 hkp hp47 (by omega) c2 (by unfold SM.Mem.isDir;rw[hfp]) (λq hq=>?_) (λe he=>by cases he) λw9 s9 rep9 ps9 h9 r9 hhs _=>?_
    ·injection hq with hq;rw[<-hq];exact⟨by rw[hy];rfl,Ne.symm hpl⟩
    ·obtain⟨hhs,t,et⟩:=hhs;refine⟨s9,rep9,ps9,h9,?_,hhs,?_⟩
     ·rw[SM.zeG r.mi.root hfp,hpm];exact r9
     ·have:y<ps.length:=by rw[r.len];exact ly
      rw[et,znY (by rw[List.length_append];omega),znY this,List.getElem_append_left this]
theorem zrK{src dst:Str}{y:Nat}{k2:List Value->World->Prop}(h:PT w0 F0 w B p s mb rep se)(r:PM.Rel s m ps hp [] none)(C':MvC m src dst)(ne:src≠dst)(hy:m.find src=some y)(hc:m.clear dst=true)(hsl:src.length<=800)(hdl:dst.length<=800)(hN:m.names.length<=400000)(hNl:∀q∈m.names,q.length<=40000)
  (hk:∀w',FsI w0 F0 w' B p (m.renameS src dst).1 hp se->k2 [] w'):
  st P (zah Fn.af #[pt p 0,S src]) w λt28 w7=>
  jn (λs3 u3 w8=>
  st P (zah Fn.ab #[pt p 0]) w8 λt33 w9=>
  st P (za3 T.ai t33 (S src) false) w9 λt35 w10=>
  st P (zah Fn.aD #[t35,S dst]) w10 λt38 w11=>
  st P (zah Fn.ab #[pt p 0]) w11 λt40 w12=>
  st P (zee T.ai t40 (S dst) t35) w12 λ_ w13=>
  st P (zah Fn.ak #[pt p 0,S src,S dst]) w13 λt46 w14=>
  jn (λs4 u4 w15=>
  st P (zah Fn.ab #[pt p 0]) w15 λt51 w16=>
  st P (zac .delete #[T.ai,T.string] T.aU #[false,false] #[t51,S src]) w16 λ_ w17=>
  st P (zah Fn.ae #[pt p 0,t35,(.int .u32 0)]) w17 λt55 w18=>
  k2 [] w18) λk4=>
  pu P (oBin .neq T.aB false true t46 .nilIface) λt48=>
  cd t48 (
  K (tup [t46]) w14) (
  k4 [] w14)) λk3=>
  pu P (oBin .neq T.aB false true t28 .nilIface) λt30=>
  cd t30 (
  K (tup [t28]) w7) (
  k3 [] w7):=by
 rw[C.ah];refine zkM h r C'.ks C'.s47 (by omega) hy λw1 s1 h1 r1 nk1 e1 e2=>?_;refine zaa (λt w'=>w'=w1) ?_ ?_;rotate_left
 ·rw[zdc Tryz.underlying116];simp(disch:=first|omega|(simp(disch:=first|omega|fail)only[go_sem]<;>omega)|fail)only[go_sem]
 rintro t e w1' rfl;rw[C.ab];refine zaF h1.pf ?_;have gs1:=r1.g src;rw[show eg ([]:PM.Ex) src=none from rfl,Option.none_or,hy]at gs1;rw[h1.pf.look1,gs1,show optP ((some y).map (pt' ps))=pt (pt' ps y) 0 from rfl];obtain⟨k,k1,rs⟩:=RS.start r1 nk1 C' hy;rw[C.aR];refine ziM h1 k1 λw2 h2=>?_;rw[C.ab];refine zaF h2.pf ?_;refine h2.put dst (pt' ps y) λw3 h3=>?_;rw[C.ap];refine zoo h3 r1.mi r1.len r1.inj C' rs (by rw[hy];rfl) hN hNl (by omega) (by omega) λw4 s4 rep4 qs g4 h4 r4 nq mq hg4=>?_;refine zaa (λt w'=>w'=w4) ?_ ?_;rotate_left
 ·rw[zdc Tryz.underlying116];simp(disch:=first|omega|(simp(disch:=first|omega|fail)only[go_sem]<;>omega)|fail)only[go_sem]
 rintro t e w4' rfl;rw[C.ab];refine zaF h4.pf ?_;refine h4.del src λv w5 h5=>?_;have nsrc:src∉qs:=λhm=>by obtain⟨t,e⟩:=(SM.zaz C'.s47).1 ((mq src).1 hm).1;have:=congrArg List.length e;simp at this
 have memL:∀q,q∈src::qs↔At src q/\q∈m.names:=λq=>by
  rw[List.mem_cons,mq];constructor
  ·rintro(rfl|⟨a,b⟩)
   ·exact⟨.inl rfl,(SM.zcn r.mi.wf _).2 (by rw[hy];rfl)⟩
   ·exact⟨.inr a,b⟩
  ·rintro⟨a|a,b⟩
   ·exact .inl a
   ·exact .inr ⟨a,b⟩
 have M:=SM.znd r1.mi C'.s47 C'.d47 C'.dj (src::qs) (List.nodup_cons.2 ⟨nsrc,nq⟩) λc hc=>(memL c).1 hc;obtain⟨m',hm'⟩:∃m',m'=(src::qs).foldl (λm n=>m.moved src dst n) m:=⟨_,rfl⟩;rw[<-hm']at M;have r5:PM.Rel (St.putG {s4 with g:=g4} src none) m' ps hp [] (some dst):=by
  refine RS.done r1.mi r1.len r1.inj C' r4 M memL (by rw[hy];rfl) (λq=>?_) rfl rfl;show(if q=src then none else g4 q)=_;rw[hg4];by_cases c:q=src
  ·rw[if_pos c,if_pos (by rw[c];simp)]
  ·rw[if_neg c];by_cases c2:q∈qs
   ·rw[if_pos c2,if_pos (by simp[c2])]
   ·rw[if_neg c2,if_neg (by simp[c,c2])]
 have fd:m'.find dst=some y:=by rw[M.find,if_pos ⟨.inl rfl,by rw[SM.zbT];simp⟩,SM.zbT];exact hy
 have hc':m'.clear dst=true:=zsC r.mi C' M (λq hm=>((memL q).1 hm).1) dst.length dst (Nat.le_refl _) C'.kd (.inl rfl) hc;rw[C.ag];refine regMove (pv:=0) ⟨by omega,by omega⟩ (by decide) h5 r5 C'.kd C'.d47 (by omega) hc' fd λw6 s6 rep6 ps6 h6 r6 _=>?_;refine hk w6 ⟨s6,mb,rep6,ps6,h6,?_⟩;rw[zpw r.mi C' ne (by rw[hy];rfl) hc M mq];exact r6
theorem zov{l o:Str}(h:FsT w0 F0 w B p m hp se)(hn:SM.zbF l=true)(ho:SM.zbF o=true)
  (hsp:norm l=norm o\/(norm l≠[47]/\norm o≠[47]/\SM.below (norm o) (norm l)=false/\m.isDir (norm o)=false/\m.clear (norm o)=true)) (hN:m.names.length<=400000) (hNl:∀q∈m.names,q.length<=40000)
  (h0:norm l≠norm o->m.find (norm l)=none->∀w' x,FsT w0 F0 w' B p m hp se->PE w' w0.heap.size x [114,101,110,97,109,101] (se G.ab)->K x w')
  (h1:norm l=norm o\/(m.find (norm l)).isSome=true->∀w',FsT w0 F0 w' B p (m.renameS (norm l) (norm o)).1 hp se->K .nilIface w'):Cl P Fn.a7 #[pt p 0,S l,S o] w K:=by
 have hl:=zfV hn;have hol:=zfV ho;have hkn:=SM.zeW hn;have hko:=SM.zeW ho;have hnl:=zbH l;have hnl2:=zbH o;apply zhE;unfold zdR;rw[C.ae];refine zaR (by omega) λw1 B1=>?_;rw[C.ae];refine zaR (by omega) λw2 B2=>?_;generalize norm l=src at*;generalize norm o=dst at*;have hB:=(h.old B1).old B2;by_cases ne:src=dst
 ·refine zaa (λ_ _=>False) (λ_ _ _ h=>h.elim) ?_;subst ne;simp(disch:=first|omega|(simp(disch:=first|omega|fail)only[go_sem,decide_true]<;>omega)|fail)only[go_sem,decide_true];refine h1 (.inl rfl) w2 ?_;unfold SM.Mem.renameS;rw[if_pos rfl];exact hB
 refine zaa (λt w'=>w'=w2) ?_ ?_;rotate_left
 ·simp(disch:=first|omega|(simp(disch:=first|omega|fail)only[go_sem,decide_eq_false ne]<;>omega)|fail)only[go_sem,decide_eq_false ne]
 rintro t e w2' rfl;obtain⟨s47,d47,nb,nd,hc⟩:=hsp.resolve_left ne;refine zaa (λt w'=>(m.find src).isSome=true/\FsT w0 F0 w' B p (m.renameS src dst).1 hp se) ?_ ?_
 ·rintro t e w3 ⟨hs,h3⟩;exact h1 (.inr hs) w3 h3
 rw[C.ab];refine zcd hB λw3 s mb rep ps h3 r3=>?_;rw[h3.pf.look,zar,zaq];have gg:=r3.g src;rw[show eg ([]:PM.Ex) src=none from rfl,Option.none_or]at gg;have z0:=h3.tr.kp.size;rw[gg];cases hf:m.find src with
 |none=>simp only[Option.map_none,Option.isSome_none,cd_f];refine zfy (by simp[sents]) h3.sn [114,101,110,97,109,101] src λw4 x B4 hx=>?_;exact h0 ne hf w4 x (.inl ⟨s,mb,rep,ps,h3.old B4,r3⟩) (hx.lo z0)
 |some y=>simp only[Option.map_some,Option.isSome_some,cd_t];have C':=mvc_of r3.mi hkn hko ne s47 d47 nb nd (by rw[hf];rfl);exact zrK (K:=K) (k2:=λt w'=>True/\FsT w0 F0 w' B p (m.renameS src dst).1 hp se) h3 r3 C' ne hf hc (by omega) (by omega) hN hNl λw4 h4=>⟨trivial,.inl h4⟩
end
end Go.Proofs.YtdljebgllipdjaaGreatDoor.X
end
section
namespace Go.Proofs.YtdljebgllipdjaaGreatDoor.X
open Go Go.X Go.Proofs Go.RowKit Go.X.PM Go.Lib
section
variable{w w' w0:World}{F0:Fp}{K:Value->World->Prop}{B p mb:Nat}{s:PM.St}{rep:Nat->Rep}{se:Nat->Nat×Nat}
 {m:SM.Mem} {ps:List Nat} {hp:Int->Nat} {E:PM.Ex} {X:Option Str}
def kAt(k:Str->Option Nat)(q:Str):Nat:=(k q).getD 0
theorem zqE{kb c:Nat}{M:ML Str}{k:Str->Option Nat}(hb:bk w kb=some (MO emS M c))(wf:MWF M c)(hM:M.length<=900000)(hkM:∀q,mget M q=(k q).map ptV)(hnd:∀q e,k q=some e->∃l,bk w e=some (CB (S q::l) T.ak))
  (hk:∀v(qs:List Str)w',w'.ownsRow w.heap.size T.af 1 v qs.length ((qs.map (kAt k)).map ptV)->qs.length<=900000->qs.Pairwise (·<·)->(∀q,q∈qs↔(k q).isSome=true)->Below w.heap.size w w'->K v w'):Cl P Fn.bG #[.map (some kb)] w K:=by
 apply zkf;unfold zgr;have hmem:∀q,q∈M.map (·.1)↔(k q).isSome=true:=λq=>by
  have:=zbr M q;rw[hkM]at this;cases hq:k q with
  |none=>rw[hq]at this;simpa using this
  |some p=>rw[hq]at this;simpa using this
 have val:∀x∈M,x.2.1=ptV (kAt k x.1):=λx hx=>by
  have:=zsQ wf hx;rw[hkM]at this;unfold kAt;cases hq:k x.1 with
  |none=>rw[hq]at this;cases this
  |some e=>rw[hq]at this;injection this with this;exact this.symm
 refine zaa (λt w'=>∃v,∃qs:List Str,t=[v]/\w'.ownsRow w.heap.size T.af 1 v qs.length ((qs.map (kAt k)).map ptV)/\qs.Perm (M.map (·.1))/\Below w.heap.size w w') ?_ ?_
 ·rintro t e w4 ⟨v,qs,rfl,o4,pmq,B4⟩;unfold zfb;have lq:qs.length<=900000:=by rw[pmq.length_eq,List.length_map];exact hM
  refine zaa (λt w'=>∃zs:List Str,w'.ownsRow w.heap.size T.af 1 v qs.length ((zs.map (kAt k)).map ptV)/\zs.Perm qs/\zs.Pairwise LE8/\Below w.heap.size w w') ?_ ?_
  ·rintro t e w5 ⟨zs,o5,pm,srt,B5⟩;unfold zbS;rw[gs0];have hzl:=pm.length_eq;rw[<-hzl]at o5;exact hk v zs w5 o5 (by omega) (zoI srt ((pm.trans pmq).nodup_iff.2 wf.keys)) (λq=>by rw[pm.mem_iff,pmq.mem_iff];exact hmem q) B5
  ·have all:∀zs:List Str,zs.Perm qs->∀q∈zs,∃l,bk w (kAt k q)=some (CB (S q::l) T.ak):=λzs pm q hq=>by
    have:=(hmem q).1 (pmq.mem_iff.1 (pm.mem_iff.1 hq));obtain⟨d,hd⟩:=Option.isSome_iff_exists.1 this;obtain⟨l,e1⟩:=hnd q d hd;have e:kAt k q=d:=by unfold kAt;rw[hd];rfl
    rw[e];exact⟨l,e1⟩
   obtain⟨n,hn⟩:∃n,n=qs.length:=⟨_,rfl⟩;rw[<-hn]at o4 lq⊢;rw[gs0];obtain⟨a,cap,ev⟩:=zan o4;refine zaA (λt w'=>∃(i:Nat)(ys:List Str),t=[.int .i64 i]/\i<=n+1/\1<=i/\w'.ownsRow w.heap.size T.af 1 v n ((ys.map (kAt k)).map ptV)/\ys.Perm qs/\(ys.take i).Pairwise LE8/\Below w.heap.size w w') (λt _=>n+2 - (RowKit.intOf (gs t 0)).toNat) ⟨1,qs,rfl,by omega,by omega,o4,List.Perm.refl _,?_,B4⟩ ?_
   ·match qs with
    |[]=>exact List.Pairwise.nil
    |[x]=>simp
    |x::y::r=>simp
   rintro t e w1 ⟨i,ys,rfl,hi,hi1,o1,pm,srt,B1⟩;have hys:ys.length=n:=by rw[pm.length_eq];exact hn.symm
   refine zaa (λt w'=>t=[]/\w'=w1/\i<n) ?_ ?_;rotate_left
   ·rw[ev,V.ab,<-ev];by_cases g:(i:Int)<n
    ·simp(disch:=first|omega|(simp(disch:=first|omega|fail)only[go_sem]<;>omega)|fail)only[go_sem];exact⟨trivial,trivial,by omega⟩
    ·simp(disch:=first|omega|(simp(disch:=first|omega|fail)only[go_sem]<;>omega)|fail)only[go_sem];rw[List.take_of_length_le (by omega)]at srt;exact⟨ys,o1,pm,srt,B1⟩
   rintro t e w2 ⟨rfl,rfl,hin⟩;unfold zfo;refine zaa (λt w'=>t=[]/\∃zs:List Str,w'.ownsRow w.heap.size T.af 1 v n ((zs.map (kAt k)).map ptV)/\zs.Perm qs/\(zs.take (i+1)).Pairwise LE8/\Below w.heap.size w w') ?_ ?_
   ·rintro t e w3 ⟨rfl,zs,q1,q2,q3,q4⟩;unfold zas;simp(disch:=first|omega|(simp(disch:=first|omega|fail)only[go_sem]<;>omega)|fail)only[go_sem];refine⟨⟨i+1,zs,by simp,by omega,by omega,q1,q2,q3,q4⟩,?_⟩;simp only[RowKit.intOf];omega
   have hi2:i<ys.length:=by omega
   rw[gs0];refine zaA (λt w'=>∃(p m q:List Str)(x:Str),t=[.int .i64 p.length]/\p.length+m.length=i/\w'.ownsRow w.heap.size T.af 1 v n (((p++x::(m++q)).map (kAt k)).map ptV)/\(p++x::(m++q)).Perm qs/\Mid p x m/\Below w.heap.size w w') (λt _=>(RowKit.intOf (gs t 0)).toNat) ⟨ys.take i,[],ys.drop (i+1),ys[i],by simp;omega,by simp;omega,?_,?_,Mid.start srt _,B1⟩ ?_
   ·rw[List.nil_append,<-List.drop_eq_getElem_cons hi2,List.take_append_drop];exact o1
   ·rw[List.nil_append,<-List.drop_eq_getElem_cons hi2,List.take_append_drop];exact pm
   rintro t e w3 ⟨p',m',q,x,rfl,hpm,o3,pm3,mid,B3'⟩;have hln:(p'++x::(m'++q)).length=n:=by rw[pm3.length_eq];exact hn.symm
   rcases List.eq_nil_or_concat p' with rfl|⟨p1,a',rfl⟩
   ·simp(disch:=first|omega|(simp(disch:=first|omega|fail)only[go_sem,List.length_nil]<;>omega)|fail)only[go_sem,List.length_nil];refine zaa (λ_ _=>False) (λ_ _ _ h=>h.elim) ?_;refine⟨trivial,_,o3,pm3,?_,B3'.drew⟩;have:=mid.done0;simp only[List.length_nil,Nat.zero_add]at hpm;rw[List.nil_append,List.take_succ_cons,List.take_left' hpm];exact this
   ·rw[List.concat_eq_append]at*;obtain⟨j,hj⟩:∃j,j=p1.length:=⟨_,rfl⟩;have hpl:(p1++[a']).length=j+1:=by simp[hj]
    rw[hpl]at hpm⊢;obtain⟨zs,hzs⟩:∃zs,zs=p1++[a']++x::(m'++q):=⟨_,rfl⟩;rw[<-hzs]at o3 pm3 hln;have o3':w3.drew.ownsRow w.heap.size T.af 1 v n ((zs.map (kAt k)).map ptV):=o3;have B4:=B3'.drew;generalize w3.drew=w4 at*;have ex:zs[j+1]?=some x:=by rw[hzs,List.getElem?_append_right (by omega),hpl];simp
    have ea:zs[j]?=some a':=by rw[hzs,List.append_assoc,List.getElem?_append_right (by omega),hj];simp
    have lx:j+1<zs.length:=by rw[hzs];simp;omega
    have ex':zs[j+1]=x:=by rw[List.getElem?_eq_getElem lx]at ex;exact Option.some.inj ex
    have ea':zs[j]=a':=by rw[List.getElem?_eq_getElem (by omega)]at ea;exact Option.some.inj ea
    obtain⟨lx1,hx1⟩:=all zs pm3 x (by rw[<-ex'];exact List.getElem_mem _);obtain⟨la1,ha1⟩:=all zs pm3 a' (by rw[<-ea'];exact List.getElem_mem _);have lm:j+1<(zs.map (kAt k)).length:=by rw[List.length_map];exact lx
    obtain⟨g,cur,g1,g2,g3,g4,g5,g6⟩:=zmq o3' lm (by rw[List.length_map];exact hln);obtain⟨g',cur',h1,h2,h3,h4,h5,h6⟩:=zmq o3' (show j<(zs.map (kAt k)).length by omega) (by rw[List.length_map];exact hln);obtain rfl:g'=g:=by rw[g1]at h1;exact(Option.some.inj h1).symm
    obtain rfl:cur'=cur:=by rw[g2]at h2;injection h2 with h2;injection h2 with h2;exact(List.toArray_inj h2).symm
    rw[List.getElem_map,ex']at g5;rw[List.getElem_map,ea']at h5;have cx:za1 (bk w4 g') (j+1)=some (pt (kAt k x) 0):=by rw[g2];exact(zbe _ _ _).trans g5
    have ca:za1 (bk w4 g') j=some (pt (kAt k a') 0):=by rw[g2];exact(zbe _ _ _).trans h5
    have g6':∀M:Value->Prop,pu P (zaO T.aq v (.int .i64 ((j:Int)+1))) M=M (pt g' (j+1)):=λM=>g6 .i64 M;have h6':∀M:Value->Prop,pu P (zaO T.aq v (.int .i64 (j:Int))) M=M (pt g' j):=λM=>h6 .i64 M;have sub1:((j+1:Nat):Int)=(j:Int)+1:=by omega
    rw[sub1];have sub2:(j:Int)+1 - 1=j:=by omega
    refine zaa (λt w'=>Below w4.heap.size w4 w'/\x<a') ?_ ?_
    ·rintro t e w5 ⟨B5,hlt⟩;unfold zfg;have z4:=B4.size;have o5:w5.drew.ownsRow w.heap.size T.af 1 v n ((zs.map (kAt k)).map ptV):=zbf o3' B5.drew (Nat.le_refl _);have b5:bk w5.drew g'=some (CB cur' T.af):=(zax B5 (zaj g2)).trans g2;have kd5:Below w.heap.size w w5.drew:=(B4.trans (B5.mono z4)).drew;have b50:bk w5 g'=some (CB cur' T.af):=b5;have cx5:za1 (bk w5 g') (j+1)=some (pt (kAt k x) 0):=by rw[b50];exact(zbe _ _ _).trans g5
     have ca5:za1 (bk w5 g') j=some (pt (kAt k a') 0):=by rw[b50];exact(zbe _ _ _).trans h5
     simp(disch:=first|omega|(simp(disch:=first|omega|fail)only[go_sem,sub2,g6',h6',cx5,ca5]<;>omega)|fail)only[go_sem,sub2,g6',h6',cx5,ca5];generalize w5.drew=w6 at*;have q1:=zlC (i:=j+1) o5 g1 b5 g4 (kAt k a');have l6:g'<w6.heap.size:=zaj b5;have b7:bk (setb w6 g' (CB (cur'.set (j+1) (pt (kAt k a') 0)) T.af)) g'=some (CB (cur'.set (j+1) (pt (kAt k a') 0)) T.af):=zap _ _ _ _ rfl l6;have t7:(cur'.set (j+1) (pt (kAt k a') 0)).take n=((zs.map (kAt k)).set (j+1) (kAt k a')).map ptV:=by rw[List.take_set,g4,List.map_set]
     have q2:=zlC (i:=j) q1 g1 b7 t7 (kAt k x);have h3':j<(cur'.set (j+1) (pt (kAt k a') 0)).length:=by rw[List.length_set];exact h3
     have ez:(zs.set (j+1) a').set j x=p1++x::(a'::m'++q):=by rw[hzs,hj,List.append_assoc,List.set_append_right _ _ (by omega),show p1.length+1 - p1.length=1 by omega,List.set_append_right _ _ (by omega),Nat.sub_self];rfl
     simp(disch:=first|omega|(simp(disch:=first|omega|fail)only[go_sem,b5,g3]<;>omega)|fail)only[go_sem,b5,g3];obtain⟨cu,ecu⟩:∃cu,cu=cur'.set (j+1) (pt (kAt k a') 0):=⟨_,rfl⟩;rw[<-ecu]at b7 h3' q2⊢;obtain⟨w7,e7⟩:∃w7,w7=setb w6 g' (CB cu T.af):=⟨_,rfl⟩;rw[<-e7]at b7 q2⊢;rw[e7]at q2⊢;rw[<-List.map_set,<-List.map_set,ez]at q2;have own:=(zaW o3' g' g1).1;refine⟨⟨p1,a'::m',q,x,by rw[hj],by simp only[List.length_cons];omega,q2,?_,mid.step hlt,?_⟩,?_⟩
     ·refine List.Perm.trans ?_ pm3;rw[hzs,List.append_assoc];exact List.Perm.append_left _ (List.Perm.swap _ _ _)
     ·refine(kd5.trans ((Kp.setb w6 g' (CB cu T.af)).below (λk hk e=>by omega) kd5.size)).trans ((Kp.setb _ _ _).below (λk hk e=>by omega) ?_);exact Nat.le_trans kd5.size (Kp.setb w6 g' (CB cu T.af)).size
     ·simp only[RowKit.intOf];omega
    ·have hx4:=(zax B4 (zaj hx1)).trans hx1;have ha4:=(zax B4 (zaj ha1)).trans ha1;simp(disch:=first|omega|(simp(disch:=first|omega|fail)only[go_sem,sub2,g6',h6',cx,ca,hx4,ha4,SM.zqW]<;>omega)|fail)only[go_sem,sub2,g6',h6',cx,ca,hx4,ha4,SM.zqW];by_cases c:x<a'
     ·simp(disch:=first|omega|(simp(disch:=first|omega|fail)only[go_sem,c,decide_true]<;>omega)|fail)only[go_sem,c,decide_true];exact⟨Below.refl _ _,trivial⟩
     ·simp(disch:=first|omega|(simp(disch:=first|omega|fail)only[go_sem,c,decide_false]<;>omega)|fail)only[go_sem,c,decide_false];refine⟨trivial,zs,o3',pm3,?_,B4⟩;have:=mid.done c;have el:(p1++[a']++x::m').length=i+1:=by simp;omega
      rw[hzs,show p1++[a']++x::(m'++q)=(p1++[a']++x::m')++q by simp,List.take_left' el];exact this
 ·rw[zpG _ U.ay hb];have rg:=Rg.start w hb wf;have B1:Below w.heap.size w (w.alloc (.mapIter (some kb) c #[] c)):=by repeat (first|exact Below.refl _ _|assumption|refine zag ?_ (by first|omega|(simp only[go_sem]<;>omega)) _|refine Below.alloc ?_ (by first|omega|(simp only[go_sem]<;>omega)) _|refine Below.drew ?_)
  have lmb:=zaj hb;obtain⟨it,hit⟩:∃it,it=w.heap.size:=⟨_,rfl⟩;rw[<-hit]at rg;rw[show pt w.heap.size 0=pt it 0 by rw[hit]];generalize w.alloc (.mapIter (some kb) c #[] c)=w1 at*;refine zaA (λt w'=>∃v,∃vis rest:ML (List UInt8),t=[v]/\w'.ownsRow w.heap.size T.af 1 v vis.length (((vis.map (·.1)).map (kAt k)).map ptV)/\Rg emS w' kb it M c vis rest/\Below w.heap.size w w') (λt _=>match gs t 0 with| .slice _ n _=>M.length - n|_=>0) ⟨_,[],M,rfl,zfC _ _ _ _,rg,B1⟩ ?_;rintro t e w2 ⟨v,vis,rest,rfl,o2,rg2,B2⟩;have z2:=B2.size;have hpl:=rg2.pm.length_eq;rw[List.length_append]at hpl;refine rg2.next ?_ ?_
  ·rintro rfl hvm;simp(disch:=first|omega|(simp(disch:=first|omega|fail)only[go_sem]<;>omega)|fail)only[go_sem];refine zaa (λ_ _=>False) (λ_ _ _ h=>h.elim) ?_;exact⟨v,vis.map (·.1),rfl,by rw[List.length_map];exact o2,hvm.map _,B2⟩
  ·intro x rest' w3 rg3 hx hr k3 en;simp(disch:=first|omega|(simp(disch:=first|omega|fail)only[go_sem]<;>omega)|fail)only[go_sem];refine zaa (λt w'=>t=[]/\w'=w3) ?_ ⟨rfl,rfl⟩;rintro t e w4 ⟨rfl,rfl⟩;unfold zfe;rw[en,zaq,val x hx];have o4:=zbQ o2 k3 λk hk e=>by subst e;obtain⟨cur,hc⟩:=zfS o2 hk;obtain⟨seen,hi,_⟩:=rg2.hi;rw[hc]at hi;cases hi
   have B4:Below w.heap.size w w4:=B2.trans (k3.below (λk hk e=>by omega) z2);have z4:=B4.size;refine put1 (z:=.pointer none) (bytes:=8) U.ah (by kernel_rfl) rfl (by omega) (x:=pt (kAt k x.1) 0) rfl o4 (by omega) z4 λv5 w5 o5 k5 n5=>?_;have nb:¬v.ownBlock=some kb:=λe=>zss rg3.hb (zfS o4 e) rfl;have ni:¬v.ownBlock=some it:=λe=>by obtain⟨cur,hc⟩:=zfS o4 e;obtain⟨seen,hi,_⟩:=rg3.hi;rw[hc]at hi;cases hi
   obtain⟨a5,c5,e5⟩:=zan o5;obtain⟨a2,c2,e2⟩:=zan o2;refine⟨⟨v5,vis++[x],rest',rfl,by simpa using o5,rg3.kp k5 nb ni,B4.trans (k5.below (λk hk e=>by have:=zaW o4 k e;omega) z4)⟩,?_⟩;rw[e5,e2];show M.length - (vis.length+1)<M.length - vis.length;omega
end
def DataAt(w:World)(d:Nat)(q:Str)(i:SM.Info):Prop:=∃a n c md dir mode mt uid gid,bk w d=some (CB [S q,.slice a n c,md,.bool dir,.int .u32 mode,.int .i64 mt,.int .i64 uid,.int .i64 gid] T.ak)/\
 0<=mode/\mode<=4294967295/\q.length<=140737488355328/\i=⟨SM.base q,if dir=true then 42 else(n:Int),mode,dir,mt⟩
theorem DataAt.kp{w w':World}{d:Nat}{q:Str}{i:SM.Info}{R:Nat->Prop}(h:DataAt w d q i)(k:Kp w w' R)(hR:¬R d):DataAt w' d q i:=by obtain⟨a,n,c,md,dir,mode,mt,uid,gid,h1,h2⟩:=h;exact⟨a,n,c,md,dir,mode,mt,uid,gid,(k.block _ (zaj h1) hR).trans h1,h2⟩
theorem DataAt.info{w:World}{d fi:Nat}{q:Str}{i:SM.Info}(h:DataAt w d q i)(hb:bk w fi=some (CB [pt d 0] T.aF)):InfoAt w fi i:=by obtain⟨a,n,c,md,dir,mode,mt,uid,gid,h1,h2⟩:=h;exact⟨d,q,a,n,c,md,dir,mode,mt,uid,gid,hb,h1,h2⟩
structure DirAt(w:World)(kb:Nat)(k:Str->Option Nat)(L:List Str)(inf:Str->SM.Info):Prop where
 map:∃M c,bk w kb=some (MO emS M c)/\MWF M c/\∀q,mget M q=(k q).map ptV
 nd:∀q e,k q=some e->DataAt w e q (inf q)
 srt:L.Pairwise (·<·)
 mem:∀q,q∈L↔(k q).isSome=true
 len:L.length<=900000
theorem DirAt.kp{w w':World}{kb:Nat}{k:Str->Option Nat}{L:List Str}{inf:Str->SM.Info}{R:Nat->Prop}(h:DirAt w kb k L inf)(kp:Kp w w' R)(h1:¬R kb)(h2:∀q e,k q=some e->¬R e):DirAt w' kb k L inf:=by obtain⟨M,c,a1,a2,a3⟩:=h.map;exact⟨⟨M,c,(kp.block _ (zaj a1) h1).trans a1,a2,a3⟩,λq e he=>(h.nd q e he).kp kp (h2 q e he),h.srt,h.mem,h.len⟩
theorem DirAt.old{w w':World}{kb:Nat}{k:Str->Option Nat}{L:List Str}{inf:Str->SM.Info}(h:DirAt w kb k L inf)(kp:Below w.heap.size w w'):DirAt w' kb k L inf:=by obtain⟨M,c,a1,_⟩:=h.map;refine h.kp (Kp.of_below kp λb=>w.heap.size<=b) (by have:=zaj a1;omega) λq e he=>?_;obtain⟨a,n,c,md,dir,mode,mt,uid,gid,h1,h2⟩:=h.nd q e he;have:=zaj h1;omega
def lsL(L:List Str)(c0:Nat)(n:Int):List Str:=if 0<n then(L.drop c0).take (min n (L.drop c0).length).toNat else L.drop c0
def lsE(L:List Str)(c0:Nat)(n:Int):Int:=if 0<n/\L.drop c0=[]then 4 else 0
section
variable{w w':World}{K:Value->World->Prop}{B f d kb:Nat}{v:Value}{s:FX}{se:Nat->Nat×Nat}{k:Str->Option Nat}{L:List Str}{inf:Str->SM.Info}
theorem zsb(h:DirAt w kb k L inf)(hk:∀v w',w'.ownsRow w.heap.size T.af 1 v L.length ((L.map (kAt k)).map ptV)->Below w.heap.size w w'->K v w'):Cl P Fn.bG #[.map (some kb)] w K:=by
 obtain⟨M,c,a1,a2,a3⟩:=h.map;have hmem:∀q,q∈M.map (·.1)->q∈L:=λq hq=>by
  rw[h.mem];have:=zbr M q;rw[a3]at this;cases e:k q with
  |none=>rw[e]at this;exact absurd hq (this.1 rfl)
  |some p=>rfl
 have hM:M.length<=900000:=by have:=zd2 (M.map (·.1)) L a2.keys hmem;rw[List.length_map]at this;have:=h.len;omega
 refine zqE a1 a2 hM a3 (λq e he=>?_) λv qs w1 o1 _ srt mem B1=>?_
 ·obtain⟨a,n,c,md,dir,mode,mt,uid,gid,h1,h2⟩:=h.nd q e he;exact⟨_,h1⟩
 ·have:qs=L:=zfs (lt:=λa b:Str=>a<b) (λa=>List.lt_irrefl a) (λa b c=>List.lt_trans) _ _ srt h.srt λq=>by rw[mem,h.mem]
  rw[this]at o1;exact hk v w1 o1 B1
theorem zl0{c0:Nat}{n:Int}(h:FH w B f d v s)(sn:Sn w B se)(hd:s.dir=true)(hmd:s.md=.map (some kb))(D:DirAt w kb k L inf)(hr:s.rdc=c0)(hc:c0<=L.length)
  (hk:∀w' x y fs,FH w' B f d v {s with rdc:=s.rdc+(lsL L c0 n).length}->Kp w w' (·=f)->VS ptV w' x fs->fs.length=(lsL L c0 n).length->(∀i(h1:i<fs.length)(h2:i<((lsL L c0 n).map inf).length),InfoAt w' fs[i] ((lsL L c0 n).map inf)[i])->(∀b,x.ownBlock=some b->w.heap.size<=b)->ErrV w' w.heap.size se (lsE L c0 n) y->K (tup [x,y]) w'):
  Cl P Fn.aS #[pt f 0,.int .i64 n] w K:=by
 apply zgG;unfold zdN;have hf:=h.bf;have hbd:=h.bd;obtain⟨lf,ld⟩:=h.lt;refine zaa (λt w'=>t=[.nilIface]/\w'=w) ?_ ?_;rotate_left
 ·simp(disch:=first|omega|(simp(disch:=first|omega|fail)only[go_sem,hf,hbd,hd]<;>omega)|fail)only[go_sem,hf,hbd,hd];exact⟨trivial,trivial⟩
 rintro t e w1 ⟨rfl,rfl⟩;unfold zfk;simp(disch:=first|omega|(simp(disch:=first|omega|fail)only[go_sem,hf,hbd,hmd,hr]<;>omega)|fail)only[go_sem,hf,hbd,hmd,hr];refine zsb (D.old (Below.refl _ _).drew) λv1 w2 o2 B2d=>?_;have B2:Below w1.heap.size w1 w2:=(Below.refl _ _).drew.trans B2d;have z2:=B2.size;have hf2:=(zax B2 lf).trans hf;have H2:=h.old B2;have D2:=D.old B2;have sn2:Sn w2 B se:=sn.below (B2.mono (by have:=h.hf;omega));have hf2r:bk w2 f=some (CB [.int .i64 s.pos,.int .i64 (c0:Int),.bool s.cl,.bool s.ro,pt d 0] T.ao):=by rw[<-hr];exact hf2
 have hL9:=D.len;have V1:VS ptV w2 v1 (L.map (kAt k)):=VS.own (B:=w1.heap.size) (by rw[List.length_map];exact o2);have ov1:=zaW o2;obtain⟨v2,V2,ov2,es⟩:=V1.lo U.ah (by kernel_rfl) (p:=c0) (by rw[List.length_map];exact hc);rw[<-List.map_drop]at V2;obtain⟨l1,hl1⟩:∃l1,l1=L.drop c0:=⟨_,rfl⟩;rw[<-hl1]at V2;have ll1:l1.length=L.length - c0:=by rw[hl1,List.length_drop]
 refine⟨?_,?_⟩
 ·simp(disch:=first|omega|(simp(disch:=first|omega|fail)only[go_sem,hf2r]<;>omega)|fail)only[go_sem,hf2r]
 rw[es];obtain⟨a2,c2,ev2⟩:=V2.slice;rw[List.length_map]at ev2;refine zaa (λt w'=>∃(y:Value)(cnt:Nat),t=[y,.int .i64 cnt]/\w'=w2/\cnt<=l1.length/\lsL L c0 n=l1.take cnt/\ErrV w2 w1.heap.size se (lsE L c0 n) y) ?_ ?_
 ·rintro t e w3 ⟨y,cnt,rfl,rfl,hcl,hls,hE⟩;unfold zfl;have hcl9:cnt<=900000:=by omega
  simp(disch:=first|omega|(simp(disch:=first|omega|fail)only[go_sem,hf2r]<;>omega)|fail)only[go_sem,hf2r];have h4:=H2.setHd s.pos (s.rdc+cnt) s.cl s.ro;have k4:=Kp.setb w3 f (CB [.int .i64 s.pos,.int .i64 (s.rdc+cnt),.bool s.cl,.bool s.ro,pt d 0] T.ao);rw[hr]at h4 k4;obtain⟨w4,e4⟩:∃w4,w4=setb w3 f (CB [.int .i64 s.pos,.int .i64 ((c0:Int)+cnt),.bool s.cl,.bool s.ro,pt d 0] T.ao):=⟨_,rfl⟩;rw[<-e4]at h4 k4⊢;have z34:=k4.size;have zz4:w4.heap.size=w3.heap.size:=by rw[e4,sZb]
  obtain⟨M,c,a1,a2m,a3⟩:=D2.map;have D4:DirAt w4 kb k L inf:=D2.kp k4 (zc5 hf2r a1 zjr).symm λq e he=>by obtain⟨a,n,c,md,dir,mode,mt,uid,gid,g1,g2⟩:=D2.nd q e he;exact zc5 g1 hf2r (zjo (by decide))
  have ov:∀b,v2.ownBlock=some b->w1.heap.size<=b:=λb hb=>(ov1 b (ov2 b hb)).1;have V4:VS ptV w4 v2 (l1.map (kAt k)):=V2.kp k4 λb hb e=>by have:=ov b hb;omega
  have hE4:ErrV w4 w1.heap.size se (lsE L c0 n) y:=hE.kp k4 λb h1 h2 e=>by omega
  rw[zru (z:=.pointer none) (bytes:=8) U.ai (by kernel_rfl) rfl cnt (by omega) (by omega)];have B5:Below w4.heap.size w4 (w4.alloc (CB (List.replicate cnt (.pointer none)) T.aG)):=by repeat (first|exact Below.refl _ _|assumption|refine zag ?_ (by first|omega|(simp only[go_sem]<;>omega)) _|refine Below.alloc ?_ (by first|omega|(simp only[go_sem]<;>omega)) _|refine Below.drew ?_)
  have o5:(w4.alloc (CB (List.replicate cnt (.pointer none)) T.aG)).ownsRow w4.heap.size T.aG 1 (sl w4.heap.size 0 cnt cnt) cnt (List.replicate cnt (.pointer none)):=⟨by simp,.inr ⟨_,_,_,rfl,Nat.le_refl _,zaf w4 _ _ rfl,by simp,by simp[maxLen];omega,by simp,by simp[List.take_of_length_le]⟩⟩;generalize w4.alloc (CB (List.replicate cnt (.pointer none)) T.aG)=w5 at*;refine zaa (λt w'=>∃fs:List Nat,VS ptV w' (sl w4.heap.size 0 cnt cnt) fs/\fs.length=cnt/\Below w4.heap.size w4 w'/\∀j(h1:j<fs.length)(h2:j<l1.length),bk w' fs[j]=some (CB [pt (kAt k l1[j]) 0] T.aF)) ?_ ?_
  ·rintro t e w6 ⟨fs,V6,lf6,B6,I6⟩;unfold zfi;have D6:=D4.old B6;have ll:(lsL L c0 n).length=cnt:=by rw[hls,List.length_take];omega
   rw[gs0];have F6:=h4.old B6;rw[<-hr]at F6;have hE6:ErrV w6 w1.heap.size se (lsE L c0 n) y:=hE4.old B6;refine hk w6 _ y fs (by rw[ll];exact F6) (((Kp.of_below B2 _).trans k4 λ_ _ h=>h).trans (Kp.of_below B6 _) λ_ _ h=>h) V6 (by rw[ll];exact lf6) (λj h1 h2=>?_) (λb hb=>by have h9:w4.heap.size=b:=Option.some.inj hb;omega) hE6;have h2':j<l1.length:=by omega
   rw[List.getElem_map];have e1:(lsL L c0 n)[j]'(by rw[ll];omega)=l1[j]:=by simp only[hls,List.getElem_take]
   rw[e1];have hm:l1[j]∈L:=List.mem_of_mem_drop (i:=c0) (by rw[<-hl1];exact List.getElem_mem _);obtain⟨e,he⟩:=Option.isSome_iff_exists.1 ((D6.mem _).1 hm);have hb:=I6 j h1 h2';have ek:kAt k l1[j]=e:=by unfold kAt;rw[he];rfl
   rw[ek]at hb;exact(D6.nd _ e he).info hb
  rw[V.ag];obtain⟨P1,hP1⟩:∃P1:Nat->List Nat->List Value,P1=λi fs=>fs.map ptV++List.replicate (cnt - i) (.pointer none):=⟨_,rfl⟩;refine zaA (λt w'=>∃(i:Nat)(fs:List Nat),t=[.int .i64 i]/\i<=cnt/\fs.length=i/\Below w4.heap.size w4 w'/\w'.ownsRow w4.heap.size T.aG 1 (sl w4.heap.size 0 cnt cnt) cnt (fs.map ptV++List.replicate (cnt - i) (.pointer none))/\∀j(h1:j<fs.length)(h2:j<l1.length),bk w' fs[j]=some (CB [pt (kAt k l1[j]) 0] T.aF)) (λt _=>cnt - (RowKit.intOf (gs t 0)).toNat) ⟨0,[],rfl,by omega,rfl,B5,by simpa using o5,λj h1=>by simp at h1⟩ ?_;rintro t e w6 ⟨i,fs,rfl,hi,hfs,B6,o6,I6⟩;by_cases g:(i:Int)<cnt
  ·have hix:i<l1.length:=by omega
   simp(disch:=first|omega|(simp(disch:=first|omega|fail)only[go_sem]<;>omega)|fail)only[go_sem];refine zaa (λt w'=>t=[]/\w'=w6) ?_ ⟨rfl,rfl⟩;rintro t e w7 ⟨rfl,rfl⟩;unfold zfj;obtain⟨bx,ox,x1,x2,x3,x4⟩:=(V4.old B6).idx U.ah (by kernel_rfl) (i:=i) (by rw[List.length_map];exact hix);rw[List.getElem_map]at x3;have z46:=B6.size;simp(disch:=first|omega|(simp(disch:=first|omega|fail)only[go_sem,x4,x3]<;>omega)|fail)only[go_sem,x4,x3];obtain⟨fi,hfi⟩:∃fi,fi=w7.heap.size:=⟨_,rfl⟩;obtain⟨w8,e8⟩:∃w8,w8=w7.alloc (CB [Value.pointer (some {block:=kAt k l1[i],off:=0})] T.aF):=⟨_,rfl⟩;have b8:bk w8 fi=some (CB [pt (kAt k l1[i]) 0] T.aF):=by rw[e8];exact zaf _ _ _ hfi
   have B8:Below w7.heap.size w7 w8:=by rw[e8];repeat (first|exact Below.refl _ _|assumption|refine zag ?_ (by first|omega|(simp only[go_sem]<;>omega)) _|refine Below.alloc ?_ (by first|omega|(simp only[go_sem]<;>omega)) _|refine Below.drew ?_)
   have z8:w8.heap.size=w7.heap.size+1:=by rw[e8];simp only[go_sem]
   rw[<-e8,<-hfi];have o8:=zbf o6 B8 (Nat.le_refl _);obtain⟨g',cur',h1,h2,h3,h4',h5,h6⟩:=zhw U.ai (by kernel_rfl) o8 (i:=i) (by omega);rw[Nat.mul_one]at h4' h5 h6;have hg':g'=w4.heap.size:=(Option.some.inj h1).symm;subst hg';have hlt:i<cur'.length:=by omega
   have q9:=zjL (size:=1) o8 rfl h3 (by simp) _ (rfl:CB (cur'.set i (ptV fi)) T.aG=_);rw[Nat.mul_one,List.take_set,h5]at q9;have eset:(fs.map ptV++List.replicate (cnt - i) (Value.pointer none)).set i (ptV fi)=(fs++[fi]).map ptV++List.replicate (cnt - (i+1)) (Value.pointer none):=by
    have hl:(fs.map ptV).length=i:=by rw[List.length_map];exact hfs
    rw[List.set_append_right _ _ (by omega),hl,Nat.sub_self,show cnt - i=(cnt - (i+1))+1 by omega,List.replicate_succ,List.map_append,List.append_assoc];rfl
   rw[eset]at q9;have kset:=Kp.setb w8 w4.heap.size (CB (cur'.set i (ptV fi)) T.aG);simp(disch:=first|omega|(simp(disch:=first|omega|fail)only[go_sem,h6,h3]<;>omega)|fail)only[go_sem,h6,h3];refine⟨⟨i+1,fs++[fi],rfl,by omega,by simp[hfs],zag (B6.trans (B8.mono z46)) (Nat.le_refl _) _,q9,λj j1 j2=>?_⟩,?_⟩
   ·by_cases cj:j<fs.length
    ·rw[List.getElem_append_left cj];have q:=I6 j cj j2;have q8:=(zax B8 (zaj q)).trans q;rw[zao _ _ _ _ (zc5 q8 h3 (zjo (by decide)))];exact q8
    ·have ej:j=i:=by simp at j1;omega
     subst ej;rw[List.getElem_append_right (by omega)];simp only[hfs,Nat.sub_self,List.getElem_cons_zero];rw[zao _ _ _ _ (zc5 b8 h3 (zjo (by decide)))];exact b8
   ·simp only[RowKit.intOf];omega
  ·have e1:i=cnt:=by omega
   subst e1;simp(disch:=first|omega|(simp(disch:=first|omega|fail)only[go_sem]<;>omega)|fail)only[go_sem];refine zaa (λ_ _=>False) (λ_ _ _ h=>h.elim) ?_;rw[Nat.sub_self,List.replicate_zero,List.append_nil]at o6;exact⟨fs,VS.own (B:=w4.heap.size) (by rw[hfs];exact o6),hfs,B6,I6⟩
 ·unfold lsL lsE;rw[<-hl1];by_cases hn:0<n
  ·simp(disch:=first|omega|(simp(disch:=first|omega|fail)only[go_sem]<;>omega)|fail)only[go_sem];unfold zfc;rw[if_pos hn];refine zaa (λt w'=>∃cnt:Nat,t=[.int .i64 cnt]/\w'=w2/\(cnt:Int)=min n l1.length) ?_ ?_
   ·rintro t e w3 ⟨cnt,rfl,rfl,hcnt⟩;unfold zfd;have e1:(min n (l1.length:Int)).toNat=cnt:=by omega
    rw[ev2,e1];by_cases h0:(l1.length:Int)=0
    ·have h0':l1=[]:=List.length_eq_zero_iff.1 (by omega);simp(disch:=first|omega|(simp(disch:=first|omega|fail)only[go_sem,h0,decide_true]<;>omega)|fail)only[go_sem,h0,decide_true];rw[sn2.load (by simp[sents])];refine⟨_,cnt,rfl,rfl,by omega,rfl,?_⟩;rw[if_pos ⟨hn,h0'⟩];exact .inr (.inl ⟨G.ao,by simp[sents],rfl,by decide⟩)
    ·have h0':l1≠[]:=λe=>h0 (by rw[e];rfl);simp(disch:=first|omega|(simp(disch:=first|omega|fail)only[go_sem,decide_eq_false h0]<;>omega)|fail)only[go_sem,decide_eq_false h0];refine⟨_,cnt,rfl,trivial,by omega,rfl,?_⟩;rw[if_neg (λh=>h0' h.2)];exact ErrV.nil _ _ _
   ·rw[ev2];by_cases c:(l1.length:Int)<n
    ·simp(disch:=first|omega|(simp(disch:=first|omega|fail)only[go_sem]<;>omega)|fail)only[go_sem];exact⟨l1.length,rfl,trivial,by omega⟩
    ·simp(disch:=first|omega|(simp(disch:=first|omega|fail)only[go_sem]<;>omega)|fail)only[go_sem];exact⟨n.toNat,by rw[Int.toNat_of_nonneg (by omega)],trivial,by omega⟩
  ·rw[ev2];simp(disch:=first|omega|(simp(disch:=first|omega|fail)only[go_sem]<;>omega)|fail)only[go_sem];refine⟨_,l1.length,rfl,trivial,Nat.le_refl _,?_,?_⟩
   ·rw[if_neg hn,List.take_length]
   ·rw[if_neg (λh=>hn h.1)];exact ErrV.nil _ _ _
end
theorem zrA{l:Str}:∀{i j:Nat},SM.ls l i=some j->∀k,j<k->k<i->l.getD k 0≠47
 |0,_,h=>by cases h
 |i+1,j,h=>λk hj hk=>by
  simp only[SM.ls]at h;by_cases c:l.getD i 0=47
  ·rw[if_pos c]at h;injection h with h;omega
  ·rw[if_neg c]at h;by_cases e:k=i
   ·rw[e];exact c
   ·exact zrA h k hj (by omega)
theorem ls_no{l:Str}:∀{i:Nat},SM.ls l i=none->∀k,k<i->l.getD k 0≠47
 |0,_=>λk hk=>by omega
 |i+1,h=>λk hk=>by
  simp only[SM.ls]at h;by_cases c:l.getD i 0=47
  ·rw[if_pos c]at h;cases h
  ·rw[if_neg c]at h;by_cases e:k=i
   ·rw[e];exact c
   ·exact ls_no h k (by omega)
theorem base_no(l:Str):47∉SM.base l:=by
 intro hm;obtain⟨j,hj,e⟩:=List.getElem_of_mem hm;unfold SM.base at hj e;cases hs:SM.zbk l with
 |none=>simp only[hs]at hj e;have:=ls_no hs j hj;rw[List.getD_eq_getElem?_getD,List.getElem?_eq_getElem hj]at this;exact this e
 |some i=>simp only[hs]at hj e;rw[List.length_drop]at hj;have:=zrA hs (i+1+j) (by omega) (by omega);rw[List.getD_eq_getElem?_getD,List.getElem?_eq_getElem (by omega)]at this;rw[List.getElem_drop]at e;exact this e
theorem base_is{l:Str}(h:47∉l):SM.base l=l:=by unfold SM.base;rw[SM.zi9 _ h]
theorem zrP(l:Str):SM.base (SM.base l)=SM.base l:=base_is (base_no l)
section
variable{w w':World}{K:Value->World->Prop}{B f d kb:Nat}{v:Value}{s:FX}{se:Nat->Nat×Nat}{k:Str->Option Nat}{L:List Str}{inf:Str->SM.Info}
theorem zs5{fi:Nat}{i:SM.Info}(h:InfoAt w fi i)(hk:K (S i.name) w.drew):Cl P Fn.bi #[pt fi 0] w K:=by obtain⟨d,nm,a,n,c,md,dir,mode,mt,uid,gid,h1,h2,h3,h4,h5,rfl⟩:=h;apply zfW;unfold zde;simp(disch:=first|omega|(simp(disch:=first|omega|fail)only[go_sem,h1,h2]<;>omega)|fail)only[go_sem,h1,h2];refine zhl h5 ?_;rw[zar,zaq];exact hk
theorem zny{c0:Nat}{n:Int}(h:FH w B f d v s)(sn:Sn w B se)(hd:s.dir=true)(hmd:s.md=.map (some kb))(D:DirAt w kb k L inf)(hr:s.rdc=c0)(hc:c0<=L.length)(hi:∀q∈L,(inf q).name=SM.base q)
  (hk:∀w' z y,FH w' B f d v {s with rdc:=s.rdc+(lsL L c0 n).length}->Kp w w' (·=f)->RowS w' z (lsL L c0 n).length (((lsL L c0 n).map SM.base).map S)->(∀b,z.ownBlock=some b->w.heap.size<=b/\b<w'.heap.size)->ErrV w' w.heap.size se (lsE L c0 n) y->K (tup [z,y]) w'):
  Cl P Fn.aF #[pt f 0,.int .i64 n] w K:=by
 apply zdI;unfold zch;rw[C.aK];have hll:(lsL L c0 n).length<=900000:=by
  have:=D.len;unfold lsL;split
  ·rw[List.length_take,List.length_drop];omega
  ·rw[List.length_drop];omega
 have hmem:∀q∈lsL L c0 n,q∈L:=λq hq=>by
  unfold lsL at hq;split at hq
  ·exact List.mem_of_mem_drop (List.mem_of_mem_take hq)
  ·exact List.mem_of_mem_drop hq
 refine zl0 h sn hd hmd D hr hc λw1 x y fs F1 K1 V1 lf1 I1 ox E1=>?_;generalize lsL L c0 n=ls at*;obtain⟨a1,c1,ex⟩:=V1.slice;simp(disch:=first|omega|(simp(disch:=first|omega|fail)only[go_sem]<;>omega)|fail)only[go_sem];rw[ex,V.ag,<-ex];rw[zru (z:=S []) (bytes:=16) U.ae (by kernel_rfl) rfl fs.length (by omega) (by omega)];have z1:=K1.size;obtain⟨cnt,ecnt⟩:∃cnt,cnt=fs.length:=⟨_,rfl⟩;rw[<-ecnt];have B2:Below w1.heap.size w1 (w1.alloc (CB (List.replicate cnt (S [])) T.string)):=by repeat (first|exact Below.refl _ _|assumption|refine zag ?_ (by first|omega|(simp only[go_sem]<;>omega)) _|refine Below.alloc ?_ (by first|omega|(simp only[go_sem]<;>omega)) _|refine Below.drew ?_)
 have o2:(w1.alloc (CB (List.replicate cnt (S [])) T.string)).ownsRow w1.heap.size T.string 1 (sl w1.heap.size 0 cnt cnt) cnt (List.replicate cnt (S [])):=⟨by simp,.inr ⟨_,_,_,rfl,Nat.le_refl _,zaf w1 _ _ rfl,by simp,by simp[maxLen];omega,by simp,by simp[List.take_of_length_le]⟩⟩;generalize w1.alloc (CB (List.replicate cnt (S [])) T.string)=w2 at*;have cl:cnt=ls.length:=by rw[ecnt,lf1]
 refine zaa (λt w'=>w'.ownsRow w1.heap.size T.string 1 (sl w1.heap.size 0 cnt cnt) cnt ((ls.map SM.base).map S)/\Below w1.heap.size w1 w') ?_ ?_
 ·rintro t e w3 ⟨o3,B3⟩;have z3:=B3.size;refine hk w3 _ y (F1.old B3) (K1.trans (Kp.of_below B3 _) λ_ _ h=>h) ?_ (λb hb=>?_) (E1.old B3)
  ·rw[<-cl];exact zgO o3
  ·have:=zeS o3 b hb;omega
 rw[ex,V.ag,<-ex,<-ecnt];refine zaA (λt w'=>∃(i:Nat),t=[.int .i64 i]/\i<=cnt/\Below w1.heap.size w1 w'/\w'.ownsRow w1.heap.size T.string 1 (sl w1.heap.size 0 cnt cnt) cnt (((ls.map SM.base).take i).map S++List.replicate (cnt - i) (S []))) (λt _=>cnt - (RowKit.intOf (gs t 0)).toNat) ⟨0,rfl,by omega,B2,by simpa using o2⟩ ?_;rintro t e w3 ⟨i,rfl,hi3,B3,o3⟩;by_cases g:(i:Int)<cnt
 ·have hif:i<fs.length:=by omega
  have hil:i<ls.length:=by omega
  have z13:=B3.size;simp(disch:=first|omega|(simp(disch:=first|omega|fail)only[go_sem]<;>omega)|fail)only[go_sem];refine zaa (λt w'=>t=[]/\w'=w3) ?_ ⟨rfl,rfl⟩;rintro t e w4 ⟨rfl,rfl⟩;obtain⟨bx,ox3,x1,x2,x3,x4⟩:=(V1.old B3).idx U.ai (by kernel_rfl) (i:=i) hif;simp(disch:=first|omega|(simp(disch:=first|omega|fail)only[go_sem,x4,x3]<;>omega)|fail)only[go_sem,x4,x3];refine zs5 ((I1 i hif (by rw[List.length_map];exact hil)).old B3) ?_;rw[List.getElem_map,hi _ (hmem _ (List.getElem_mem hil))];have hbl:(SM.base ls[i]).length<=140737488355328:=by
   obtain⟨_,nm,_,_,_,_,_,_,_,_,_,_,_,_,_,hq,e⟩:=I1 i hif (by rw[List.length_map];exact hil);rw[List.getElem_map]at e;have e2:=congrArg SM.Info.name e;rw[hi _ (hmem _ (List.getElem_mem hil))]at e2;rw[e2];simp only
   unfold SM.base;split
   ·rw[List.length_drop];omega
   ·exact hq
  refine zhl hbl ?_;rw[zrP,zar,zaq];have o4:w4.drew.drew.ownsRow w1.heap.size T.string 1 (sl w1.heap.size 0 cnt cnt) cnt (((ls.map SM.base).take i).map S++List.replicate (cnt - i) (S [])):=o3;have B4:=B3.drew.drew;generalize w4.drew.drew=w5 at*;obtain⟨g',cur',h1,h2,h3,h4',h5,h6⟩:=zhw U.ae (by kernel_rfl) o4 (i:=i) (by omega);rw[Nat.mul_one]at h4' h5 h6;have hg':g'=w1.heap.size:=(Option.some.inj h1).symm;subst hg';have hlt:i<cur'.length:=by omega
  have q9:=zjL (size:=1) o4 rfl h3 (by simp) _ (rfl:CB (cur'.set i (S (SM.base ls[i]))) T.string=_);rw[Nat.mul_one,List.take_set,h5]at q9;have hib:i<(ls.map SM.base).length:=by rw[List.length_map];exact hil
  have eset:(((ls.map SM.base).take i).map S++List.replicate (cnt - i) (S [])).set i (S (SM.base ls[i]))=((ls.map SM.base).take (i+1)).map S++List.replicate (cnt - (i+1)) (S []):=by
   have hl:(((ls.map SM.base).take i).map S).length=i:=by rw[List.length_map,List.length_take];omega
   rw[List.set_append_right _ _ (by omega),hl,Nat.sub_self,show cnt - i=(cnt - (i+1))+1 by omega,List.replicate_succ,List.take_succ_eq_append_getElem hib,List.map_append,List.append_assoc,List.getElem_map];rfl
  rw[eset]at q9;simp(disch:=first|omega|(simp(disch:=first|omega|fail)only[go_sem,h6,h3]<;>omega)|fail)only[go_sem,h6,h3];refine⟨⟨i+1,rfl,by omega,zag B4 (Nat.le_refl _) _,q9⟩,?_⟩;simp only[RowKit.intOf];omega
 ·have e1:i=cnt:=by omega
  subst e1;simp(disch:=first|omega|(simp(disch:=first|omega|fail)only[go_sem]<;>omega)|fail)only[go_sem];refine zaa (λ_ _=>False) (λ_ _ _ h=>h.elim) ?_;rw[List.take_of_length_le (by rw[List.length_map];omega),Nat.sub_self,List.replicate_zero,List.append_nil]at o3;exact⟨o3,B3⟩
def lsA(L:List Str)(inf:Str->SM.Info)(c0:Nat)(q:SM.Stp):SM.Ans:=if q.op=20 then⟨lsE L c0 q.n,0,0,[],(lsL L c0 q.n).map SM.base,[]⟩else⟨lsE L c0 q.n,0,0,[],[],(lsL L c0 q.n).map inf⟩
set_option maxHeartbeats 4000000 in
theorem on_list{c0:Nat}{q:SM.Stp}{x:Value}(h:FH w B f d v s)(sn:Sn w B se)(hd:s.dir=true)(hmd:s.md=.map (some kb))(D:DirAt w kb k L inf)(hr:s.rdc=c0)(hc:c0<=L.length)(hi:∀q∈L,(inf q).name=SM.base q)(hop:q.op=19\/q.op=20)(hx:BS w x q.data)
  (hk:OnK w B f d v ({s with rdc:=s.rdc+(lsL L c0 q.n).length},lsA L inf c0 q) K):Cl P Fn.dw #[pt f 0,AG (zaC q x)] w K:=by
 apply zl9;unfold zkm;have hv:=ze0 hx;obtain⟨lf,ld⟩:=h.lt;have own:=zeS h.own;simp(disch:=first|omega|(simp only[sZb,sZa,sZd]<;>omega)|(simp(disch:=first|omega|(simp only[sZb,sZa,sZd]<;>omega)|fail)only[go_sem,hv];done)|fail)only[go_sem,zaN,zaL,zaJ,zaM,zaK,w_u8,zaI,Int.reduceToNat,Int.reducePow,Nat.reducePow,hv];obtain⟨w1,ew1⟩:∃w1,w1=((w.alloc (CB (zaC q x) T.ae)).alloc (CB ansZ T.ab)).alloc (CB ansZ T.ab):=⟨_,rfl⟩;have b0:Below w.heap.size w w1:=by rw[ew1];repeat (first|exact Below.refl _ _|assumption|refine zag ?_ (by first|omega|(simp only[go_sem]<;>omega)) _|refine Below.alloc ?_ (by first|omega|(simp only[go_sem]<;>omega)) _|refine Below.drew ?_)
 have o:OnS w w1 B f d v se s q x:=by
  refine⟨h.old b0,sn.below (b0.mono (by have:=h.hf;omega)),b0,by rw[ew1];simp only[go_sem],?_,?_,?_,lf,ld,λk e=>(own k e).2⟩
  ·rw[ew1,zat _ _ _ (by simp only[go_sem];omega),zat _ _ _ (by simp only[go_sem];omega),zaf _ _ _ rfl]
  ·rw[ew1,zat _ _ _ (by simp only[go_sem];omega),zaf _ _ _ (by simp only[go_sem])]
  ·rw[ew1,zaf _ _ _ (by simp only[go_sem])]
 have hx1:BS w1 x q.data:=zcs hx b0 (Nat.le_refl _);rw[zeJ (by rw[<-ew1];exact o.b5),<-ew1];clear ew1;refine zaa (λt w'=>OnJ w B f d v se {s with rdc:=s.rdc+(lsL L c0 q.n).length} (lsA L inf c0 q) t w') (λt e w' j=>zrG o j hk) ?_;have hbs:=o.bs;have D1:=D.old b0;have hz:=o.sz;have hll:(lsL L c0 q.n).length<=900000:=by
  have:=D.len;unfold lsL;split
  ·rw[List.length_take,List.length_drop];omega
  ·rw[List.length_drop];omega
 have c12:¬q.op=12:=by omega
 have c13:¬q.op=13:=by omega
 have c14:¬q.op=14:=by omega
 have c15:¬q.op=15:=by omega
 have c16:¬q.op=16:=by omega
 have c17:¬q.op=17:=by omega
 have c18:¬q.op=18:=by omega
 unfold zgt;simp(disch:=first|omega|(simp only[sZb,sZa,sZd]<;>omega)|(simp(disch:=first|omega|(simp only[sZb,sZa,sZd]<;>omega)|fail)only[go_sem];done)|fail)only[go_sem,zaN,zaL,zaJ,zaM,zaK,w_u8,zaI,Int.reduceToNat,Int.reducePow,Nat.reducePow];unfold zgE;simp(disch:=first|omega|(simp only[sZb,sZa,sZd]<;>omega)|(simp(disch:=first|omega|(simp only[sZb,sZa,sZd]<;>omega)|fail)only[go_sem];done)|fail)only[go_sem,zaN,zaL,zaJ,zaM,zaK,w_u8,zaI,Int.reduceToNat,Int.reducePow,Nat.reducePow];unfold zgB;simp(disch:=first|omega|(simp only[sZb,sZa,sZd]<;>omega)|(simp(disch:=first|omega|(simp only[sZb,sZa,sZd]<;>omega)|fail)only[go_sem];done)|fail)only[go_sem,zaN,zaL,zaJ,zaM,zaK,w_u8,zaI,Int.reduceToNat,Int.reducePow,Nat.reducePow];unfold zgL;simp(disch:=first|omega|(simp only[sZb,sZa,sZd]<;>omega)|(simp(disch:=first|omega|(simp only[sZb,sZa,sZd]<;>omega)|fail)only[go_sem];done)|fail)only[go_sem,zaN,zaL,zaJ,zaM,zaK,w_u8,zaI,Int.reduceToNat,Int.reducePow,Nat.reducePow];unfold zgk;simp(disch:=first|omega|(simp only[sZb,sZa,sZd]<;>omega)|(simp(disch:=first|omega|(simp only[sZb,sZa,sZd]<;>omega)|fail)only[go_sem];done)|fail)only[go_sem,zaN,zaL,zaJ,zaM,zaK,w_u8,zaI,Int.reduceToNat,Int.reducePow,Nat.reducePow];unfold zgw;simp(disch:=first|omega|(simp only[sZb,sZa,sZd]<;>omega)|(simp(disch:=first|omega|(simp only[sZb,sZa,sZd]<;>omega)|fail)only[go_sem];done)|fail)only[go_sem,zaN,zaL,zaJ,zaM,zaK,w_u8,zaI,Int.reduceToNat,Int.reducePow,Nat.reducePow];unfold zgp;have hR:∀y,y<w1.heap.size->y=f->Of f d v y:=λ_ _ h=>.inl h;by_cases c19:q.op=19
 ·simp(disch:=first|omega|(simp only[sZb,sZa,sZd]<;>omega)|(simp(disch:=first|omega|(simp only[sZb,sZa,sZd]<;>omega)|fail)only[go_sem];done)|fail)only[go_sem,zaN,zaL,zaJ,zaM,zaK,w_u8,zaI,Int.reduceToNat,Int.reducePow,Nat.reducePow];unfold zhK;simp(disch:=first|omega|(simp only[sZb,sZa,sZd]<;>omega)|(simp(disch:=first|omega|(simp only[sZb,sZa,sZd]<;>omega)|fail)only[go_sem,hbs];done)|fail)only[go_sem,zaN,zaL,zaJ,zaM,zaK,w_u8,zaI,Int.reduceToNat,Int.reducePow,Nat.reducePow,hbs];refine zl0 (n:=q.n) o.h o.sn hd hmd D1 hr hc λw2 x2 y fs F2 K2 V2 lf2 I2 ox2 E2=>?_;simp(disch:=first|omega|(simp only[sZb,sZa,sZd]<;>omega)|(simp(disch:=first|omega|(simp only[sZb,sZa,sZd]<;>omega)|fail)only[go_sem];done)|fail)only[go_sem,zaN,zaL,zaJ,zaM,zaK,w_u8,zaI,Int.reduceToNat,Int.reducePow,Nat.reducePow];refine zeH (fs:=fs) (is:=(lsL L c0 q.n).map inf) V2 (by omega) (by rw[List.length_map];exact lf2.symm) I2 λw3 z o3 B3=>?_;have z2:=K2.size;have K3:Kp w1 w3 (·=f):=K2.trans (Kp.of_below B3 _) λ_ _ h=>h;obtain⟨_,_,k5⟩:=o.kb K3 hR;have l5:=zaj k5;have hz1:z.oneCell'=true:=by obtain⟨p,c,rfl⟩:=zan o3;rfl
  have ea:lsA L inf c0 q=⟨lsE L c0 q.n,0,0,[],[],(lsL L c0 q.n).map inf⟩:=by unfold lsA;rw[if_neg (by omega)]
  rw[ea];simp(disch:=first|omega|(simp only[sZb,sZa,sZd]<;>omega)|(simp(disch:=first|omega|(simp only[sZb,sZa,sZd]<;>omega)|fail)only[go_sem,k5,hz1];done)|fail)only[go_sem,zaN,zaL,zaJ,zaM,zaK,w_u8,zaI,Int.reduceToNat,Int.reducePow,Nat.reducePow,k5,hz1];refine o.put (a:=⟨lsE L c0 q.n,0,0,[],[],(lsL L c0 q.n).map inf⟩) (F2.old B3) K3 hR (.inl rfl) (E2.old B3) ⟨zb0 _,zaT _,zgO o3,λb hb=>?_⟩;rcases hb with h|h|h
  ·cases h
  ·cases h
  ·have h1:=zeS o3 b h;refine⟨by omega,h1.2,?_⟩;exact o.nOf (by omega)
 ·have c20:q.op=20:=by omega
  simp(disch:=first|omega|(simp only[sZb,sZa,sZd]<;>omega)|(simp(disch:=first|omega|(simp only[sZb,sZa,sZd]<;>omega)|fail)only[go_sem];done)|fail)only[go_sem,zaN,zaL,zaJ,zaM,zaK,w_u8,zaI,Int.reduceToNat,Int.reducePow,Nat.reducePow];unfold zgM;simp(disch:=first|omega|(simp only[sZb,sZa,sZd]<;>omega)|(simp(disch:=first|omega|(simp only[sZb,sZa,sZd]<;>omega)|fail)only[go_sem];done)|fail)only[go_sem,zaN,zaL,zaJ,zaM,zaK,w_u8,zaI,Int.reduceToNat,Int.reducePow,Nat.reducePow];unfold zhL;simp(disch:=first|omega|(simp only[sZb,sZa,sZd]<;>omega)|(simp(disch:=first|omega|(simp only[sZb,sZa,sZd]<;>omega)|fail)only[go_sem,hbs];done)|fail)only[go_sem,zaN,zaL,zaJ,zaM,zaK,w_u8,zaI,Int.reduceToNat,Int.reducePow,Nat.reducePow,hbs];refine zny (n:=q.n) o.h o.sn hd hmd D1 hr hc hi λw3 z y F2 K2 R2 ob E2=>?_;obtain⟨_,_,k5⟩:=o.kb K2 hR;have l5:=zaj k5;have hz1:z.oneCell'=true:=by obtain⟨p,c,rfl⟩:=zaX R2;rfl
  have ea:lsA L inf c0 q=⟨lsE L c0 q.n,0,0,[],(lsL L c0 q.n).map SM.base,[]⟩:=by unfold lsA;rw[if_pos c20]
  rw[ea];simp(disch:=first|omega|(simp only[sZb,sZa,sZd]<;>omega)|(simp(disch:=first|omega|(simp only[sZb,sZa,sZd]<;>omega)|fail)only[go_sem,k5,hz1];done)|fail)only[go_sem,zaN,zaL,zaJ,zaM,zaK,w_u8,zaI,Int.reduceToNat,Int.reducePow,Nat.reducePow,k5,hz1];refine o.put (a:=⟨lsE L c0 q.n,0,0,[],(lsL L c0 q.n).map SM.base,[]⟩) F2 K2 hR (.inl rfl) E2 ⟨zb0 _,by simp only[List.length_map];exact R2,zaT _,λb hb=>?_⟩;rcases hb with h|h|h
  ·cases h
  ·have h1:=ob b h;exact⟨h1.1,h1.2,o.nOf (by omega)⟩
  ·cases h
end
end Go.Proofs.YtdljebgllipdjaaGreatDoor.X
end
section
namespace Go.X
open Go
namespace SM
def Stp.skip(s:Stp)(n:Nat):Stp:=⟨16,[],[],0,0,s.h,[],n,1,0⟩
end SM
end Go.X
end
section
namespace Go.Proofs.YtdljebgllipdjaaGreatDoor.X
open Go Go.X Go.Proofs Go.RowKit
def zqI(n:SM.Node):SM.Info:=⟨SM.base n.name,if n.dir then 42 else n.data.length,n.mode,n.dir,n.time⟩
def znr(n:SM.Node)(h:SM.Hnd)(s:SM.Stp):Int:=if s.wh=0 then s.off else if s.wh=1 then h.pos+s.off else if s.wh=2 then n.data.length+s.off else h.pos
def zbh(n:SM.Node)(h:SM.Hnd)(s:SM.Stp):SM.Node×SM.Hnd×SM.Ans:=
 if s.op=18 then(if h.ro then n else{n with time:=0},{h with cl:=true},SM.Ans.z)
 else if s.op=21 then(n,h,{SM.Ans.z with infos:=[zqI n]})
 else if s.op=22 then(n,h,{SM.Ans.z with names:=[n.name]})
 else if s.op=23 then(n,h,SM.Ans.z)
 else if s.op=19\/s.op=20 then(n,h,SM.Ans.err 8)
 else if h.cl then(n,h,SM.Ans.err 3)
 else if s.op=12 then(n,{h with pos:=h.pos+(SM.zaU n.data h.pos s.n).1.length},⟨(SM.zaU n.data h.pos s.n).2,0,0,(SM.zaU n.data h.pos s.n).1,[],[]⟩)
 else if s.op=13 then(n,h,⟨(SM.zaU n.data s.off s.n).2,0,0,(SM.zaU n.data s.off s.n).1,[],[]⟩)
 else if s.op=16 then(n,{h with pos:=znr n h s},⟨0,0,znr n h s,[],[],[]⟩)
 else if h.ro then(n,if s.op=15 then{h with pos:=s.off}else h,SM.Ans.err 6)
 else if s.op=17/\s.off<0 then(n,h,SM.Ans.err 7)
 else if s.op=14/\(h.pos<0\/1048576<h.pos)\/s.op≠14/\(s.off<0\/1048576<s.off)then(n,h,SM.Ans.err 13)
 else if s.op=17 then({n with data:=SM.grown (n.data.take (min (n.data.length:Int) s.off).toNat) s.off,time:=0},h,SM.Ans.z)
 else if s.op=14 then({n with data:=SM.over n.data h.pos s.data,time:=0},{h with pos:=h.pos+s.data.length},⟨0,s.data.length,0,[],[],[]⟩)
 else if s.op=15 then({n with data:=SM.over n.data s.off s.data,time:=0},{h with pos:=s.off+s.data.length},⟨0,s.data.length,0,[],[],[]⟩)
 else(n,h,⟨0,s.data.length,0,[],[],[]⟩)
theorem iteP{α:Type}{p:Prop}[Decidable p]{Q:α->Prop}{a b:α}(ha:Q a)(hb:Q b):Q (if p then a else b):=by
 by_cases c:p
 ·rw[if_pos c];exact ha
 ·rw[if_neg c];exact hb
theorem zjl(n:SM.Node)(h:SM.Hnd)(s:SM.Stp):(zbh n h s).2.1.node=h.node/\(zbh n h s).1.dir=n.dir:=by
 unfold zbh
 repeat' apply iteP (Q:=λr:SM.Node×SM.Hnd×SM.Ans=>r.2.1.node=h.node/\r.1.dir=n.dir)
 all_goals first|exact⟨rfl,rfl⟩|(cases h.ro<;>exact⟨rfl,rfl⟩)|(constructor<;>(first|rfl|(by_cases c:s.op=15<;>simp[c])))
theorem zji(n:SM.Node)(h:SM.Hnd)(s:SM.Stp):(zbh n h s).2.1.listed=h.listed/\(zbh n h s).1.name=n.name:=by
 unfold zbh
 repeat' apply iteP (Q:=λr:SM.Node×SM.Hnd×SM.Ans=>r.2.1.listed=h.listed/\r.1.name=n.name)
 all_goals first|exact⟨rfl,rfl⟩|(cases h.ro<;>exact⟨rfl,rfl⟩)|(constructor<;>(first|rfl|(by_cases c:s.op=15<;>simp[c])))
theorem ztp{α:Type}(l:List α)(i:Nat)(d:α)(hi:i<l.length):l.set i (l.getD i d)=l:=by
 have e:l.getD i d=l[i]:=by simp[List.getD,hi]
 rw[e];exact List.set_getElem_self _
theorem zoq:∀{l:SM.HM}{k:Int}{h:SM.Hnd},SM.hget l k=some h->SM.hput l k h=l
 |[],_,_,e=>by cases e
 |x::l,k,h,e=>by
  simp only[SM.hget]at e;simp only[SM.hput];by_cases c:x.1=k
  ·rw[if_pos c]at e⊢;injection e with e;rw[<-e,<-c]
  ·rw[if_neg c]at e⊢;rw[zoq e]
def setF(m:SM.Mem)(k:Int)(x:Nat)(r:SM.Node×SM.Hnd×SM.Ans):SM.Mem×SM.Ans:=({m with nodes:=m.nodes.set x r.1,hs:=SM.hput m.hs k r.2.1},r.2.2)
theorem zno{m:SM.Mem}{k:Int}{h:SM.Hnd}(s:SM.Stp)(hk:SM.hget m.hs k=some h)(hl:h.node<m.nodes.length)(hd:s.op=19\/s.op=20->(m.node h.node).dir=false):m.fileS k h s=setF m k h.node (zbh (m.node h.node) h s):=by
 have e1:m.nodes.set h.node (m.node h.node)=m.nodes:=ztp _ _ _ hl;have e2:=zoq hk;have e0:(⟨m.names,m.ats,m.nodes.set h.node (m.node h.node),SM.hput m.hs k h⟩:SM.Mem)=m:=by rw[e1,e2]
 have e3:∀h',(⟨m.names,m.ats,m.nodes.set h.node (m.node h.node),SM.hput m.hs k h'⟩:SM.Mem)=m.setH k h':=λh'=>by rw[e1];rfl
 have e4:∀n',(⟨m.names,m.ats,m.nodes.set h.node n',SM.hput m.hs k h⟩:SM.Mem)=m.setNode h.node n':=λn'=>by rw[e2];rfl
 unfold setF;by_cases c18:s.op=18
 ·unfold SM.Mem.fileS zbh;rw[if_pos c18,if_pos c18];cases hr:h.ro with
  |true=>exact Prod.ext (e3 _).symm rfl
  |false=>rfl
 by_cases c21:s.op=21
 ·unfold SM.Mem.fileS zbh;rw[if_neg c18,if_pos c21,if_neg c18,if_pos c21];exact Prod.ext e0.symm rfl
 by_cases c22:s.op=22
 ·unfold SM.Mem.fileS zbh;rw[if_neg c18,if_neg c21,if_pos c22,if_neg c18,if_neg c21,if_pos c22];exact Prod.ext e0.symm rfl
 by_cases c23:s.op=23
 ·unfold SM.Mem.fileS zbh;rw[if_neg c18,if_neg c21,if_neg c22,if_pos c23,if_neg c18,if_neg c21,if_neg c22,if_pos c23];exact Prod.ext e0.symm rfl
 by_cases c19:s.op=19\/s.op=20
 ·unfold SM.Mem.fileS SM.Mem.listS zbh;rw[if_neg c18,if_neg c21,if_neg c22,if_neg c23,if_pos c19,if_neg c18,if_neg c21,if_neg c22,if_neg c23,if_pos c19];simp only[hd c19,if_true];exact Prod.ext e0.symm rfl
 unfold SM.Mem.fileS zbh;rw[if_neg c18,if_neg c21,if_neg c22,if_neg c23,if_neg c19,if_neg c18,if_neg c21,if_neg c22,if_neg c23,if_neg c19];by_cases cc:h.cl=true
 ·rw[if_pos cc,if_pos cc];exact Prod.ext e0.symm rfl
 rw[if_neg cc,if_neg cc];by_cases c12:s.op=12
 ·rw[if_pos c12,if_pos c12];exact Prod.ext (e3 _).symm rfl
 rw[if_neg c12,if_neg c12];by_cases c13:s.op=13
 ·rw[if_pos c13,if_pos c13];exact Prod.ext e0.symm rfl
 rw[if_neg c13,if_neg c13];by_cases c16:s.op=16
 ·rw[if_pos c16,if_pos c16];exact Prod.ext (e3 _).symm rfl
 rw[if_neg c16,if_neg c16];by_cases cr:h.ro=true
 ·rw[if_pos cr,if_pos cr];by_cases c15:s.op=15
  ·rw[if_pos c15,if_pos c15];exact Prod.ext (e3 _).symm rfl
  ·rw[if_neg c15,if_neg c15];exact Prod.ext e0.symm rfl
 rw[if_neg cr,if_neg cr];by_cases ca:s.op=17/\s.off<0
 ·rw[if_pos ca,if_pos ca];exact Prod.ext e0.symm rfl
 rw[if_neg ca,if_neg ca];by_cases cb:s.op=14/\(h.pos<0\/1048576<h.pos)\/s.op≠14/\(s.off<0\/1048576<s.off)
 ·rw[if_pos cb,if_pos cb];exact Prod.ext e0.symm rfl
 rw[if_neg cb,if_neg cb];by_cases c17:s.op=17
 ·rw[if_pos c17,if_pos c17];exact Prod.ext (e4 _).symm rfl
 rw[if_neg c17,if_neg c17];by_cases c14:s.op=14
 ·rw[if_pos c14,if_pos c14];rfl
 rw[if_neg c14,if_neg c14];by_cases c15:s.op=15
 ·rw[if_pos c15,if_pos c15];rfl
 ·rw[if_neg c15,if_neg c15];exact Prod.ext e0.symm rfl
def one(n:SM.Node)(h:SM.Hnd):SM.Mem:=⟨[[47],[47,102]],[0,1],[⟨true,2147484141,[],0,[47]⟩,n],[(0,h)]⟩
structure Rel(c:Int)(x:FX)(n:SM.Node)(h:SM.Hnd):Prop where
 bytes:x.bytes=n.data
 cl:x.cl=h.cl
 ro:x.ro=h.ro
 dx:x.dir=false
 dn:n.dir=false
 nm:x.nm=n.name
 mode:x.mode=n.mode
 mt:x.mt=n.time
 len:n.data.length<=8192
 nl:n.name.length<=1000000
 md:0<=n.mode/\n.mode<=4294967295
 pos:h.cl=false->x.pos=h.pos
 px:-4398046511104 - c<=x.pos/\x.pos<=4398046511104+c
 ph:-4398046511104 - c<=h.pos/\h.pos<=4398046511104+c
 c0:0<=c
theorem zpY(x:FX)(b:List UInt8)(h0:0<=x.pos):wrX x b=SM.over x.bytes x.pos b:=by
 unfold wrX SM.over SM.grown;obtain⟨p,hp⟩:∃p:Nat,x.pos=p:=⟨x.pos.toNat,by omega⟩;rw[hp];by_cases c:(x.bytes.length:Int)<p
 ·rw[if_pos c];rw[show((p:Int)+b.length).toNat=p+b.length by omega,Int.toNat_natCast];rw[List.take_append,List.drop_of_length_le (by simp;omega),List.take_of_length_le (by omega),List.take_replicate,List.append_nil,List.append_assoc];rw[show min (p - x.bytes.length) (p+b.length - x.bytes.length)=p - x.bytes.length by omega]
 ·rw[if_neg c];rw[show((p:Int)+b.length).toNat=p+b.length by omega,Int.toNat_natCast];rw[List.take_append_of_le_length (by omega),List.drop_append];have:List.drop (p+b.length - x.bytes.length) (List.replicate (p+b.length - x.bytes.length) (0:UInt8))=[]:=List.drop_of_length_le (by simp);rw[this,List.append_nil]
theorem zpW(d:List UInt8)(p:Nat)(b:List UInt8):(SM.over d p b).length=max d.length (p+b.length):=by unfold SM.over SM.grown;rw[show((p:Int)+b.length).toNat=p+b.length by omega,Int.toNat_natCast];simp only[List.length_append,List.length_take,List.length_drop,List.length_replicate];omega
theorem zp1(x:FX)(n:Int)(h0:0<=x.pos)(hn:0<=n/\n<=1048576):(rdX x (want n)).1=(SM.zaU x.bytes x.pos n).1/\((rdX x (want n)).2:Int)=(SM.zaU x.bytes x.pos n).2:=by
 have e:(max n 0).toNat=want n:=by unfold want;omega
 have e2:0<max n 0↔0<want n:=by unfold want;omega
 unfold rdX SM.zaU;rw[if_neg (show¬x.pos<0 by omega),e];by_cases c1:0<want n/\x.pos=x.bytes.length
 ·rw[if_pos c1,if_pos (show 0<max n 0/\x.pos=x.bytes.length from⟨e2.2 c1.1,c1.2⟩)];exact⟨rfl,rfl⟩
 ·rw[if_neg c1,if_neg (show¬(0<max n 0/\x.pos=x.bytes.length)fromλq=>c1 ⟨e2.1 q.1,q.2⟩)];by_cases c2:(x.bytes.length:Int)<x.pos
  ·rw[if_pos c2,if_pos c2];exact⟨rfl,rfl⟩
  ·rw[if_neg c2,if_neg c2];exact⟨rfl,rfl⟩
theorem zow(d:List UInt8)(p n:Int)(hn:n<=4096):((SM.zaU d p n).1.length:Int)<=4096/\(SM.zaU d p n).1.length<=d.length:=by
 unfold SM.zaU
 repeat' split
 all_goals simp
 omega
structure SpF(n:SM.Node)(h:SM.Hnd)(s:SM.Stp):Prop where
 op:12<=s.op/\s.op<=23
 dl:s.data.length<=4096
 nn:s.op<18->0<=s.n/\s.n<=4096
 off:s.op<18->-1099511627776<=s.off/\s.off<=1099511627776
 rd:s.op=12->h.cl=true\/0<=h.pos
 ra:s.op=13->0<=s.off
 wr:s.op=14->0<=h.pos/\h.pos<=4096
 wa:s.op=15->0<=s.off/\s.off<=4096
 tr:s.op=17->s.off<=4096
 sk:s.op=16->h.pos<2199023255552/\-2199023255552<h.pos
theorem zt9{m:SM.Mem}{n:SM.Node}{h:SM.Hnd}{s:SM.Stp}(hn:m.node h.node=n)(hd:n.dir=false)(ho:12<=s.op/\s.op<=23)(hl:s.data.length<=4096)(k:m.speaksFile h s=true):SpF n h s:=by
 unfold SM.Mem.speaksFile at k;rw[hn]at k;simp only[hd]at k;by_cases c:s.op<18
 ·rw[if_neg (by omega),if_neg (by omega)]at k;simp only[Bool.false_or,Bool.or_eq_true,decide_eq_true_eq]at k;by_cases c2:(((4096<s.data.length\/s.n<0)\/4096<s.n)\/1099511627776<s.off)\/s.off< -1099511627776
  ·rw[if_pos c2]at k;cases k
  ·rw[if_neg c2]at k;refine⟨ho,hl,λ_=>by omega,λ_=>by omega,λe=>?_,λe=>?_,λe=>?_,λe=>?_,λe=>?_,λe=>?_⟩
   all_goals simp[e]at k
   all_goals first|omega|simpa using k
 ·exact⟨ho,hl,λh=>by omega,λh=>by omega,λh=>by omega,λh=>by omega,λh=>by omega,λh=>by omega,λh=>by omega,λh=>by omega⟩
section
variable{c:Int}{x:FX}{n:SM.Node}{h:SM.Hnd}{s:SM.Stp}
theorem Rel.okX(r:Rel c x n h)(p:SpF n h s)(hc:c<=10000000000000):OkX x s:=by
 have h1:=r.px;have h2:=r.ph;refine⟨p.op,λ_=>r.dx,by rw[r.bytes];have:=r.len;omega,by rw[r.nm];have:=r.nl;omega,by rw[r.mode];exact r.md,by have:=p.dl;omega,λe=>by have:=p.off e;omega,by omega,λe q=>?_,p.ra,λe q _=>?_,λe q _=>?_,λe=>?_⟩
 ·rw[r.cl]at q;rw[r.pos q];rcases p.rd e with h|h
  ·rw[q]at h;cases h
  ·exact h
 ·rw[r.cl]at q;rw[r.pos q];have:=p.wr e;omega
 ·have:=p.wa e;omega
 ·have:=p.tr e;omega
theorem zt2(x:FX)(e:s.op=12):onX x s=((rdR x (want s.n)).1,⟨(rdR x (want s.n)).2.2,0,0,(rdR x (want s.n)).2.1,[],[]⟩):=by unfold onX;rw[if_pos e]
theorem zub(x:FX)(e:s.op=13):onX x s=(x,⟨(raR x s.off (want s.n)).2,0,0,(raR x s.off (want s.n)).1,[],[]⟩):=by unfold onX;rw[if_neg (by omega),if_pos e]
theorem zrV(x:FX)(e:s.op=14):onX x s=((wrR x s.data).1,⟨(wrR x s.data).2.1,(wrR x s.data).2.2,0,[],[],[]⟩):=by unfold onX;rw[if_neg (by omega),if_neg (by omega),if_pos e]
theorem zr5(x:FX)(e:s.op=15):onX x s=((wrR {x with pos:=s.off} s.data).1,⟨(wrR {x with pos:=s.off} s.data).2.1,(wrR {x with pos:=s.off} s.data).2.2,0,[],[],[]⟩):=by unfold onX;rw[if_neg (by omega),if_neg (by omega),if_neg (by omega),if_pos e]
theorem zud(x:FX)(e:s.op=16):onX x s=((skR x s.off s.wh).1,⟨(skR x s.off s.wh).2.1,0,(skR x s.off s.wh).2.2,[],[],[]⟩):=by unfold onX;rw[if_neg (by omega),if_neg (by omega),if_neg (by omega),if_neg (by omega),if_pos e]
theorem zrW(x:FX)(e:s.op=17):onX x s=((trR x s.off).1,⟨(trR x s.off).2,0,0,[],[],[]⟩):=by unfold onX;rw[if_neg (by omega),if_neg (by omega),if_neg (by omega),if_neg (by omega),if_neg (by omega),if_pos e]
theorem zt8(x:FX)(e:s.op=18):onX x s=(clR x,SM.Ans.z):=by unfold onX;rw[if_neg (by omega),if_neg (by omega),if_neg (by omega),if_neg (by omega),if_neg (by omega),if_neg (by omega),if_pos e]
theorem onX_19(x:FX)(e:s.op=19\/s.op=20):onX x s=(x,SM.Ans.err 8):=by
 unfold onX;rw[if_neg (by omega),if_neg (by omega),if_neg (by omega),if_neg (by omega),if_neg (by omega),if_neg (by omega),if_neg (by omega)];by_cases q:s.op=19
 ·rw[if_pos q]
 ·rw[if_neg q,if_pos (by omega)]
theorem zuf(x:FX)(e:s.op=21):onX x s=(x,⟨0,0,0,[],[],[znJ x]⟩):=by unfold onX;rw[if_neg (by omega),if_neg (by omega),if_neg (by omega),if_neg (by omega),if_neg (by omega),if_neg (by omega),if_neg (by omega),if_neg (by omega),if_neg (by omega),if_pos e]
theorem zt6(x:FX)(e:s.op=22):onX x s=(x,⟨0,0,0,[],[x.nm],[]⟩):=by unfold onX;rw[if_neg (by omega),if_neg (by omega),if_neg (by omega),if_neg (by omega),if_neg (by omega),if_neg (by omega),if_neg (by omega),if_neg (by omega),if_neg (by omega),if_neg (by omega),if_pos e]
theorem zua(x:FX)(e:s.op=23):onX x s=(x,SM.Ans.z):=by unfold onX;rw[if_neg (by omega),if_neg (by omega),if_neg (by omega),if_neg (by omega),if_neg (by omega),if_neg (by omega),if_neg (by omega),if_neg (by omega),if_neg (by omega),if_neg (by omega),if_neg (by omega)]
theorem znP(e:s.op=18):zbh n h s=(if h.ro then n else{n with time:=0},{h with cl:=true},SM.Ans.z):=by unfold zbh;rw[if_pos e]
theorem znS(e:s.op=21):zbh n h s=(n,h,{SM.Ans.z with infos:=[zqI n]}):=by unfold zbh;rw[if_neg (by omega),if_pos e]
theorem znR(e:s.op=22):zbh n h s=(n,h,{SM.Ans.z with names:=[n.name]}):=by unfold zbh;rw[if_neg (by omega),if_neg (by omega),if_pos e]
theorem znE(e:s.op=23):zbh n h s=(n,h,SM.Ans.z):=by unfold zbh;rw[if_neg (by omega),if_neg (by omega),if_neg (by omega),if_pos e]
theorem ztx(e:s.op=19\/s.op=20):zbh n h s=(n,h,SM.Ans.err 8):=by unfold zbh;rw[if_neg (by omega),if_neg (by omega),if_neg (by omega),if_neg (by omega),if_pos e]
theorem ztk(o:s.op<18)(c:h.cl=true):zbh n h s=(n,h,SM.Ans.err 3):=by unfold zbh;rw[if_neg (by omega),if_neg (by omega),if_neg (by omega),if_neg (by omega),if_neg (by omega),if_pos c]
theorem ztg(e:s.op=12)(c:h.cl=false):zbh n h s=(n,{h with pos:=h.pos+(SM.zaU n.data h.pos s.n).1.length},⟨(SM.zaU n.data h.pos s.n).2,0,0,(SM.zaU n.data h.pos s.n).1,[],[]⟩):=by unfold zbh;rw[if_neg (by omega),if_neg (by omega),if_neg (by omega),if_neg (by omega),if_neg (by omega),if_neg (by rw[c];exact Bool.false_ne_true),if_pos e]
theorem ztt(e:s.op=13)(c:h.cl=false):zbh n h s=(n,h,⟨(SM.zaU n.data s.off s.n).2,0,0,(SM.zaU n.data s.off s.n).1,[],[]⟩):=by unfold zbh;rw[if_neg (by omega),if_neg (by omega),if_neg (by omega),if_neg (by omega),if_neg (by omega),if_neg (by rw[c];exact Bool.false_ne_true),if_neg (by omega),if_pos e]
theorem zs1(e:s.op=16)(c:h.cl=false):zbh n h s=(n,{h with pos:=znr n h s},⟨0,0,znr n h s,[],[],[]⟩):=by unfold zbh;rw[if_neg (by omega),if_neg (by omega),if_neg (by omega),if_neg (by omega),if_neg (by omega),if_neg (by rw[c];exact Bool.false_ne_true),if_neg (by omega),if_neg (by omega),if_pos e]
theorem ztE(o:s.op=14\/s.op=15\/s.op=17)(c:h.cl=false)(r:h.ro=true):zbh n h s=(n,if s.op=15 then{h with pos:=s.off}else h,SM.Ans.err 6):=by unfold zbh;rw[if_neg (by omega),if_neg (by omega),if_neg (by omega),if_neg (by omega),if_neg (by omega),if_neg (by rw[c];exact Bool.false_ne_true),if_neg (by omega),if_neg (by omega),if_neg (by omega),if_pos r]
theorem zlx(o:s.op=14\/s.op=15\/s.op=17)(c:h.cl=false)(r:h.ro=false):zbh n h s=
  if s.op=17/\s.off<0 then(n,h,SM.Ans.err 7)
  else if s.op=14/\(h.pos<0\/1048576<h.pos)\/s.op≠14/\(s.off<0\/1048576<s.off)then(n,h,SM.Ans.err 13)
  else if s.op=17 then({n with data:=SM.grown (n.data.take (min (n.data.length:Int) s.off).toNat) s.off,time:=0},h,SM.Ans.z)
  else if s.op=14 then({n with data:=SM.over n.data h.pos s.data,time:=0},{h with pos:=h.pos+s.data.length},⟨0,s.data.length,0,[],[],[]⟩)
  else if s.op=15 then({n with data:=SM.over n.data s.off s.data,time:=0},{h with pos:=s.off+s.data.length},⟨0,s.data.length,0,[],[],[]⟩)
  else(n,h,⟨0,s.data.length,0,[],[],[]⟩):=by
 conv=>lhs;unfold zbh
 rw[if_neg (by omega),if_neg (by omega),if_neg (by omega),if_neg (by omega),if_neg (by omega),if_neg (by rw[c];exact Bool.false_ne_true),if_neg (by omega),if_neg (by omega),if_neg (by omega),if_neg (by rw[r];exact Bool.false_ne_true)]
theorem zrC(e:s.op=17)(c:h.cl=false)(r:h.ro=false)(o:s.off<0):zbh n h s=(n,h,SM.Ans.err 7):=by rw[zlx (by omega) c r,if_pos ⟨e,o⟩]
theorem zs0(e:s.op=17)(c:h.cl=false)(r:h.ro=false)(o:0<=s.off/\s.off<=1048576):zbh n h s=({n with data:=SM.grown (n.data.take (min (n.data.length:Int) s.off).toNat) s.off,time:=0},h,SM.Ans.z):=by rw[zlx (by omega) c r,if_neg (by omega),if_neg (by omega),if_pos e]
theorem ztv(e:s.op=14)(c:h.cl=false)(r:h.ro=false)(o:0<=h.pos/\h.pos<=1048576):zbh n h s=({n with data:=SM.over n.data h.pos s.data,time:=0},{h with pos:=h.pos+s.data.length},⟨0,s.data.length,0,[],[],[]⟩):=by rw[zlx (by omega) c r,if_neg (by omega),if_neg (by omega),if_neg (by omega),if_pos e]
theorem ztq(e:s.op=15)(c:h.cl=false)(r:h.ro=false)(o:0<=s.off/\s.off<=1048576):zbh n h s=({n with data:=SM.over n.data s.off s.data,time:=0},{h with pos:=s.off+s.data.length},⟨0,s.data.length,0,[],[],[]⟩):=by rw[zlx (by omega) c r,if_neg (by omega),if_neg (by omega),if_neg (by omega),if_neg (by omega),if_pos e]
theorem Rel.to(r:Rel c x n h){c':Int}(hc:c<=c'):Rel c' x n h:=by obtain⟨r1,r2,r3,r4,r5,r6,r7,r8,r9,r10,r11,r12,r13,r14,r15⟩:=r;exact⟨r1,r2,r3,r4,r5,r6,r7,r8,r9,r10,r11,r12,by omega,by omega,by omega⟩
set_option maxHeartbeats 1000000 in
theorem Rel.step(r:Rel c x n h)(p:SpF n h s):Rel (c+8192) (onX x s).1 (zbh n h s).1 (zbh n h s).2.1/\(onX x s).2=(zbh n h s).2.2:=by
 have hs:Rel (c+8192) x n h:=r.to (by omega);obtain⟨r1,r2,r3,r4,r5,r6,r7,r8,r9,r10,r11,r12,r13,r14,r15⟩:=r;have po:=p.op;have hsz:znJ x=zqI n:=by unfold znJ zqI;rw[r1,r4,r5,r6,r7,r8]
 by_cases e18:s.op=18
 ·rw[zt8 x e18,znP e18];refine⟨?_,rfl⟩;unfold clR;rw[r3];by_cases hr:h.ro=true
  ·rw[if_pos hr,if_pos hr];exact⟨r1,rfl,rfl,r4,r5,r6,r7,r8,r9,r10,r11,(λh=>by cases h),hs.px,hs.ph,hs.c0⟩
  ·rw[if_neg hr,if_neg hr];exact⟨r1,rfl,rfl,r4,r5,r6,r7,rfl,r9,r10,r11,(λh=>by cases h),hs.px,hs.ph,hs.c0⟩
 by_cases e21:s.op=21
 ·rw[zuf x e21,znS e21,hsz];exact⟨hs,rfl⟩
 by_cases e22:s.op=22
 ·rw[zt6 x e22,znR e22,r6];exact⟨hs,rfl⟩
 by_cases e23:s.op=23
 ·rw[zua x e23,znE e23];exact⟨hs,rfl⟩
 by_cases e19:s.op=19\/s.op=20
 ·rw[onX_19 x e19,ztx e19];exact⟨hs,rfl⟩
 have pn:=p.nn (by omega);have pf:=p.off (by omega);cases hc:h.cl with
 |true=>
  rw[ztk (by omega) hc];have xc:x.cl=true:=by rw[r2,hc]
  by_cases e:s.op=12
  ·rw[zt2 x e];unfold rdR;rw[if_pos xc];exact⟨hs,rfl⟩
  by_cases e:s.op=13
  ·rw[zub x e];unfold raR;rw[if_pos xc];exact⟨hs,rfl⟩
  by_cases e:s.op=14
  ·rw[zrV x e];unfold wrR;rw[if_pos xc];exact⟨hs,rfl⟩
  by_cases e:s.op=15
  ·rw[zr5 x e];unfold wrR;rw[if_pos xc];exact⟨⟨r1,r2,r3,r4,r5,r6,r7,r8,r9,r10,r11,(λe=>by rw[hc]at e;cases e),by have:=p.wa e;simp only;omega,hs.ph,hs.c0⟩,by trivial⟩
  by_cases e:s.op=16
  ·rw[zud x e];unfold skR;rw[if_pos xc];exact⟨hs,rfl⟩
  ·rw[zrW x (by omega)];unfold trR;rw[if_pos xc];exact⟨hs,rfl⟩
 |false=>
  have xp:=r12 hc;have xc:¬x.cl=true:=by rw[r2,hc];exact Bool.false_ne_true
  by_cases e12:s.op=12
  ·rw[zt2 x e12,ztg e12 hc];unfold rdR;rw[if_neg xc];have h0:0<=h.pos:=by
    rcases p.rd e12 with q|q
    ·rw[hc]at q;cases q
    ·exact q
   obtain⟨g1,g2⟩:=zp1 x s.n (by omega) (by omega);obtain⟨l1,l2⟩:=zow n.data h.pos s.n (by omega);rw[xp,r1]at g1 g2;simp only
   rw[g1,g2];exact⟨⟨r1,r2,r3,r4,r5,r6,r7,r8,r9,r10,r11,(λ_=>by simp only;omega),by simp only;omega,by simp only;omega,hs.c0⟩,by trivial⟩
  by_cases e13:s.op=13
  ·rw[zub x e13,ztt e13 hc];unfold raR;rw[if_neg xc];have h0:=p.ra e13;obtain⟨g1,g2⟩:=zp1 {x with pos:=s.off} s.n (by simp only;omega) (by omega);simp only at g1 g2;rw[g1,g2,r1];exact⟨hs,rfl⟩
  by_cases e16:s.op=16
  ·rw[zud x e16,zs1 e16 hc];unfold skR;rw[if_neg xc];have hsk:=p.sk e16;have e:ziQ x s.off s.wh=znr n h s:=by unfold ziQ znr;rw[r1,xp]
   have b:-4398046511104 - (c+8192)<=znr n h s/\znr n h s<=4398046511104+(c+8192):=by
    have:=n.data.length.zero_le;unfold znr
    repeat' split
    all_goals omega
   simp only
   rw[e];exact⟨⟨r1,r2,r3,r4,r5,r6,r7,r8,r9,r10,r11,(λ_=>rfl),b,b,hs.c0⟩,by trivial⟩
  cases hr:h.ro with
  |true=>
   have xr:x.ro=true:=by rw[r3,hr]
   rw[ztE (by omega) hc hr];by_cases e:s.op=14
   ·rw[zrV x e,if_neg (by omega)];unfold wrR;rw[if_neg xc,if_pos xr];exact⟨hs,rfl⟩
   by_cases e:s.op=15
   ·rw[zr5 x e,if_pos e];unfold wrR;rw[if_neg (show¬({x with pos:=s.off}:FX).cl=true from xc),if_pos (show({x with pos:=s.off}:FX).ro=true from xr)];exact⟨⟨r1,r2,r3,r4,r5,r6,r7,r8,r9,r10,r11,(λ_=>rfl),by have:=p.wa e;simp only;omega,by have:=p.wa e;simp only;omega,hs.c0⟩,by trivial⟩
   ·rw[zrW x (by omega),if_neg e];unfold trR;rw[if_neg xc,if_pos xr];exact⟨hs,rfl⟩
  |false=>
   have xr:¬x.ro=true:=by rw[r3,hr];exact Bool.false_ne_true
   by_cases e17:s.op=17
   ·have ht:=p.tr e17;rw[zrW x e17];unfold trR;rw[if_neg xc,if_neg xr];by_cases g:s.off<0
    ·rw[if_pos g,zrC e17 hc hr g];exact⟨hs,rfl⟩
    ·rw[if_neg g,zs0 e17 hc hr (by omega)];have e:(if(x.bytes.length:Int)<s.off then x.bytes++List.replicate (s.off.toNat - x.bytes.length) 0 else x.bytes.take s.off.toNat)=SM.grown (n.data.take (min (n.data.length:Int) s.off).toNat) s.off:=by
      rw[r1];unfold SM.grown;by_cases g2:(n.data.length:Int)<s.off
      ·rw[if_pos g2,List.take_of_length_le (by omega)]
      ·rw[if_neg g2,show(min (n.data.length:Int) s.off).toNat=s.off.toNat by omega,show s.off.toNat - (List.take s.off.toNat n.data).length=0 by rw[List.length_take];omega,List.replicate_zero,List.append_nil]
     have l:(SM.grown (n.data.take (min (n.data.length:Int) s.off).toNat) s.off).length<=8192:=by unfold SM.grown;simp only[List.length_append,List.length_take,List.length_replicate];omega
     simp only
     rw[e];exact⟨⟨rfl,r2,r3,r4,r5,r6,r7,rfl,l,r10,r11,r12,hs.px,hs.ph,hs.c0⟩,by trivial⟩
   by_cases e14:s.op=14
   ·have hw:=p.wr e14;have dl:=p.dl;rw[zrV x e14,ztv e14 hc hr (by omega)];unfold wrR;rw[if_neg xc,if_neg xr,zpY x s.data (by omega),xp,r1];obtain⟨q,hq⟩:∃q:Nat,h.pos=q:=⟨h.pos.toNat,by omega⟩;have l:(SM.over n.data h.pos s.data).length<=8192:=by rw[hq,zpW];omega
    exact⟨⟨rfl,r2,r3,r4,r5,r6,r7,rfl,l,r10,r11,(λ_=>rfl),by simp only;omega,by simp only;omega,hs.c0⟩,by trivial⟩
   ·have e15:s.op=15:=by omega
    have hw:=p.wa e15;have dl:=p.dl;rw[zr5 x e15,ztq e15 hc hr (by omega)];unfold wrR;rw[if_neg (show¬({x with pos:=s.off}:FX).cl=true from xc),if_neg (show¬({x with pos:=s.off}:FX).ro=true from xr),zpY {x with pos:=s.off} s.data (by simp only;omega)];simp only
    rw[r1];obtain⟨q,hq⟩:∃q:Nat,s.off=q:=⟨s.off.toNat,by omega⟩;have l:(SM.over n.data s.off s.data).length<=8192:=by rw[hq,zpW];omega
    exact⟨⟨rfl,r2,r3,r4,r5,r6,r7,rfl,l,r10,r11,(λ_=>rfl),by simp only;omega,by simp only;omega,hs.c0⟩,by trivial⟩
end
end Go.Proofs.YtdljebgllipdjaaGreatDoor.X
end
